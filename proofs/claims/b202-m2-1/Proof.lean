import JvmDerived
import JvmDerived.Pilot.@@N@@Statement
import JvmDerived.Pilot.@@N@@Code
set_option linter.unusedVariables false
set_option linter.unusedSimpArgs false
namespace Jvm.Pilot.@@N@@
open Jvm Jvm.ClassFile Sem Op Lib Jvm.Free Jvm.Stand Jvm.LawKit Jvm.RoadKit Bundle Jvm.Pilot.@@N@@.Jvm.D
/-! a run that ends as a contract says: forks and joins go by it -/
def Goes (p : Program) (e : Env) (below : List Frame) (s : State) (Q : Option Value → Heap → List Loc → Prop) (kc ks : Nat) (A : State) : Prop :=
  ∃ s₂ o, Steps p.tables e below A s₂ ∧ s₂.status = .running ∧ Ended s₂ below o ∧ ∃ v L, o = .returned v ∧ Q v s₂.heap L ∧ FrameEnd s o s₂ L kc ks
section Go
variable {p : Program} {l : Launch} {e : Env} {R : Room} {s : State} {m : MethodId} {args : Array Value} {below : List Frame} {meth : Method} {c : Code} {T : State} {locs : List Loc} {cells slots kc ks : Nat} {Q : Option Value → Heap → List Loc → Prop}
theorem Goes.by {A B : State} (h : ∀ t, Steps p.tables e below B t → Steps p.tables e below A t) (k : Goes p e below s Q kc ks B) : Goes p e below s Q kc ks A := by
  obtain ⟨s₂, o, h1, h2⟩ := k
  exact ⟨s₂, o, h _ h1, h2⟩
theorem Goes.out (X : Stand p l e R s m args below meth c T locs cells slots) (hx : p.tables.exec = Jvm.exec) {pc : Nat} {Ls : Array Slot} {w : Value} {t : FieldType} {i : Instr} {rest : List Value} (hret : meth.sig.returnType = some t) (hn : narrow t w = w)
    (hi : (i = .ireturn ∧ (t = .int ∨ t = .boolean ∨ t = .byte ∨ t = .char ∨ t = .short) ∧ ∃ z, w = .int z) ∨ (i = .lreturn ∧ t = .long ∧ ∃ z, w = .long z) ∨ (i = .dreturn ∧ t = .double ∧ ∃ z, w = .double z) ∨ (i = .freturn ∧ t = .float ∧ ∃ z, w = .float z) ∨ (i = .areturn ∧ t.isReference = true ∧ w.isRef = true))
    (hd : decode c.code pc = .ok (i, 1)) (hlk : meth.locks = false) (hQ : Q (some w) T.heap locs) (hc : cells ≤ kc) (hs : slots ≤ ks) : Goes p e below s Q kc ks (T.setTop (mkF m pc Ls (w :: rest))) := by
  obtain ⟨fs, hr, hrun, hended, hW, hsame⟩ := X.leave (v := some w) (fun h => by rw [hret] at h; cases h) hlk
  exact ⟨_, _, retOut X hx hret hn hi hd hr, hrun, hended, _, _, rfl, hQ, ⟨_, rfl⟩, hW, hsame.mono hc hs⟩
theorem Goes.retI (X : Stand p l e R s m args below meth c T locs cells slots) (hx : p.tables.exec = Jvm.exec) {pc : Nat} {Ls : Array Slot} {z : Int32} {rest : List Value} (hret : meth.sig.returnType = some .int) (hn : True) (hd : decode c.code pc = .ok (.ireturn, 1)) (hlk : meth.locks = false) (hQ : Q (some (.int z)) T.heap locs) (hc : cells ≤ kc) (hs : slots ≤ ks) :
    Goes p e below s Q kc ks (T.setTop (mkF m pc Ls (.int z :: rest))) := Goes.out X hx hret rfl (Or.inl ⟨rfl, Or.inl rfl, z, rfl⟩) hd hlk hQ hc hs
theorem Goes.retN (X : Stand p l e R s m args below meth c T locs cells slots) (hx : p.tables.exec = Jvm.exec) {pc : Nat} {Ls : Array Slot} {z : Int32} {rest : List Value} (hret : meth.sig.returnType = some .boolean) (hn : narrow .boolean (.int z) = .int z) (hd : decode c.code pc = .ok (.ireturn, 1)) (hlk : meth.locks = false) (hQ : Q (some (.int z)) T.heap locs) (hc : cells ≤ kc) (hs : slots ≤ ks) :
    Goes p e below s Q kc ks (T.setTop (mkF m pc Ls (.int z :: rest))) := Goes.out X hx hret hn (Or.inl ⟨rfl, Or.inr (Or.inl rfl), z, rfl⟩) hd hlk hQ hc hs
theorem Goes.retL (X : Stand p l e R s m args below meth c T locs cells slots) (hx : p.tables.exec = Jvm.exec) {pc : Nat} {Ls : Array Slot} {z : Int64} {rest : List Value} (hret : meth.sig.returnType = some .long) (hn : True) (hd : decode c.code pc = .ok (.lreturn, 1)) (hlk : meth.locks = false) (hQ : Q (some (.long z)) T.heap locs) (hc : cells ≤ kc) (hs : slots ≤ ks) :
    Goes p e below s Q kc ks (T.setTop (mkF m pc Ls (.long z :: rest))) := Goes.out X hx hret rfl (Or.inr (Or.inl ⟨rfl, rfl, z, rfl⟩)) hd hlk hQ hc hs
theorem Goes.retD (X : Stand p l e R s m args below meth c T locs cells slots) (hx : p.tables.exec = Jvm.exec) {pc : Nat} {Ls : Array Slot} {z : UInt64} {rest : List Value} (hret : meth.sig.returnType = some .double) (hn : True) (hd : decode c.code pc = .ok (.dreturn, 1)) (hlk : meth.locks = false) (hQ : Q (some (.double z)) T.heap locs) (hc : cells ≤ kc) (hs : slots ≤ ks) :
    Goes p e below s Q kc ks (T.setTop (mkF m pc Ls (.double z :: rest))) := Goes.out X hx hret rfl (Or.inr (Or.inr (Or.inl ⟨rfl, rfl, z, rfl⟩))) hd hlk hQ hc hs
theorem Goes.retA (X : Stand p l e R s m args below meth c T locs cells slots) (hx : p.tables.exec = Jvm.exec) {pc : Nat} {Ls : Array Slot} {w : Value} {t : FieldType} {rest : List Value} (hret : meth.sig.returnType = some t) (ht : t.isReference = true) (hw : w.isRef = true) (hd : decode c.code pc = .ok (.areturn, 1)) (hlk : meth.locks = false) (hQ : Q (some w) T.heap locs) (hc : cells ≤ kc) (hs : slots ≤ ks) :
    Goes p e below s Q kc ks (T.setTop (mkF m pc Ls (w :: rest))) := Goes.out X hx hret (by rcases ref_cases hw with rfl | ⟨a, rfl⟩ <;> cases t <;> first | rfl | (simp [FieldType.isReference] at ht)) (Or.inr (Or.inr (Or.inr (Or.inr ⟨rfl, ht, hw⟩)))) hd hlk hQ hc hs
theorem Goes.retV (X : Stand p l e R s m args below meth c T locs cells slots) (hx : p.tables.exec = Jvm.exec) {pc : Nat} {Ls : Array Slot} (hret : meth.sig.returnType = none) (hd : decode c.code pc = .ok (.return_, 1)) (hlk : meth.locks = false) (hQ : Q none T.heap locs) (hc : cells ≤ kc) (hs : slots ≤ ks) :
    Goes p e below s Q kc ks (T.setTop (mkF m pc Ls [])) := by
  obtain ⟨fs, hr, hrun, hended, hW, hsame⟩ := X.leave (v := none) (fun _ => rfl) hlk
  exact ⟨_, _, X.returnOut hx hret hd hr, hrun, hended, _, _, rfl, hQ, ⟨_, rfl⟩, hW, hsame.mono hc hs⟩
end Go
/-! the same for a run that may intern: the wide end -/
def GoesW (p : Program) (e : Env) (below : List Frame) (s : State) (Q : Option Value → Heap → List Loc → Prop) (kc ks : Nat) (A : State) : Prop :=
  ∃ s₂ o, Steps p.tables e below A s₂ ∧ s₂.status = .running ∧ Ended s₂ below o ∧ ∃ v L, o = .returned v ∧ Q v s₂.heap L ∧ ReturnedEndW s o s₂ L kc ks
section GoW
variable {p : Program} {l : Launch} {e : Env} {R : Room} {s : State} {vm0 : Vm} {k0 : Nat} {m : MethodId} {args : Array Value} {below : List Frame} {meth : Method} {c : Code} {T : State} {locs : List Loc} {cells slots kc ks : Nat} {Q : Option Value → Heap → List Loc → Prop}
theorem GoesW.by {A B : State} (h : ∀ t, Steps p.tables e below B t → Steps p.tables e below A t) (k : GoesW p e below s Q kc ks B) : GoesW p e below s Q kc ks A := by
  obtain ⟨s₂, o, h1, h2⟩ := k
  exact ⟨s₂, o, h _ h1, h2⟩
theorem GoesW.out (X : Stand p l e R (s.setVm vm0) m args below meth c T locs cells slots) (hS : s.Since vm0 k0) (hk : k0 ≤ T.heap.size) (hx : p.tables.exec = Jvm.exec) {pc : Nat} {Ls : Array Slot} {w : Value} {t : FieldType} {i : Instr} {rest : List Value} (hret : meth.sig.returnType = some t) (hn : narrow t w = w)
    (hi : (i = .ireturn ∧ (t = .int ∨ t = .boolean ∨ t = .byte ∨ t = .char ∨ t = .short) ∧ ∃ z, w = .int z) ∨ (i = .lreturn ∧ t = .long ∧ ∃ z, w = .long z) ∨ (i = .dreturn ∧ t = .double ∧ ∃ z, w = .double z) ∨ (i = .freturn ∧ t = .float ∧ ∃ z, w = .float z) ∨ (i = .areturn ∧ t.isReference = true ∧ w.isRef = true))
    (hd : decode c.code pc = .ok (i, 1)) (hlk : meth.locks = false) (hQ : Q (some w) T.heap locs) (hc : cells ≤ kc) (hs : slots ≤ ks) : GoesW p e below s Q kc ks (T.setTop (mkF m pc Ls (w :: rest))) := by
  obtain ⟨fs, hr, hrun, hended, hE⟩ := X.leaveW hS hk (v := some w) (fun h => by rw [hret] at h; cases h) hlk
  exact ⟨_, _, retOut X hx hret hn hi hd hr, hrun, hended, _, _, rfl, hQ, hE.1, hE.2.1, hE.2.2.1, hE.2.2.2.mono hc hs⟩
theorem GoesW.retN (X : Stand p l e R (s.setVm vm0) m args below meth c T locs cells slots) (hS : s.Since vm0 k0) (hk : k0 ≤ T.heap.size) (hx : p.tables.exec = Jvm.exec) {pc : Nat} {Ls : Array Slot} {z : Int32} {rest : List Value} (hret : meth.sig.returnType = some .boolean) (hn : narrow .boolean (.int z) = .int z) (hd : decode c.code pc = .ok (.ireturn, 1)) (hlk : meth.locks = false) (hQ : Q (some (.int z)) T.heap locs) (hc : cells ≤ kc) (hs : slots ≤ ks) :
    GoesW p e below s Q kc ks (T.setTop (mkF m pc Ls (.int z :: rest))) := GoesW.out X hS hk hx hret hn (Or.inl ⟨rfl, Or.inr (Or.inl rfl), z, rfl⟩) hd hlk hQ hc hs
theorem GoesW.retA (X : Stand p l e R (s.setVm vm0) m args below meth c T locs cells slots) (hS : s.Since vm0 k0) (hk : k0 ≤ T.heap.size) (hx : p.tables.exec = Jvm.exec) {pc : Nat} {Ls : Array Slot} {w : Value} {t : FieldType} {rest : List Value} (hret : meth.sig.returnType = some t) (ht : t.isReference = true) (hw : w.isRef = true) (hd : decode c.code pc = .ok (.areturn, 1)) (hlk : meth.locks = false) (hQ : Q (some w) T.heap locs) (hc : cells ≤ kc) (hs : slots ≤ ks) :
    GoesW p e below s Q kc ks (T.setTop (mkF m pc Ls (w :: rest))) := GoesW.out X hS hk hx hret (by rcases ref_cases hw with rfl | ⟨a, rfl⟩ <;> cases t <;> first | rfl | (simp [FieldType.isReference] at ht)) (Or.inr (Or.inr (Or.inr (Or.inr ⟨rfl, ht, hw⟩)))) hd hlk hQ hc hs
theorem GoesW.retV (X : Stand p l e R (s.setVm vm0) m args below meth c T locs cells slots) (hS : s.Since vm0 k0) (hk : k0 ≤ T.heap.size) (hx : p.tables.exec = Jvm.exec) {pc : Nat} {Ls : Array Slot} (hret : meth.sig.returnType = none) (hd : decode c.code pc = .ok (.return_, 1)) (hlk : meth.locks = false) (hQ : Q none T.heap locs) (hc : cells ≤ kc) (hs : slots ≤ ks) :
    GoesW p e below s Q kc ks (T.setTop (mkF m pc Ls [])) := by
  obtain ⟨fs, hr, hrun, hended, hE⟩ := X.leaveW hS hk (v := none) (fun _ => rfl) hlk
  exact ⟨_, _, X.returnOut hx hret hd hr, hrun, hended, _, _, rfl, hQ, hE.1, hE.2.1, hE.2.2.1, hE.2.2.2.mono hc hs⟩
end GoW

theorem own_eqInt {t : Term} {k : Int32} {args : Array Value} {s : State} {v : Option Value} (he : t.eval args s none [] s = v) (h : (Jvm.Cond.eq t (.int k)).value args s none s [] = some true) : v = some (.int k) := by
  subst he
  obtain ⟨x, y, h1, h2, h3, -⟩ := cmp_v (Or.inl h)
  rw [Term.int_eval] at h2
  obtain rfl := Option.some.inj h2
  cases x <;> simp [Kin, Value.isRef] at h3
  rename_i z
  have := gotT (P := z = k) (by simp [Cond.value, h1, Term.int_eval]) h
  rw [h1, this]
theorem own_lenOf {t : Term} {a : Addr} {c : Cell} {args : Array Value} {s : State} {v : Value} (ht : t.eval args s none [] s = some (.ref a)) (hc : s.heap[a]? = some c) (h : (Term.length t).eval args s none [] s = some v) : v = .int c.slots.size.toInt32 ∧ c.slots.size < 2147483648 := by
  obtain ⟨a', cell, e1, e2, e3⟩ := Term.length_spec h
  cases ht.symm.trans e1
  have hcell : s.heap[a]? = some cell := by
    simp only [State.arrayAt?, Option.bind_eq_bind, Option.bind_eq_some_iff] at e2
    obtain ⟨c', h1, k, h2, h3⟩ := e2
    rw [h1]
    split at h3
    · cases h3
    · split at h3
      · exact h3
      · cases h3
  cases hc.symm.trans hcell
  refine ⟨e3, ?_⟩
  simp only [Term.eval, ht, Option.bind_eq_bind, Option.bind_some, e2] at h
  split at h
  · assumption
  · cases h
theorem own_sizeOf {t : Term} {a : Addr} {c : Cell} {args : Array Value} {s : State} {z : Int32} {n : Nat} (ht : t.eval args s none [] s = some (.ref a)) (hc : s.heap[a]? = some c) (h : (Term.length t).eval args s none [] s = some (.int z)) (hz : z.toInt = n) : c.slots.size = n := by
  obtain ⟨e, hl⟩ := own_lenOf ht hc h
  have e2 : z = c.slots.size.toInt32 := by cases e; rfl
  have e3 := len_toInt hl
  rw [← e2, hz] at e3
  omega
theorem own_elemOf {t : Term} {a : Addr} {c : Cell} {args : Array Value} {s : State} {j v : Int32} {i : Nat} (ht : t.eval args s none [] s = some (.ref a)) (hc : s.heap[a]? = some c) (h : (Jvm.Cond.eq (.elem t (.int j)) (.int v)).value args s none s [] = some true) (hj : j.toNatClampNeg = i) : c.slots[i]? = some (.int v) := by
  have h1 := own_eqInt (t := .elem t (.int j)) rfl h
  have h2 := (elem_in h1 ht (Term.int_eval j) hc).2
  rw [hj] at h2
  exact h2
/-! byte arrays by their length and a function -/
def BA (Z : State) (h : Heap) (a : Addr) (n : Nat) (f : Nat → Int32) : Prop := ∃ c : Cell, Arr Z h a c .byte ∧ c.slots.size = n ∧ ∀ i, i < n → c.slots[i]? = some (.int (f i))
section BAs
variable {Z : State} {h h' : Heap} {a b : Addr} {n : Nat} {f : Nat → Int32} {sl : Nat} {v : Value} {ws : List Addr}
theorem BA.lt (A : BA Z h a n f) : a < h.size := by obtain ⟨c, A, -⟩ := A; exact A.lt
theorem BA.ext (A : BA Z h a n f) (E : Ext h h') : BA Z h' a n f := by obtain ⟨c, A, q⟩ := A; exact ⟨c, A.ext E, q⟩
theorem BA.other (A : BA Z h b n f) (W : Wr h h' a sl v) (q : b ≠ a) : BA Z h' b n f := by obtain ⟨c, A, r⟩ := A; exact ⟨c, A.other W q, r⟩
theorem BA.keep (A : BA Z h a n f) (K : Keep h h' ws) (q : a ∉ ws) : BA Z h' a n f := by obtain ⟨c, A, r⟩ := A; exact ⟨c, ⟨K.2.1 a c A.1 q, A.2⟩, r⟩
theorem BA.of_arv {k : ClassId} {z : Int32} {vs : List Value} {dv : Value} (A : Arv Z h a k .byte z vs dv) (hz : z.toNatClampNeg = n) (hv : ∀ i, i < n → vs.getD i dv = .int (f i)) : BA Z h a n f := by
  obtain ⟨c, A, -, S, -, H, -⟩ := A
  exact ⟨c, A, S.trans hz, fun i hi => by rw [H i (by omega), hv i hi]⟩
end BAs
section BASteps
variable {p : Program} {l : Launch} {e : Env} {R : Room} {s : State} {m : MethodId} {args : Array Value} {below : List Frame} {meth : Method} {c : Code} {T : State} {locs : List Loc} {cells slots : Nat} {Z : State} {a0 : Array Value} {h : Heap} {a : Addr} {n : Nat} {f : Nat → Int32}
theorem own_baload (X : Stand p l e R s m args below meth c T locs cells slots) (hx : p.tables.exec = Jvm.exec) (hZ : Z.Warmed39 s.vm) (eT : T.heap = h) (A : BA Z h a n f) {i : Nat} (hi : i < n) (hn : n < 2147483648) {g : JFrame} (hg : g.method = m) {rest : List Value} (hs : g.stack = .int (Int32.ofNat i) :: .ref a :: rest) (hd : decode c.code g.pc = .ok (.baload, 1)) {target : State}
    (hr : Steps p.tables e below (T.setTop { g with pc := g.pc + 1, stack := .int (f i) :: rest }) target) : Steps p.tables e below (T.setTop g) target := by
  obtain ⟨cl, A, S, H⟩ := A
  exact X.baloadBytes hx (j := Int32.ofNat i) (v := .int (f i)) (by rw [eT]; exact A.1) (State.isArrayOf_alike hZ.alike A.2.1) A.2.2 (by rw [S]; exact within rfl hi hn) (by rw [clamp_of (c := i) rfl (by omega)]; exact H i hi) hg hs hd _ hr
theorem own_lenB (X : Stand p l e R s m args below meth c T locs cells slots) (hx : p.tables.exec = Jvm.exec) (hZ : Z.Warmed39 s.vm) (eT : T.heap = h) (A : BA Z h a n f) {g : JFrame} (hg : g.method = m) {rest : List Value} (hs : g.stack = .ref a :: rest) (hd : decode c.code g.pc = .ok (.arraylength, 1)) {target : State}
    (hr : Steps p.tables e below (T.setTop { g with pc := g.pc + 1, stack := .int (Int32.ofNat n) :: rest }) target) : Steps p.tables e below (T.setTop g) target := by
  obtain ⟨cl, A, S, H⟩ := A
  refine X.arraylength hx (by rw [eT]; exact A.1) (State.isArrayOf_alike hZ.alike A.2.1) hg hs hd _ ?_
  rw [S]; exact hr
end BASteps
theorem own_ltN {i m : Nat} (h : i < m) (hm : m < 2147483648) : Int32.ofNat i < Int32.ofNat m := by
  rw [Int32.lt_iff_toInt_lt, toInt_of (n := Int32.ofNat i) (c := i) rfl (by omega), toInt_of (n := Int32.ofNat m) (c := m) rfl (by omega)]; omega
theorem own_nltN {i m : Nat} (h : ¬ i < m) (hi : i < 2147483648) : ¬ Int32.ofNat i < Int32.ofNat m := by
  rw [Int32.lt_iff_toInt_lt, toInt_of (n := Int32.ofNat i) (c := i) rfl (by omega), toInt_of (n := Int32.ofNat m) (c := m) rfl (by omega)]; omega

theorem own_orLL (x y : Int64) (h : x ||| y = 0) : x = 0 ∧ y = 0 := by
  have h' : x.toBitVec ||| y.toBitVec = 0#64 := congrArg Int64.toBitVec h
  have h2 := BitVec.or_eq_zero_iff.mp h'
  exact ⟨Int64.toBitVec_inj.mp h2.1, Int64.toBitVec_inj.mp h2.2⟩
theorem own_l0 : (0 : Int64).toInt = 0 := by decide
theorem own_i0 : (0 : Int32).toInt = 0 := by decide
theorem own_orL (p1 : Int64) (p2 : Int32) (h : p1 ||| p2.toInt64 = 0) : p1 = 0 ∧ p2 = 0 := by
  obtain ⟨h1, h2⟩ := own_orLL _ _ h
  have a := c_i2l p2
  rw [h2, own_l0] at a
  exact ⟨h1, Int32.toInt_inj.mp (by rw [own_i0]; exact a.symm)⟩
theorem own_neg (x : Int64) : x < 0 ↔ x.toBitVec.msb = true := by
  rw [Int64.lt_iff_toInt_lt, own_l0, ← BitVec.slt_zero_iff_msb_cond, BitVec.slt_iff_toInt_lt]
  exact Iff.rfl
theorem own_negI (x : Int64) : x.toBitVec.msb = true ↔ x.toInt < 0 := by
  rw [← own_neg, Int64.lt_iff_toInt_lt, own_l0]
theorem own_add (x y : Int64) (h : (x + y).toInt = x.toInt + y.toInt) : ¬ ((x ^^^ (x + y)) &&& (y ^^^ (x + y))) < 0 := by
  rw [own_neg]
  have hx := own_negI x
  have hy := own_negI y
  have hr := own_negI (x + y)
  have e : ((x ^^^ (x + y)) &&& (y ^^^ (x + y))).toBitVec = ((x.toBitVec ^^^ (x + y).toBitVec) &&& (y.toBitVec ^^^ (x + y).toBitVec)) := by simp
  rw [e, BitVec.msb_and, BitVec.msb_xor, BitVec.msb_xor]
  generalize (x + y).toBitVec.msb = c at *
  generalize x.toBitVec.msb = a at *
  generalize y.toBitVec.msb = b at *
  cases a <;> cases b <;> cases c <;> simp at * <;> omega
theorem own_addv (x y : Int64) (h1 : -9223372036854775808 ≤ x.toInt + y.toInt) (h2 : x.toInt + y.toInt < 9223372036854775808) : (x + y).toInt = x.toInt + y.toInt := by
  have := c_ladd x y
  have := rng64 (x + y)
  omega
theorem own_subv (x y : Int64) (h1 : -9223372036854775808 ≤ x.toInt - y.toInt) (h2 : x.toInt - y.toInt < 9223372036854775808) : (x - y).toInt = x.toInt - y.toInt := by
  have := c_lsub x y
  have := rng64 (x - y)
  omega
theorem own_mulv (x y : Int64) (d : Int) (hy : y.toInt = d) (h1 : -9223372036854775808 ≤ x.toInt * d) (h2 : x.toInt * d < 9223372036854775808) : (x * y).toInt = x.toInt * d := by
  have := c_lmul x y
  rw [hy] at this
  have := rng64 (x * y)
  omega
theorem own_l2iv (x : Int64) (h1 : -2147483648 ≤ x.toInt) (h2 : x.toInt < 2147483648) : x.toInt32.toInt = x.toInt := by
  have := c_l2i x
  have := rng32 x.toInt32
  omega
theorem own_lt (x y : Int64) : x < y ↔ x.toInt < y.toInt := Int64.lt_iff_toInt_lt
theorem own_xg (x : Int64) : (x ^^^ 1000000000) < 0 ↔ x.toInt < 0 := by
  rw [own_neg, show (x ^^^ 1000000000).toBitVec = x.toBitVec ^^^ (1000000000 : Int64).toBitVec by simp, BitVec.msb_xor, show (1000000000 : Int64).toBitVec.msb = false by decide, Bool.xor_false, own_negI]
theorem own_g : (1000000000 : Int64).toInt = 1000000000 := by decide
theorem own_l1 : (1 : Int64).toInt = 1 := by decide
theorem own_divv (x : Int64) : (x / 1000000000).toInt = if 0 ≤ x.toInt then x.toInt / 1000000000 else -((-x.toInt) / 1000000000) := by
  obtain ⟨a, b⟩ := c_ldiv x 1000000000 1000000000 (by decide) (by decide)
  split
  · exact a (by omega)
  · exact b (by omega)
theorem own_remv (x : Int64) : (x - x / 1000000000 * 1000000000).toInt = if 0 ≤ x.toInt then x.toInt % 1000000000 else -((-x.toInt) % 1000000000) := by
  obtain ⟨a, b⟩ := c_lrem x 1000000000 1000000000 (by decide)
  split
  · exact a (by omega)
  · exact b (by omega)
theorem own_fdA (x : Int64) (h : ¬ (x ^^^ 1000000000) < 0) : (x / 1000000000).toInt = x.toInt / 1000000000 := by
  rw [own_xg] at h
  rw [own_divv, if_pos (by omega)]
theorem own_fdB (x : Int64) (h : (x ^^^ 1000000000) < 0) (h2 : x / 1000000000 * 1000000000 = x) : (x / 1000000000).toInt = x.toInt / 1000000000 := by
  rw [own_xg] at h
  have a := own_divv x
  rw [if_neg (by omega)] at a
  have r := rng64 x
  have b := own_mulv (x / 1000000000) 1000000000 1000000000 (by decide) (by omega) (by omega)
  rw [h2] at b
  omega
theorem own_fdC (x : Int64) (h : (x ^^^ 1000000000) < 0) (h2 : ¬ x / 1000000000 * 1000000000 = x) : (x / 1000000000 - 1).toInt = x.toInt / 1000000000 := by
  rw [own_xg] at h
  have a := own_divv x
  rw [if_neg (by omega)] at a
  have r := rng64 x
  have b := own_mulv (x / 1000000000) 1000000000 1000000000 (by decide) (by omega) (by omega)
  have c : ¬ (x / 1000000000 * 1000000000).toInt = x.toInt := fun q => h2 (Int64.toInt_inj.mp q)
  have d := own_subv (x / 1000000000) 1 (by rw [own_l1]; omega) (by rw [own_l1]; omega)
  rw [own_l1] at d
  omega
theorem own_fmA (x : Int64) (h : ¬ (x ^^^ 1000000000) < 0) : (x - x / 1000000000 * 1000000000).toInt = x.toInt % 1000000000 := by
  rw [own_xg] at h
  rw [own_remv, if_pos (by omega)]
theorem own_fmB (x : Int64) (h : (x ^^^ 1000000000) < 0) (h2 : x - x / 1000000000 * 1000000000 = 0) : (x - x / 1000000000 * 1000000000).toInt = x.toInt % 1000000000 := by
  rw [own_xg] at h
  have a := own_remv x
  rw [if_neg (by omega), h2, own_l0] at a
  rw [h2, own_l0]
  omega
theorem own_fmC (x : Int64) (h : (x ^^^ 1000000000) < 0) (h2 : ¬ x - x / 1000000000 * 1000000000 = 0) : (x - x / 1000000000 * 1000000000 + 1000000000).toInt = x.toInt % 1000000000 := by
  rw [own_xg] at h
  have a := own_remv x
  rw [if_neg (by omega)] at a
  have c : ¬ (x - x / 1000000000 * 1000000000).toInt = 0 := fun q => h2 (Int64.toInt_inj.mp (by rw [own_l0]; exact q))
  have b := own_addv (x - x / 1000000000 * 1000000000) 1000000000 (by rw [own_g]; omega) (by rw [own_g]; omega)
  rw [own_g] at b
  omega
theorem own_day (x : Int64) (h1 : -2147483648 ≤ x.toInt) (h2 : x.toInt < 2147483648) : (x * (86400 : Int32).toInt64).toInt = x.toInt * 86400 ∧ x * (86400 : Int32).toInt64 / (86400 : Int32).toInt64 = x ∧ ¬ x = -9223372036854775808 := by
  have a := own_mulv x (86400 : Int32).toInt64 86400 (by decide) (by omega) (by omega)
  refine ⟨a, ?_, fun q => ?_⟩
  · apply Int64.toInt_inj.mp
    obtain ⟨b, c⟩ := c_ldiv (x * (86400 : Int32).toInt64) (86400 : Int32).toInt64 86400 (by decide) (by decide)
    rcases Int.lt_or_le (x * (86400 : Int32).toInt64).toInt 0 with z | z
    · rw [c z]; omega
    · rw [b z]; omega
  · rw [q] at h1; exact absurd h1 (by decide)
theorem own_micro (m : Int64) : (m / 1000000000 * 1000).toInt * 1000000000 + ((m - m / 1000000000 * 1000000000) * 1000).toInt = m.toInt * 1000 ∧ -9223372037000 ≤ (m / 1000000000 * 1000).toInt ∧ (m / 1000000000 * 1000).toInt ≤ 9223372037000 ∧ -1000000000000 < ((m - m / 1000000000 * 1000000000) * 1000).toInt ∧ ((m - m / 1000000000 * 1000000000) * 1000).toInt < 1000000000000 := by
  have r := rng64 m
  have a := own_divv m
  have b := own_remv m
  generalize m / 1000000000 = q at *
  generalize m - q * 1000000000 = w at *
  have c := own_mulv q 1000 1000 (by decide) (by split at a <;> omega) (by split at a <;> omega)
  have d := own_mulv w 1000 1000 (by decide) (by split at b <;> omega) (by split at b <;> omega)
  rw [c, d]
  split at a
  · rw [if_pos (by omega)] at b; omega
  · rw [if_neg (by omega)] at b; omega
theorem own_int (a b D q w : Int) (h : a * 1000000000 + b = D * 86400 * 1000000000 + (q * 1000000 + w) * 1000) (h1 : 0 ≤ b) (h2 : b < 1000000000) (h3 : 0 ≤ w) (h4 : w < 1000000) : b = w * 1000 ∧ a = D * 86400 + q := by omega
theorem own_int2 (q w : Int) : (q * 1000000 + w) * 1000 = ((q - 1) * 1000000 + (w + 1000000)) * 1000 := by omega
theorem own_w (w : Int) (h : -1000000 < w) (z : w < 0) : 0 ≤ w + 1000000 ∧ w + 1000000 < 1000000 := by omega
theorem own_k (w : Int64) (h : 0 ≤ w.toInt) (h2 : w.toInt < 1000000) : (w * 1000).toInt32.toInt = w.toInt * 1000 := by
  have c2 := own_mulv w 1000 1000 (by decide) (by omega) (by omega)
  rw [own_l2iv (w * 1000) (by omega) (by omega), c2]
theorem own_secs (dy : Int32) (q : Int64) (h : -9223372036856 ≤ q.toInt) (h2 : q.toInt ≤ 9223372036856) : (dy.toInt64 * 86400 + q).toInt = dy.toInt * 86400 + q.toInt := by
  have rd := rng32 dy
  have e := c_i2l dy
  have f := own_mulv dy.toInt64 86400 86400 (by decide) (by omega) (by omega)
  rw [own_addv (dy.toInt64 * 86400) q (by omega) (by omega), f, e]
theorem own_qw (m : Int64) : (m.toInt = (m / 1000000).toInt * 1000000 + (m - m / 1000000 * 1000000).toInt) ∧ (-9223372036855 ≤ (m / 1000000).toInt ∧ (m / 1000000).toInt ≤ 9223372036855) ∧ (-1000000 < (m - m / 1000000 * 1000000).toInt ∧ (m - m / 1000000 * 1000000).toInt < 1000000) := by
  have r := rng64 m
  obtain ⟨u1, u2⟩ := c_ldiv m 1000000 1000000 (by decide) (by decide)
  obtain ⟨v1, v2⟩ := c_lrem m 1000000 1000000 (by decide)
  generalize m - m / 1000000 * 1000000 = w at *
  generalize m / 1000000 = q at *
  rcases Int.lt_or_le m.toInt 0 with z | z
  · have := u2 z; have := v2 z; clear u1 u2 v1 v2; omega
  · have := u1 z; have := v1 z; clear u1 u2 v1 v2; omega
theorem own_fin (a : Int64) (b dy : Int32) (m : Int64) (h : a.toInt * 1000000000 + b.toInt = dy.toInt * 86400 * 1000000000 + m.toInt * 1000) (h1 : 0 ≤ b.toInt) (h2 : b.toInt < 1000000000) :
    (¬ (m - m / 1000000 * 1000000) < 0 → a = dy.toInt64 * 86400 + m / 1000000 ∧ b = ((m - m / 1000000 * 1000000) * 1000).toInt32) ∧
    ((m - m / 1000000 * 1000000) < 0 → a = dy.toInt64 * 86400 + (m / 1000000 - 1) ∧ b = ((m - m / 1000000 * 1000000 + 1000000) * 1000).toInt32) := by
  obtain ⟨hm, hq, hw⟩ := own_qw m
  generalize m - m / 1000000 * 1000000 = w at *
  generalize m / 1000000 = q at *
  rw [own_lt, own_l0]
  refine ⟨fun z => ?_, fun z => ?_⟩
  · obtain ⟨x1, x2⟩ := own_int a.toInt b.toInt dy.toInt q.toInt w.toInt (by rw [h, hm]) h1 h2 (Int.not_lt.mp z) hw.2
    exact ⟨Int64.toInt_inj.mp (by rw [x2, own_secs dy q (by clear h hm x1 x2; omega) (by clear h hm x1 x2; omega)]), Int32.toInt_inj.mp (by rw [x1, own_k w (Int.not_lt.mp z) hw.2])⟩
  · have g6 : (1000000 : Int64).toInt = 1000000 := by decide
    have w6 := own_w _ hw.1 z
    obtain ⟨x1, x2⟩ := own_int a.toInt b.toInt dy.toInt (q.toInt - 1) (w.toInt + 1000000) (by rw [h, hm, own_int2]) h1 h2 w6.1 w6.2
    clear h hm
    have c0 := own_subv q 1 (by rw [own_l1]; omega) (by rw [own_l1]; omega)
    rw [own_l1] at c0
    have c4 := own_addv w 1000000 (by rw [g6]; omega) (by rw [g6]; omega)
    rw [g6] at c4
    have s1 := own_secs dy (q - 1) (by rw [c0]; omega) (by rw [c0]; omega)
    have k1 := own_k (w + 1000000) (by rw [c4]; exact w6.1) (by rw [c4]; exact w6.2)
    exact ⟨Int64.toInt_inj.mp (by rw [x2, s1, c0]), Int32.toInt_inj.mp (by rw [x1, k1, c4])⟩
theorem own_pjj (sa s1 n1 : Int64) (na : Int32) (h1 : -2000000000000000000 ≤ sa.toInt) (h2 : sa.toInt ≤ 2000000000000000000) (h3 : -2000000000000000000 ≤ s1.toInt) (h4 : s1.toInt ≤ 2000000000000000000) (h5 : 0 ≤ na.toInt) (h6 : na.toInt < 1000000000) :
    (sa + s1).toInt = sa.toInt + s1.toInt ∧ (sa + s1 + n1 / 1000000000).toInt = (sa + s1).toInt + (n1 / 1000000000).toInt ∧ (sa + s1 + n1 / 1000000000).toInt * 1000000000 + (na.toInt64 + (n1 - n1 / 1000000000 * 1000000000)).toInt = (sa.toInt + s1.toInt) * 1000000000 + na.toInt + n1.toInt ∧ -5000000000000000000 ≤ (sa + s1 + n1 / 1000000000).toInt ∧ (sa + s1 + n1 / 1000000000).toInt ≤ 5000000000000000000 := by
  have r := rng64 n1
  have a := own_divv n1
  have b := own_remv n1
  have e := c_i2l na
  generalize n1 - n1 / 1000000000 * 1000000000 = w at *
  generalize n1 / 1000000000 = q at *
  have hq : -9223372037 ≤ q.toInt ∧ q.toInt ≤ 9223372037 := by split at a <;> omega
  have hw : -1000000000 < w.toInt ∧ w.toInt < 1000000000 := by split at b <;> omega
  have hm : n1.toInt = q.toInt * 1000000000 + w.toInt := by
    by_cases z : 0 ≤ n1.toInt
    · rw [if_pos z] at a b; omega
    · rw [if_neg z] at a b; omega
  clear a b r
  have c1 := own_addv sa s1 (by omega) (by omega)
  have c2 := own_addv (sa + s1) q (by omega) (by omega)
  have c3 := own_addv na.toInt64 w (by omega) (by omega)
  refine ⟨c1, c2, by rw [c2, c3, c1, e, hm, Int.add_mul, Int.add_mul]; omega, by omega, by omega⟩
theorem own_ofs (s n z w : Int64) (hz : z.toInt = n.toInt / 1000000000) (hw : w.toInt = n.toInt % 1000000000) (h1 : -5000000000000000000 ≤ s.toInt) (h2 : s.toInt ≤ 5000000000000000000) :
    (s + z).toInt = s.toInt + z.toInt ∧ (0 ≤ w.toInt32.toInt ∧ w.toInt32.toInt < 1000000000) ∧ (s + z).toInt * 1000000000 + w.toInt32.toInt = s.toInt * 1000000000 + n.toInt := by
  have r := rng64 n
  have c1 := own_addv s z (by omega) (by omega)
  have c2 := own_l2iv w (by omega) (by omega)
  refine ⟨c1, by omega, by rw [c1, c2]; omega⟩
theorem own_plu (sa c n m u : Int64) (na w : Int32) (T : Int) (hc : c.toInt * 1000000000 + n.toInt = m.toInt * 1000) (h : u.toInt * 1000000000 + w.toInt = (sa.toInt + c.toInt) * 1000000000 + na.toInt + 0) (hT : sa.toInt * 1000000000 + na.toInt = T) : (u.toInt + 0) * 1000000000 + w.toInt + n.toInt = T + m.toInt * 1000 := by omega
theorem own_plb (sa c u : Int64) (na w : Int32) (h : u.toInt * 1000000000 + w.toInt = (sa.toInt + c.toInt) * 1000000000 + na.toInt + 0) (h1 : -1000000000000000000 ≤ sa.toInt) (h2 : sa.toInt ≤ 1000000000000000000) (h3 : -9223372037000 ≤ c.toInt) (h4 : c.toInt ≤ 9223372037000) (h5 : 0 ≤ na.toInt) (h6 : na.toInt < 1000000000) (h7 : 0 ≤ w.toInt) (h8 : w.toInt < 1000000000) : -2000000000000000000 ≤ u.toInt ∧ u.toInt ≤ 2000000000000000000 := by omega

theorem pd_0 : parseMethodDescriptor "(IJIJ)Z" = some ⟨[.int, .long, .int, .long], some .boolean⟩ := by decide +kernel
theorem pd_1 : parseMethodDescriptor "(JJJ)V" = some ⟨[.long, .long, .long], none⟩ := by decide +kernel
theorem pd_2 : parseMethodDescriptor "()V" = some ⟨[], none⟩ := by decide +kernel
theorem pd_3 : parseMethodDescriptor "()Ljava/time/Duration;" = some ⟨[], some (.object "java/time/Duration")⟩ := by decide +kernel
theorem pd_4 : parseMethodDescriptor "(J)Ljava/time/Duration;" = some ⟨[.long], some (.object "java/time/Duration")⟩ := by decide +kernel
theorem pd_5 : parseMethodDescriptor "(JI)J" = some ⟨[.long, .int], some .long⟩ := by decide +kernel
theorem pd_6 : parseMethodDescriptor "(JJ)J" = some ⟨[.long, .long], some .long⟩ := by decide +kernel
theorem pd_7 : parseMethodDescriptor "(J)J" = some ⟨[.long], some .long⟩ := by decide +kernel
theorem pd_8 : parseMethodDescriptor "(JI)Ljava/time/Duration;" = some ⟨[.long, .int], some (.object "java/time/Duration")⟩ := by decide +kernel
theorem pd_9 : parseMethodDescriptor "(JI)V" = some ⟨[.long, .int], none⟩ := by decide +kernel
theorem pd_10 : parseMethodDescriptor "(JLjava/time/temporal/TemporalUnit;)Ljava/time/Duration;" = some ⟨[.long, (.object "java/time/temporal/TemporalUnit")], some (.object "java/time/Duration")⟩ := by decide +kernel
theorem pd_11 : parseMethodDescriptor "(Ljava/lang/Object;Ljava/lang/String;)Ljava/lang/Object;" = some ⟨[(.object "java/lang/Object"), (.object "java/lang/String")], some (.object "java/lang/Object")⟩ := by decide +kernel
theorem pd_12 : parseMethodDescriptor "()Z" = some ⟨[], some .boolean⟩ := by decide +kernel
theorem pd_13 : parseMethodDescriptor "(Ljava/lang/Enum;)I" = some ⟨[(.object "java/lang/Enum")], some .int⟩ := by decide +kernel
theorem pd_14 : parseMethodDescriptor "()I" = some ⟨[], some .int⟩ := by decide +kernel
theorem pd_15 : parseMethodDescriptor "(JJ)Ljava/time/Duration;" = some ⟨[.long, .long], some (.object "java/time/Duration")⟩ := by decide +kernel
theorem pd_16 : parseMethodDescriptor "()J" = some ⟨[], some .long⟩ := by decide +kernel
theorem pd_17 : parseMethodDescriptor "()Ljava/lang/Class;" = some ⟨[], some (.object "java/lang/Class")⟩ := by decide +kernel
def Q2 (h0 : Heap) (n0 : Nat) (v : Option Value) (h : Heap) (L : List Loc) : Prop := v = none ∧ Fr n0 L ∧ h = h0
theorem d2_0 : decode jdk_30_method_1_code 0 = .ok (.aload_n 0, 1) := by decide +kernel
theorem d2_1 : decode jdk_30_method_1_code 1 = .ok (.invokespecial 1, 3) := by decide +kernel
theorem d2_4 : decode jdk_30_method_1_code 4 = .ok (.return_, 1) := by decide +kernel
theorem pn_0 : plainName "java/lang/Record" = true := by first | (simp [plainName, overriddenIn]; done) | decide +kernel
theorem ef_rm2 (m : MethodId) (x0 : Addr) : entryFrame m #[(.ref x0)] 1 = mkF m 0 #[.val (.ref x0)] [] := by first | (simp [entryFrame, mkF, argsToLocals, Value.category]; done) | rfl
set_option maxRecDepth 65536 in
set_option maxHeartbeats 40000000 in
theorem rm2 (l : Launch) (Z : State) (a0 : Array Value) (hw : ∀ d ∈ tables_1, d.before a0 Z = true) (ws : List Jvm.Cond) (a1 : Addr) (h0 : Heap) (n0 : Nat) (Z0 : n0 ≤ h0.size)  :
    MetFree l (⟨"java/lang/Record", "<init>", "()V"⟩ : MethodName) (head1 (Jvm.Cond.code (⟨"java/lang/Record", "<init>", "()V"⟩ : MethodName) jdk_30_method_1_code 1 none :: ws) ({ frames := 1, cells := 0, slots := 0, locals := 12 } : Room)) (fun a U => a = #[(.ref a1)] ∧ Z.Warmed39 U.vm ∧ U.heap = h0) (fun _ _ _ _ _ => True) (fun _ U o U' => ∃ v L, o = .returned v ∧ (Q2 h0 n0) v U'.heap L ∧ FrameEnd U o U' L ({ frames := 1, cells := 0, slots := 0, locals := 12 } : Room).cells ({ frames := 1, cells := 0, slots := 0, locals := 12 } : Room).slots) := by
  refine MetFree.of_bodySF (plainFor_of_name pn_0) hisR ?_
  intro p e s m args below meth c s₁ Bd hml0 hP hK
  obtain ⟨rfl, hZ, hh⟩ := hP
  have hx := Bd.exec
  have hby := Bd.bytes
  have hlk : meth.locks = false := BodyLoose.notSynchronized Bd
  have hml : c.maxLocals = 1 := hml0
  have hown : s.vm.findClass "java/lang/Record" = some m.cls := findClass_of_methodNamed Bd.named
  have hnm := (name_of_methodNamed Bd.named Bd.method).1
  have X0 : Stand p l e ({ frames := 1, cells := 0, slots := 0, locals := 12 } : Room) s m #[(.ref a1)] below meth c s₁ [] 0 0 := Stand.of_body Bd
  have e0 : s₁.heap = h0 := by rw [← hh, Bd.state]; rfl
  have N0 := Fr.nil n0
  show Goes p e below s (Q2 h0 n0) ({ frames := 1, cells := 0, slots := 0, locals := 12 } : Room).cells ({ frames := 1, cells := 0, slots := 0, locals := 12 } : Room).slots (s₁.setTop (entryFrame m #[(.ref a1)] 1))
  refine Goes.by (fun t k => castTop (ef_rm2 m a1) k) ?_
  show Goes p e below s _ _ _ (s₁.setTop (mkF m 0 #[.val (.ref a1)] []))
  refine Goes.by (fun t k => XS.aloadN X0.here hx rfl (hb hby d2_0) rfl rfl k) ?_
  show Goes p e below s _ _ _ (s₁.setTop (mkF m 1 #[.val (.ref a1)] [(.ref a1)]))
  obtain ⟨T1, X1, e1, st1⟩ := initO X0 hx hZ hown (hw _ (List.mem_of_getElem? (i := 11) rfl)) (hw _ (List.mem_of_getElem? (i := 12) rfl)) (hw _ (List.mem_of_getElem? (i := 13) rfl)) e0 (g := (mkF m 1 #[.val (.ref a1)] [(.ref a1)])) rfl (by rw [hml]; rfl) rfl (hb hby d2_1) (by decide) (W := 0) (by show 2 * 0 + _ ≤ _; exact Nat.le_of_eq rfl) (by decide)
  refine Goes.by (fun t k => st1 t k) ?_
  show Goes p e below s _ _ _ (T1.setTop (mkF m 4 #[.val (.ref a1)] []))
  exact Goes.retV X1 hx Bd.returns (hb hby d2_4) hlk (by rw [e1]; exact ⟨rfl, N0, rfl⟩) (by decide) (by decide)
def Q1 (Z : State) (a1 : Addr) (v0 : Int64) (v1 : Int64) (v2 : Int64) (h0 : Heap) (n0 : Nat) (v : Option Value) (h : Heap) (L : List Loc) : Prop := v = none ∧ Fr n0 L ∧ Keep h0 h [a1] ∧ Exa Z h a1 "com/example/libtxsession/libtxsession/internal/session/PostgresInterval" ∧ Fld Z h a1 "com/example/libtxsession/libtxsession/internal/session/PostgresInterval" "months" "J" (.long v0) ∧ Fld Z h a1 "com/example/libtxsession/libtxsession/internal/session/PostgresInterval" "days" "J" (.long v1) ∧ Fld Z h a1 "com/example/libtxsession/libtxsession/internal/session/PostgresInterval" "micros" "J" (.long v2)
theorem d1_0 : decode prog_35_method_1_code 0 = .ok (.aload_n 0, 1) := by decide +kernel
theorem d1_1 : decode prog_35_method_1_code 1 = .ok (.invokespecial 3, 3) := by decide +kernel
theorem d1_4 : decode prog_35_method_1_code 4 = .ok (.aload_n 0, 1) := by decide +kernel
theorem d1_5 : decode prog_35_method_1_code 5 = .ok (.lload_n 1, 1) := by decide +kernel
theorem d1_6 : decode prog_35_method_1_code 6 = .ok (.putfield 9, 3) := by decide +kernel
theorem d1_9 : decode prog_35_method_1_code 9 = .ok (.aload_n 0, 1) := by decide +kernel
theorem d1_10 : decode prog_35_method_1_code 10 = .ok (.lload_n 3, 1) := by decide +kernel
theorem d1_11 : decode prog_35_method_1_code 11 = .ok (.putfield 13, 3) := by decide +kernel
theorem d1_14 : decode prog_35_method_1_code 14 = .ok (.aload_n 0, 1) := by decide +kernel
theorem d1_15 : decode prog_35_method_1_code 15 = .ok (.lload 5, 2) := by decide +kernel
theorem d1_17 : decode prog_35_method_1_code 17 = .ok (.putfield 16, 3) := by decide +kernel
theorem d1_20 : decode prog_35_method_1_code 20 = .ok (.return_, 1) := by decide +kernel
theorem pn_1 : plainName "com/example/libtxsession/libtxsession/internal/session/PostgresInterval" = true := by first | (simp [plainName, overriddenIn]; done) | decide +kernel
theorem ef_rm1 (m : MethodId) (x0 : Addr) (x1 : Int64) (x2 : Int64) (x3 : Int64) : entryFrame m #[(.ref x0), (.long x1), (.long x2), (.long x3)] 7 = mkF m 0 #[.val (.ref x0), .val (.long x1), .second, .val (.long x2), .second, .val (.long x3), .second] [] := by first | (simp [entryFrame, mkF, argsToLocals, Value.category]; done) | rfl
set_option maxRecDepth 65536 in
set_option maxHeartbeats 40000000 in
theorem rm1 (l : Launch) (Z : State) (a0 : Array Value) (hw : ∀ d ∈ tables_1, d.before a0 Z = true) (ws : List Jvm.Cond) (a1 : Addr) (v0 : Int64) (v1 : Int64) (v2 : Int64) (u0 : Value) (u1 : Value) (u2 : Value) (h0 : Heap) (n0 : Nat) (Z0 : n0 ≤ h0.size) (F0 : Fld Z h0 a1 "com/example/libtxsession/libtxsession/internal/session/PostgresInterval" "months" "J" u0) (F1 : Fld Z h0 a1 "com/example/libtxsession/libtxsession/internal/session/PostgresInterval" "days" "J" u1) (F2 : Fld Z h0 a1 "com/example/libtxsession/libtxsession/internal/session/PostgresInterval" "micros" "J" u2) (EA : Exa Z h0 a1 "com/example/libtxsession/libtxsession/internal/session/PostgresInterval") (gea : n0 ≤ a1) :
    MetFree l (⟨"com/example/libtxsession/libtxsession/internal/session/PostgresInterval", "<init>", "(JJJ)V"⟩ : MethodName) (head1 (Jvm.Cond.code (⟨"com/example/libtxsession/libtxsession/internal/session/PostgresInterval", "<init>", "(JJJ)V"⟩ : MethodName) prog_35_method_1_code 7 none :: ws) ({ frames := 2, cells := 0, slots := 0, locals := 24 } : Room)) (fun a U => a = #[(.ref a1), (.long v0), (.long v1), (.long v2)] ∧ Z.Warmed39 U.vm ∧ U.heap = h0) (fun _ _ _ _ _ => True) (fun _ U o U' => ∃ v L, o = .returned v ∧ (Q1 Z a1 v0 v1 v2 h0 n0) v U'.heap L ∧ FrameEnd U o U' L ({ frames := 2, cells := 0, slots := 0, locals := 24 } : Room).cells ({ frames := 2, cells := 0, slots := 0, locals := 24 } : Room).slots) := by
  refine MetFree.of_bodySF (plainFor_of_name pn_1) hisR ?_
  intro p e s m args below meth c s₁ Bd hml0 hP hK
  obtain ⟨rfl, hZ, hh⟩ := hP
  have hx := Bd.exec
  have hby := Bd.bytes
  have hlk : meth.locks = false := BodyLoose.notSynchronized Bd
  have hml : c.maxLocals = 7 := hml0
  have hown : s.vm.findClass "com/example/libtxsession/libtxsession/internal/session/PostgresInterval" = some m.cls := findClass_of_methodNamed Bd.named
  have hnm := (name_of_methodNamed Bd.named Bd.method).1
  have X0 : Stand p l e ({ frames := 2, cells := 0, slots := 0, locals := 24 } : Room) s m #[(.ref a1), (.long v0), (.long v1), (.long v2)] below meth c s₁ [] 0 0 := Stand.of_body Bd
  have e0 : s₁.heap = h0 := by rw [← hh, Bd.state]; rfl
  have N0 := Fr.nil n0
  show Goes p e below s (Q1 Z a1 v0 v1 v2 h0 n0) ({ frames := 2, cells := 0, slots := 0, locals := 24 } : Room).cells ({ frames := 2, cells := 0, slots := 0, locals := 24 } : Room).slots (s₁.setTop (entryFrame m #[(.ref a1), (.long v0), (.long v1), (.long v2)] 7))
  refine Goes.by (fun t k => castTop (ef_rm1 m a1 v0 v1 v2) k) ?_
  show Goes p e below s _ _ _ (s₁.setTop (mkF m 0 #[.val (.ref a1), .val (.long v0), .second, .val (.long v1), .second, .val (.long v2), .second] []))
  have KC0 : Keep h0 h0 [a1] := Keep.refl _ _
  refine Goes.by (fun t k => XS.aloadN X0.here hx rfl (hb hby d1_0) rfl rfl k) ?_
  show Goes p e below s _ _ _ (s₁.setTop (mkF m 1 #[.val (.ref a1), .val (.long v0), .second, .val (.long v1), .second, .val (.long v2), .second] [(.ref a1)]))
  obtain ⟨_, _, ⟨T1, L1, k1, n1⟩, -, X1, ⟨Lc1, hQ1, l1, y1, z1⟩, st1⟩ := X0.specialBack hx (y := (⟨"java/lang/Record", "<init>", "()V"⟩ : MethodName)) rfl hown (mvT hZ (hw _ (List.mem_of_getElem? (i := 6) rfl))) (mvT hZ (hw _ (List.mem_of_getElem? (i := 7) rfl))) (mvT hZ (hw _ (List.mem_of_getElem? (i := 10) rfl))) (by decide) (backOf (W := 0) (rm2 l Z a0 hw [] a1 h0 n0 Z0) hZ (hw _ (List.mem_of_getElem? (i := 10) rfl)) (hw _ (List.mem_of_getElem? (i := 9) rfl)) (by decide) (by decide)) (g := (mkF m 1 #[.val (.ref a1), .val (.long v0), .second, .val (.long v1), .second, .val (.long v2), .second] [(.ref a1)])) rfl (by rw [hml]; rfl) (Steps.refl _) (a := a1) (argsL := []) (rest := []) (lenOf pd_2 rfl) rfl (by show 2 * 0 + _ ≤ _; exact Nat.le_of_eq rfl) (hb hby d1_1) (fun _ _ => ⟨rfl, e0, (by decide : 0 + 0 ≤ _), (by decide : 0 + 0 ≤ _)⟩)
  dsimp only [Pt.U, Pt.locs, Pt.cells, Pt.slots] at X1 l1 y1 z1 st1 hQ1
  subst l1 y1 z1
  obtain ⟨rfl, N1q, hh1⟩ := hQ1
  have N1 := Fr.app N0 N1q
  refine Goes.by (fun t k => st1.trans k) ?_
  show Goes p e below s _ _ _ (T1.setTop (mkF m 4 #[.val (.ref a1), .val (.long v0), .second, .val (.long v1), .second, .val (.long v2), .second] []))
  have eS : T1.heap = h0 := hh1
  refine Goes.by (fun t k => XS.aloadN X1.here hx rfl (hb hby d1_4) rfl rfl k) ?_
  show Goes p e below s _ _ _ (T1.setTop (mkF m 5 #[.val (.ref a1), .val (.long v0), .second, .val (.long v1), .second, .val (.long v2), .second] [(.ref a1)]))
  refine Goes.by (fun t k => XS.lloadN X1.here hx rfl (hb hby d1_5) rfl k) ?_
  show Goes p e below s _ _ _ (T1.setTop (mkF m 6 #[.val (.ref a1), .val (.long v0), .second, .val (.long v1), .second, .val (.long v2), .second] [(.long v0), (.ref a1)]))
  obtain ⟨T2, h2, X2, e2, W2, st2⟩ := putF X1 hx hZ hown (host := "") (Or.inl (hw _ (List.mem_of_getElem? (i := 14) rfl))) Via.refl eS (F0) (EA) (Or.inr ⟨(hw _ (List.mem_of_getElem? (i := 15) rfl)), rfl, hnm⟩) (hw _ (List.mem_of_getElem? (i := 1) rfl)) (ty := .long) (by decide) rfl rfl (g := (mkF m 6 #[.val (.ref a1), .val (.long v0), .second, .val (.long v1), .second, .val (.long v2), .second] [(.long v0), (.ref a1)])) rfl rfl (hb hby d1_6)
  refine Goes.by (fun t k => st2 t k) ?_
  have N2 := Fr.snoc X2 N1 (gea)
  show Goes p e below s _ _ _ (T2.setTop (mkF m 9 #[.val (.ref a1), .val (.long v0), .second, .val (.long v1), .second, .val (.long v2), .second] []))
  have f1 := KC0.wr W2 (Or.inl (List.mem_of_getElem? (i := 0) rfl))
  have f2 := Nat.le_trans Z0 (Keep.of_wr W2).1
  have f3 := F0.same W2
  have f4 := F1.other W2 (Or.inr (slot_ne (Or.inr (hw _ (List.mem_of_getElem? (i := 17) rfl))) (Or.inr (hw _ (List.mem_of_getElem? (i := 15) rfl))) (by decide) (t := .long) (t' := .long) (by decide) (by decide)))
  have f5 := F2.other W2 (Or.inr (slot_ne (Or.inr (hw _ (List.mem_of_getElem? (i := 19) rfl))) (Or.inr (hw _ (List.mem_of_getElem? (i := 15) rfl))) (by decide) (t := .long) (t' := .long) (by decide) (by decide)))
  have f6 := EA.wr W2
  refine Goes.by (fun t k => XS.aloadN X2.here hx rfl (hb hby d1_9) rfl rfl k) ?_
  show Goes p e below s _ _ _ (T2.setTop (mkF m 10 #[.val (.ref a1), .val (.long v0), .second, .val (.long v1), .second, .val (.long v2), .second] [(.ref a1)]))
  refine Goes.by (fun t k => XS.lloadN X2.here hx rfl (hb hby d1_10) rfl k) ?_
  show Goes p e below s _ _ _ (T2.setTop (mkF m 11 #[.val (.ref a1), .val (.long v0), .second, .val (.long v1), .second, .val (.long v2), .second] [(.long v1), (.ref a1)]))
  obtain ⟨T3, h3, X3, e3, W3, st3⟩ := putF X2 hx hZ hown (host := "") (Or.inl (hw _ (List.mem_of_getElem? (i := 16) rfl))) Via.refl e2 (f4) (f6) (Or.inr ⟨(hw _ (List.mem_of_getElem? (i := 17) rfl)), rfl, hnm⟩) (hw _ (List.mem_of_getElem? (i := 1) rfl)) (ty := .long) (by decide) rfl rfl (g := (mkF m 11 #[.val (.ref a1), .val (.long v0), .second, .val (.long v1), .second, .val (.long v2), .second] [(.long v1), (.ref a1)])) rfl rfl (hb hby d1_11)
  refine Goes.by (fun t k => st3 t k) ?_
  have N3 := Fr.snoc X3 N2 (gea)
  show Goes p e below s _ _ _ (T3.setTop (mkF m 14 #[.val (.ref a1), .val (.long v0), .second, .val (.long v1), .second, .val (.long v2), .second] []))
  have f7 := f1.wr W3 (Or.inl (List.mem_of_getElem? (i := 0) rfl))
  have f8 := Nat.le_trans f2 (Keep.of_wr W3).1
  have f9 := f3.other W3 (Or.inr (slot_ne (Or.inr (hw _ (List.mem_of_getElem? (i := 15) rfl))) (Or.inr (hw _ (List.mem_of_getElem? (i := 17) rfl))) (by decide) (t := .long) (t' := .long) (by decide) (by decide)))
  have f10 := f4.same W3
  have f11 := f5.other W3 (Or.inr (slot_ne (Or.inr (hw _ (List.mem_of_getElem? (i := 19) rfl))) (Or.inr (hw _ (List.mem_of_getElem? (i := 17) rfl))) (by decide) (t := .long) (t' := .long) (by decide) (by decide)))
  have f12 := f6.wr W3
  refine Goes.by (fun t k => XS.aloadN X3.here hx rfl (hb hby d1_14) rfl rfl k) ?_
  show Goes p e below s _ _ _ (T3.setTop (mkF m 15 #[.val (.ref a1), .val (.long v0), .second, .val (.long v1), .second, .val (.long v2), .second] [(.ref a1)]))
  refine Goes.by (fun t k => XS.lload X3.here hx rfl (hb hby d1_15) rfl k) ?_
  show Goes p e below s _ _ _ (T3.setTop (mkF m 17 #[.val (.ref a1), .val (.long v0), .second, .val (.long v1), .second, .val (.long v2), .second] [(.long v2), (.ref a1)]))
  obtain ⟨T4, h4, X4, e4, W4, st4⟩ := putF X3 hx hZ hown (host := "") (Or.inl (hw _ (List.mem_of_getElem? (i := 18) rfl))) Via.refl e3 (f11) (f12) (Or.inr ⟨(hw _ (List.mem_of_getElem? (i := 19) rfl)), rfl, hnm⟩) (hw _ (List.mem_of_getElem? (i := 1) rfl)) (ty := .long) (by decide) rfl rfl (g := (mkF m 17 #[.val (.ref a1), .val (.long v0), .second, .val (.long v1), .second, .val (.long v2), .second] [(.long v2), (.ref a1)])) rfl rfl (hb hby d1_17)
  refine Goes.by (fun t k => st4 t k) ?_
  have N4 := Fr.snoc X4 N3 (gea)
  show Goes p e below s _ _ _ (T4.setTop (mkF m 20 #[.val (.ref a1), .val (.long v0), .second, .val (.long v1), .second, .val (.long v2), .second] []))
  have f13 := f7.wr W4 (Or.inl (List.mem_of_getElem? (i := 0) rfl))
  have f14 := Nat.le_trans f8 (Keep.of_wr W4).1
  have f15 := f9.other W4 (Or.inr (slot_ne (Or.inr (hw _ (List.mem_of_getElem? (i := 15) rfl))) (Or.inr (hw _ (List.mem_of_getElem? (i := 19) rfl))) (by decide) (t := .long) (t' := .long) (by decide) (by decide)))
  have f16 := f10.other W4 (Or.inr (slot_ne (Or.inr (hw _ (List.mem_of_getElem? (i := 17) rfl))) (Or.inr (hw _ (List.mem_of_getElem? (i := 19) rfl))) (by decide) (t := .long) (t' := .long) (by decide) (by decide)))
  have f17 := f11.same W4
  have f18 := f12.wr W4
  exact Goes.retV X4 hx Bd.returns (hb hby d1_20) hlk (by rw [e4]; exact ⟨rfl, N4, f13, f18, f15, f16, f17⟩) (by decide) (by decide)
def Q10 (Z : State) (a1 : Addr) (v0 : Int64) (v1 : Int32) (h0 : Heap) (n0 : Nat) (v : Option Value) (h : Heap) (L : List Loc) : Prop := v = none ∧ Fr n0 L ∧ Keep h0 h [a1] ∧ Exa Z h a1 "java/time/Duration" ∧ Fld Z h a1 "java/time/Duration" "seconds" "J" (.long v0) ∧ Fld Z h a1 "java/time/Duration" "nanos" "I" (.int v1)
theorem d10_0 : decode jdk_2316_method_17_code 0 = .ok (.aload_n 0, 1) := by decide +kernel
theorem d10_1 : decode jdk_2316_method_17_code 1 = .ok (.invokespecial 218, 3) := by decide +kernel
theorem d10_4 : decode jdk_2316_method_17_code 4 = .ok (.aload_n 0, 1) := by decide +kernel
theorem d10_5 : decode jdk_2316_method_17_code 5 = .ok (.lload_n 1, 1) := by decide +kernel
theorem d10_6 : decode jdk_2316_method_17_code 6 = .ok (.putfield 221, 3) := by decide +kernel
theorem d10_9 : decode jdk_2316_method_17_code 9 = .ok (.aload_n 0, 1) := by decide +kernel
theorem d10_10 : decode jdk_2316_method_17_code 10 = .ok (.iload_n 3, 1) := by decide +kernel
theorem d10_11 : decode jdk_2316_method_17_code 11 = .ok (.putfield 224, 3) := by decide +kernel
theorem d10_14 : decode jdk_2316_method_17_code 14 = .ok (.return_, 1) := by decide +kernel
theorem pn_2 : plainName "java/time/Duration" = true := by first | (simp [plainName, overriddenIn]; done) | decide +kernel
theorem ef_rm10 (m : MethodId) (x0 : Addr) (x1 : Int64) (x2 : Int32) : entryFrame m #[(.ref x0), (.long x1), (.int x2)] 4 = mkF m 0 #[.val (.ref x0), .val (.long x1), .second, .val (.int x2)] [] := by first | (simp [entryFrame, mkF, argsToLocals, Value.category]; done) | rfl
set_option maxRecDepth 65536 in
set_option maxHeartbeats 40000000 in
theorem rm10 (l : Launch) (Z : State) (a0 : Array Value) (hw : ∀ d ∈ tables_1, d.before a0 Z = true) (ws : List Jvm.Cond) (a1 : Addr) (v0 : Int64) (v1 : Int32) (u0 : Value) (u1 : Value) (h0 : Heap) (n0 : Nat) (Z0 : n0 ≤ h0.size) (F0 : Fld Z h0 a1 "java/time/Duration" "seconds" "J" u0) (F1 : Fld Z h0 a1 "java/time/Duration" "nanos" "I" u1) (EA : Exa Z h0 a1 "java/time/Duration") (gea : n0 ≤ a1) :
    MetFree l (⟨"java/time/Duration", "<init>", "(JI)V"⟩ : MethodName) (head1 (Jvm.Cond.code (⟨"java/time/Duration", "<init>", "(JI)V"⟩ : MethodName) jdk_2316_method_17_code 4 none :: ws) ({ frames := 1, cells := 0, slots := 0, locals := 12 } : Room)) (fun a U => a = #[(.ref a1), (.long v0), (.int v1)] ∧ Z.Warmed39 U.vm ∧ U.heap = h0) (fun _ _ _ _ _ => True) (fun _ U o U' => ∃ v L, o = .returned v ∧ (Q10 Z a1 v0 v1 h0 n0) v U'.heap L ∧ FrameEnd U o U' L ({ frames := 1, cells := 0, slots := 0, locals := 12 } : Room).cells ({ frames := 1, cells := 0, slots := 0, locals := 12 } : Room).slots) := by
  refine MetFree.of_bodySF (plainFor_of_name pn_2) hisR ?_
  intro p e s m args below meth c s₁ Bd hml0 hP hK
  obtain ⟨rfl, hZ, hh⟩ := hP
  have hx := Bd.exec
  have hby := Bd.bytes
  have hlk : meth.locks = false := BodyLoose.notSynchronized Bd
  have hml : c.maxLocals = 4 := hml0
  have hown : s.vm.findClass "java/time/Duration" = some m.cls := findClass_of_methodNamed Bd.named
  have hnm := (name_of_methodNamed Bd.named Bd.method).1
  have X0 : Stand p l e ({ frames := 1, cells := 0, slots := 0, locals := 12 } : Room) s m #[(.ref a1), (.long v0), (.int v1)] below meth c s₁ [] 0 0 := Stand.of_body Bd
  have e0 : s₁.heap = h0 := by rw [← hh, Bd.state]; rfl
  have N0 := Fr.nil n0
  show Goes p e below s (Q10 Z a1 v0 v1 h0 n0) ({ frames := 1, cells := 0, slots := 0, locals := 12 } : Room).cells ({ frames := 1, cells := 0, slots := 0, locals := 12 } : Room).slots (s₁.setTop (entryFrame m #[(.ref a1), (.long v0), (.int v1)] 4))
  refine Goes.by (fun t k => castTop (ef_rm10 m a1 v0 v1) k) ?_
  show Goes p e below s _ _ _ (s₁.setTop (mkF m 0 #[.val (.ref a1), .val (.long v0), .second, .val (.int v1)] []))
  have KC0 : Keep h0 h0 [a1] := Keep.refl _ _
  refine Goes.by (fun t k => XS.aloadN X0.here hx rfl (hb hby d10_0) rfl rfl k) ?_
  show Goes p e below s _ _ _ (s₁.setTop (mkF m 1 #[.val (.ref a1), .val (.long v0), .second, .val (.int v1)] [(.ref a1)]))
  obtain ⟨T1, X1, e1, st1⟩ := initO X0 hx hZ hown (hw _ (List.mem_of_getElem? (i := 49) rfl)) (hw _ (List.mem_of_getElem? (i := 12) rfl)) (hw _ (List.mem_of_getElem? (i := 13) rfl)) e0 (g := (mkF m 1 #[.val (.ref a1), .val (.long v0), .second, .val (.int v1)] [(.ref a1)])) rfl (by rw [hml]; rfl) rfl (hb hby d10_1) (by decide) (W := 0) (by show 2 * 0 + _ ≤ _; exact Nat.le_of_eq rfl) (by decide)
  refine Goes.by (fun t k => st1 t k) ?_
  show Goes p e below s _ _ _ (T1.setTop (mkF m 4 #[.val (.ref a1), .val (.long v0), .second, .val (.int v1)] []))
  refine Goes.by (fun t k => XS.aloadN X1.here hx rfl (hb hby d10_4) rfl rfl k) ?_
  show Goes p e below s _ _ _ (T1.setTop (mkF m 5 #[.val (.ref a1), .val (.long v0), .second, .val (.int v1)] [(.ref a1)]))
  refine Goes.by (fun t k => XS.lloadN X1.here hx rfl (hb hby d10_5) rfl k) ?_
  show Goes p e below s _ _ _ (T1.setTop (mkF m 6 #[.val (.ref a1), .val (.long v0), .second, .val (.int v1)] [(.long v0), (.ref a1)]))
  obtain ⟨T2, h2, X2, e2, W2, st2⟩ := putF X1 hx hZ hown (host := "") (Or.inl (hw _ (List.mem_of_getElem? (i := 50) rfl))) Via.refl e1 (F0) (EA) (Or.inr ⟨(hw _ (List.mem_of_getElem? (i := 51) rfl)), rfl, hnm⟩) (hw _ (List.mem_of_getElem? (i := 44) rfl)) (ty := .long) (by decide) rfl rfl (g := (mkF m 6 #[.val (.ref a1), .val (.long v0), .second, .val (.int v1)] [(.long v0), (.ref a1)])) rfl rfl (hb hby d10_6)
  refine Goes.by (fun t k => st2 t k) ?_
  have N2 := Fr.snoc X2 N0 (gea)
  show Goes p e below s _ _ _ (T2.setTop (mkF m 9 #[.val (.ref a1), .val (.long v0), .second, .val (.int v1)] []))
  have f1 := KC0.wr W2 (Or.inl (List.mem_of_getElem? (i := 0) rfl))
  have f2 := Nat.le_trans Z0 (Keep.of_wr W2).1
  have f3 := F0.same W2
  have f4 := F1.other W2 (Or.inr (slot_ne (Or.inr (hw _ (List.mem_of_getElem? (i := 53) rfl))) (Or.inr (hw _ (List.mem_of_getElem? (i := 51) rfl))) (by decide) (t := .int) (t' := .long) (by decide) (by decide)))
  have f5 := EA.wr W2
  refine Goes.by (fun t k => XS.aloadN X2.here hx rfl (hb hby d10_9) rfl rfl k) ?_
  show Goes p e below s _ _ _ (T2.setTop (mkF m 10 #[.val (.ref a1), .val (.long v0), .second, .val (.int v1)] [(.ref a1)]))
  refine Goes.by (fun t k => XS.iloadN X2.here hx rfl (hb hby d10_10) rfl k) ?_
  show Goes p e below s _ _ _ (T2.setTop (mkF m 11 #[.val (.ref a1), .val (.long v0), .second, .val (.int v1)] [(.int v1), (.ref a1)]))
  obtain ⟨T3, h3, X3, e3, W3, st3⟩ := putF X2 hx hZ hown (host := "") (Or.inl (hw _ (List.mem_of_getElem? (i := 52) rfl))) Via.refl e2 (f4) (f5) (Or.inr ⟨(hw _ (List.mem_of_getElem? (i := 53) rfl)), rfl, hnm⟩) (hw _ (List.mem_of_getElem? (i := 44) rfl)) (ty := .int) (by decide) rfl rfl (g := (mkF m 11 #[.val (.ref a1), .val (.long v0), .second, .val (.int v1)] [(.int v1), (.ref a1)])) rfl rfl (hb hby d10_11)
  refine Goes.by (fun t k => st3 t k) ?_
  have N3 := Fr.snoc X3 N2 (gea)
  show Goes p e below s _ _ _ (T3.setTop (mkF m 14 #[.val (.ref a1), .val (.long v0), .second, .val (.int v1)] []))
  have f6 := f1.wr W3 (Or.inl (List.mem_of_getElem? (i := 0) rfl))
  have f7 := Nat.le_trans f2 (Keep.of_wr W3).1
  have f8 := f3.other W3 (Or.inr (slot_ne (Or.inr (hw _ (List.mem_of_getElem? (i := 51) rfl))) (Or.inr (hw _ (List.mem_of_getElem? (i := 53) rfl))) (by decide) (t := .long) (t' := .int) (by decide) (by decide)))
  have f9 := f4.same W3
  have f10 := f5.wr W3
  exact Goes.retV X3 hx Bd.returns (hb hby d10_14) hlk (by rw [e3]; exact ⟨rfl, N3, f6, f10, f8, f9⟩) (by decide) (by decide)
def Q23 (x1 : Int64) (h0 : Heap) (n0 : Nat) (v : Option Value) (h : Heap) (L : List Loc) : Prop := v = some (.long x1) ∧ Fr n0 L ∧ h = h0
theorem d23_0 : decode jdk_2316_method_23_code 0 = .ok (.aload_n 0, 1) := by decide +kernel
theorem d23_1 : decode jdk_2316_method_23_code 1 = .ok (.getfield 221, 3) := by decide +kernel
theorem d23_4 : decode jdk_2316_method_23_code 4 = .ok (.lreturn, 1) := by decide +kernel
theorem ef_rm23 (m : MethodId) (x0 : Addr) : entryFrame m #[(.ref x0)] 1 = mkF m 0 #[.val (.ref x0)] [] := by first | (simp [entryFrame, mkF, argsToLocals, Value.category]; done) | rfl
set_option maxRecDepth 65536 in
set_option maxHeartbeats 40000000 in
theorem rm23 (l : Launch) (Z : State) (a0 : Array Value) (hw : ∀ d ∈ tables_1, d.before a0 Z = true) (ws : List Jvm.Cond) (a1 : Addr) (x1 : Int64) (h0 : Heap) (n0 : Nat) (Z0 : n0 ≤ h0.size) (F1 : Fld Z h0 a1 "java/time/Duration" "seconds" "J" (.long x1)) :
    MetFree l (⟨"java/time/Duration", "getSeconds", "()J"⟩ : MethodName) (head1 (Jvm.Cond.code (⟨"java/time/Duration", "getSeconds", "()J"⟩ : MethodName) jdk_2316_method_23_code 1 (some .long) :: ws) ({ frames := 0, cells := 0, slots := 0, locals := 0 } : Room)) (fun a U => a = #[(.ref a1)] ∧ Z.Warmed39 U.vm ∧ U.heap = h0) (fun _ _ _ _ _ => True) (fun _ U o U' => ∃ v L, o = .returned v ∧ (Q23 x1 h0 n0) v U'.heap L ∧ FrameEnd U o U' L ({ frames := 0, cells := 0, slots := 0, locals := 0 } : Room).cells ({ frames := 0, cells := 0, slots := 0, locals := 0 } : Room).slots) := by
  refine MetFree.of_bodySF (plainFor_of_name pn_2) hisR ?_
  intro p e s m args below meth c s₁ Bd hml0 hP hK
  obtain ⟨rfl, hZ, hh⟩ := hP
  have hx := Bd.exec
  have hby := Bd.bytes
  have hlk : meth.locks = false := BodyLoose.notSynchronized Bd
  have hml : c.maxLocals = 1 := hml0
  have hown : s.vm.findClass "java/time/Duration" = some m.cls := findClass_of_methodNamed Bd.named
  have hnm := (name_of_methodNamed Bd.named Bd.method).1
  have X0 : Stand p l e ({ frames := 0, cells := 0, slots := 0, locals := 0 } : Room) s m #[(.ref a1)] below meth c s₁ [] 0 0 := Stand.of_body Bd
  have e0 : s₁.heap = h0 := by rw [← hh, Bd.state]; rfl
  have N0 := Fr.nil n0
  show Goes p e below s (Q23 x1 h0 n0) ({ frames := 0, cells := 0, slots := 0, locals := 0 } : Room).cells ({ frames := 0, cells := 0, slots := 0, locals := 0 } : Room).slots (s₁.setTop (entryFrame m #[(.ref a1)] 1))
  refine Goes.by (fun t k => castTop (ef_rm23 m a1) k) ?_
  show Goes p e below s _ _ _ (s₁.setTop (mkF m 0 #[.val (.ref a1)] []))
  refine Goes.by (fun t k => XS.aloadN X0.here hx rfl (hb hby d23_0) rfl rfl k) ?_
  show Goes p e below s _ _ _ (s₁.setTop (mkF m 1 #[.val (.ref a1)] [(.ref a1)]))
  obtain ⟨T1, X1, e1, st1⟩ := getF X0 hx hZ hown (host := "") (Or.inl (hw _ (List.mem_of_getElem? (i := 50) rfl))) Via.refl e0 (F1) (g := (mkF m 1 #[.val (.ref a1)] [(.ref a1)])) rfl rfl (hb hby d23_1)
  refine Goes.by (fun t k => st1 t k) ?_
  show Goes p e below s _ _ _ (T1.setTop (mkF m 4 #[.val (.ref a1)] [(.long x1)]))
  exact Goes.retL X1 hx Bd.returns trivial (hb hby d23_4) hlk (by rw [e1]; exact ⟨rfl, N0, rfl⟩) (by decide) (by decide)
def Q24 (x1 : Int32) (h0 : Heap) (n0 : Nat) (v : Option Value) (h : Heap) (L : List Loc) : Prop := v = some (.int x1) ∧ Fr n0 L ∧ h = h0
theorem d24_0 : decode jdk_2316_method_24_code 0 = .ok (.aload_n 0, 1) := by decide +kernel
theorem d24_1 : decode jdk_2316_method_24_code 1 = .ok (.getfield 224, 3) := by decide +kernel
theorem d24_4 : decode jdk_2316_method_24_code 4 = .ok (.ireturn, 1) := by decide +kernel
theorem ef_rm24 (m : MethodId) (x0 : Addr) : entryFrame m #[(.ref x0)] 1 = mkF m 0 #[.val (.ref x0)] [] := by first | (simp [entryFrame, mkF, argsToLocals, Value.category]; done) | rfl
set_option maxRecDepth 65536 in
set_option maxHeartbeats 40000000 in
theorem rm24 (l : Launch) (Z : State) (a0 : Array Value) (hw : ∀ d ∈ tables_1, d.before a0 Z = true) (ws : List Jvm.Cond) (a1 : Addr) (x1 : Int32) (h0 : Heap) (n0 : Nat) (Z0 : n0 ≤ h0.size) (F1 : Fld Z h0 a1 "java/time/Duration" "nanos" "I" (.int x1)) :
    MetFree l (⟨"java/time/Duration", "getNano", "()I"⟩ : MethodName) (head1 (Jvm.Cond.code (⟨"java/time/Duration", "getNano", "()I"⟩ : MethodName) jdk_2316_method_24_code 1 (some .int) :: ws) ({ frames := 0, cells := 0, slots := 0, locals := 0 } : Room)) (fun a U => a = #[(.ref a1)] ∧ Z.Warmed39 U.vm ∧ U.heap = h0) (fun _ _ _ _ _ => True) (fun _ U o U' => ∃ v L, o = .returned v ∧ (Q24 x1 h0 n0) v U'.heap L ∧ FrameEnd U o U' L ({ frames := 0, cells := 0, slots := 0, locals := 0 } : Room).cells ({ frames := 0, cells := 0, slots := 0, locals := 0 } : Room).slots) := by
  refine MetFree.of_bodySF (plainFor_of_name pn_2) hisR ?_
  intro p e s m args below meth c s₁ Bd hml0 hP hK
  obtain ⟨rfl, hZ, hh⟩ := hP
  have hx := Bd.exec
  have hby := Bd.bytes
  have hlk : meth.locks = false := BodyLoose.notSynchronized Bd
  have hml : c.maxLocals = 1 := hml0
  have hown : s.vm.findClass "java/time/Duration" = some m.cls := findClass_of_methodNamed Bd.named
  have hnm := (name_of_methodNamed Bd.named Bd.method).1
  have X0 : Stand p l e ({ frames := 0, cells := 0, slots := 0, locals := 0 } : Room) s m #[(.ref a1)] below meth c s₁ [] 0 0 := Stand.of_body Bd
  have e0 : s₁.heap = h0 := by rw [← hh, Bd.state]; rfl
  have N0 := Fr.nil n0
  show Goes p e below s (Q24 x1 h0 n0) ({ frames := 0, cells := 0, slots := 0, locals := 0 } : Room).cells ({ frames := 0, cells := 0, slots := 0, locals := 0 } : Room).slots (s₁.setTop (entryFrame m #[(.ref a1)] 1))
  refine Goes.by (fun t k => castTop (ef_rm24 m a1) k) ?_
  show Goes p e below s _ _ _ (s₁.setTop (mkF m 0 #[.val (.ref a1)] []))
  refine Goes.by (fun t k => XS.aloadN X0.here hx rfl (hb hby d24_0) rfl rfl k) ?_
  show Goes p e below s _ _ _ (s₁.setTop (mkF m 1 #[.val (.ref a1)] [(.ref a1)]))
  obtain ⟨T1, X1, e1, st1⟩ := getF X0 hx hZ hown (host := "") (Or.inl (hw _ (List.mem_of_getElem? (i := 52) rfl))) Via.refl e0 (F1) (g := (mkF m 1 #[.val (.ref a1)] [(.ref a1)])) rfl rfl (hb hby d24_1)
  refine Goes.by (fun t k => st1 t k) ?_
  show Goes p e below s _ _ _ (T1.setTop (mkF m 4 #[.val (.ref a1)] [(.int x1)]))
  exact Goes.retI X1 hx Bd.returns trivial (hb hby d24_4) hlk (by rw [e1]; exact ⟨rfl, N0, rfl⟩) (by decide) (by decide)
def Q15 (x1 : Int32) (h0 : Heap) (n0 : Nat) (v : Option Value) (h : Heap) (L : List Loc) : Prop := v = some (.int x1) ∧ Fr n0 L ∧ h = h0
theorem d15_0 : decode jdk_37_method_2_code 0 = .ok (.aload_n 0, 1) := by decide +kernel
theorem d15_1 : decode jdk_37_method_2_code 1 = .ok (.getfield 7, 3) := by decide +kernel
theorem d15_4 : decode jdk_37_method_2_code 4 = .ok (.ireturn, 1) := by decide +kernel
theorem pn_3 : plainName "java/lang/Enum" = true := by first | (simp [plainName, overriddenIn]; done) | decide +kernel
theorem ef_rm15 (m : MethodId) (x0 : Addr) : entryFrame m #[(.ref x0)] 1 = mkF m 0 #[.val (.ref x0)] [] := by first | (simp [entryFrame, mkF, argsToLocals, Value.category]; done) | rfl
set_option maxRecDepth 65536 in
set_option maxHeartbeats 40000000 in
theorem rm15 (l : Launch) (Z : State) (a0 : Array Value) (hw : ∀ d ∈ tables_1, d.before a0 Z = true) (ws : List Jvm.Cond) (a1 : Addr) (x1 : Int32) (h0 : Heap) (n0 : Nat) (Z0 : n0 ≤ h0.size) (F1 : Fld Z h0 a1 "java/lang/Enum" "ordinal" "I" (.int x1)) :
    MetFree l (⟨"java/lang/Enum", "ordinal", "()I"⟩ : MethodName) (head1 (Jvm.Cond.code (⟨"java/lang/Enum", "ordinal", "()I"⟩ : MethodName) jdk_37_method_2_code 1 (some .int) :: ws) ({ frames := 0, cells := 0, slots := 0, locals := 0 } : Room)) (fun a U => a = #[(.ref a1)] ∧ Z.Warmed39 U.vm ∧ U.heap = h0) (fun _ _ _ _ _ => True) (fun _ U o U' => ∃ v L, o = .returned v ∧ (Q15 x1 h0 n0) v U'.heap L ∧ FrameEnd U o U' L ({ frames := 0, cells := 0, slots := 0, locals := 0 } : Room).cells ({ frames := 0, cells := 0, slots := 0, locals := 0 } : Room).slots) := by
  refine MetFree.of_bodySF (plainFor_of_name pn_3) hisR ?_
  intro p e s m args below meth c s₁ Bd hml0 hP hK
  obtain ⟨rfl, hZ, hh⟩ := hP
  have hx := Bd.exec
  have hby := Bd.bytes
  have hlk : meth.locks = false := BodyLoose.notSynchronized Bd
  have hml : c.maxLocals = 1 := hml0
  have hown : s.vm.findClass "java/lang/Enum" = some m.cls := findClass_of_methodNamed Bd.named
  have hnm := (name_of_methodNamed Bd.named Bd.method).1
  have X0 : Stand p l e ({ frames := 0, cells := 0, slots := 0, locals := 0 } : Room) s m #[(.ref a1)] below meth c s₁ [] 0 0 := Stand.of_body Bd
  have e0 : s₁.heap = h0 := by rw [← hh, Bd.state]; rfl
  have N0 := Fr.nil n0
  show Goes p e below s (Q15 x1 h0 n0) ({ frames := 0, cells := 0, slots := 0, locals := 0 } : Room).cells ({ frames := 0, cells := 0, slots := 0, locals := 0 } : Room).slots (s₁.setTop (entryFrame m #[(.ref a1)] 1))
  refine Goes.by (fun t k => castTop (ef_rm15 m a1) k) ?_
  show Goes p e below s _ _ _ (s₁.setTop (mkF m 0 #[.val (.ref a1)] []))
  refine Goes.by (fun t k => XS.aloadN X0.here hx rfl (hb hby d15_0) rfl rfl k) ?_
  show Goes p e below s _ _ _ (s₁.setTop (mkF m 1 #[.val (.ref a1)] [(.ref a1)]))
  obtain ⟨T1, X1, e1, st1⟩ := getF X0 hx hZ hown (host := "") (Or.inl (hw _ (List.mem_of_getElem? (i := 97) rfl))) Via.refl e0 (F1) (g := (mkF m 1 #[.val (.ref a1)] [(.ref a1)])) rfl rfl (hb hby d15_1)
  refine Goes.by (fun t k => st1 t k) ?_
  show Goes p e below s _ _ _ (T1.setTop (mkF m 4 #[.val (.ref a1)] [(.int x1)]))
  exact Goes.retI X1 hx Bd.returns trivial (hb hby d15_4) hlk (by rw [e1]; exact ⟨rfl, N0, rfl⟩) (by decide) (by decide)
def Q8 (h0 : Heap) (n0 : Nat) (v : Option Value) (h : Heap) (L : List Loc) : Prop := ∃ z : Int64, v = some (.long z) ∧ Fr n0 L ∧ h = h0
theorem d8_0 : decode jdk_29_method_61_code 0 = .ok (.lload_n 0, 1) := by decide +kernel
theorem d8_1 : decode jdk_29_method_61_code 1 = .ok (.lconst 0, 1) := by decide +kernel
theorem d8_2 : decode jdk_29_method_61_code 2 = .ok (.lcmp, 1) := by decide +kernel
theorem d8_3 : decode jdk_29_method_61_code 3 = .ok (.ifCond .ge 8, 3) := by decide +kernel
theorem d8_6 : decode jdk_29_method_61_code 6 = .ok (.lload_n 0, 1) := by decide +kernel
theorem d8_7 : decode jdk_29_method_61_code 7 = .ok (.lneg, 1) := by decide +kernel
theorem d8_8 : decode jdk_29_method_61_code 8 = .ok (.goto 4, 3) := by decide +kernel
theorem d8_11 : decode jdk_29_method_61_code 11 = .ok (.lload_n 0, 1) := by decide +kernel
theorem d8_12 : decode jdk_29_method_61_code 12 = .ok (.lreturn, 1) := by decide +kernel
theorem ef_rm8 (m : MethodId) (x0 : Int64) : entryFrame m #[(.long x0)] 2 = mkF m 0 #[.val (.long x0), .second] [] := by first | (simp [entryFrame, mkF, argsToLocals, Value.category]; done) | rfl
set_option maxRecDepth 65536 in
set_option maxHeartbeats 40000000 in
theorem rm8 (l : Launch) (Z : State) (a0 : Array Value) (hw : ∀ d ∈ tables_1, d.before a0 Z = true) (ws : List Jvm.Cond) (px : Int64) (h0 : Heap) (n0 : Nat) (Z0 : n0 ≤ h0.size)  :
    MetFree l (⟨"java/lang/Math", "abs", "(J)J"⟩ : MethodName) (head1 (Jvm.Cond.code (⟨"java/lang/Math", "abs", "(J)J"⟩ : MethodName) jdk_29_method_61_code 2 (some .long) :: ws) ({ frames := 0, cells := 0, slots := 0, locals := 0 } : Room)) (fun a U => a = #[(.long px)] ∧ Z.Warmed39 U.vm ∧ U.heap = h0) (fun _ _ _ _ _ => True) (fun _ U o U' => ∃ v L, o = .returned v ∧ (Q8 h0 n0) v U'.heap L ∧ FrameEnd U o U' L ({ frames := 0, cells := 0, slots := 0, locals := 0 } : Room).cells ({ frames := 0, cells := 0, slots := 0, locals := 0 } : Room).slots) := by
  refine MetFree.of_bodySF (Jvm.Free.JP.mathPlain rfl (by decide +kernel)) hisR ?_
  intro p e s m args below meth c s₁ Bd hml0 hP hK
  obtain ⟨rfl, hZ, hh⟩ := hP
  have hx := Bd.exec
  have hby := Bd.bytes
  have hlk : meth.locks = false := BodyLoose.notSynchronized Bd
  have hml : c.maxLocals = 2 := hml0
  have hown : s.vm.findClass "java/lang/Math" = some m.cls := findClass_of_methodNamed Bd.named
  have hnm := (name_of_methodNamed Bd.named Bd.method).1
  have X0 : Stand p l e ({ frames := 0, cells := 0, slots := 0, locals := 0 } : Room) s m #[(.long px)] below meth c s₁ [] 0 0 := Stand.of_body Bd
  have e0 : s₁.heap = h0 := by rw [← hh, Bd.state]; rfl
  have N0 := Fr.nil n0
  show Goes p e below s (Q8 h0 n0) ({ frames := 0, cells := 0, slots := 0, locals := 0 } : Room).cells ({ frames := 0, cells := 0, slots := 0, locals := 0 } : Room).slots (s₁.setTop (entryFrame m #[(.long px)] 2))
  refine Goes.by (fun t k => castTop (ef_rm8 m px) k) ?_
  show Goes p e below s _ _ _ (s₁.setTop (mkF m 0 #[.val (.long px), .second] []))
  refine Goes.by (fun t k => XS.lloadN X0.here hx rfl (hb hby d8_0) rfl k) ?_
  show Goes p e below s _ _ _ (s₁.setTop (mkF m 1 #[.val (.long px), .second] [(.long px)]))
  refine Goes.by (fun t k => XS.lconst X0.here hx rfl (hb hby d8_1) k) ?_
  show Goes p e below s _ _ _ (s₁.setTop (mkF m 2 #[.val (.long px), .second] [(.long (0 : Int64)), (.long px)]))
  refine Goes.by (fun t k => XS.lcmp X0.here hx rfl (hb hby d8_2) rfl k) ?_
  show Goes p e below s _ _ _ (s₁.setTop (mkF m 3 #[.val (.long px), .second] [(.int (lcmpW px (0 : Int64)))]))
  by_cases hc : (lcmpW px (0 : Int64)) < (0 : Int32)
  · skip
    refine Goes.by (fun t k => XS.ifNo X0.here hx rfl (hb hby d8_3) rfl ((if0 _ _).trans (tlt (hc)).2.1) k) ?_
    show Goes p e below s _ _ _ (s₁.setTop (mkF m 6 #[.val (.long px), .second] []))
    refine Goes.by (fun t k => XS.lloadN X0.here hx rfl (hb hby d8_6) rfl k) ?_
    show Goes p e below s _ _ _ (s₁.setTop (mkF m 7 #[.val (.long px), .second] [(.long px)]))
    refine Goes.by (fun t k => XS.lneg X0.here hx rfl (hb hby d8_7) rfl k) ?_
    show Goes p e below s _ _ _ (s₁.setTop (mkF m 8 #[.val (.long px), .second] [(.long (-px))]))
    refine Goes.by (fun t k => XS.goto X0.here hx rfl (pc0 := 8) (pc' := 12) rfl (hb hby d8_8) (by decide) (by decide) k) ?_
    show Goes p e below s _ _ _ (s₁.setTop (mkF m 12 #[.val (.long px), .second] [(.long (-px))]))
    exact Goes.retL X0 hx Bd.returns trivial (hb hby d8_12) hlk (by rw [e0]; exact ⟨_, rfl, N0, rfl⟩) (by decide) (by decide)
  · skip
    refine Goes.by (fun t k => XS.ifYes X0.here hx rfl (pc0 := 3) (pc' := 11) rfl (hb hby d8_3) rfl ((if0 _ _).trans (flt (hc)).2.1) (by decide) (by decide) k) ?_
    show Goes p e below s _ _ _ (s₁.setTop (mkF m 11 #[.val (.long px), .second] []))
    refine Goes.by (fun t k => XS.lloadN X0.here hx rfl (hb hby d8_11) rfl k) ?_
    show Goes p e below s _ _ _ (s₁.setTop (mkF m 12 #[.val (.long px), .second] [(.long px)]))
    exact Goes.retL X0 hx Bd.returns trivial (hb hby d8_12) hlk (by rw [e0]; exact ⟨_, rfl, N0, rfl⟩) (by decide) (by decide)
def Q7 (px py : Int64) (h0 : Heap) (n0 : Nat) (v : Option Value) (h : Heap) (L : List Loc) : Prop := v = some (.long (px * py)) ∧ Fr n0 L ∧ h = h0
theorem d7_0 : decode jdk_29_method_30_code 0 = .ok (.lload_n 0, 1) := by decide +kernel
theorem d7_1 : decode jdk_29_method_30_code 1 = .ok (.lload_n 2, 1) := by decide +kernel
theorem d7_2 : decode jdk_29_method_30_code 2 = .ok (.lmul, 1) := by decide +kernel
theorem d7_3 : decode jdk_29_method_30_code 3 = .ok (.lstore 4, 2) := by decide +kernel
theorem d7_5 : decode jdk_29_method_30_code 5 = .ok (.lload_n 0, 1) := by decide +kernel
theorem d7_6 : decode jdk_29_method_30_code 6 = .ok (.invokestatic 122, 3) := by decide +kernel
theorem d7_9 : decode jdk_29_method_30_code 9 = .ok (.lstore 6, 2) := by decide +kernel
theorem d7_11 : decode jdk_29_method_30_code 11 = .ok (.lload_n 2, 1) := by decide +kernel
theorem d7_12 : decode jdk_29_method_30_code 12 = .ok (.invokestatic 122, 3) := by decide +kernel
theorem d7_15 : decode jdk_29_method_30_code 15 = .ok (.lstore 8, 2) := by decide +kernel
theorem d7_17 : decode jdk_29_method_30_code 17 = .ok (.lload 6, 2) := by decide +kernel
theorem d7_19 : decode jdk_29_method_30_code 19 = .ok (.lload 8, 2) := by decide +kernel
theorem d7_21 : decode jdk_29_method_30_code 21 = .ok (.lor, 1) := by decide +kernel
theorem d7_22 : decode jdk_29_method_30_code 22 = .ok (.bipush 31, 2) := by decide +kernel
theorem d7_24 : decode jdk_29_method_30_code 24 = .ok (.lushr, 1) := by decide +kernel
theorem d7_25 : decode jdk_29_method_30_code 25 = .ok (.lconst 0, 1) := by decide +kernel
theorem d7_26 : decode jdk_29_method_30_code 26 = .ok (.lcmp, 1) := by decide +kernel
theorem d7_27 : decode jdk_29_method_30_code 27 = .ok (.ifCond .eq 44, 3) := by decide +kernel
theorem d7_30 : decode jdk_29_method_30_code 30 = .ok (.lload_n 2, 1) := by decide +kernel
theorem d7_31 : decode jdk_29_method_30_code 31 = .ok (.lconst 0, 1) := by decide +kernel
theorem d7_32 : decode jdk_29_method_30_code 32 = .ok (.lcmp, 1) := by decide +kernel
theorem d7_33 : decode jdk_29_method_30_code 33 = .ok (.ifCond .eq 12, 3) := by decide +kernel
theorem d7_36 : decode jdk_29_method_30_code 36 = .ok (.lload 4, 2) := by decide +kernel
theorem d7_38 : decode jdk_29_method_30_code 38 = .ok (.lload_n 2, 1) := by decide +kernel
theorem d7_39 : decode jdk_29_method_30_code 39 = .ok (.ldiv, 1) := by decide +kernel
theorem d7_40 : decode jdk_29_method_30_code 40 = .ok (.lload_n 0, 1) := by decide +kernel
theorem d7_41 : decode jdk_29_method_30_code 41 = .ok (.lcmp, 1) := by decide +kernel
theorem d7_42 : decode jdk_29_method_30_code 42 = .ok (.ifCond .ne 19, 3) := by decide +kernel
theorem d7_45 : decode jdk_29_method_30_code 45 = .ok (.lload_n 0, 1) := by decide +kernel
theorem d7_46 : decode jdk_29_method_30_code 46 = .ok (.ldc2_w 128, 3) := by decide +kernel
theorem d7_49 : decode jdk_29_method_30_code 49 = .ok (.lcmp, 1) := by decide +kernel
theorem d7_50 : decode jdk_29_method_30_code 50 = .ok (.ifCond .ne 21, 3) := by decide +kernel
theorem d7_53 : decode jdk_29_method_30_code 53 = .ok (.lload_n 2, 1) := by decide +kernel
theorem d7_54 : decode jdk_29_method_30_code 54 = .ok (.ldc2_w 130, 3) := by decide +kernel
theorem d7_57 : decode jdk_29_method_30_code 57 = .ok (.lcmp, 1) := by decide +kernel
theorem d7_58 : decode jdk_29_method_30_code 58 = .ok (.ifCond .ne 13, 3) := by decide +kernel
theorem d7_61 : decode jdk_29_method_30_code 61 = .ok (.new 109, 3) := by decide +kernel
theorem d7_64 : decode jdk_29_method_30_code 64 = .ok (.dup, 1) := by decide +kernel
theorem d7_65 : decode jdk_29_method_30_code 65 = .ok (.ldc 116, 2) := by decide +kernel
theorem d7_67 : decode jdk_29_method_30_code 67 = .ok (.invokespecial 113, 3) := by decide +kernel
theorem d7_70 : decode jdk_29_method_30_code 70 = .ok (.athrow, 1) := by decide +kernel
theorem d7_71 : decode jdk_29_method_30_code 71 = .ok (.lload 4, 2) := by decide +kernel
theorem d7_73 : decode jdk_29_method_30_code 73 = .ok (.lreturn, 1) := by decide +kernel
theorem ef_rm7 (m : MethodId) (x0 : Int64) (x1 : Int64) : entryFrame m #[(.long x0), (.long x1)] 10 = mkF m 0 #[.val (.long x0), .second, .val (.long x1), .second, .unset, .unset, .unset, .unset, .unset, .unset] [] := by first | (simp [entryFrame, mkF, argsToLocals, Value.category]; done) | rfl
set_option maxRecDepth 65536 in
set_option maxHeartbeats 40000000 in
theorem rm7 (l : Launch) (Z : State) (a0 : Array Value) (hw : ∀ d ∈ tables_1, d.before a0 Z = true) (ws : List Jvm.Cond) (px py : Int64) (h0 : Heap) (n0 : Nat) (Z0 : n0 ≤ h0.size) (hy : ¬ py = 0) (hd : px * py / py = px) (hm : ¬ px = -9223372036854775808) :
    MetFree l (⟨"java/lang/Math", "multiplyExact", "(JJ)J"⟩ : MethodName) (head1 (Jvm.Cond.code (⟨"java/lang/Math", "multiplyExact", "(JJ)J"⟩ : MethodName) jdk_29_method_30_code 10 (some .long) :: ws) ({ frames := 1, cells := 0, slots := 0, locals := 13 } : Room)) (fun a U => a = #[(.long px), (.long py)] ∧ Z.Warmed39 U.vm ∧ U.heap = h0) (fun _ _ _ _ _ => True) (fun _ U o U' => ∃ v L, o = .returned v ∧ (Q7 px py h0 n0) v U'.heap L ∧ FrameEnd U o U' L ({ frames := 1, cells := 0, slots := 0, locals := 13 } : Room).cells ({ frames := 1, cells := 0, slots := 0, locals := 13 } : Room).slots) := by
  refine MetFree.of_bodySF (Jvm.Free.JP.mathPlain rfl (by decide +kernel)) hisR ?_
  intro p e s m args below meth c s₁ Bd hml0 hP hK
  obtain ⟨rfl, hZ, hh⟩ := hP
  have hx := Bd.exec
  have hby := Bd.bytes
  have hlk : meth.locks = false := BodyLoose.notSynchronized Bd
  have hml : c.maxLocals = 10 := hml0
  have hown : s.vm.findClass "java/lang/Math" = some m.cls := findClass_of_methodNamed Bd.named
  have hnm := (name_of_methodNamed Bd.named Bd.method).1
  have X0 : Stand p l e ({ frames := 1, cells := 0, slots := 0, locals := 13 } : Room) s m #[(.long px), (.long py)] below meth c s₁ [] 0 0 := Stand.of_body Bd
  have e0 : s₁.heap = h0 := by rw [← hh, Bd.state]; rfl
  have N0 := Fr.nil n0
  show Goes p e below s (Q7 px py h0 n0) ({ frames := 1, cells := 0, slots := 0, locals := 13 } : Room).cells ({ frames := 1, cells := 0, slots := 0, locals := 13 } : Room).slots (s₁.setTop (entryFrame m #[(.long px), (.long py)] 10))
  refine Goes.by (fun t k => castTop (ef_rm7 m px py) k) ?_
  show Goes p e below s _ _ _ (s₁.setTop (mkF m 0 #[.val (.long px), .second, .val (.long py), .second, .unset, .unset, .unset, .unset, .unset, .unset] []))
  refine Goes.by (fun t k => XS.lloadN X0.here hx rfl (hb hby d7_0) rfl k) ?_
  show Goes p e below s _ _ _ (s₁.setTop (mkF m 1 #[.val (.long px), .second, .val (.long py), .second, .unset, .unset, .unset, .unset, .unset, .unset] [(.long px)]))
  refine Goes.by (fun t k => XS.lloadN X0.here hx rfl (hb hby d7_1) rfl k) ?_
  show Goes p e below s _ _ _ (s₁.setTop (mkF m 2 #[.val (.long px), .second, .val (.long py), .second, .unset, .unset, .unset, .unset, .unset, .unset] [(.long py), (.long px)]))
  refine Goes.by (fun t k => XS.lmul X0.here hx rfl (hb hby d7_2) rfl k) ?_
  show Goes p e below s _ _ _ (s₁.setTop (mkF m 3 #[.val (.long px), .second, .val (.long py), .second, .unset, .unset, .unset, .unset, .unset, .unset] [(.long (px * py))]))
  refine Goes.by (fun t k => XS.lstore X0.here hx rfl (hb hby d7_3) rfl (l' := #[.val (.long px), .second, .val (.long py), .second, .val (.long (px * py)), .second, .unset, .unset, .unset, .unset]) rfl k) ?_
  show Goes p e below s _ _ _ (s₁.setTop (mkF m 5 #[.val (.long px), .second, .val (.long py), .second, .val (.long (px * py)), .second, .unset, .unset, .unset, .unset] []))
  refine Goes.by (fun t k => XS.lloadN X0.here hx rfl (hb hby d7_5) rfl k) ?_
  show Goes p e below s _ _ _ (s₁.setTop (mkF m 6 #[.val (.long px), .second, .val (.long py), .second, .val (.long (px * py)), .second, .unset, .unset, .unset, .unset] [(.long px)]))
  obtain ⟨_, _, ⟨T1, L1, k1, n1⟩, -, X1, ⟨Lc1, hQ1, l1, y1, z1⟩, st1⟩ := Jvm.LawKit.callS X0 hx (y := (⟨"java/lang/Math", "abs", "(J)J"⟩ : MethodName)) hown (mvT hZ (hw _ (List.mem_of_getElem? (i := 37) rfl))) (mvT hZ (hw _ (List.mem_of_getElem? (i := 38) rfl))) (mvT hZ (hw _ (List.mem_of_getElem? (i := 32) rfl))) (mvT hZ (hw _ (List.mem_of_getElem? (i := 39) rfl))) (by decide) (backOf (W := 0) (rm8 l Z a0 hw [] px h0 n0 Z0) hZ (hw _ (List.mem_of_getElem? (i := 39) rfl)) (hw _ (List.mem_of_getElem? (i := 32) rfl)) (by decide) (by decide)) (g := (mkF m 6 #[.val (.long px), .second, .val (.long py), .second, .val (.long (px * py)), .second, .unset, .unset, .unset, .unset] [(.long px)])) rfl (by rw [hml]; rfl) (argsL := [(.long px)]) (rest := []) (lenOf pd_7 rfl) rfl (by show 2 * 0 + _ ≤ _; exact Nat.le_of_eq rfl) (hb hby d7_6) (fun _ _ => ⟨rfl, e0, (by decide : 0 + 0 ≤ _), (by decide : 0 + 0 ≤ _)⟩)
  dsimp only [Pt.U, Pt.locs, Pt.cells, Pt.slots] at X1 l1 y1 z1 st1 hQ1
  subst l1 y1 z1
  obtain ⟨zz1, rfl, N1q, hh1⟩ := hQ1
  have N1 := Fr.app N0 N1q
  refine Goes.by (fun t k => st1 _ k) ?_
  show Goes p e below s _ _ _ (T1.setTop (mkF m 9 #[.val (.long px), .second, .val (.long py), .second, .val (.long (px * py)), .second, .unset, .unset, .unset, .unset] [(.long zz1)]))
  have eH1 : T1.heap = h0 := hh1
  refine Goes.by (fun t k => XS.lstore X1.here hx rfl (hb hby d7_9) rfl (l' := #[.val (.long px), .second, .val (.long py), .second, .val (.long (px * py)), .second, .val (.long zz1), .second, .unset, .unset]) rfl k) ?_
  show Goes p e below s _ _ _ (T1.setTop (mkF m 11 #[.val (.long px), .second, .val (.long py), .second, .val (.long (px * py)), .second, .val (.long zz1), .second, .unset, .unset] []))
  refine Goes.by (fun t k => XS.lloadN X1.here hx rfl (hb hby d7_11) rfl k) ?_
  show Goes p e below s _ _ _ (T1.setTop (mkF m 12 #[.val (.long px), .second, .val (.long py), .second, .val (.long (px * py)), .second, .val (.long zz1), .second, .unset, .unset] [(.long py)]))
  obtain ⟨_, _, ⟨T2, L2, k2, n2⟩, -, X2, ⟨Lc2, hQ2, l2, y2, z2⟩, st2⟩ := Jvm.LawKit.callS X1 hx (y := (⟨"java/lang/Math", "abs", "(J)J"⟩ : MethodName)) hown (mvT hZ (hw _ (List.mem_of_getElem? (i := 37) rfl))) (mvT hZ (hw _ (List.mem_of_getElem? (i := 38) rfl))) (mvT hZ (hw _ (List.mem_of_getElem? (i := 32) rfl))) (mvT hZ (hw _ (List.mem_of_getElem? (i := 39) rfl))) (by decide) (backOf (W := 0) (rm8 l Z a0 hw [] py h0 n0 Z0) hZ (hw _ (List.mem_of_getElem? (i := 39) rfl)) (hw _ (List.mem_of_getElem? (i := 32) rfl)) (by decide) (by decide)) (g := (mkF m 12 #[.val (.long px), .second, .val (.long py), .second, .val (.long (px * py)), .second, .val (.long zz1), .second, .unset, .unset] [(.long py)])) rfl (by rw [hml]; rfl) (argsL := [(.long py)]) (rest := []) (lenOf pd_7 rfl) rfl (by show 2 * 0 + _ ≤ _; exact Nat.le_of_eq rfl) (hb hby d7_12) (fun _ _ => ⟨rfl, eH1, (by decide : 0 + 0 ≤ _), (by decide : 0 + 0 ≤ _)⟩)
  dsimp only [Pt.U, Pt.locs, Pt.cells, Pt.slots] at X2 l2 y2 z2 st2 hQ2
  subst l2 y2 z2
  obtain ⟨zz2, rfl, N2q, hh2⟩ := hQ2
  have N2 := Fr.app N1 N2q
  refine Goes.by (fun t k => st2 _ k) ?_
  show Goes p e below s _ _ _ (T2.setTop (mkF m 15 #[.val (.long px), .second, .val (.long py), .second, .val (.long (px * py)), .second, .val (.long zz1), .second, .unset, .unset] [(.long zz2)]))
  have eH2 : T2.heap = h0 := hh2
  refine Goes.by (fun t k => XS.lstore X2.here hx rfl (hb hby d7_15) rfl (l' := #[.val (.long px), .second, .val (.long py), .second, .val (.long (px * py)), .second, .val (.long zz1), .second, .val (.long zz2), .second]) rfl k) ?_
  show Goes p e below s _ _ _ (T2.setTop (mkF m 17 #[.val (.long px), .second, .val (.long py), .second, .val (.long (px * py)), .second, .val (.long zz1), .second, .val (.long zz2), .second] []))
  refine Goes.by (fun t k => XS.lload X2.here hx rfl (hb hby d7_17) rfl k) ?_
  show Goes p e below s _ _ _ (T2.setTop (mkF m 19 #[.val (.long px), .second, .val (.long py), .second, .val (.long (px * py)), .second, .val (.long zz1), .second, .val (.long zz2), .second] [(.long zz1)]))
  refine Goes.by (fun t k => XS.lload X2.here hx rfl (hb hby d7_19) rfl k) ?_
  show Goes p e below s _ _ _ (T2.setTop (mkF m 21 #[.val (.long px), .second, .val (.long py), .second, .val (.long (px * py)), .second, .val (.long zz1), .second, .val (.long zz2), .second] [(.long zz2), (.long zz1)]))
  refine Goes.by (fun t k => XS.lor X2.here hx rfl (hb hby d7_21) rfl k) ?_
  show Goes p e below s _ _ _ (T2.setTop (mkF m 22 #[.val (.long px), .second, .val (.long py), .second, .val (.long (px * py)), .second, .val (.long zz1), .second, .val (.long zz2), .second] [(.long (zz1 ||| zz2))]))
  refine Goes.by (fun t k => XS.bipush X2.here hx rfl (hb hby d7_22) k) ?_
  show Goes p e below s _ _ _ (T2.setTop (mkF m 24 #[.val (.long px), .second, .val (.long py), .second, .val (.long (px * py)), .second, .val (.long zz1), .second, .val (.long zz2), .second] [(.int (31 : Int32)), (.long (zz1 ||| zz2))]))
  refine Goes.by (fun t k => XS.lushr X2.here hx rfl (hb hby d7_24) rfl k) ?_
  show Goes p e below s _ _ _ (T2.setTop (mkF m 25 #[.val (.long px), .second, .val (.long py), .second, .val (.long (px * py)), .second, .val (.long zz1), .second, .val (.long zz2), .second] [(.long (((zz1 ||| zz2).toUInt64 >>> ((31 : Int32) &&& 0x3f).toInt64.toUInt64).toInt64))]))
  refine Goes.by (fun t k => XS.lconst X2.here hx rfl (hb hby d7_25) k) ?_
  show Goes p e below s _ _ _ (T2.setTop (mkF m 26 #[.val (.long px), .second, .val (.long py), .second, .val (.long (px * py)), .second, .val (.long zz1), .second, .val (.long zz2), .second] [(.long (0 : Int64)), (.long (((zz1 ||| zz2).toUInt64 >>> ((31 : Int32) &&& 0x3f).toInt64.toUInt64).toInt64))]))
  refine Goes.by (fun t k => XS.lcmp X2.here hx rfl (hb hby d7_26) rfl k) ?_
  show Goes p e below s _ _ _ (T2.setTop (mkF m 27 #[.val (.long px), .second, .val (.long py), .second, .val (.long (px * py)), .second, .val (.long zz1), .second, .val (.long zz2), .second] [(.int (lcmpW (((zz1 ||| zz2).toUInt64 >>> ((31 : Int32) &&& 0x3f).toInt64.toUInt64).toInt64) (0 : Int64)))]))
  by_cases hc : (lcmpW (((zz1 ||| zz2).toUInt64 >>> ((31 : Int32) &&& 0x3f).toInt64.toUInt64).toInt64) (0 : Int64)) = (0 : Int32)
  · skip
    refine Goes.by (fun t k => XS.ifYes X2.here hx rfl (pc0 := 27) (pc' := 71) rfl (hb hby d7_27) rfl ((if0 _ _).trans (teq (hc)).1) (by decide) (by decide) k) ?_
    show Goes p e below s _ _ _ (T2.setTop (mkF m 71 #[.val (.long px), .second, .val (.long py), .second, .val (.long (px * py)), .second, .val (.long zz1), .second, .val (.long zz2), .second] []))
    refine Goes.by (fun t k => XS.lload X2.here hx rfl (hb hby d7_71) rfl k) ?_
    show Goes p e below s _ _ _ (T2.setTop (mkF m 73 #[.val (.long px), .second, .val (.long py), .second, .val (.long (px * py)), .second, .val (.long zz1), .second, .val (.long zz2), .second] [(.long (px * py))]))
    exact Goes.retL X2 hx Bd.returns trivial (hb hby d7_73) hlk (by rw [eH2]; exact ⟨rfl, N2, rfl⟩) (by decide) (by decide)
  · skip
    refine Goes.by (fun t k => XS.ifNo X2.here hx rfl (hb hby d7_27) rfl ((if0 _ _).trans (feq (hc)).1) k) ?_
    show Goes p e below s _ _ _ (T2.setTop (mkF m 30 #[.val (.long px), .second, .val (.long py), .second, .val (.long (px * py)), .second, .val (.long zz1), .second, .val (.long zz2), .second] []))
    refine Goes.by (fun t k => XS.lloadN X2.here hx rfl (hb hby d7_30) rfl k) ?_
    show Goes p e below s _ _ _ (T2.setTop (mkF m 31 #[.val (.long px), .second, .val (.long py), .second, .val (.long (px * py)), .second, .val (.long zz1), .second, .val (.long zz2), .second] [(.long py)]))
    refine Goes.by (fun t k => XS.lconst X2.here hx rfl (hb hby d7_31) k) ?_
    show Goes p e below s _ _ _ (T2.setTop (mkF m 32 #[.val (.long px), .second, .val (.long py), .second, .val (.long (px * py)), .second, .val (.long zz1), .second, .val (.long zz2), .second] [(.long (0 : Int64)), (.long py)]))
    refine Goes.by (fun t k => XS.lcmp X2.here hx rfl (hb hby d7_32) rfl k) ?_
    show Goes p e below s _ _ _ (T2.setTop (mkF m 33 #[.val (.long px), .second, .val (.long py), .second, .val (.long (px * py)), .second, .val (.long zz1), .second, .val (.long zz2), .second] [(.int (lcmpW py (0 : Int64)))]))
    refine Goes.by (fun t k => XS.ifNo X2.here hx rfl (hb hby d7_33) rfl ((if0 _ _).trans (feq (fun h => hy ((lw_eq _ _).mp h))).1) k) ?_
    show Goes p e below s _ _ _ (T2.setTop (mkF m 36 #[.val (.long px), .second, .val (.long py), .second, .val (.long (px * py)), .second, .val (.long zz1), .second, .val (.long zz2), .second] []))
    refine Goes.by (fun t k => XS.lload X2.here hx rfl (hb hby d7_36) rfl k) ?_
    show Goes p e below s _ _ _ (T2.setTop (mkF m 38 #[.val (.long px), .second, .val (.long py), .second, .val (.long (px * py)), .second, .val (.long zz1), .second, .val (.long zz2), .second] [(.long (px * py))]))
    refine Goes.by (fun t k => XS.lloadN X2.here hx rfl (hb hby d7_38) rfl k) ?_
    show Goes p e below s _ _ _ (T2.setTop (mkF m 39 #[.val (.long px), .second, .val (.long py), .second, .val (.long (px * py)), .second, .val (.long zz1), .second, .val (.long zz2), .second] [(.long py), (.long (px * py))]))
    refine Goes.by (fun t k => XS.ldiv X2.here hx rfl (hb hby d7_39) rfl (hy) k) ?_
    show Goes p e below s _ _ _ (T2.setTop (mkF m 40 #[.val (.long px), .second, .val (.long py), .second, .val (.long (px * py)), .second, .val (.long zz1), .second, .val (.long zz2), .second] [(.long ((px * py) / py))]))
    refine Goes.by (fun t k => XS.lloadN X2.here hx rfl (hb hby d7_40) rfl k) ?_
    show Goes p e below s _ _ _ (T2.setTop (mkF m 41 #[.val (.long px), .second, .val (.long py), .second, .val (.long (px * py)), .second, .val (.long zz1), .second, .val (.long zz2), .second] [(.long px), (.long ((px * py) / py))]))
    refine Goes.by (fun t k => XS.lcmp X2.here hx rfl (hb hby d7_41) rfl k) ?_
    show Goes p e below s _ _ _ (T2.setTop (mkF m 42 #[.val (.long px), .second, .val (.long py), .second, .val (.long (px * py)), .second, .val (.long zz1), .second, .val (.long zz2), .second] [(.int (lcmpW ((px * py) / py) px))]))
    refine Goes.by (fun t k => XS.ifNo X2.here hx rfl (hb hby d7_42) rfl ((if0 _ _).trans (teq ((lw_eq _ _).mpr hd)).2) k) ?_
    show Goes p e below s _ _ _ (T2.setTop (mkF m 45 #[.val (.long px), .second, .val (.long py), .second, .val (.long (px * py)), .second, .val (.long zz1), .second, .val (.long zz2), .second] []))
    refine Goes.by (fun t k => XS.lloadN X2.here hx rfl (hb hby d7_45) rfl k) ?_
    show Goes p e below s _ _ _ (T2.setTop (mkF m 46 #[.val (.long px), .second, .val (.long py), .second, .val (.long (px * py)), .second, .val (.long zz1), .second, .val (.long zz2), .second] [(.long px)]))
    refine Goes.by (fun t k => X2.ldc2Long hx hown (mvT hZ (hw _ (List.mem_of_getElem? (i := 150) rfl))) (g := (mkF m 46 #[.val (.long px), .second, .val (.long py), .second, .val (.long (px * py)), .second, .val (.long zz1), .second, .val (.long zz2), .second] [(.long px)])) rfl (hb hby d7_46) _ k) ?_
    show Goes p e below s _ _ _ (T2.setTop (mkF m 49 #[.val (.long px), .second, .val (.long py), .second, .val (.long (px * py)), .second, .val (.long zz1), .second, .val (.long zz2), .second] [(.long (-9223372036854775808 : Int64)), (.long px)]))
    refine Goes.by (fun t k => XS.lcmp X2.here hx rfl (hb hby d7_49) rfl k) ?_
    show Goes p e below s _ _ _ (T2.setTop (mkF m 50 #[.val (.long px), .second, .val (.long py), .second, .val (.long (px * py)), .second, .val (.long zz1), .second, .val (.long zz2), .second] [(.int (lcmpW px (-9223372036854775808 : Int64)))]))
    refine Goes.by (fun t k => XS.ifYes X2.here hx rfl (pc0 := 50) (pc' := 71) rfl (hb hby d7_50) rfl ((if0 _ _).trans (feq (fun h => hm ((lw_eq _ _).mp h))).2) (by decide) (by decide) k) ?_
    show Goes p e below s _ _ _ (T2.setTop (mkF m 71 #[.val (.long px), .second, .val (.long py), .second, .val (.long (px * py)), .second, .val (.long zz1), .second, .val (.long zz2), .second] []))
    refine Goes.by (fun t k => XS.lload X2.here hx rfl (hb hby d7_71) rfl k) ?_
    show Goes p e below s _ _ _ (T2.setTop (mkF m 73 #[.val (.long px), .second, .val (.long py), .second, .val (.long (px * py)), .second, .val (.long zz1), .second, .val (.long zz2), .second] [(.long (px * py))]))
    exact Goes.retL X2 hx Bd.returns trivial (hb hby d7_73) hlk (by rw [eH2]; exact ⟨rfl, N2, rfl⟩) (by decide) (by decide)
def Q6 (px : Int64) (py : Int32) (h0 : Heap) (n0 : Nat) (v : Option Value) (h : Heap) (L : List Loc) : Prop := v = some (.long (px * py.toInt64)) ∧ Fr n0 L ∧ h = h0
theorem d6_0 : decode jdk_29_method_29_code 0 = .ok (.lload_n 0, 1) := by decide +kernel
theorem d6_1 : decode jdk_29_method_29_code 1 = .ok (.iload_n 2, 1) := by decide +kernel
theorem d6_2 : decode jdk_29_method_29_code 2 = .ok (.i2l, 1) := by decide +kernel
theorem d6_3 : decode jdk_29_method_29_code 3 = .ok (.invokestatic 118, 3) := by decide +kernel
theorem d6_6 : decode jdk_29_method_29_code 6 = .ok (.lreturn, 1) := by decide +kernel
theorem ef_rm6 (m : MethodId) (x0 : Int64) (x1 : Int32) : entryFrame m #[(.long x0), (.int x1)] 3 = mkF m 0 #[.val (.long x0), .second, .val (.int x1)] [] := by first | (simp [entryFrame, mkF, argsToLocals, Value.category]; done) | rfl
set_option maxRecDepth 65536 in
set_option maxHeartbeats 40000000 in
theorem rm6 (l : Launch) (Z : State) (a0 : Array Value) (hw : ∀ d ∈ tables_1, d.before a0 Z = true) (ws : List Jvm.Cond) (px : Int64) (py : Int32) (h0 : Heap) (n0 : Nat) (Z0 : n0 ≤ h0.size) (hy : ¬ py.toInt64 = 0) (hd : px * py.toInt64 / py.toInt64 = px) (hm : ¬ px = -9223372036854775808) :
    MetFree l (⟨"java/lang/Math", "multiplyExact", "(JI)J"⟩ : MethodName) (head1 (Jvm.Cond.code (⟨"java/lang/Math", "multiplyExact", "(JI)J"⟩ : MethodName) jdk_29_method_29_code 3 (some .long) :: ws) ({ frames := 2, cells := 0, slots := 0, locals := 34 } : Room)) (fun a U => a = #[(.long px), (.int py)] ∧ Z.Warmed39 U.vm ∧ U.heap = h0) (fun _ _ _ _ _ => True) (fun _ U o U' => ∃ v L, o = .returned v ∧ (Q6 px py h0 n0) v U'.heap L ∧ FrameEnd U o U' L ({ frames := 2, cells := 0, slots := 0, locals := 34 } : Room).cells ({ frames := 2, cells := 0, slots := 0, locals := 34 } : Room).slots) := by
  refine MetFree.of_bodySF (Jvm.Free.JP.mathPlain rfl (by decide +kernel)) hisR ?_
  intro p e s m args below meth c s₁ Bd hml0 hP hK
  obtain ⟨rfl, hZ, hh⟩ := hP
  have hx := Bd.exec
  have hby := Bd.bytes
  have hlk : meth.locks = false := BodyLoose.notSynchronized Bd
  have hml : c.maxLocals = 3 := hml0
  have hown : s.vm.findClass "java/lang/Math" = some m.cls := findClass_of_methodNamed Bd.named
  have hnm := (name_of_methodNamed Bd.named Bd.method).1
  have X0 : Stand p l e ({ frames := 2, cells := 0, slots := 0, locals := 34 } : Room) s m #[(.long px), (.int py)] below meth c s₁ [] 0 0 := Stand.of_body Bd
  have e0 : s₁.heap = h0 := by rw [← hh, Bd.state]; rfl
  have N0 := Fr.nil n0
  show Goes p e below s (Q6 px py h0 n0) ({ frames := 2, cells := 0, slots := 0, locals := 34 } : Room).cells ({ frames := 2, cells := 0, slots := 0, locals := 34 } : Room).slots (s₁.setTop (entryFrame m #[(.long px), (.int py)] 3))
  refine Goes.by (fun t k => castTop (ef_rm6 m px py) k) ?_
  show Goes p e below s _ _ _ (s₁.setTop (mkF m 0 #[.val (.long px), .second, .val (.int py)] []))
  refine Goes.by (fun t k => XS.lloadN X0.here hx rfl (hb hby d6_0) rfl k) ?_
  show Goes p e below s _ _ _ (s₁.setTop (mkF m 1 #[.val (.long px), .second, .val (.int py)] [(.long px)]))
  refine Goes.by (fun t k => XS.iloadN X0.here hx rfl (hb hby d6_1) rfl k) ?_
  show Goes p e below s _ _ _ (s₁.setTop (mkF m 2 #[.val (.long px), .second, .val (.int py)] [(.int py), (.long px)]))
  refine Goes.by (fun t k => XS.i2l X0.here hx rfl (hb hby d6_2) rfl k) ?_
  show Goes p e below s _ _ _ (s₁.setTop (mkF m 3 #[.val (.long px), .second, .val (.int py)] [(.long (py.toInt64)), (.long px)]))
  obtain ⟨_, _, ⟨T1, L1, k1, n1⟩, -, X1, ⟨Lc1, hQ1, l1, y1, z1⟩, st1⟩ := Jvm.LawKit.callS X0 hx (y := (⟨"java/lang/Math", "multiplyExact", "(JJ)J"⟩ : MethodName)) hown (mvT hZ (hw _ (List.mem_of_getElem? (i := 34) rfl))) (mvT hZ (hw _ (List.mem_of_getElem? (i := 35) rfl))) (mvT hZ (hw _ (List.mem_of_getElem? (i := 32) rfl))) (mvT hZ (hw _ (List.mem_of_getElem? (i := 36) rfl))) (by decide) (backOf (W := 0) (rm7 l Z a0 hw [] px py.toInt64 h0 n0 Z0 hy hd hm) hZ (hw _ (List.mem_of_getElem? (i := 36) rfl)) (hw _ (List.mem_of_getElem? (i := 32) rfl)) (by decide) (by decide)) (g := (mkF m 3 #[.val (.long px), .second, .val (.int py)] [(.long (py.toInt64)), (.long px)])) rfl (by rw [hml]; rfl) (argsL := [(.long px), (.long (py.toInt64))]) (rest := []) (lenOf pd_6 rfl) rfl (by show 2 * 0 + _ ≤ _; exact Nat.le_of_eq rfl) (hb hby d6_3) (fun _ _ => ⟨rfl, e0, (by decide : 0 + 0 ≤ _), (by decide : 0 + 0 ≤ _)⟩)
  dsimp only [Pt.U, Pt.locs, Pt.cells, Pt.slots] at X1 l1 y1 z1 st1 hQ1
  subst l1 y1 z1
  obtain ⟨rfl, N1q, hh1⟩ := hQ1
  have N1 := Fr.app N0 N1q
  refine Goes.by (fun t k => st1 _ k) ?_
  show Goes p e below s _ _ _ (T1.setTop (mkF m 6 #[.val (.long px), .second, .val (.int py)] [(.long (px * py.toInt64))]))
  exact Goes.retL X1 hx Bd.returns trivial (hb hby d6_6) hlk (by exact ⟨rfl, N1, hh1⟩) (by decide) (by decide)
def Q18 (px py : Int64) (h0 : Heap) (n0 : Nat) (v : Option Value) (h : Heap) (L : List Loc) : Prop := v = some (.long (px + py)) ∧ Fr n0 L ∧ h = h0
theorem d18_0 : decode jdk_29_method_25_code 0 = .ok (.lload_n 0, 1) := by decide +kernel
theorem d18_1 : decode jdk_29_method_25_code 1 = .ok (.lload_n 2, 1) := by decide +kernel
theorem d18_2 : decode jdk_29_method_25_code 2 = .ok (.ladd, 1) := by decide +kernel
theorem d18_3 : decode jdk_29_method_25_code 3 = .ok (.lstore 4, 2) := by decide +kernel
theorem d18_5 : decode jdk_29_method_25_code 5 = .ok (.lload_n 0, 1) := by decide +kernel
theorem d18_6 : decode jdk_29_method_25_code 6 = .ok (.lload 4, 2) := by decide +kernel
theorem d18_8 : decode jdk_29_method_25_code 8 = .ok (.lxor, 1) := by decide +kernel
theorem d18_9 : decode jdk_29_method_25_code 9 = .ok (.lload_n 2, 1) := by decide +kernel
theorem d18_10 : decode jdk_29_method_25_code 10 = .ok (.lload 4, 2) := by decide +kernel
theorem d18_12 : decode jdk_29_method_25_code 12 = .ok (.lxor, 1) := by decide +kernel
theorem d18_13 : decode jdk_29_method_25_code 13 = .ok (.land, 1) := by decide +kernel
theorem d18_14 : decode jdk_29_method_25_code 14 = .ok (.lconst 0, 1) := by decide +kernel
theorem d18_15 : decode jdk_29_method_25_code 15 = .ok (.lcmp, 1) := by decide +kernel
theorem d18_16 : decode jdk_29_method_25_code 16 = .ok (.ifCond .ge 13, 3) := by decide +kernel
theorem d18_19 : decode jdk_29_method_25_code 19 = .ok (.new 109, 3) := by decide +kernel
theorem d18_22 : decode jdk_29_method_25_code 22 = .ok (.dup, 1) := by decide +kernel
theorem d18_23 : decode jdk_29_method_25_code 23 = .ok (.ldc 116, 2) := by decide +kernel
theorem d18_25 : decode jdk_29_method_25_code 25 = .ok (.invokespecial 113, 3) := by decide +kernel
theorem d18_28 : decode jdk_29_method_25_code 28 = .ok (.athrow, 1) := by decide +kernel
theorem d18_29 : decode jdk_29_method_25_code 29 = .ok (.lload 4, 2) := by decide +kernel
theorem d18_31 : decode jdk_29_method_25_code 31 = .ok (.lreturn, 1) := by decide +kernel
theorem ef_rm18 (m : MethodId) (x0 : Int64) (x1 : Int64) : entryFrame m #[(.long x0), (.long x1)] 6 = mkF m 0 #[.val (.long x0), .second, .val (.long x1), .second, .unset, .unset] [] := by first | (simp [entryFrame, mkF, argsToLocals, Value.category]; done) | rfl
set_option maxRecDepth 65536 in
set_option maxHeartbeats 40000000 in
theorem rm18 (l : Launch) (Z : State) (a0 : Array Value) (hw : ∀ d ∈ tables_1, d.before a0 Z = true) (ws : List Jvm.Cond) (px py : Int64) (h0 : Heap) (n0 : Nat) (Z0 : n0 ≤ h0.size) (ho : (px + py).toInt = px.toInt + py.toInt) :
    MetFree l (⟨"java/lang/Math", "addExact", "(JJ)J"⟩ : MethodName) (head1 (Jvm.Cond.code (⟨"java/lang/Math", "addExact", "(JJ)J"⟩ : MethodName) jdk_29_method_25_code 6 (some .long) :: ws) ({ frames := 0, cells := 0, slots := 0, locals := 0 } : Room)) (fun a U => a = #[(.long px), (.long py)] ∧ Z.Warmed39 U.vm ∧ U.heap = h0) (fun _ _ _ _ _ => True) (fun _ U o U' => ∃ v L, o = .returned v ∧ (Q18 px py h0 n0) v U'.heap L ∧ FrameEnd U o U' L ({ frames := 0, cells := 0, slots := 0, locals := 0 } : Room).cells ({ frames := 0, cells := 0, slots := 0, locals := 0 } : Room).slots) := by
  refine MetFree.of_bodySF (Jvm.Free.JP.mathPlain rfl (by decide +kernel)) hisR ?_
  intro p e s m args below meth c s₁ Bd hml0 hP hK
  obtain ⟨rfl, hZ, hh⟩ := hP
  have hx := Bd.exec
  have hby := Bd.bytes
  have hlk : meth.locks = false := BodyLoose.notSynchronized Bd
  have hml : c.maxLocals = 6 := hml0
  have hown : s.vm.findClass "java/lang/Math" = some m.cls := findClass_of_methodNamed Bd.named
  have hnm := (name_of_methodNamed Bd.named Bd.method).1
  have X0 : Stand p l e ({ frames := 0, cells := 0, slots := 0, locals := 0 } : Room) s m #[(.long px), (.long py)] below meth c s₁ [] 0 0 := Stand.of_body Bd
  have e0 : s₁.heap = h0 := by rw [← hh, Bd.state]; rfl
  have N0 := Fr.nil n0
  show Goes p e below s (Q18 px py h0 n0) ({ frames := 0, cells := 0, slots := 0, locals := 0 } : Room).cells ({ frames := 0, cells := 0, slots := 0, locals := 0 } : Room).slots (s₁.setTop (entryFrame m #[(.long px), (.long py)] 6))
  refine Goes.by (fun t k => castTop (ef_rm18 m px py) k) ?_
  show Goes p e below s _ _ _ (s₁.setTop (mkF m 0 #[.val (.long px), .second, .val (.long py), .second, .unset, .unset] []))
  refine Goes.by (fun t k => XS.lloadN X0.here hx rfl (hb hby d18_0) rfl k) ?_
  show Goes p e below s _ _ _ (s₁.setTop (mkF m 1 #[.val (.long px), .second, .val (.long py), .second, .unset, .unset] [(.long px)]))
  refine Goes.by (fun t k => XS.lloadN X0.here hx rfl (hb hby d18_1) rfl k) ?_
  show Goes p e below s _ _ _ (s₁.setTop (mkF m 2 #[.val (.long px), .second, .val (.long py), .second, .unset, .unset] [(.long py), (.long px)]))
  refine Goes.by (fun t k => XS.ladd X0.here hx rfl (hb hby d18_2) rfl k) ?_
  show Goes p e below s _ _ _ (s₁.setTop (mkF m 3 #[.val (.long px), .second, .val (.long py), .second, .unset, .unset] [(.long (px + py))]))
  refine Goes.by (fun t k => XS.lstore X0.here hx rfl (hb hby d18_3) rfl (l' := #[.val (.long px), .second, .val (.long py), .second, .val (.long (px + py)), .second]) rfl k) ?_
  show Goes p e below s _ _ _ (s₁.setTop (mkF m 5 #[.val (.long px), .second, .val (.long py), .second, .val (.long (px + py)), .second] []))
  refine Goes.by (fun t k => XS.lloadN X0.here hx rfl (hb hby d18_5) rfl k) ?_
  show Goes p e below s _ _ _ (s₁.setTop (mkF m 6 #[.val (.long px), .second, .val (.long py), .second, .val (.long (px + py)), .second] [(.long px)]))
  refine Goes.by (fun t k => XS.lload X0.here hx rfl (hb hby d18_6) rfl k) ?_
  show Goes p e below s _ _ _ (s₁.setTop (mkF m 8 #[.val (.long px), .second, .val (.long py), .second, .val (.long (px + py)), .second] [(.long (px + py)), (.long px)]))
  refine Goes.by (fun t k => XS.lxor X0.here hx rfl (hb hby d18_8) rfl k) ?_
  show Goes p e below s _ _ _ (s₁.setTop (mkF m 9 #[.val (.long px), .second, .val (.long py), .second, .val (.long (px + py)), .second] [(.long (px ^^^ (px + py)))]))
  refine Goes.by (fun t k => XS.lloadN X0.here hx rfl (hb hby d18_9) rfl k) ?_
  show Goes p e below s _ _ _ (s₁.setTop (mkF m 10 #[.val (.long px), .second, .val (.long py), .second, .val (.long (px + py)), .second] [(.long py), (.long (px ^^^ (px + py)))]))
  refine Goes.by (fun t k => XS.lload X0.here hx rfl (hb hby d18_10) rfl k) ?_
  show Goes p e below s _ _ _ (s₁.setTop (mkF m 12 #[.val (.long px), .second, .val (.long py), .second, .val (.long (px + py)), .second] [(.long (px + py)), (.long py), (.long (px ^^^ (px + py)))]))
  refine Goes.by (fun t k => XS.lxor X0.here hx rfl (hb hby d18_12) rfl k) ?_
  show Goes p e below s _ _ _ (s₁.setTop (mkF m 13 #[.val (.long px), .second, .val (.long py), .second, .val (.long (px + py)), .second] [(.long (py ^^^ (px + py))), (.long (px ^^^ (px + py)))]))
  refine Goes.by (fun t k => XS.land X0.here hx rfl (hb hby d18_13) rfl k) ?_
  show Goes p e below s _ _ _ (s₁.setTop (mkF m 14 #[.val (.long px), .second, .val (.long py), .second, .val (.long (px + py)), .second] [(.long ((px ^^^ (px + py)) &&& (py ^^^ (px + py))))]))
  refine Goes.by (fun t k => XS.lconst X0.here hx rfl (hb hby d18_14) k) ?_
  show Goes p e below s _ _ _ (s₁.setTop (mkF m 15 #[.val (.long px), .second, .val (.long py), .second, .val (.long (px + py)), .second] [(.long (0 : Int64)), (.long ((px ^^^ (px + py)) &&& (py ^^^ (px + py))))]))
  refine Goes.by (fun t k => XS.lcmp X0.here hx rfl (hb hby d18_15) rfl k) ?_
  show Goes p e below s _ _ _ (s₁.setTop (mkF m 16 #[.val (.long px), .second, .val (.long py), .second, .val (.long (px + py)), .second] [(.int (lcmpW ((px ^^^ (px + py)) &&& (py ^^^ (px + py))) (0 : Int64)))]))
  refine Goes.by (fun t k => XS.ifYes X0.here hx rfl (pc0 := 16) (pc' := 29) rfl (hb hby d18_16) rfl ((if0 _ _).trans (flt (fun h => own_add px py ho ((lw_lt _ _).mp h))).2.1) (by decide) (by decide) k) ?_
  show Goes p e below s _ _ _ (s₁.setTop (mkF m 29 #[.val (.long px), .second, .val (.long py), .second, .val (.long (px + py)), .second] []))
  refine Goes.by (fun t k => XS.lload X0.here hx rfl (hb hby d18_29) rfl k) ?_
  show Goes p e below s _ _ _ (s₁.setTop (mkF m 31 #[.val (.long px), .second, .val (.long py), .second, .val (.long (px + py)), .second] [(.long (px + py))]))
  exact Goes.retL X0 hx Bd.returns trivial (hb hby d18_31) hlk (by rw [e0]; exact ⟨rfl, N0, rfl⟩) (by decide) (by decide)
def Q20 (px : Int64) (h0 : Heap) (n0 : Nat) (v : Option Value) (h : Heap) (L : List Loc) : Prop := ∃ z : Int64, v = some (.long z) ∧ Fr n0 L ∧ h = h0 ∧ z.toInt = px.toInt / 1000000000
theorem d20_0 : decode jdk_29_method_49_code 0 = .ok (.lload_n 0, 1) := by decide +kernel
theorem d20_1 : decode jdk_29_method_49_code 1 = .ok (.lload_n 2, 1) := by decide +kernel
theorem d20_2 : decode jdk_29_method_49_code 2 = .ok (.ldiv, 1) := by decide +kernel
theorem d20_3 : decode jdk_29_method_49_code 3 = .ok (.lstore 4, 2) := by decide +kernel
theorem d20_5 : decode jdk_29_method_49_code 5 = .ok (.lload_n 0, 1) := by decide +kernel
theorem d20_6 : decode jdk_29_method_49_code 6 = .ok (.lload_n 2, 1) := by decide +kernel
theorem d20_7 : decode jdk_29_method_49_code 7 = .ok (.lxor, 1) := by decide +kernel
theorem d20_8 : decode jdk_29_method_49_code 8 = .ok (.lconst 0, 1) := by decide +kernel
theorem d20_9 : decode jdk_29_method_49_code 9 = .ok (.lcmp, 1) := by decide +kernel
theorem d20_10 : decode jdk_29_method_49_code 10 = .ok (.ifCond .ge 17, 3) := by decide +kernel
theorem d20_13 : decode jdk_29_method_49_code 13 = .ok (.lload 4, 2) := by decide +kernel
theorem d20_15 : decode jdk_29_method_49_code 15 = .ok (.lload_n 2, 1) := by decide +kernel
theorem d20_16 : decode jdk_29_method_49_code 16 = .ok (.lmul, 1) := by decide +kernel
theorem d20_17 : decode jdk_29_method_49_code 17 = .ok (.lload_n 0, 1) := by decide +kernel
theorem d20_18 : decode jdk_29_method_49_code 18 = .ok (.lcmp, 1) := by decide +kernel
theorem d20_19 : decode jdk_29_method_49_code 19 = .ok (.ifCond .eq 8, 3) := by decide +kernel
theorem d20_22 : decode jdk_29_method_49_code 22 = .ok (.lload 4, 2) := by decide +kernel
theorem d20_24 : decode jdk_29_method_49_code 24 = .ok (.lconst 1, 1) := by decide +kernel
theorem d20_25 : decode jdk_29_method_49_code 25 = .ok (.lsub, 1) := by decide +kernel
theorem d20_26 : decode jdk_29_method_49_code 26 = .ok (.lreturn, 1) := by decide +kernel
theorem d20_27 : decode jdk_29_method_49_code 27 = .ok (.lload 4, 2) := by decide +kernel
theorem d20_29 : decode jdk_29_method_49_code 29 = .ok (.lreturn, 1) := by decide +kernel
theorem ef_rm20 (m : MethodId) (x0 : Int64) (x1 : Int64) : entryFrame m #[(.long x0), (.long x1)] 6 = mkF m 0 #[.val (.long x0), .second, .val (.long x1), .second, .unset, .unset] [] := by first | (simp [entryFrame, mkF, argsToLocals, Value.category]; done) | rfl
set_option maxRecDepth 65536 in
set_option maxHeartbeats 40000000 in
theorem rm20 (l : Launch) (Z : State) (a0 : Array Value) (hw : ∀ d ∈ tables_1, d.before a0 Z = true) (ws : List Jvm.Cond) (px : Int64) (h0 : Heap) (n0 : Nat) (Z0 : n0 ≤ h0.size)  :
    MetFree l (⟨"java/lang/Math", "floorDiv", "(JJ)J"⟩ : MethodName) (head1 (Jvm.Cond.code (⟨"java/lang/Math", "floorDiv", "(JJ)J"⟩ : MethodName) jdk_29_method_49_code 6 (some .long) :: ws) ({ frames := 0, cells := 0, slots := 0, locals := 0 } : Room)) (fun a U => a = #[(.long px), (.long (1000000000 : Int64))] ∧ Z.Warmed39 U.vm ∧ U.heap = h0) (fun _ _ _ _ _ => True) (fun _ U o U' => ∃ v L, o = .returned v ∧ (Q20 px h0 n0) v U'.heap L ∧ FrameEnd U o U' L ({ frames := 0, cells := 0, slots := 0, locals := 0 } : Room).cells ({ frames := 0, cells := 0, slots := 0, locals := 0 } : Room).slots) := by
  refine MetFree.of_bodySF (Jvm.Free.JP.mathPlain rfl (by decide +kernel)) hisR ?_
  intro p e s m args below meth c s₁ Bd hml0 hP hK
  obtain ⟨rfl, hZ, hh⟩ := hP
  have hx := Bd.exec
  have hby := Bd.bytes
  have hlk : meth.locks = false := BodyLoose.notSynchronized Bd
  have hml : c.maxLocals = 6 := hml0
  have hown : s.vm.findClass "java/lang/Math" = some m.cls := findClass_of_methodNamed Bd.named
  have hnm := (name_of_methodNamed Bd.named Bd.method).1
  have X0 : Stand p l e ({ frames := 0, cells := 0, slots := 0, locals := 0 } : Room) s m #[(.long px), (.long (1000000000 : Int64))] below meth c s₁ [] 0 0 := Stand.of_body Bd
  have e0 : s₁.heap = h0 := by rw [← hh, Bd.state]; rfl
  have N0 := Fr.nil n0
  show Goes p e below s (Q20 px h0 n0) ({ frames := 0, cells := 0, slots := 0, locals := 0 } : Room).cells ({ frames := 0, cells := 0, slots := 0, locals := 0 } : Room).slots (s₁.setTop (entryFrame m #[(.long px), (.long (1000000000 : Int64))] 6))
  refine Goes.by (fun t k => castTop (ef_rm20 m px (1000000000 : Int64)) k) ?_
  show Goes p e below s _ _ _ (s₁.setTop (mkF m 0 #[.val (.long px), .second, .val (.long (1000000000 : Int64)), .second, .unset, .unset] []))
  refine Goes.by (fun t k => XS.lloadN X0.here hx rfl (hb hby d20_0) rfl k) ?_
  show Goes p e below s _ _ _ (s₁.setTop (mkF m 1 #[.val (.long px), .second, .val (.long (1000000000 : Int64)), .second, .unset, .unset] [(.long px)]))
  refine Goes.by (fun t k => XS.lloadN X0.here hx rfl (hb hby d20_1) rfl k) ?_
  show Goes p e below s _ _ _ (s₁.setTop (mkF m 2 #[.val (.long px), .second, .val (.long (1000000000 : Int64)), .second, .unset, .unset] [(.long (1000000000 : Int64)), (.long px)]))
  refine Goes.by (fun t k => XS.ldiv X0.here hx rfl (hb hby d20_2) rfl (by decide) k) ?_
  show Goes p e below s _ _ _ (s₁.setTop (mkF m 3 #[.val (.long px), .second, .val (.long (1000000000 : Int64)), .second, .unset, .unset] [(.long (px / (1000000000 : Int64)))]))
  refine Goes.by (fun t k => XS.lstore X0.here hx rfl (hb hby d20_3) rfl (l' := #[.val (.long px), .second, .val (.long (1000000000 : Int64)), .second, .val (.long (px / (1000000000 : Int64))), .second]) rfl k) ?_
  show Goes p e below s _ _ _ (s₁.setTop (mkF m 5 #[.val (.long px), .second, .val (.long (1000000000 : Int64)), .second, .val (.long (px / (1000000000 : Int64))), .second] []))
  refine Goes.by (fun t k => XS.lloadN X0.here hx rfl (hb hby d20_5) rfl k) ?_
  show Goes p e below s _ _ _ (s₁.setTop (mkF m 6 #[.val (.long px), .second, .val (.long (1000000000 : Int64)), .second, .val (.long (px / (1000000000 : Int64))), .second] [(.long px)]))
  refine Goes.by (fun t k => XS.lloadN X0.here hx rfl (hb hby d20_6) rfl k) ?_
  show Goes p e below s _ _ _ (s₁.setTop (mkF m 7 #[.val (.long px), .second, .val (.long (1000000000 : Int64)), .second, .val (.long (px / (1000000000 : Int64))), .second] [(.long (1000000000 : Int64)), (.long px)]))
  refine Goes.by (fun t k => XS.lxor X0.here hx rfl (hb hby d20_7) rfl k) ?_
  show Goes p e below s _ _ _ (s₁.setTop (mkF m 8 #[.val (.long px), .second, .val (.long (1000000000 : Int64)), .second, .val (.long (px / (1000000000 : Int64))), .second] [(.long (px ^^^ (1000000000 : Int64)))]))
  refine Goes.by (fun t k => XS.lconst X0.here hx rfl (hb hby d20_8) k) ?_
  show Goes p e below s _ _ _ (s₁.setTop (mkF m 9 #[.val (.long px), .second, .val (.long (1000000000 : Int64)), .second, .val (.long (px / (1000000000 : Int64))), .second] [(.long (0 : Int64)), (.long (px ^^^ (1000000000 : Int64)))]))
  refine Goes.by (fun t k => XS.lcmp X0.here hx rfl (hb hby d20_9) rfl k) ?_
  show Goes p e below s _ _ _ (s₁.setTop (mkF m 10 #[.val (.long px), .second, .val (.long (1000000000 : Int64)), .second, .val (.long (px / (1000000000 : Int64))), .second] [(.int (lcmpW (px ^^^ (1000000000 : Int64)) (0 : Int64)))]))
  by_cases hc : (lcmpW (px ^^^ (1000000000 : Int64)) (0 : Int64)) < (0 : Int32)
  · skip
    refine Goes.by (fun t k => XS.ifNo X0.here hx rfl (hb hby d20_10) rfl ((if0 _ _).trans (tlt (hc)).2.1) k) ?_
    show Goes p e below s _ _ _ (s₁.setTop (mkF m 13 #[.val (.long px), .second, .val (.long (1000000000 : Int64)), .second, .val (.long (px / (1000000000 : Int64))), .second] []))
    refine Goes.by (fun t k => XS.lload X0.here hx rfl (hb hby d20_13) rfl k) ?_
    show Goes p e below s _ _ _ (s₁.setTop (mkF m 15 #[.val (.long px), .second, .val (.long (1000000000 : Int64)), .second, .val (.long (px / (1000000000 : Int64))), .second] [(.long (px / (1000000000 : Int64)))]))
    refine Goes.by (fun t k => XS.lloadN X0.here hx rfl (hb hby d20_15) rfl k) ?_
    show Goes p e below s _ _ _ (s₁.setTop (mkF m 16 #[.val (.long px), .second, .val (.long (1000000000 : Int64)), .second, .val (.long (px / (1000000000 : Int64))), .second] [(.long (1000000000 : Int64)), (.long (px / (1000000000 : Int64)))]))
    refine Goes.by (fun t k => XS.lmul X0.here hx rfl (hb hby d20_16) rfl k) ?_
    show Goes p e below s _ _ _ (s₁.setTop (mkF m 17 #[.val (.long px), .second, .val (.long (1000000000 : Int64)), .second, .val (.long (px / (1000000000 : Int64))), .second] [(.long ((px / (1000000000 : Int64)) * (1000000000 : Int64)))]))
    refine Goes.by (fun t k => XS.lloadN X0.here hx rfl (hb hby d20_17) rfl k) ?_
    show Goes p e below s _ _ _ (s₁.setTop (mkF m 18 #[.val (.long px), .second, .val (.long (1000000000 : Int64)), .second, .val (.long (px / (1000000000 : Int64))), .second] [(.long px), (.long ((px / (1000000000 : Int64)) * (1000000000 : Int64)))]))
    refine Goes.by (fun t k => XS.lcmp X0.here hx rfl (hb hby d20_18) rfl k) ?_
    show Goes p e below s _ _ _ (s₁.setTop (mkF m 19 #[.val (.long px), .second, .val (.long (1000000000 : Int64)), .second, .val (.long (px / (1000000000 : Int64))), .second] [(.int (lcmpW ((px / (1000000000 : Int64)) * (1000000000 : Int64)) px))]))
    by_cases hd : (lcmpW ((px / (1000000000 : Int64)) * (1000000000 : Int64)) px) = (0 : Int32)
    · skip
      refine Goes.by (fun t k => XS.ifYes X0.here hx rfl (pc0 := 19) (pc' := 27) rfl (hb hby d20_19) rfl ((if0 _ _).trans (teq (hd)).1) (by decide) (by decide) k) ?_
      show Goes p e below s _ _ _ (s₁.setTop (mkF m 27 #[.val (.long px), .second, .val (.long (1000000000 : Int64)), .second, .val (.long (px / (1000000000 : Int64))), .second] []))
      refine Goes.by (fun t k => XS.lload X0.here hx rfl (hb hby d20_27) rfl k) ?_
      show Goes p e below s _ _ _ (s₁.setTop (mkF m 29 #[.val (.long px), .second, .val (.long (1000000000 : Int64)), .second, .val (.long (px / (1000000000 : Int64))), .second] [(.long (px / (1000000000 : Int64)))]))
      exact Goes.retL X0 hx Bd.returns trivial (hb hby d20_29) hlk (by rw [e0]; exact ⟨_, rfl, N0, rfl, own_fdB px ((lw_lt _ _).mp hc) ((lw_eq _ _).mp hd)⟩) (by decide) (by decide)
    · skip
      refine Goes.by (fun t k => XS.ifNo X0.here hx rfl (hb hby d20_19) rfl ((if0 _ _).trans (feq (hd)).1) k) ?_
      show Goes p e below s _ _ _ (s₁.setTop (mkF m 22 #[.val (.long px), .second, .val (.long (1000000000 : Int64)), .second, .val (.long (px / (1000000000 : Int64))), .second] []))
      refine Goes.by (fun t k => XS.lload X0.here hx rfl (hb hby d20_22) rfl k) ?_
      show Goes p e below s _ _ _ (s₁.setTop (mkF m 24 #[.val (.long px), .second, .val (.long (1000000000 : Int64)), .second, .val (.long (px / (1000000000 : Int64))), .second] [(.long (px / (1000000000 : Int64)))]))
      refine Goes.by (fun t k => XS.lconst X0.here hx rfl (hb hby d20_24) k) ?_
      show Goes p e below s _ _ _ (s₁.setTop (mkF m 25 #[.val (.long px), .second, .val (.long (1000000000 : Int64)), .second, .val (.long (px / (1000000000 : Int64))), .second] [(.long (1 : Int64)), (.long (px / (1000000000 : Int64)))]))
      refine Goes.by (fun t k => XS.lsub X0.here hx rfl (hb hby d20_25) rfl k) ?_
      show Goes p e below s _ _ _ (s₁.setTop (mkF m 26 #[.val (.long px), .second, .val (.long (1000000000 : Int64)), .second, .val (.long (px / (1000000000 : Int64))), .second] [(.long ((px / (1000000000 : Int64)) - (1 : Int64)))]))
      exact Goes.retL X0 hx Bd.returns trivial (hb hby d20_26) hlk (by rw [e0]; exact ⟨_, rfl, N0, rfl, own_fdC px ((lw_lt _ _).mp hc) (fun h => hd ((lw_eq _ _).mpr h))⟩) (by decide) (by decide)
  · skip
    refine Goes.by (fun t k => XS.ifYes X0.here hx rfl (pc0 := 10) (pc' := 27) rfl (hb hby d20_10) rfl ((if0 _ _).trans (flt (hc)).2.1) (by decide) (by decide) k) ?_
    show Goes p e below s _ _ _ (s₁.setTop (mkF m 27 #[.val (.long px), .second, .val (.long (1000000000 : Int64)), .second, .val (.long (px / (1000000000 : Int64))), .second] []))
    refine Goes.by (fun t k => XS.lload X0.here hx rfl (hb hby d20_27) rfl k) ?_
    show Goes p e below s _ _ _ (s₁.setTop (mkF m 29 #[.val (.long px), .second, .val (.long (1000000000 : Int64)), .second, .val (.long (px / (1000000000 : Int64))), .second] [(.long (px / (1000000000 : Int64)))]))
    exact Goes.retL X0 hx Bd.returns trivial (hb hby d20_29) hlk (by rw [e0]; exact ⟨_, rfl, N0, rfl, own_fdA px (fun h => hc ((lw_lt _ _).mpr h))⟩) (by decide) (by decide)
def Q21 (px : Int64) (h0 : Heap) (n0 : Nat) (v : Option Value) (h : Heap) (L : List Loc) : Prop := ∃ z : Int64, v = some (.long z) ∧ Fr n0 L ∧ h = h0 ∧ z.toInt = px.toInt % 1000000000
theorem d21_0 : decode jdk_29_method_52_code 0 = .ok (.lload_n 0, 1) := by decide +kernel
theorem d21_1 : decode jdk_29_method_52_code 1 = .ok (.lload_n 2, 1) := by decide +kernel
theorem d21_2 : decode jdk_29_method_52_code 2 = .ok (.lrem, 1) := by decide +kernel
theorem d21_3 : decode jdk_29_method_52_code 3 = .ok (.lstore 4, 2) := by decide +kernel
theorem d21_5 : decode jdk_29_method_52_code 5 = .ok (.lload_n 0, 1) := by decide +kernel
theorem d21_6 : decode jdk_29_method_52_code 6 = .ok (.lload_n 2, 1) := by decide +kernel
theorem d21_7 : decode jdk_29_method_52_code 7 = .ok (.lxor, 1) := by decide +kernel
theorem d21_8 : decode jdk_29_method_52_code 8 = .ok (.lconst 0, 1) := by decide +kernel
theorem d21_9 : decode jdk_29_method_52_code 9 = .ok (.lcmp, 1) := by decide +kernel
theorem d21_10 : decode jdk_29_method_52_code 10 = .ok (.ifCond .ge 15, 3) := by decide +kernel
theorem d21_13 : decode jdk_29_method_52_code 13 = .ok (.lload 4, 2) := by decide +kernel
theorem d21_15 : decode jdk_29_method_52_code 15 = .ok (.lconst 0, 1) := by decide +kernel
theorem d21_16 : decode jdk_29_method_52_code 16 = .ok (.lcmp, 1) := by decide +kernel
theorem d21_17 : decode jdk_29_method_52_code 17 = .ok (.ifCond .eq 8, 3) := by decide +kernel
theorem d21_20 : decode jdk_29_method_52_code 20 = .ok (.lload 4, 2) := by decide +kernel
theorem d21_22 : decode jdk_29_method_52_code 22 = .ok (.lload_n 2, 1) := by decide +kernel
theorem d21_23 : decode jdk_29_method_52_code 23 = .ok (.ladd, 1) := by decide +kernel
theorem d21_24 : decode jdk_29_method_52_code 24 = .ok (.lreturn, 1) := by decide +kernel
theorem d21_25 : decode jdk_29_method_52_code 25 = .ok (.lload 4, 2) := by decide +kernel
theorem d21_27 : decode jdk_29_method_52_code 27 = .ok (.lreturn, 1) := by decide +kernel
theorem ef_rm21 (m : MethodId) (x0 : Int64) (x1 : Int64) : entryFrame m #[(.long x0), (.long x1)] 6 = mkF m 0 #[.val (.long x0), .second, .val (.long x1), .second, .unset, .unset] [] := by first | (simp [entryFrame, mkF, argsToLocals, Value.category]; done) | rfl
set_option maxRecDepth 65536 in
set_option maxHeartbeats 40000000 in
theorem rm21 (l : Launch) (Z : State) (a0 : Array Value) (hw : ∀ d ∈ tables_1, d.before a0 Z = true) (ws : List Jvm.Cond) (px : Int64) (h0 : Heap) (n0 : Nat) (Z0 : n0 ≤ h0.size)  :
    MetFree l (⟨"java/lang/Math", "floorMod", "(JJ)J"⟩ : MethodName) (head1 (Jvm.Cond.code (⟨"java/lang/Math", "floorMod", "(JJ)J"⟩ : MethodName) jdk_29_method_52_code 6 (some .long) :: ws) ({ frames := 0, cells := 0, slots := 0, locals := 0 } : Room)) (fun a U => a = #[(.long px), (.long (1000000000 : Int64))] ∧ Z.Warmed39 U.vm ∧ U.heap = h0) (fun _ _ _ _ _ => True) (fun _ U o U' => ∃ v L, o = .returned v ∧ (Q21 px h0 n0) v U'.heap L ∧ FrameEnd U o U' L ({ frames := 0, cells := 0, slots := 0, locals := 0 } : Room).cells ({ frames := 0, cells := 0, slots := 0, locals := 0 } : Room).slots) := by
  refine MetFree.of_bodySF (Jvm.Free.JP.mathPlain rfl (by decide +kernel)) hisR ?_
  intro p e s m args below meth c s₁ Bd hml0 hP hK
  obtain ⟨rfl, hZ, hh⟩ := hP
  have hx := Bd.exec
  have hby := Bd.bytes
  have hlk : meth.locks = false := BodyLoose.notSynchronized Bd
  have hml : c.maxLocals = 6 := hml0
  have hown : s.vm.findClass "java/lang/Math" = some m.cls := findClass_of_methodNamed Bd.named
  have hnm := (name_of_methodNamed Bd.named Bd.method).1
  have X0 : Stand p l e ({ frames := 0, cells := 0, slots := 0, locals := 0 } : Room) s m #[(.long px), (.long (1000000000 : Int64))] below meth c s₁ [] 0 0 := Stand.of_body Bd
  have e0 : s₁.heap = h0 := by rw [← hh, Bd.state]; rfl
  have N0 := Fr.nil n0
  show Goes p e below s (Q21 px h0 n0) ({ frames := 0, cells := 0, slots := 0, locals := 0 } : Room).cells ({ frames := 0, cells := 0, slots := 0, locals := 0 } : Room).slots (s₁.setTop (entryFrame m #[(.long px), (.long (1000000000 : Int64))] 6))
  refine Goes.by (fun t k => castTop (ef_rm21 m px (1000000000 : Int64)) k) ?_
  show Goes p e below s _ _ _ (s₁.setTop (mkF m 0 #[.val (.long px), .second, .val (.long (1000000000 : Int64)), .second, .unset, .unset] []))
  refine Goes.by (fun t k => XS.lloadN X0.here hx rfl (hb hby d21_0) rfl k) ?_
  show Goes p e below s _ _ _ (s₁.setTop (mkF m 1 #[.val (.long px), .second, .val (.long (1000000000 : Int64)), .second, .unset, .unset] [(.long px)]))
  refine Goes.by (fun t k => XS.lloadN X0.here hx rfl (hb hby d21_1) rfl k) ?_
  show Goes p e below s _ _ _ (s₁.setTop (mkF m 2 #[.val (.long px), .second, .val (.long (1000000000 : Int64)), .second, .unset, .unset] [(.long (1000000000 : Int64)), (.long px)]))
  refine Goes.by (fun t k => XS.lrem X0.here hx rfl (hb hby d21_2) rfl (by decide) k) ?_
  show Goes p e below s _ _ _ (s₁.setTop (mkF m 3 #[.val (.long px), .second, .val (.long (1000000000 : Int64)), .second, .unset, .unset] [(.long (px - px / (1000000000 : Int64) * (1000000000 : Int64)))]))
  refine Goes.by (fun t k => XS.lstore X0.here hx rfl (hb hby d21_3) rfl (l' := #[.val (.long px), .second, .val (.long (1000000000 : Int64)), .second, .val (.long (px - px / (1000000000 : Int64) * (1000000000 : Int64))), .second]) rfl k) ?_
  show Goes p e below s _ _ _ (s₁.setTop (mkF m 5 #[.val (.long px), .second, .val (.long (1000000000 : Int64)), .second, .val (.long (px - px / (1000000000 : Int64) * (1000000000 : Int64))), .second] []))
  refine Goes.by (fun t k => XS.lloadN X0.here hx rfl (hb hby d21_5) rfl k) ?_
  show Goes p e below s _ _ _ (s₁.setTop (mkF m 6 #[.val (.long px), .second, .val (.long (1000000000 : Int64)), .second, .val (.long (px - px / (1000000000 : Int64) * (1000000000 : Int64))), .second] [(.long px)]))
  refine Goes.by (fun t k => XS.lloadN X0.here hx rfl (hb hby d21_6) rfl k) ?_
  show Goes p e below s _ _ _ (s₁.setTop (mkF m 7 #[.val (.long px), .second, .val (.long (1000000000 : Int64)), .second, .val (.long (px - px / (1000000000 : Int64) * (1000000000 : Int64))), .second] [(.long (1000000000 : Int64)), (.long px)]))
  refine Goes.by (fun t k => XS.lxor X0.here hx rfl (hb hby d21_7) rfl k) ?_
  show Goes p e below s _ _ _ (s₁.setTop (mkF m 8 #[.val (.long px), .second, .val (.long (1000000000 : Int64)), .second, .val (.long (px - px / (1000000000 : Int64) * (1000000000 : Int64))), .second] [(.long (px ^^^ (1000000000 : Int64)))]))
  refine Goes.by (fun t k => XS.lconst X0.here hx rfl (hb hby d21_8) k) ?_
  show Goes p e below s _ _ _ (s₁.setTop (mkF m 9 #[.val (.long px), .second, .val (.long (1000000000 : Int64)), .second, .val (.long (px - px / (1000000000 : Int64) * (1000000000 : Int64))), .second] [(.long (0 : Int64)), (.long (px ^^^ (1000000000 : Int64)))]))
  refine Goes.by (fun t k => XS.lcmp X0.here hx rfl (hb hby d21_9) rfl k) ?_
  show Goes p e below s _ _ _ (s₁.setTop (mkF m 10 #[.val (.long px), .second, .val (.long (1000000000 : Int64)), .second, .val (.long (px - px / (1000000000 : Int64) * (1000000000 : Int64))), .second] [(.int (lcmpW (px ^^^ (1000000000 : Int64)) (0 : Int64)))]))
  by_cases hc : (lcmpW (px ^^^ (1000000000 : Int64)) (0 : Int64)) < (0 : Int32)
  · skip
    refine Goes.by (fun t k => XS.ifNo X0.here hx rfl (hb hby d21_10) rfl ((if0 _ _).trans (tlt (hc)).2.1) k) ?_
    show Goes p e below s _ _ _ (s₁.setTop (mkF m 13 #[.val (.long px), .second, .val (.long (1000000000 : Int64)), .second, .val (.long (px - px / (1000000000 : Int64) * (1000000000 : Int64))), .second] []))
    refine Goes.by (fun t k => XS.lload X0.here hx rfl (hb hby d21_13) rfl k) ?_
    show Goes p e below s _ _ _ (s₁.setTop (mkF m 15 #[.val (.long px), .second, .val (.long (1000000000 : Int64)), .second, .val (.long (px - px / (1000000000 : Int64) * (1000000000 : Int64))), .second] [(.long (px - px / (1000000000 : Int64) * (1000000000 : Int64)))]))
    refine Goes.by (fun t k => XS.lconst X0.here hx rfl (hb hby d21_15) k) ?_
    show Goes p e below s _ _ _ (s₁.setTop (mkF m 16 #[.val (.long px), .second, .val (.long (1000000000 : Int64)), .second, .val (.long (px - px / (1000000000 : Int64) * (1000000000 : Int64))), .second] [(.long (0 : Int64)), (.long (px - px / (1000000000 : Int64) * (1000000000 : Int64)))]))
    refine Goes.by (fun t k => XS.lcmp X0.here hx rfl (hb hby d21_16) rfl k) ?_
    show Goes p e below s _ _ _ (s₁.setTop (mkF m 17 #[.val (.long px), .second, .val (.long (1000000000 : Int64)), .second, .val (.long (px - px / (1000000000 : Int64) * (1000000000 : Int64))), .second] [(.int (lcmpW (px - px / (1000000000 : Int64) * (1000000000 : Int64)) (0 : Int64)))]))
    by_cases hd : (lcmpW (px - px / (1000000000 : Int64) * (1000000000 : Int64)) (0 : Int64)) = (0 : Int32)
    · skip
      refine Goes.by (fun t k => XS.ifYes X0.here hx rfl (pc0 := 17) (pc' := 25) rfl (hb hby d21_17) rfl ((if0 _ _).trans (teq (hd)).1) (by decide) (by decide) k) ?_
      show Goes p e below s _ _ _ (s₁.setTop (mkF m 25 #[.val (.long px), .second, .val (.long (1000000000 : Int64)), .second, .val (.long (px - px / (1000000000 : Int64) * (1000000000 : Int64))), .second] []))
      refine Goes.by (fun t k => XS.lload X0.here hx rfl (hb hby d21_25) rfl k) ?_
      show Goes p e below s _ _ _ (s₁.setTop (mkF m 27 #[.val (.long px), .second, .val (.long (1000000000 : Int64)), .second, .val (.long (px - px / (1000000000 : Int64) * (1000000000 : Int64))), .second] [(.long (px - px / (1000000000 : Int64) * (1000000000 : Int64)))]))
      exact Goes.retL X0 hx Bd.returns trivial (hb hby d21_27) hlk (by rw [e0]; exact ⟨_, rfl, N0, rfl, own_fmB px ((lw_lt _ _).mp hc) ((lw_eq _ _).mp hd)⟩) (by decide) (by decide)
    · skip
      refine Goes.by (fun t k => XS.ifNo X0.here hx rfl (hb hby d21_17) rfl ((if0 _ _).trans (feq (hd)).1) k) ?_
      show Goes p e below s _ _ _ (s₁.setTop (mkF m 20 #[.val (.long px), .second, .val (.long (1000000000 : Int64)), .second, .val (.long (px - px / (1000000000 : Int64) * (1000000000 : Int64))), .second] []))
      refine Goes.by (fun t k => XS.lload X0.here hx rfl (hb hby d21_20) rfl k) ?_
      show Goes p e below s _ _ _ (s₁.setTop (mkF m 22 #[.val (.long px), .second, .val (.long (1000000000 : Int64)), .second, .val (.long (px - px / (1000000000 : Int64) * (1000000000 : Int64))), .second] [(.long (px - px / (1000000000 : Int64) * (1000000000 : Int64)))]))
      refine Goes.by (fun t k => XS.lloadN X0.here hx rfl (hb hby d21_22) rfl k) ?_
      show Goes p e below s _ _ _ (s₁.setTop (mkF m 23 #[.val (.long px), .second, .val (.long (1000000000 : Int64)), .second, .val (.long (px - px / (1000000000 : Int64) * (1000000000 : Int64))), .second] [(.long (1000000000 : Int64)), (.long (px - px / (1000000000 : Int64) * (1000000000 : Int64)))]))
      refine Goes.by (fun t k => XS.ladd X0.here hx rfl (hb hby d21_23) rfl k) ?_
      show Goes p e below s _ _ _ (s₁.setTop (mkF m 24 #[.val (.long px), .second, .val (.long (1000000000 : Int64)), .second, .val (.long (px - px / (1000000000 : Int64) * (1000000000 : Int64))), .second] [(.long ((px - px / (1000000000 : Int64) * (1000000000 : Int64)) + (1000000000 : Int64)))]))
      exact Goes.retL X0 hx Bd.returns trivial (hb hby d21_24) hlk (by rw [e0]; exact ⟨_, rfl, N0, rfl, own_fmC px ((lw_lt _ _).mp hc) (fun h => hd ((lw_eq _ _).mpr h))⟩) (by decide) (by decide)
  · skip
    refine Goes.by (fun t k => XS.ifYes X0.here hx rfl (pc0 := 10) (pc' := 25) rfl (hb hby d21_10) rfl ((if0 _ _).trans (flt (hc)).2.1) (by decide) (by decide) k) ?_
    show Goes p e below s _ _ _ (s₁.setTop (mkF m 25 #[.val (.long px), .second, .val (.long (1000000000 : Int64)), .second, .val (.long (px - px / (1000000000 : Int64) * (1000000000 : Int64))), .second] []))
    refine Goes.by (fun t k => XS.lload X0.here hx rfl (hb hby d21_25) rfl k) ?_
    show Goes p e below s _ _ _ (s₁.setTop (mkF m 27 #[.val (.long px), .second, .val (.long (1000000000 : Int64)), .second, .val (.long (px - px / (1000000000 : Int64) * (1000000000 : Int64))), .second] [(.long (px - px / (1000000000 : Int64) * (1000000000 : Int64)))]))
    exact Goes.retL X0 hx Bd.returns trivial (hb hby d21_27) hlk (by rw [e0]; exact ⟨_, rfl, N0, rfl, own_fmA px (fun h => hc ((lw_lt _ _).mpr h))⟩) (by decide) (by decide)
def QD (Z : State) (tt : Int) (h0 : Heap) (n0 : Nat) (v : Option Value) (h : Heap) (L : List Loc) : Prop := ∃ (r : Addr) (a : Int64) (b : Int32), v = some (.ref r) ∧ Fr n0 L ∧ Keep h0 h [] ∧ Exa Z h r "java/time/Duration" ∧ Fld Z h r "java/time/Duration" "seconds" "J" (.long a) ∧ Fld Z h r "java/time/Duration" "nanos" "I" (.int b) ∧ a.toInt * 1000000000 + b.toInt = tt ∧ 0 ≤ b.toInt ∧ b.toInt < 1000000000
theorem d9_0 : decode jdk_2316_method_16_code 0 = .ok (.lload_n 0, 1) := by decide +kernel
theorem d9_1 : decode jdk_2316_method_16_code 1 = .ok (.iload_n 2, 1) := by decide +kernel
theorem d9_2 : decode jdk_2316_method_16_code 2 = .ok (.i2l, 1) := by decide +kernel
theorem d9_3 : decode jdk_2316_method_16_code 3 = .ok (.lor, 1) := by decide +kernel
theorem d9_4 : decode jdk_2316_method_16_code 4 = .ok (.lconst 0, 1) := by decide +kernel
theorem d9_5 : decode jdk_2316_method_16_code 5 = .ok (.lcmp, 1) := by decide +kernel
theorem d9_6 : decode jdk_2316_method_16_code 6 = .ok (.ifCond .ne 7, 3) := by decide +kernel
theorem d9_9 : decode jdk_2316_method_16_code 9 = .ok (.getstatic 32, 3) := by decide +kernel
theorem d9_12 : decode jdk_2316_method_16_code 12 = .ok (.areturn, 1) := by decide +kernel
theorem d9_13 : decode jdk_2316_method_16_code 13 = .ok (.new 11, 3) := by decide +kernel
theorem d9_16 : decode jdk_2316_method_16_code 16 = .ok (.dup, 1) := by decide +kernel
theorem d9_17 : decode jdk_2316_method_16_code 17 = .ok (.lload_n 0, 1) := by decide +kernel
theorem d9_18 : decode jdk_2316_method_16_code 18 = .ok (.iload_n 2, 1) := by decide +kernel
theorem d9_19 : decode jdk_2316_method_16_code 19 = .ok (.invokespecial 215, 3) := by decide +kernel
theorem d9_22 : decode jdk_2316_method_16_code 22 = .ok (.areturn, 1) := by decide +kernel
theorem ef_rm9 (m : MethodId) (x0 : Int64) (x1 : Int32) : entryFrame m #[(.long x0), (.int x1)] 3 = mkF m 0 #[.val (.long x0), .second, .val (.int x1)] [] := by first | (simp [entryFrame, mkF, argsToLocals, Value.category]; done) | rfl
set_option maxRecDepth 65536 in
set_option maxHeartbeats 40000000 in
theorem rm9 (l : Launch) (Z : State) (a0 : Array Value) (hw : ∀ d ∈ tables_1, d.before a0 Z = true) (ws : List Jvm.Cond) (p1 : Int64) (p2 : Int32) (wZ : Addr) (h0 : Heap) (n0 : Nat) (Z0 : n0 ≤ h0.size) (O0 : Old Z n0 h0) (SZ : Sta Z Z.heap "java/time/Duration" "ZERO" "Ljava/time/Duration;" (.ref wZ)) (EZ : Exa Z Z.heap wZ "java/time/Duration") (Fs : Fld Z Z.heap wZ "java/time/Duration" "seconds" "J" (.long 0)) (Fn : Fld Z Z.heap wZ "java/time/Duration" "nanos" "I" (.int 0)) (hp1 : 0 ≤ p2.toInt) (hp2 : p2.toInt < 1000000000) :
    MetFree l (⟨"java/time/Duration", "create", "(JI)Ljava/time/Duration;"⟩ : MethodName) (head1 (Jvm.Cond.code (⟨"java/time/Duration", "create", "(JI)Ljava/time/Duration;"⟩ : MethodName) jdk_2316_method_16_code 3 (some (.object "java/time/Duration")) :: ws) ({ frames := 2, cells := 1, slots := 2, locals := 28 } : Room)) (fun a U => a = #[(.long p1), (.int p2)] ∧ Z.Warmed39 U.vm ∧ U.heap = h0) (fun _ _ _ _ _ => True) (fun _ U o U' => ∃ v L, o = .returned v ∧ (QD Z (p1.toInt * 1000000000 + p2.toInt) h0 n0) v U'.heap L ∧ FrameEnd U o U' L ({ frames := 2, cells := 1, slots := 2, locals := 28 } : Room).cells ({ frames := 2, cells := 1, slots := 2, locals := 28 } : Room).slots) := by
  refine MetFree.of_bodySF (plainFor_of_name pn_2) hisR ?_
  intro p e s m args below meth c s₁ Bd hml0 hP hK
  obtain ⟨rfl, hZ, hh⟩ := hP
  have hx := Bd.exec
  have hby := Bd.bytes
  have hlk : meth.locks = false := BodyLoose.notSynchronized Bd
  have hml : c.maxLocals = 3 := hml0
  have hown : s.vm.findClass "java/time/Duration" = some m.cls := findClass_of_methodNamed Bd.named
  have hnm := (name_of_methodNamed Bd.named Bd.method).1
  have X0 : Stand p l e ({ frames := 2, cells := 1, slots := 2, locals := 28 } : Room) s m #[(.long p1), (.int p2)] below meth c s₁ [] 0 0 := Stand.of_body Bd
  have e0 : s₁.heap = h0 := by rw [← hh, Bd.state]; rfl
  have N0 := Fr.nil n0
  show Goes p e below s (QD Z (p1.toInt * 1000000000 + p2.toInt) h0 n0) ({ frames := 2, cells := 1, slots := 2, locals := 28 } : Room).cells ({ frames := 2, cells := 1, slots := 2, locals := 28 } : Room).slots (s₁.setTop (entryFrame m #[(.long p1), (.int p2)] 3))
  refine Goes.by (fun t k => castTop (ef_rm9 m p1 p2) k) ?_
  show Goes p e below s _ _ _ (s₁.setTop (mkF m 0 #[.val (.long p1), .second, .val (.int p2)] []))
  have KC0 : Keep h0 h0 [] := Keep.refl _ _
  refine Goes.by (fun t k => XS.lloadN X0.here hx rfl (hb hby d9_0) rfl k) ?_
  show Goes p e below s _ _ _ (s₁.setTop (mkF m 1 #[.val (.long p1), .second, .val (.int p2)] [(.long p1)]))
  refine Goes.by (fun t k => XS.iloadN X0.here hx rfl (hb hby d9_1) rfl k) ?_
  show Goes p e below s _ _ _ (s₁.setTop (mkF m 2 #[.val (.long p1), .second, .val (.int p2)] [(.int p2), (.long p1)]))
  refine Goes.by (fun t k => XS.i2l X0.here hx rfl (hb hby d9_2) rfl k) ?_
  show Goes p e below s _ _ _ (s₁.setTop (mkF m 3 #[.val (.long p1), .second, .val (.int p2)] [(.long (p2.toInt64)), (.long p1)]))
  refine Goes.by (fun t k => XS.lor X0.here hx rfl (hb hby d9_3) rfl k) ?_
  show Goes p e below s _ _ _ (s₁.setTop (mkF m 4 #[.val (.long p1), .second, .val (.int p2)] [(.long (p1 ||| (p2.toInt64)))]))
  refine Goes.by (fun t k => XS.lconst X0.here hx rfl (hb hby d9_4) k) ?_
  show Goes p e below s _ _ _ (s₁.setTop (mkF m 5 #[.val (.long p1), .second, .val (.int p2)] [(.long (0 : Int64)), (.long (p1 ||| (p2.toInt64)))]))
  refine Goes.by (fun t k => XS.lcmp X0.here hx rfl (hb hby d9_5) rfl k) ?_
  show Goes p e below s _ _ _ (s₁.setTop (mkF m 6 #[.val (.long p1), .second, .val (.int p2)] [(.int (lcmpW (p1 ||| (p2.toInt64)) (0 : Int64)))]))
  by_cases hc : (lcmpW (p1 ||| (p2.toInt64)) (0 : Int64)) = (0 : Int32)
  · skip
    refine Goes.by (fun t k => XS.ifNo X0.here hx rfl (hb hby d9_6) rfl ((if0 _ _).trans (teq (hc)).2) k) ?_
    show Goes p e below s _ _ _ (s₁.setTop (mkF m 9 #[.val (.long p1), .second, .val (.int p2)] []))
    obtain ⟨hc1, hc2⟩ := own_orL _ _ ((lw_eq _ _).mp hc)
    obtain ⟨T1, X1, e1, st1⟩ := getS2 X0 hx hZ hown (host := "") (Or.inl (hw _ (List.mem_of_getElem? (i := 151) rfl))) Via.refl e0 (SZ.ext O0.2) (g := (mkF m 9 #[.val (.long p1), .second, .val (.int p2)] [])) rfl (hb hby d9_9)
    refine Goes.by (fun t k => st1 t k) ?_
    show Goes p e below s _ _ _ (T1.setTop (mkF m 12 #[.val (.long p1), .second, .val (.int p2)] [(.ref wZ)]))
    exact Goes.retA X1 hx Bd.returns rfl rfl (hb hby d9_12) hlk (by rw [e1]; exact ⟨wZ, 0, 0, rfl, N0, KC0, EZ.ext O0.2, Fs.ext O0.2, Fn.ext O0.2, by rw [hc1, hc2], by decide, by decide⟩) (by decide) (by decide)
  · skip
    refine Goes.by (fun t k => XS.ifYes X0.here hx rfl (pc0 := 6) (pc' := 13) rfl (hb hby d9_6) rfl ((if0 _ _).trans (feq (hc)).2) (by decide) (by decide) k) ?_
    show Goes p e below s _ _ _ (s₁.setTop (mkF m 13 #[.val (.long p1), .second, .val (.int p2)] []))
    obtain ⟨T2, h2, X2, e2, E2, A2, D2, -, st2⟩ := newO X0 hx hZ hown (hw _ (List.mem_of_getElem? (i := 43) rfl)) (hw _ (List.mem_of_getElem? (i := 44) rfl)) (hw _ (List.mem_of_getElem? (i := 27) rfl)) e0 (g := (mkF m 13 #[.val (.long p1), .second, .val (.int p2)] [])) rfl (hb hby d9_13) (by decide) (by decide)
    obtain ⟨b2, g2⟩ : ∃ z, z = h0.size := ⟨_, rfl⟩
    rw [← g2] at A2 D2 st2
    refine Goes.by (fun t k => st2 t k) ?_
    show Goes p e below s _ _ _ (T2.setTop (mkF m 16 #[.val (.long p1), .second, .val (.int p2)] [(.ref b2)]))
    have ge_b2 : n0 ≤ b2 := Nat.le_trans Z0 (Nat.le_of_eq g2.symm)
    have sz_b2 : h0.size ≤ b2 := Nat.le_trans KC0.1 (Nat.le_of_eq g2.symm)
    have f1 := O0.ext E2
    have f2 := KC0.ext E2
    have f3 := Nat.le_trans Z0 E2.1
    have f4 : Fld Z h2 b2 "java/time/Duration" "seconds" "J" (.long (0 : Int64)) := D2 (Or.inr (hw _ (List.mem_of_getElem? (i := 51) rfl))) (ty := .long) (by decide)
    have f5 : Fld Z h2 b2 "java/time/Duration" "nanos" "I" (.int (0 : Int32)) := D2 (Or.inr (hw _ (List.mem_of_getElem? (i := 53) rfl))) (ty := .int) (by decide)
    refine Goes.by (fun t k => XS.dup X2.here hx rfl (hb hby d9_16) rfl rfl k) ?_
    show Goes p e below s _ _ _ (T2.setTop (mkF m 17 #[.val (.long p1), .second, .val (.int p2)] [(.ref b2), (.ref b2)]))
    refine Goes.by (fun t k => XS.lloadN X2.here hx rfl (hb hby d9_17) rfl k) ?_
    show Goes p e below s _ _ _ (T2.setTop (mkF m 18 #[.val (.long p1), .second, .val (.int p2)] [(.long p1), (.ref b2), (.ref b2)]))
    refine Goes.by (fun t k => XS.iloadN X2.here hx rfl (hb hby d9_18) rfl k) ?_
    show Goes p e below s _ _ _ (T2.setTop (mkF m 19 #[.val (.long p1), .second, .val (.int p2)] [(.int p2), (.long p1), (.ref b2), (.ref b2)]))
    obtain ⟨_, _, ⟨T3, L3, k3, n3⟩, -, X3, ⟨Lc3, hQ3, l3, y3, z3⟩, st3⟩ := X2.specialBack hx (y := (⟨"java/time/Duration", "<init>", "(JI)V"⟩ : MethodName)) rfl hown (mvT hZ (hw _ (List.mem_of_getElem? (i := 45) rfl))) (mvT hZ (hw _ (List.mem_of_getElem? (i := 46) rfl))) (mvT hZ (hw _ (List.mem_of_getElem? (i := 48) rfl))) (by decide) (backOf (W := 1) (rm10 l Z a0 hw [] b2 p1 p2 _ _ h2 n0 f3 f4 f5 A2 ge_b2) hZ (hw _ (List.mem_of_getElem? (i := 48) rfl)) (hw _ (List.mem_of_getElem? (i := 27) rfl)) (by decide) (by decide)) (g := (mkF m 19 #[.val (.long p1), .second, .val (.int p2)] [(.int p2), (.long p1), (.ref b2), (.ref b2)])) rfl (by rw [hml]; rfl) (Steps.refl _) (a := b2) (argsL := [(.long p1), (.int p2)]) (rest := [(.ref b2)]) (lenOf pd_9 rfl) rfl (by show 2 * 0 + _ ≤ _; exact Nat.le_of_eq rfl) (hb hby d9_19) (fun _ _ => ⟨rfl, e2, (by decide : 1 + 0 ≤ _), (by decide : 2 + 0 ≤ _)⟩)
    dsimp only [Pt.U, Pt.locs, Pt.cells, Pt.slots] at X3 l3 y3 z3 st3 hQ3
    subst l3 y3 z3
    obtain ⟨rfl, N3q, K3, E3, F3, G3⟩ := hQ3
    have N3 := Fr.app N0 N3q
    refine Goes.by (fun t k => st3.trans k) ?_
    show Goes p e below s _ _ _ (T3.setTop (mkF m 22 #[.val (.long p1), .second, .val (.int p2)] [(.ref b2)]))
    have OLD_K3 := f1.keep K3 (allS ge_b2 all0)
    have f6 := f2.trans K3 (allS (Or.inr sz_b2) all0)
    have f7 := Nat.le_trans f3 K3.1
    have f8 := A2.keep K3
    exact Goes.retA X3 hx Bd.returns rfl rfl (hb hby d9_22) hlk (by exact ⟨b2, p1, p2, rfl, N3, f6, E3, F3, G3, rfl, hp1, hp2⟩) (by decide) (by decide)
theorem d5_0 : decode jdk_2316_method_1_code 0 = .ok (.lload_n 0, 1) := by decide +kernel
theorem d5_1 : decode jdk_2316_method_1_code 1 = .ok (.ldc 3, 2) := by decide +kernel
theorem d5_3 : decode jdk_2316_method_1_code 3 = .ok (.invokestatic 4, 3) := by decide +kernel
theorem d5_6 : decode jdk_2316_method_1_code 6 = .ok (.iconst 0, 1) := by decide +kernel
theorem d5_7 : decode jdk_2316_method_1_code 7 = .ok (.invokestatic 10, 3) := by decide +kernel
theorem d5_10 : decode jdk_2316_method_1_code 10 = .ok (.areturn, 1) := by decide +kernel
theorem ef_rm5 (m : MethodId) (x0 : Int64) : entryFrame m #[(.long x0)] 2 = mkF m 0 #[.val (.long x0), .second] [] := by first | (simp [entryFrame, mkF, argsToLocals, Value.category]; done) | rfl
set_option maxRecDepth 65536 in
set_option maxHeartbeats 40000000 in
theorem rm5 (l : Launch) (Z : State) (a0 : Array Value) (hw : ∀ d ∈ tables_1, d.before a0 Z = true) (ws : List Jvm.Cond) (p1 : Int64) (wZ : Addr) (h0 : Heap) (n0 : Nat) (Z0 : n0 ≤ h0.size) (O0 : Old Z n0 h0) (SZ : Sta Z Z.heap "java/time/Duration" "ZERO" "Ljava/time/Duration;" (.ref wZ)) (EZ : Exa Z Z.heap wZ "java/time/Duration") (Fs : Fld Z Z.heap wZ "java/time/Duration" "seconds" "J" (.long 0)) (Fn : Fld Z Z.heap wZ "java/time/Duration" "nanos" "I" (.int 0)) (hp1 : -2147483648 ≤ p1.toInt) (hp2 : p1.toInt < 2147483648) :
    MetFree l (⟨"java/time/Duration", "ofDays", "(J)Ljava/time/Duration;"⟩ : MethodName) (head1 (Jvm.Cond.code (⟨"java/time/Duration", "ofDays", "(J)Ljava/time/Duration;"⟩ : MethodName) jdk_2316_method_1_code 2 (some (.object "java/time/Duration")) :: ws) ({ frames := 3, cells := 1, slots := 2, locals := 48 } : Room)) (fun a U => a = #[(.long p1)] ∧ Z.Warmed39 U.vm ∧ U.heap = h0) (fun _ _ _ _ _ => True) (fun _ U o U' => ∃ v L, o = .returned v ∧ (QD Z (p1.toInt * 86400 * 1000000000) h0 n0) v U'.heap L ∧ FrameEnd U o U' L ({ frames := 3, cells := 1, slots := 2, locals := 48 } : Room).cells ({ frames := 3, cells := 1, slots := 2, locals := 48 } : Room).slots) := by
  refine MetFree.of_bodySF (plainFor_of_name pn_2) hisR ?_
  intro p e s m args below meth c s₁ Bd hml0 hP hK
  obtain ⟨rfl, hZ, hh⟩ := hP
  have hx := Bd.exec
  have hby := Bd.bytes
  have hlk : meth.locks = false := BodyLoose.notSynchronized Bd
  have hml : c.maxLocals = 2 := hml0
  have hown : s.vm.findClass "java/time/Duration" = some m.cls := findClass_of_methodNamed Bd.named
  have hnm := (name_of_methodNamed Bd.named Bd.method).1
  have X0 : Stand p l e ({ frames := 3, cells := 1, slots := 2, locals := 48 } : Room) s m #[(.long p1)] below meth c s₁ [] 0 0 := Stand.of_body Bd
  have e0 : s₁.heap = h0 := by rw [← hh, Bd.state]; rfl
  have N0 := Fr.nil n0
  show Goes p e below s (QD Z (p1.toInt * 86400 * 1000000000) h0 n0) ({ frames := 3, cells := 1, slots := 2, locals := 48 } : Room).cells ({ frames := 3, cells := 1, slots := 2, locals := 48 } : Room).slots (s₁.setTop (entryFrame m #[(.long p1)] 2))
  refine Goes.by (fun t k => castTop (ef_rm5 m p1) k) ?_
  show Goes p e below s _ _ _ (s₁.setTop (mkF m 0 #[.val (.long p1), .second] []))
  have KC0 : Keep h0 h0 [] := Keep.refl _ _
  obtain ⟨d1, d2, d3⟩ := own_day p1 hp1 hp2
  refine Goes.by (fun t k => XS.lloadN X0.here hx rfl (hb hby d5_0) rfl k) ?_
  show Goes p e below s _ _ _ (s₁.setTop (mkF m 1 #[.val (.long p1), .second] [(.long p1)]))
  refine Goes.by (fun t k => X0.ldcInt hx hown (mvT hZ (hw _ (List.mem_of_getElem? (i := 29) rfl))) (g := (mkF m 1 #[.val (.long p1), .second] [(.long p1)])) rfl (hb hby d5_1) _ k) ?_
  show Goes p e below s _ _ _ (s₁.setTop (mkF m 3 #[.val (.long p1), .second] [(.int (86400 : Int32)), (.long p1)]))
  obtain ⟨_, _, ⟨T1, L1, k1, n1⟩, -, X1, ⟨Lc1, hQ1, l1, y1, z1⟩, st1⟩ := Jvm.LawKit.callS X0 hx (y := (⟨"java/lang/Math", "multiplyExact", "(JI)J"⟩ : MethodName)) hown (mvT hZ (hw _ (List.mem_of_getElem? (i := 30) rfl))) (mvT hZ (hw _ (List.mem_of_getElem? (i := 31) rfl))) (mvT hZ (hw _ (List.mem_of_getElem? (i := 32) rfl))) (mvT hZ (hw _ (List.mem_of_getElem? (i := 33) rfl))) (by decide) (backOf (W := 0) (rm6 l Z a0 hw [] p1 86400 h0 n0 Z0 (by decide) d2 d3) hZ (hw _ (List.mem_of_getElem? (i := 33) rfl)) (hw _ (List.mem_of_getElem? (i := 32) rfl)) (by decide) (by decide)) (g := (mkF m 3 #[.val (.long p1), .second] [(.int (86400 : Int32)), (.long p1)])) rfl (by rw [hml]; rfl) (argsL := [(.long p1), (.int (86400 : Int32))]) (rest := []) (lenOf pd_5 rfl) rfl (by show 2 * 0 + _ ≤ _; exact Nat.le_of_eq rfl) (hb hby d5_3) (fun _ _ => ⟨rfl, e0, (by decide : 0 + 0 ≤ _), (by decide : 0 + 0 ≤ _)⟩)
  dsimp only [Pt.U, Pt.locs, Pt.cells, Pt.slots] at X1 l1 y1 z1 st1 hQ1
  subst l1 y1 z1
  obtain ⟨rfl, N1q, hh1⟩ := hQ1
  have N1 := Fr.app N0 N1q
  refine Goes.by (fun t k => st1 _ k) ?_
  show Goes p e below s _ _ _ (T1.setTop (mkF m 6 #[.val (.long p1), .second] [(.long (p1 * (86400 : Int32).toInt64))]))
  have KK1 : Keep (h0) T1.heap [] := by rw [hh1]; exact Keep.refl _ _
  have OLD_KK1 := O0.keep KK1 all0
  have f1 := KC0.trans KK1 all0
  have f2 := Nat.le_trans Z0 KK1.1
  refine Goes.by (fun t k => XS.iconst X1.here hx rfl (hb hby d5_6) k) ?_
  show Goes p e below s _ _ _ (T1.setTop (mkF m 7 #[.val (.long p1), .second] [(.int (0 : Int32)), (.long (p1 * (86400 : Int32).toInt64))]))
  obtain ⟨_, _, ⟨T2, L2, k2, n2⟩, -, X2, ⟨Lc2, hQ2, l2, y2, z2⟩, st2⟩ := Jvm.LawKit.callS X1 hx (y := (⟨"java/time/Duration", "create", "(JI)Ljava/time/Duration;"⟩ : MethodName)) hown (mvT hZ (hw _ (List.mem_of_getElem? (i := 40) rfl))) (mvT hZ (hw _ (List.mem_of_getElem? (i := 41) rfl))) (mvT hZ (hw _ (List.mem_of_getElem? (i := 27) rfl))) (mvT hZ (hw _ (List.mem_of_getElem? (i := 42) rfl))) (by decide) (backOf (W := 0) (rm9 l Z a0 hw [] _ _ wZ _ n0 f2 OLD_KK1 SZ EZ Fs Fn (by decide) (by decide)) hZ (hw _ (List.mem_of_getElem? (i := 42) rfl)) (hw _ (List.mem_of_getElem? (i := 27) rfl)) (by decide) (by decide)) (g := (mkF m 7 #[.val (.long p1), .second] [(.int (0 : Int32)), (.long (p1 * (86400 : Int32).toInt64))])) rfl (by rw [hml]; rfl) (argsL := [(.long (p1 * (86400 : Int32).toInt64)), (.int (0 : Int32))]) (rest := []) (lenOf pd_8 rfl) rfl (by show 2 * 0 + _ ≤ _; exact Nat.le_of_eq rfl) (hb hby d5_7) (fun _ _ => ⟨rfl, rfl, (by decide : 0 + 1 ≤ _), (by decide : 0 + 2 ≤ _)⟩)
  dsimp only [Pt.U, Pt.locs, Pt.cells, Pt.slots] at X2 l2 y2 z2 st2 hQ2
  subst l2 y2 z2
  obtain ⟨r2, u2, w2, rfl, N2q, K2, E2, F2, G2, t2, p2, s2⟩ := hQ2
  have N2 := Fr.app N1 N2q
  refine Goes.by (fun t k => st2 _ k) ?_
  show Goes p e below s _ _ _ (T2.setTop (mkF m 10 #[.val (.long p1), .second] [(.ref r2)]))
  have OLD_K2 := OLD_KK1.keep K2 all0
  have f3 := f1.trans K2 all0
  have f4 := Nat.le_trans f2 K2.1
  exact Goes.retA X2 hx Bd.returns rfl rfl (hb hby d5_10) hlk (by exact ⟨r2, u2, w2, rfl, N2, f3, E2, F2, G2, by rw [t2, d1, own_i0]; omega, p2, s2⟩) (by decide) (by decide)
theorem d19_0 : decode jdk_2316_method_5_code 0 = .ok (.lload_n 0, 1) := by decide +kernel
theorem d19_1 : decode jdk_2316_method_5_code 1 = .ok (.lload_n 2, 1) := by decide +kernel
theorem d19_2 : decode jdk_2316_method_5_code 2 = .ok (.ldc2_w 16, 3) := by decide +kernel
theorem d19_5 : decode jdk_2316_method_5_code 5 = .ok (.invokestatic 18, 3) := by decide +kernel
theorem d19_8 : decode jdk_2316_method_5_code 8 = .ok (.invokestatic 22, 3) := by decide +kernel
theorem d19_11 : decode jdk_2316_method_5_code 11 = .ok (.lstore 4, 2) := by decide +kernel
theorem d19_13 : decode jdk_2316_method_5_code 13 = .ok (.lload_n 2, 1) := by decide +kernel
theorem d19_14 : decode jdk_2316_method_5_code 14 = .ok (.ldc2_w 16, 3) := by decide +kernel
theorem d19_17 : decode jdk_2316_method_5_code 17 = .ok (.invokestatic 25, 3) := by decide +kernel
theorem d19_20 : decode jdk_2316_method_5_code 20 = .ok (.l2i, 1) := by decide +kernel
theorem d19_21 : decode jdk_2316_method_5_code 21 = .ok (.istore 6, 2) := by decide +kernel
theorem d19_23 : decode jdk_2316_method_5_code 23 = .ok (.lload 4, 2) := by decide +kernel
theorem d19_25 : decode jdk_2316_method_5_code 25 = .ok (.iload 6, 2) := by decide +kernel
theorem d19_27 : decode jdk_2316_method_5_code 27 = .ok (.invokestatic 10, 3) := by decide +kernel
theorem d19_30 : decode jdk_2316_method_5_code 30 = .ok (.areturn, 1) := by decide +kernel
theorem ef_rm19 (m : MethodId) (x0 : Int64) (x1 : Int64) : entryFrame m #[(.long x0), (.long x1)] 7 = mkF m 0 #[.val (.long x0), .second, .val (.long x1), .second, .unset, .unset, .unset] [] := by first | (simp [entryFrame, mkF, argsToLocals, Value.category]; done) | rfl
set_option maxRecDepth 65536 in
set_option maxHeartbeats 40000000 in
theorem rm19 (l : Launch) (Z : State) (a0 : Array Value) (hw : ∀ d ∈ tables_1, d.before a0 Z = true) (ws : List Jvm.Cond) (p1 p2 : Int64) (wZ : Addr) (h0 : Heap) (n0 : Nat) (Z0 : n0 ≤ h0.size) (O0 : Old Z n0 h0) (SZ : Sta Z Z.heap "java/time/Duration" "ZERO" "Ljava/time/Duration;" (.ref wZ)) (EZ : Exa Z Z.heap wZ "java/time/Duration") (Fs : Fld Z Z.heap wZ "java/time/Duration" "seconds" "J" (.long 0)) (Fn : Fld Z Z.heap wZ "java/time/Duration" "nanos" "I" (.int 0)) (hp1 : -5000000000000000000 ≤ p1.toInt) (hp2 : p1.toInt ≤ 5000000000000000000) :
    MetFree l (⟨"java/time/Duration", "ofSeconds", "(JJ)Ljava/time/Duration;"⟩ : MethodName) (head1 (Jvm.Cond.code (⟨"java/time/Duration", "ofSeconds", "(JJ)Ljava/time/Duration;"⟩ : MethodName) jdk_2316_method_5_code 7 (some (.object "java/time/Duration")) :: ws) ({ frames := 3, cells := 1, slots := 2, locals := 42 } : Room)) (fun a U => a = #[(.long p1), (.long p2)] ∧ Z.Warmed39 U.vm ∧ U.heap = h0) (fun _ _ _ _ _ => True) (fun _ U o U' => ∃ v L, o = .returned v ∧ (QD Z (p1.toInt * 1000000000 + p2.toInt) h0 n0) v U'.heap L ∧ FrameEnd U o U' L ({ frames := 3, cells := 1, slots := 2, locals := 42 } : Room).cells ({ frames := 3, cells := 1, slots := 2, locals := 42 } : Room).slots) := by
  refine MetFree.of_bodySF (plainFor_of_name pn_2) hisR ?_
  intro p e s m args below meth c s₁ Bd hml0 hP hK
  obtain ⟨rfl, hZ, hh⟩ := hP
  have hx := Bd.exec
  have hby := Bd.bytes
  have hlk : meth.locks = false := BodyLoose.notSynchronized Bd
  have hml : c.maxLocals = 7 := hml0
  have hown : s.vm.findClass "java/time/Duration" = some m.cls := findClass_of_methodNamed Bd.named
  have hnm := (name_of_methodNamed Bd.named Bd.method).1
  have X0 : Stand p l e ({ frames := 3, cells := 1, slots := 2, locals := 42 } : Room) s m #[(.long p1), (.long p2)] below meth c s₁ [] 0 0 := Stand.of_body Bd
  have e0 : s₁.heap = h0 := by rw [← hh, Bd.state]; rfl
  have N0 := Fr.nil n0
  show Goes p e below s (QD Z (p1.toInt * 1000000000 + p2.toInt) h0 n0) ({ frames := 3, cells := 1, slots := 2, locals := 42 } : Room).cells ({ frames := 3, cells := 1, slots := 2, locals := 42 } : Room).slots (s₁.setTop (entryFrame m #[(.long p1), (.long p2)] 7))
  refine Goes.by (fun t k => castTop (ef_rm19 m p1 p2) k) ?_
  show Goes p e below s _ _ _ (s₁.setTop (mkF m 0 #[.val (.long p1), .second, .val (.long p2), .second, .unset, .unset, .unset] []))
  have KC0 : Keep h0 h0 [] := Keep.refl _ _
  refine Goes.by (fun t k => XS.lloadN X0.here hx rfl (hb hby d19_0) rfl k) ?_
  show Goes p e below s _ _ _ (s₁.setTop (mkF m 1 #[.val (.long p1), .second, .val (.long p2), .second, .unset, .unset, .unset] [(.long p1)]))
  refine Goes.by (fun t k => XS.lloadN X0.here hx rfl (hb hby d19_1) rfl k) ?_
  show Goes p e below s _ _ _ (s₁.setTop (mkF m 2 #[.val (.long p1), .second, .val (.long p2), .second, .unset, .unset, .unset] [(.long p2), (.long p1)]))
  refine Goes.by (fun t k => X0.ldc2Long hx hown (mvT hZ (hw _ (List.mem_of_getElem? (i := 108) rfl))) (g := (mkF m 2 #[.val (.long p1), .second, .val (.long p2), .second, .unset, .unset, .unset] [(.long p2), (.long p1)])) rfl (hb hby d19_2) _ k) ?_
  show Goes p e below s _ _ _ (s₁.setTop (mkF m 5 #[.val (.long p1), .second, .val (.long p2), .second, .unset, .unset, .unset] [(.long (1000000000 : Int64)), (.long p2), (.long p1)]))
  obtain ⟨_, _, ⟨T1, L1, k1, n1⟩, -, X1, ⟨Lc1, hQ1, l1, y1, z1⟩, st1⟩ := Jvm.LawKit.callS X0 hx (y := (⟨"java/lang/Math", "floorDiv", "(JJ)J"⟩ : MethodName)) hown (mvT hZ (hw _ (List.mem_of_getElem? (i := 126) rfl))) (mvT hZ (hw _ (List.mem_of_getElem? (i := 127) rfl))) (mvT hZ (hw _ (List.mem_of_getElem? (i := 32) rfl))) (mvT hZ (hw _ (List.mem_of_getElem? (i := 128) rfl))) (by decide) (backOf (W := 2) (rm20 l Z a0 hw [] p2 h0 n0 Z0) hZ (hw _ (List.mem_of_getElem? (i := 128) rfl)) (hw _ (List.mem_of_getElem? (i := 32) rfl)) (by decide) (by decide)) (g := (mkF m 5 #[.val (.long p1), .second, .val (.long p2), .second, .unset, .unset, .unset] [(.long (1000000000 : Int64)), (.long p2), (.long p1)])) rfl (by rw [hml]; rfl) (argsL := [(.long p2), (.long (1000000000 : Int64))]) (rest := [(.long p1)]) (lenOf pd_6 rfl) rfl (by show 2 * 0 + _ ≤ _; exact Nat.le_of_eq rfl) (hb hby d19_5) (fun _ _ => ⟨rfl, e0, (by decide : 0 + 0 ≤ _), (by decide : 0 + 0 ≤ _)⟩)
  dsimp only [Pt.U, Pt.locs, Pt.cells, Pt.slots] at X1 l1 y1 z1 st1 hQ1
  subst l1 y1 z1
  obtain ⟨zz1, rfl, N1q, hh1, hz1⟩ := hQ1
  have N1 := Fr.app N0 N1q
  refine Goes.by (fun t k => st1 _ k) ?_
  show Goes p e below s _ _ _ (T1.setTop (mkF m 8 #[.val (.long p1), .second, .val (.long p2), .second, .unset, .unset, .unset] [(.long zz1), (.long p1)]))
  have KK1 : Keep (h0) T1.heap [] := by rw [hh1]; exact Keep.refl _ _
  have OLD_KK1 := O0.keep KK1 all0
  have f1 := KC0.trans KK1 all0
  have f2 := Nat.le_trans Z0 KK1.1
  have A1 : (p1 + zz1).toInt = p1.toInt + zz1.toInt := own_addv _ _ (by have := rng64 p2; omega) (by have := rng64 p2; omega)
  obtain ⟨_, _, ⟨T2, L2, k2, n2⟩, -, X2, ⟨Lc2, hQ2, l2, y2, z2⟩, st2⟩ := Jvm.LawKit.callS X1 hx (y := (⟨"java/lang/Math", "addExact", "(JJ)J"⟩ : MethodName)) hown (mvT hZ (hw _ (List.mem_of_getElem? (i := 120) rfl))) (mvT hZ (hw _ (List.mem_of_getElem? (i := 121) rfl))) (mvT hZ (hw _ (List.mem_of_getElem? (i := 32) rfl))) (mvT hZ (hw _ (List.mem_of_getElem? (i := 122) rfl))) (by decide) (backOf (W := 0) (rm18 l Z a0 hw [] p1 zz1 _ n0 f2 A1) hZ (hw _ (List.mem_of_getElem? (i := 122) rfl)) (hw _ (List.mem_of_getElem? (i := 32) rfl)) (by decide) (by decide)) (g := (mkF m 8 #[.val (.long p1), .second, .val (.long p2), .second, .unset, .unset, .unset] [(.long zz1), (.long p1)])) rfl (by rw [hml]; rfl) (argsL := [(.long p1), (.long zz1)]) (rest := []) (lenOf pd_6 rfl) rfl (by show 2 * 0 + _ ≤ _; exact Nat.le_of_eq rfl) (hb hby d19_8) (fun _ _ => ⟨rfl, rfl, (by decide : 0 + 0 ≤ _), (by decide : 0 + 0 ≤ _)⟩)
  dsimp only [Pt.U, Pt.locs, Pt.cells, Pt.slots] at X2 l2 y2 z2 st2 hQ2
  subst l2 y2 z2
  obtain ⟨rfl, N2q, hh2⟩ := hQ2
  have N2 := Fr.app N1 N2q
  refine Goes.by (fun t k => st2 _ k) ?_
  show Goes p e below s _ _ _ (T2.setTop (mkF m 11 #[.val (.long p1), .second, .val (.long p2), .second, .unset, .unset, .unset] [(.long (p1 + zz1))]))
  have KK2 : Keep (T1.heap) T2.heap [] := by rw [hh2]; exact Keep.refl _ _
  have OLD_KK2 := OLD_KK1.keep KK2 all0
  have f3 := f1.trans KK2 all0
  have f4 := Nat.le_trans f2 KK2.1
  refine Goes.by (fun t k => XS.lstore X2.here hx rfl (hb hby d19_11) rfl (l' := #[.val (.long p1), .second, .val (.long p2), .second, .val (.long (p1 + zz1)), .second, .unset]) rfl k) ?_
  show Goes p e below s _ _ _ (T2.setTop (mkF m 13 #[.val (.long p1), .second, .val (.long p2), .second, .val (.long (p1 + zz1)), .second, .unset] []))
  refine Goes.by (fun t k => XS.lloadN X2.here hx rfl (hb hby d19_13) rfl k) ?_
  show Goes p e below s _ _ _ (T2.setTop (mkF m 14 #[.val (.long p1), .second, .val (.long p2), .second, .val (.long (p1 + zz1)), .second, .unset] [(.long p2)]))
  refine Goes.by (fun t k => X2.ldc2Long hx hown (mvT hZ (hw _ (List.mem_of_getElem? (i := 108) rfl))) (g := (mkF m 14 #[.val (.long p1), .second, .val (.long p2), .second, .val (.long (p1 + zz1)), .second, .unset] [(.long p2)])) rfl (hb hby d19_14) _ k) ?_
  show Goes p e below s _ _ _ (T2.setTop (mkF m 17 #[.val (.long p1), .second, .val (.long p2), .second, .val (.long (p1 + zz1)), .second, .unset] [(.long (1000000000 : Int64)), (.long p2)]))
  obtain ⟨_, _, ⟨T3, L3, k3, n3⟩, -, X3, ⟨Lc3, hQ3, l3, y3, z3⟩, st3⟩ := Jvm.LawKit.callS X2 hx (y := (⟨"java/lang/Math", "floorMod", "(JJ)J"⟩ : MethodName)) hown (mvT hZ (hw _ (List.mem_of_getElem? (i := 129) rfl))) (mvT hZ (hw _ (List.mem_of_getElem? (i := 130) rfl))) (mvT hZ (hw _ (List.mem_of_getElem? (i := 32) rfl))) (mvT hZ (hw _ (List.mem_of_getElem? (i := 131) rfl))) (by decide) (backOf (W := 0) (rm21 l Z a0 hw [] p2 _ n0 f4) hZ (hw _ (List.mem_of_getElem? (i := 131) rfl)) (hw _ (List.mem_of_getElem? (i := 32) rfl)) (by decide) (by decide)) (g := (mkF m 17 #[.val (.long p1), .second, .val (.long p2), .second, .val (.long (p1 + zz1)), .second, .unset] [(.long (1000000000 : Int64)), (.long p2)])) rfl (by rw [hml]; rfl) (argsL := [(.long p2), (.long (1000000000 : Int64))]) (rest := []) (lenOf pd_6 rfl) rfl (by show 2 * 0 + _ ≤ _; exact Nat.le_of_eq rfl) (hb hby d19_17) (fun _ _ => ⟨rfl, rfl, (by decide : 0 + 0 ≤ _), (by decide : 0 + 0 ≤ _)⟩)
  dsimp only [Pt.U, Pt.locs, Pt.cells, Pt.slots] at X3 l3 y3 z3 st3 hQ3
  subst l3 y3 z3
  obtain ⟨zz3, rfl, N3q, hh3, hz3⟩ := hQ3
  have N3 := Fr.app N2 N3q
  refine Goes.by (fun t k => st3 _ k) ?_
  show Goes p e below s _ _ _ (T3.setTop (mkF m 20 #[.val (.long p1), .second, .val (.long p2), .second, .val (.long (p1 + zz1)), .second, .unset] [(.long zz3)]))
  have KK3 : Keep (T2.heap) T3.heap [] := by rw [hh3]; exact Keep.refl _ _
  have OLD_KK3 := OLD_KK2.keep KK3 all0
  have f5 := f3.trans KK3 all0
  have f6 := Nat.le_trans f4 KK3.1
  refine Goes.by (fun t k => XS.l2i X3.here hx rfl (hb hby d19_20) rfl k) ?_
  show Goes p e below s _ _ _ (T3.setTop (mkF m 21 #[.val (.long p1), .second, .val (.long p2), .second, .val (.long (p1 + zz1)), .second, .unset] [(.int (zz3.toInt32))]))
  refine Goes.by (fun t k => XS.istore X3.here hx rfl (hb hby d19_21) rfl (l' := #[.val (.long p1), .second, .val (.long p2), .second, .val (.long (p1 + zz1)), .second, .val (.int (zz3.toInt32))]) rfl k) ?_
  show Goes p e below s _ _ _ (T3.setTop (mkF m 23 #[.val (.long p1), .second, .val (.long p2), .second, .val (.long (p1 + zz1)), .second, .val (.int (zz3.toInt32))] []))
  refine Goes.by (fun t k => XS.lload X3.here hx rfl (hb hby d19_23) rfl k) ?_
  show Goes p e below s _ _ _ (T3.setTop (mkF m 25 #[.val (.long p1), .second, .val (.long p2), .second, .val (.long (p1 + zz1)), .second, .val (.int (zz3.toInt32))] [(.long (p1 + zz1))]))
  refine Goes.by (fun t k => XS.iload X3.here hx rfl (hb hby d19_25) rfl k) ?_
  show Goes p e below s _ _ _ (T3.setTop (mkF m 27 #[.val (.long p1), .second, .val (.long p2), .second, .val (.long (p1 + zz1)), .second, .val (.int (zz3.toInt32))] [(.int (zz3.toInt32)), (.long (p1 + zz1))]))
  obtain ⟨B1, B2, B3⟩ := own_ofs p1 p2 zz1 zz3 hz1 hz3 hp1 hp2
  obtain ⟨_, _, ⟨T4, L4, k4, n4⟩, -, X4, ⟨Lc4, hQ4, l4, y4, z4⟩, st4⟩ := Jvm.LawKit.callS X3 hx (y := (⟨"java/time/Duration", "create", "(JI)Ljava/time/Duration;"⟩ : MethodName)) hown (mvT hZ (hw _ (List.mem_of_getElem? (i := 40) rfl))) (mvT hZ (hw _ (List.mem_of_getElem? (i := 41) rfl))) (mvT hZ (hw _ (List.mem_of_getElem? (i := 27) rfl))) (mvT hZ (hw _ (List.mem_of_getElem? (i := 42) rfl))) (by decide) (backOf (W := 0) (rm9 l Z a0 hw [] _ _ wZ _ n0 f6 OLD_KK3 SZ EZ Fs Fn B2.1 B2.2) hZ (hw _ (List.mem_of_getElem? (i := 42) rfl)) (hw _ (List.mem_of_getElem? (i := 27) rfl)) (by decide) (by decide)) (g := (mkF m 27 #[.val (.long p1), .second, .val (.long p2), .second, .val (.long (p1 + zz1)), .second, .val (.int (zz3.toInt32))] [(.int (zz3.toInt32)), (.long (p1 + zz1))])) rfl (by rw [hml]; rfl) (argsL := [(.long (p1 + zz1)), (.int (zz3.toInt32))]) (rest := []) (lenOf pd_8 rfl) rfl (by show 2 * 0 + _ ≤ _; exact Nat.le_of_eq rfl) (hb hby d19_27) (fun _ _ => ⟨rfl, rfl, (by decide : 0 + 1 ≤ _), (by decide : 0 + 2 ≤ _)⟩)
  dsimp only [Pt.U, Pt.locs, Pt.cells, Pt.slots] at X4 l4 y4 z4 st4 hQ4
  subst l4 y4 z4
  obtain ⟨r4, u4, w4, rfl, N4q, K4, E4, F4, G4, t4, p4, s4⟩ := hQ4
  have N4 := Fr.app N3 N4q
  refine Goes.by (fun t k => st4 _ k) ?_
  show Goes p e below s _ _ _ (T4.setTop (mkF m 30 #[.val (.long p1), .second, .val (.long p2), .second, .val (.long (p1 + zz1)), .second, .val (.int (zz3.toInt32))] [(.ref r4)]))
  have OLD_K4 := OLD_KK3.keep K4 all0
  have f7 := f5.trans K4 all0
  have f8 := Nat.le_trans f6 K4.1
  exact Goes.retA X4 hx Bd.returns rfl rfl (hb hby d19_30) hlk (by exact ⟨r4, u4, w4, rfl, N4, f7, E4, F4, G4, t4.trans B3, p4, s4⟩) (by decide) (by decide)
theorem d17_0 : decode jdk_2316_method_35_code 0 = .ok (.lload_n 1, 1) := by decide +kernel
theorem d17_1 : decode jdk_2316_method_35_code 1 = .ok (.lload_n 3, 1) := by decide +kernel
theorem d17_2 : decode jdk_2316_method_35_code 2 = .ok (.lor, 1) := by decide +kernel
theorem d17_3 : decode jdk_2316_method_35_code 3 = .ok (.lconst 0, 1) := by decide +kernel
theorem d17_4 : decode jdk_2316_method_35_code 4 = .ok (.lcmp, 1) := by decide +kernel
theorem d17_5 : decode jdk_2316_method_35_code 5 = .ok (.ifCond .ne 5, 3) := by decide +kernel
theorem d17_8 : decode jdk_2316_method_35_code 8 = .ok (.aload_n 0, 1) := by decide +kernel
theorem d17_9 : decode jdk_2316_method_35_code 9 = .ok (.areturn, 1) := by decide +kernel
theorem d17_10 : decode jdk_2316_method_35_code 10 = .ok (.aload_n 0, 1) := by decide +kernel
theorem d17_11 : decode jdk_2316_method_35_code 11 = .ok (.getfield 221, 3) := by decide +kernel
theorem d17_14 : decode jdk_2316_method_35_code 14 = .ok (.lload_n 1, 1) := by decide +kernel
theorem d17_15 : decode jdk_2316_method_35_code 15 = .ok (.invokestatic 22, 3) := by decide +kernel
theorem d17_18 : decode jdk_2316_method_35_code 18 = .ok (.lstore 5, 2) := by decide +kernel
theorem d17_20 : decode jdk_2316_method_35_code 20 = .ok (.lload 5, 2) := by decide +kernel
theorem d17_22 : decode jdk_2316_method_35_code 22 = .ok (.lload_n 3, 1) := by decide +kernel
theorem d17_23 : decode jdk_2316_method_35_code 23 = .ok (.ldc2_w 16, 3) := by decide +kernel
theorem d17_26 : decode jdk_2316_method_35_code 26 = .ok (.ldiv, 1) := by decide +kernel
theorem d17_27 : decode jdk_2316_method_35_code 27 = .ok (.invokestatic 22, 3) := by decide +kernel
theorem d17_30 : decode jdk_2316_method_35_code 30 = .ok (.lstore 5, 2) := by decide +kernel
theorem d17_32 : decode jdk_2316_method_35_code 32 = .ok (.lload_n 3, 1) := by decide +kernel
theorem d17_33 : decode jdk_2316_method_35_code 33 = .ok (.ldc2_w 16, 3) := by decide +kernel
theorem d17_36 : decode jdk_2316_method_35_code 36 = .ok (.lrem, 1) := by decide +kernel
theorem d17_37 : decode jdk_2316_method_35_code 37 = .ok (.lstore_n 3, 1) := by decide +kernel
theorem d17_38 : decode jdk_2316_method_35_code 38 = .ok (.aload_n 0, 1) := by decide +kernel
theorem d17_39 : decode jdk_2316_method_35_code 39 = .ok (.getfield 224, 3) := by decide +kernel
theorem d17_42 : decode jdk_2316_method_35_code 42 = .ok (.i2l, 1) := by decide +kernel
theorem d17_43 : decode jdk_2316_method_35_code 43 = .ok (.lload_n 3, 1) := by decide +kernel
theorem d17_44 : decode jdk_2316_method_35_code 44 = .ok (.ladd, 1) := by decide +kernel
theorem d17_45 : decode jdk_2316_method_35_code 45 = .ok (.lstore 7, 2) := by decide +kernel
theorem d17_47 : decode jdk_2316_method_35_code 47 = .ok (.lload 5, 2) := by decide +kernel
theorem d17_49 : decode jdk_2316_method_35_code 49 = .ok (.lload 7, 2) := by decide +kernel
theorem d17_51 : decode jdk_2316_method_35_code 51 = .ok (.invokestatic 176, 3) := by decide +kernel
theorem d17_54 : decode jdk_2316_method_35_code 54 = .ok (.areturn, 1) := by decide +kernel
theorem ef_rm17 (m : MethodId) (x0 : Addr) (x1 : Int64) (x2 : Int64) : entryFrame m #[(.ref x0), (.long x1), (.long x2)] 9 = mkF m 0 #[.val (.ref x0), .val (.long x1), .second, .val (.long x2), .second, .unset, .unset, .unset, .unset] [] := by first | (simp [entryFrame, mkF, argsToLocals, Value.category]; done) | rfl
set_option maxRecDepth 65536 in
set_option maxHeartbeats 40000000 in
theorem rm17 (l : Launch) (Z : State) (a0 : Array Value) (hw : ∀ d ∈ tables_1, d.before a0 Z = true) (ws : List Jvm.Cond) (a1 : Addr) (sa : Int64) (na : Int32) (s1 n1 : Int64) (wZ : Addr) (h0 : Heap) (n0 : Nat) (Z0 : n0 ≤ h0.size) (O0 : Old Z n0 h0) (SZ : Sta Z Z.heap "java/time/Duration" "ZERO" "Ljava/time/Duration;" (.ref wZ)) (EZ : Exa Z Z.heap wZ "java/time/Duration") (Fs : Fld Z Z.heap wZ "java/time/Duration" "seconds" "J" (.long 0)) (Fn : Fld Z Z.heap wZ "java/time/Duration" "nanos" "I" (.int 0)) (Ra : Exa Z h0 a1 "java/time/Duration") (Rb : Fld Z h0 a1 "java/time/Duration" "seconds" "J" (.long sa)) (Rc : Fld Z h0 a1 "java/time/Duration" "nanos" "I" (.int na)) (hs1 : -2000000000000000000 ≤ sa.toInt) (hs2 : sa.toInt ≤ 2000000000000000000) (hn1 : 0 ≤ na.toInt) (hn2 : na.toInt < 1000000000) (hb1 : -2000000000000000000 ≤ s1.toInt) (hb2 : s1.toInt ≤ 2000000000000000000) :
    MetFree l (⟨"java/time/Duration", "plus", "(JJ)Ljava/time/Duration;"⟩ : MethodName) (head1 (Jvm.Cond.code (⟨"java/time/Duration", "plus", "(JJ)Ljava/time/Duration;"⟩ : MethodName) jdk_2316_method_35_code 9 (some (.object "java/time/Duration")) :: ws) ({ frames := 4, cells := 1, slots := 2, locals := 60 } : Room)) (fun a U => a = #[(.ref a1), (.long s1), (.long n1)] ∧ Z.Warmed39 U.vm ∧ U.heap = h0) (fun _ _ _ _ _ => True) (fun _ U o U' => ∃ v L, o = .returned v ∧ (QD Z ((sa.toInt + s1.toInt) * 1000000000 + na.toInt + n1.toInt) h0 n0) v U'.heap L ∧ FrameEnd U o U' L ({ frames := 4, cells := 1, slots := 2, locals := 60 } : Room).cells ({ frames := 4, cells := 1, slots := 2, locals := 60 } : Room).slots) := by
  refine MetFree.of_bodySF (plainFor_of_name pn_2) hisR ?_
  intro p e s m args below meth c s₁ Bd hml0 hP hK
  obtain ⟨rfl, hZ, hh⟩ := hP
  have hx := Bd.exec
  have hby := Bd.bytes
  have hlk : meth.locks = false := BodyLoose.notSynchronized Bd
  have hml : c.maxLocals = 9 := hml0
  have hown : s.vm.findClass "java/time/Duration" = some m.cls := findClass_of_methodNamed Bd.named
  have hnm := (name_of_methodNamed Bd.named Bd.method).1
  have X0 : Stand p l e ({ frames := 4, cells := 1, slots := 2, locals := 60 } : Room) s m #[(.ref a1), (.long s1), (.long n1)] below meth c s₁ [] 0 0 := Stand.of_body Bd
  have e0 : s₁.heap = h0 := by rw [← hh, Bd.state]; rfl
  have N0 := Fr.nil n0
  show Goes p e below s (QD Z ((sa.toInt + s1.toInt) * 1000000000 + na.toInt + n1.toInt) h0 n0) ({ frames := 4, cells := 1, slots := 2, locals := 60 } : Room).cells ({ frames := 4, cells := 1, slots := 2, locals := 60 } : Room).slots (s₁.setTop (entryFrame m #[(.ref a1), (.long s1), (.long n1)] 9))
  refine Goes.by (fun t k => castTop (ef_rm17 m a1 s1 n1) k) ?_
  show Goes p e below s _ _ _ (s₁.setTop (mkF m 0 #[.val (.ref a1), .val (.long s1), .second, .val (.long n1), .second, .unset, .unset, .unset, .unset] []))
  have KC0 : Keep h0 h0 [] := Keep.refl _ _
  obtain ⟨c1, c2, c3, c4, c5⟩ := own_pjj sa s1 n1 na hs1 hs2 hb1 hb2 hn1 hn2
  refine Goes.by (fun t k => XS.lloadN X0.here hx rfl (hb hby d17_0) rfl k) ?_
  show Goes p e below s _ _ _ (s₁.setTop (mkF m 1 #[.val (.ref a1), .val (.long s1), .second, .val (.long n1), .second, .unset, .unset, .unset, .unset] [(.long s1)]))
  refine Goes.by (fun t k => XS.lloadN X0.here hx rfl (hb hby d17_1) rfl k) ?_
  show Goes p e below s _ _ _ (s₁.setTop (mkF m 2 #[.val (.ref a1), .val (.long s1), .second, .val (.long n1), .second, .unset, .unset, .unset, .unset] [(.long n1), (.long s1)]))
  refine Goes.by (fun t k => XS.lor X0.here hx rfl (hb hby d17_2) rfl k) ?_
  show Goes p e below s _ _ _ (s₁.setTop (mkF m 3 #[.val (.ref a1), .val (.long s1), .second, .val (.long n1), .second, .unset, .unset, .unset, .unset] [(.long (s1 ||| n1))]))
  refine Goes.by (fun t k => XS.lconst X0.here hx rfl (hb hby d17_3) k) ?_
  show Goes p e below s _ _ _ (s₁.setTop (mkF m 4 #[.val (.ref a1), .val (.long s1), .second, .val (.long n1), .second, .unset, .unset, .unset, .unset] [(.long (0 : Int64)), (.long (s1 ||| n1))]))
  refine Goes.by (fun t k => XS.lcmp X0.here hx rfl (hb hby d17_4) rfl k) ?_
  show Goes p e below s _ _ _ (s₁.setTop (mkF m 5 #[.val (.ref a1), .val (.long s1), .second, .val (.long n1), .second, .unset, .unset, .unset, .unset] [(.int (lcmpW (s1 ||| n1) (0 : Int64)))]))
  by_cases hc : (lcmpW (s1 ||| n1) (0 : Int64)) = (0 : Int32)
  · skip
    refine Goes.by (fun t k => XS.ifNo X0.here hx rfl (hb hby d17_5) rfl ((if0 _ _).trans (teq (hc)).2) k) ?_
    show Goes p e below s _ _ _ (s₁.setTop (mkF m 8 #[.val (.ref a1), .val (.long s1), .second, .val (.long n1), .second, .unset, .unset, .unset, .unset] []))
    obtain ⟨q1, q2⟩ := own_orLL _ _ ((lw_eq _ _).mp hc)
    refine Goes.by (fun t k => XS.aloadN X0.here hx rfl (hb hby d17_8) rfl rfl k) ?_
    show Goes p e below s _ _ _ (s₁.setTop (mkF m 9 #[.val (.ref a1), .val (.long s1), .second, .val (.long n1), .second, .unset, .unset, .unset, .unset] [(.ref a1)]))
    exact Goes.retA X0 hx Bd.returns rfl rfl (hb hby d17_9) hlk (by rw [e0]; exact ⟨a1, sa, na, rfl, N0, KC0, Ra, Rb, Rc, by rw [q1, q2, own_l0]; omega, hn1, hn2⟩) (by decide) (by decide)
  · skip
    refine Goes.by (fun t k => XS.ifYes X0.here hx rfl (pc0 := 5) (pc' := 10) rfl (hb hby d17_5) rfl ((if0 _ _).trans (feq (hc)).2) (by decide) (by decide) k) ?_
    show Goes p e below s _ _ _ (s₁.setTop (mkF m 10 #[.val (.ref a1), .val (.long s1), .second, .val (.long n1), .second, .unset, .unset, .unset, .unset] []))
    refine Goes.by (fun t k => XS.aloadN X0.here hx rfl (hb hby d17_10) rfl rfl k) ?_
    show Goes p e below s _ _ _ (s₁.setTop (mkF m 11 #[.val (.ref a1), .val (.long s1), .second, .val (.long n1), .second, .unset, .unset, .unset, .unset] [(.ref a1)]))
    obtain ⟨T1, X1, e1, st1⟩ := getF X0 hx hZ hown (host := "") (Or.inl (hw _ (List.mem_of_getElem? (i := 50) rfl))) Via.refl e0 (Rb) (g := (mkF m 11 #[.val (.ref a1), .val (.long s1), .second, .val (.long n1), .second, .unset, .unset, .unset, .unset] [(.ref a1)])) rfl rfl (hb hby d17_11)
    refine Goes.by (fun t k => st1 t k) ?_
    show Goes p e below s _ _ _ (T1.setTop (mkF m 14 #[.val (.ref a1), .val (.long s1), .second, .val (.long n1), .second, .unset, .unset, .unset, .unset] [(.long sa)]))
    refine Goes.by (fun t k => XS.lloadN X1.here hx rfl (hb hby d17_14) rfl k) ?_
    show Goes p e below s _ _ _ (T1.setTop (mkF m 15 #[.val (.ref a1), .val (.long s1), .second, .val (.long n1), .second, .unset, .unset, .unset, .unset] [(.long s1), (.long sa)]))
    obtain ⟨_, _, ⟨T2, L2, k2, n2⟩, -, X2, ⟨Lc2, hQ2, l2, y2, z2⟩, st2⟩ := Jvm.LawKit.callS X1 hx (y := (⟨"java/lang/Math", "addExact", "(JJ)J"⟩ : MethodName)) hown (mvT hZ (hw _ (List.mem_of_getElem? (i := 120) rfl))) (mvT hZ (hw _ (List.mem_of_getElem? (i := 121) rfl))) (mvT hZ (hw _ (List.mem_of_getElem? (i := 32) rfl))) (mvT hZ (hw _ (List.mem_of_getElem? (i := 122) rfl))) (by decide) (backOf (W := 0) (rm18 l Z a0 hw [] sa s1 _ n0 Z0 c1) hZ (hw _ (List.mem_of_getElem? (i := 122) rfl)) (hw _ (List.mem_of_getElem? (i := 32) rfl)) (by decide) (by decide)) (g := (mkF m 15 #[.val (.ref a1), .val (.long s1), .second, .val (.long n1), .second, .unset, .unset, .unset, .unset] [(.long s1), (.long sa)])) rfl (by rw [hml]; rfl) (argsL := [(.long sa), (.long s1)]) (rest := []) (lenOf pd_6 rfl) rfl (by show 2 * 0 + _ ≤ _; exact Nat.le_of_eq rfl) (hb hby d17_15) (fun _ _ => ⟨rfl, e1, (by decide : 0 + 0 ≤ _), (by decide : 0 + 0 ≤ _)⟩)
    dsimp only [Pt.U, Pt.locs, Pt.cells, Pt.slots] at X2 l2 y2 z2 st2 hQ2
    subst l2 y2 z2
    obtain ⟨rfl, N2q, hh2⟩ := hQ2
    have N2 := Fr.app N0 N2q
    refine Goes.by (fun t k => st2 _ k) ?_
    show Goes p e below s _ _ _ (T2.setTop (mkF m 18 #[.val (.ref a1), .val (.long s1), .second, .val (.long n1), .second, .unset, .unset, .unset, .unset] [(.long (sa + s1))]))
    have KK2 : Keep (h0) T2.heap [] := by rw [hh2]; exact Keep.refl _ _
    have OLD_KK2 := O0.keep KK2 all0
    have f1 := KC0.trans KK2 all0
    have f2 := Nat.le_trans Z0 KK2.1
    have f3 := Ra.keep KK2
    have f4 := Rb.keep KK2 nin0
    have f5 := Rc.keep KK2 nin0
    refine Goes.by (fun t k => XS.lstore X2.here hx rfl (hb hby d17_18) rfl (l' := #[.val (.ref a1), .val (.long s1), .second, .val (.long n1), .second, .val (.long (sa + s1)), .second, .unset, .unset]) rfl k) ?_
    show Goes p e below s _ _ _ (T2.setTop (mkF m 20 #[.val (.ref a1), .val (.long s1), .second, .val (.long n1), .second, .val (.long (sa + s1)), .second, .unset, .unset] []))
    refine Goes.by (fun t k => XS.lload X2.here hx rfl (hb hby d17_20) rfl k) ?_
    show Goes p e below s _ _ _ (T2.setTop (mkF m 22 #[.val (.ref a1), .val (.long s1), .second, .val (.long n1), .second, .val (.long (sa + s1)), .second, .unset, .unset] [(.long (sa + s1))]))
    refine Goes.by (fun t k => XS.lloadN X2.here hx rfl (hb hby d17_22) rfl k) ?_
    show Goes p e below s _ _ _ (T2.setTop (mkF m 23 #[.val (.ref a1), .val (.long s1), .second, .val (.long n1), .second, .val (.long (sa + s1)), .second, .unset, .unset] [(.long n1), (.long (sa + s1))]))
    refine Goes.by (fun t k => X2.ldc2Long hx hown (mvT hZ (hw _ (List.mem_of_getElem? (i := 108) rfl))) (g := (mkF m 23 #[.val (.ref a1), .val (.long s1), .second, .val (.long n1), .second, .val (.long (sa + s1)), .second, .unset, .unset] [(.long n1), (.long (sa + s1))])) rfl (hb hby d17_23) _ k) ?_
    show Goes p e below s _ _ _ (T2.setTop (mkF m 26 #[.val (.ref a1), .val (.long s1), .second, .val (.long n1), .second, .val (.long (sa + s1)), .second, .unset, .unset] [(.long (1000000000 : Int64)), (.long n1), (.long (sa + s1))]))
    refine Goes.by (fun t k => XS.ldiv X2.here hx rfl (hb hby d17_26) rfl (by decide) k) ?_
    show Goes p e below s _ _ _ (T2.setTop (mkF m 27 #[.val (.ref a1), .val (.long s1), .second, .val (.long n1), .second, .val (.long (sa + s1)), .second, .unset, .unset] [(.long (n1 / (1000000000 : Int64))), (.long (sa + s1))]))
    obtain ⟨_, _, ⟨T3, L3, k3, n3⟩, -, X3, ⟨Lc3, hQ3, l3, y3, z3⟩, st3⟩ := Jvm.LawKit.callS X2 hx (y := (⟨"java/lang/Math", "addExact", "(JJ)J"⟩ : MethodName)) hown (mvT hZ (hw _ (List.mem_of_getElem? (i := 120) rfl))) (mvT hZ (hw _ (List.mem_of_getElem? (i := 121) rfl))) (mvT hZ (hw _ (List.mem_of_getElem? (i := 32) rfl))) (mvT hZ (hw _ (List.mem_of_getElem? (i := 122) rfl))) (by decide) (backOf (W := 0) (rm18 l Z a0 hw [] (sa + s1) (n1 / 1000000000) _ n0 f2 c2) hZ (hw _ (List.mem_of_getElem? (i := 122) rfl)) (hw _ (List.mem_of_getElem? (i := 32) rfl)) (by decide) (by decide)) (g := (mkF m 27 #[.val (.ref a1), .val (.long s1), .second, .val (.long n1), .second, .val (.long (sa + s1)), .second, .unset, .unset] [(.long (n1 / (1000000000 : Int64))), (.long (sa + s1))])) rfl (by rw [hml]; rfl) (argsL := [(.long (sa + s1)), (.long (n1 / (1000000000 : Int64)))]) (rest := []) (lenOf pd_6 rfl) rfl (by show 2 * 0 + _ ≤ _; exact Nat.le_of_eq rfl) (hb hby d17_27) (fun _ _ => ⟨rfl, rfl, (by decide : 0 + 0 ≤ _), (by decide : 0 + 0 ≤ _)⟩)
    dsimp only [Pt.U, Pt.locs, Pt.cells, Pt.slots] at X3 l3 y3 z3 st3 hQ3
    subst l3 y3 z3
    obtain ⟨rfl, N3q, hh3⟩ := hQ3
    have N3 := Fr.app N2 N3q
    refine Goes.by (fun t k => st3 _ k) ?_
    show Goes p e below s _ _ _ (T3.setTop (mkF m 30 #[.val (.ref a1), .val (.long s1), .second, .val (.long n1), .second, .val (.long (sa + s1)), .second, .unset, .unset] [(.long (sa + s1 + n1 / 1000000000))]))
    have KK3 : Keep (T2.heap) T3.heap [] := by rw [hh3]; exact Keep.refl _ _
    have OLD_KK3 := OLD_KK2.keep KK3 all0
    have f6 := f1.trans KK3 all0
    have f7 := Nat.le_trans f2 KK3.1
    have f8 := f3.keep KK3
    have f9 := f4.keep KK3 nin0
    have f10 := f5.keep KK3 nin0
    refine Goes.by (fun t k => XS.lstore X3.here hx rfl (hb hby d17_30) rfl (l' := #[.val (.ref a1), .val (.long s1), .second, .val (.long n1), .second, .val (.long (sa + s1 + n1 / 1000000000)), .second, .unset, .unset]) rfl k) ?_
    show Goes p e below s _ _ _ (T3.setTop (mkF m 32 #[.val (.ref a1), .val (.long s1), .second, .val (.long n1), .second, .val (.long (sa + s1 + n1 / 1000000000)), .second, .unset, .unset] []))
    refine Goes.by (fun t k => XS.lloadN X3.here hx rfl (hb hby d17_32) rfl k) ?_
    show Goes p e below s _ _ _ (T3.setTop (mkF m 33 #[.val (.ref a1), .val (.long s1), .second, .val (.long n1), .second, .val (.long (sa + s1 + n1 / 1000000000)), .second, .unset, .unset] [(.long n1)]))
    refine Goes.by (fun t k => X3.ldc2Long hx hown (mvT hZ (hw _ (List.mem_of_getElem? (i := 108) rfl))) (g := (mkF m 33 #[.val (.ref a1), .val (.long s1), .second, .val (.long n1), .second, .val (.long (sa + s1 + n1 / 1000000000)), .second, .unset, .unset] [(.long n1)])) rfl (hb hby d17_33) _ k) ?_
    show Goes p e below s _ _ _ (T3.setTop (mkF m 36 #[.val (.ref a1), .val (.long s1), .second, .val (.long n1), .second, .val (.long (sa + s1 + n1 / 1000000000)), .second, .unset, .unset] [(.long (1000000000 : Int64)), (.long n1)]))
    refine Goes.by (fun t k => XS.lrem X3.here hx rfl (hb hby d17_36) rfl (by decide) k) ?_
    show Goes p e below s _ _ _ (T3.setTop (mkF m 37 #[.val (.ref a1), .val (.long s1), .second, .val (.long n1), .second, .val (.long (sa + s1 + n1 / 1000000000)), .second, .unset, .unset] [(.long (n1 - n1 / (1000000000 : Int64) * (1000000000 : Int64)))]))
    refine Goes.by (fun t k => XS.lstoreN X3.here hx rfl (hb hby d17_37) rfl (l' := #[.val (.ref a1), .val (.long s1), .second, .val (.long (n1 - n1 / (1000000000 : Int64) * (1000000000 : Int64))), .second, .val (.long (sa + s1 + n1 / 1000000000)), .second, .unset, .unset]) rfl k) ?_
    show Goes p e below s _ _ _ (T3.setTop (mkF m 38 #[.val (.ref a1), .val (.long s1), .second, .val (.long (n1 - n1 / (1000000000 : Int64) * (1000000000 : Int64))), .second, .val (.long (sa + s1 + n1 / 1000000000)), .second, .unset, .unset] []))
    refine Goes.by (fun t k => XS.aloadN X3.here hx rfl (hb hby d17_38) rfl rfl k) ?_
    show Goes p e below s _ _ _ (T3.setTop (mkF m 39 #[.val (.ref a1), .val (.long s1), .second, .val (.long (n1 - n1 / (1000000000 : Int64) * (1000000000 : Int64))), .second, .val (.long (sa + s1 + n1 / 1000000000)), .second, .unset, .unset] [(.ref a1)]))
    obtain ⟨T4, X4, e4, st4⟩ := getF X3 hx hZ hown (host := "") (Or.inl (hw _ (List.mem_of_getElem? (i := 52) rfl))) Via.refl rfl (f10) (g := (mkF m 39 #[.val (.ref a1), .val (.long s1), .second, .val (.long (n1 - n1 / (1000000000 : Int64) * (1000000000 : Int64))), .second, .val (.long (sa + s1 + n1 / 1000000000)), .second, .unset, .unset] [(.ref a1)])) rfl rfl (hb hby d17_39)
    refine Goes.by (fun t k => st4 t k) ?_
    show Goes p e below s _ _ _ (T4.setTop (mkF m 42 #[.val (.ref a1), .val (.long s1), .second, .val (.long (n1 - n1 / (1000000000 : Int64) * (1000000000 : Int64))), .second, .val (.long (sa + s1 + n1 / 1000000000)), .second, .unset, .unset] [(.int na)]))
    refine Goes.by (fun t k => XS.i2l X4.here hx rfl (hb hby d17_42) rfl k) ?_
    show Goes p e below s _ _ _ (T4.setTop (mkF m 43 #[.val (.ref a1), .val (.long s1), .second, .val (.long (n1 - n1 / (1000000000 : Int64) * (1000000000 : Int64))), .second, .val (.long (sa + s1 + n1 / 1000000000)), .second, .unset, .unset] [(.long (na.toInt64))]))
    refine Goes.by (fun t k => XS.lloadN X4.here hx rfl (hb hby d17_43) rfl k) ?_
    show Goes p e below s _ _ _ (T4.setTop (mkF m 44 #[.val (.ref a1), .val (.long s1), .second, .val (.long (n1 - n1 / (1000000000 : Int64) * (1000000000 : Int64))), .second, .val (.long (sa + s1 + n1 / 1000000000)), .second, .unset, .unset] [(.long (n1 - n1 / (1000000000 : Int64) * (1000000000 : Int64))), (.long (na.toInt64))]))
    refine Goes.by (fun t k => XS.ladd X4.here hx rfl (hb hby d17_44) rfl k) ?_
    show Goes p e below s _ _ _ (T4.setTop (mkF m 45 #[.val (.ref a1), .val (.long s1), .second, .val (.long (n1 - n1 / (1000000000 : Int64) * (1000000000 : Int64))), .second, .val (.long (sa + s1 + n1 / 1000000000)), .second, .unset, .unset] [(.long ((na.toInt64) + (n1 - n1 / (1000000000 : Int64) * (1000000000 : Int64))))]))
    refine Goes.by (fun t k => XS.lstore X4.here hx rfl (hb hby d17_45) rfl (l' := #[.val (.ref a1), .val (.long s1), .second, .val (.long (n1 - n1 / (1000000000 : Int64) * (1000000000 : Int64))), .second, .val (.long (sa + s1 + n1 / 1000000000)), .second, .val (.long ((na.toInt64) + (n1 - n1 / (1000000000 : Int64) * (1000000000 : Int64)))), .second]) rfl k) ?_
    show Goes p e below s _ _ _ (T4.setTop (mkF m 47 #[.val (.ref a1), .val (.long s1), .second, .val (.long (n1 - n1 / (1000000000 : Int64) * (1000000000 : Int64))), .second, .val (.long (sa + s1 + n1 / 1000000000)), .second, .val (.long ((na.toInt64) + (n1 - n1 / (1000000000 : Int64) * (1000000000 : Int64)))), .second] []))
    refine Goes.by (fun t k => XS.lload X4.here hx rfl (hb hby d17_47) rfl k) ?_
    show Goes p e below s _ _ _ (T4.setTop (mkF m 49 #[.val (.ref a1), .val (.long s1), .second, .val (.long (n1 - n1 / (1000000000 : Int64) * (1000000000 : Int64))), .second, .val (.long (sa + s1 + n1 / 1000000000)), .second, .val (.long ((na.toInt64) + (n1 - n1 / (1000000000 : Int64) * (1000000000 : Int64)))), .second] [(.long (sa + s1 + n1 / 1000000000))]))
    refine Goes.by (fun t k => XS.lload X4.here hx rfl (hb hby d17_49) rfl k) ?_
    show Goes p e below s _ _ _ (T4.setTop (mkF m 51 #[.val (.ref a1), .val (.long s1), .second, .val (.long (n1 - n1 / (1000000000 : Int64) * (1000000000 : Int64))), .second, .val (.long (sa + s1 + n1 / 1000000000)), .second, .val (.long ((na.toInt64) + (n1 - n1 / (1000000000 : Int64) * (1000000000 : Int64)))), .second] [(.long ((na.toInt64) + (n1 - n1 / (1000000000 : Int64) * (1000000000 : Int64)))), (.long (sa + s1 + n1 / 1000000000))]))
    obtain ⟨_, _, ⟨T5, L5, k5, n5⟩, -, X5, ⟨Lc5, hQ5, l5, y5, z5⟩, st5⟩ := Jvm.LawKit.callS X4 hx (y := (⟨"java/time/Duration", "ofSeconds", "(JJ)Ljava/time/Duration;"⟩ : MethodName)) hown (mvT hZ (hw _ (List.mem_of_getElem? (i := 123) rfl))) (mvT hZ (hw _ (List.mem_of_getElem? (i := 124) rfl))) (mvT hZ (hw _ (List.mem_of_getElem? (i := 27) rfl))) (mvT hZ (hw _ (List.mem_of_getElem? (i := 125) rfl))) (by decide) (backOf (W := 0) (rm19 l Z a0 hw [] _ _ wZ _ n0 f7 OLD_KK3 SZ EZ Fs Fn c4 c5) hZ (hw _ (List.mem_of_getElem? (i := 125) rfl)) (hw _ (List.mem_of_getElem? (i := 27) rfl)) (by decide) (by decide)) (g := (mkF m 51 #[.val (.ref a1), .val (.long s1), .second, .val (.long (n1 - n1 / (1000000000 : Int64) * (1000000000 : Int64))), .second, .val (.long (sa + s1 + n1 / 1000000000)), .second, .val (.long ((na.toInt64) + (n1 - n1 / (1000000000 : Int64) * (1000000000 : Int64)))), .second] [(.long ((na.toInt64) + (n1 - n1 / (1000000000 : Int64) * (1000000000 : Int64)))), (.long (sa + s1 + n1 / 1000000000))])) rfl (by rw [hml]; rfl) (argsL := [(.long (sa + s1 + n1 / 1000000000)), (.long ((na.toInt64) + (n1 - n1 / (1000000000 : Int64) * (1000000000 : Int64))))]) (rest := []) (lenOf pd_15 rfl) rfl (by show 2 * 0 + _ ≤ _; exact Nat.le_of_eq rfl) (hb hby d17_51) (fun _ _ => ⟨rfl, e4, (by decide : 0 + 1 ≤ _), (by decide : 0 + 2 ≤ _)⟩)
    dsimp only [Pt.U, Pt.locs, Pt.cells, Pt.slots] at X5 l5 y5 z5 st5 hQ5
    subst l5 y5 z5
    obtain ⟨r5, u5, w5, rfl, N5q, K5, E5, F5, G5, t5, p5, s5⟩ := hQ5
    have N5 := Fr.app N3 N5q
    refine Goes.by (fun t k => st5 _ k) ?_
    show Goes p e below s _ _ _ (T5.setTop (mkF m 54 #[.val (.ref a1), .val (.long s1), .second, .val (.long (n1 - n1 / (1000000000 : Int64) * (1000000000 : Int64))), .second, .val (.long (sa + s1 + n1 / 1000000000)), .second, .val (.long ((na.toInt64) + (n1 - n1 / (1000000000 : Int64) * (1000000000 : Int64)))), .second] [(.ref r5)]))
    have OLD_K5 := OLD_KK3.keep K5 all0
    have f11 := f6.trans K5 all0
    have f12 := Nat.le_trans f7 K5.1
    have f13 := f8.keep K5
    have f14 := f9.keep K5 nin0
    have f15 := f10.keep K5 nin0
    exact Goes.retA X5 hx Bd.returns rfl rfl (hb hby d17_54) hlk (by exact ⟨r5, u5, w5, rfl, N5, f11, E5, F5, G5, t5.trans c3, p5, s5⟩) (by decide) (by decide)
theorem d16_0 : decode jdk_2316_method_32_code 0 = .ok (.aload_n 0, 1) := by decide +kernel
theorem d16_1 : decode jdk_2316_method_32_code 1 = .ok (.lload_n 1, 1) := by decide +kernel
theorem d16_2 : decode jdk_2316_method_32_code 2 = .ok (.lconst 0, 1) := by decide +kernel
theorem d16_3 : decode jdk_2316_method_32_code 3 = .ok (.invokevirtual 256, 3) := by decide +kernel
theorem d16_6 : decode jdk_2316_method_32_code 6 = .ok (.areturn, 1) := by decide +kernel
theorem ef_rm16 (m : MethodId) (x0 : Addr) (x1 : Int64) : entryFrame m #[(.ref x0), (.long x1)] 3 = mkF m 0 #[.val (.ref x0), .val (.long x1), .second] [] := by first | (simp [entryFrame, mkF, argsToLocals, Value.category]; done) | rfl
set_option maxRecDepth 65536 in
set_option maxHeartbeats 40000000 in
theorem rm16 (l : Launch) (Z : State) (a0 : Array Value) (hw : ∀ d ∈ tables_1, d.before a0 Z = true) (ws : List Jvm.Cond) (a1 : Addr) (sa : Int64) (na : Int32) (s1 : Int64) (wZ : Addr) (h0 : Heap) (n0 : Nat) (Z0 : n0 ≤ h0.size) (O0 : Old Z n0 h0) (SZ : Sta Z Z.heap "java/time/Duration" "ZERO" "Ljava/time/Duration;" (.ref wZ)) (EZ : Exa Z Z.heap wZ "java/time/Duration") (Fs : Fld Z Z.heap wZ "java/time/Duration" "seconds" "J" (.long 0)) (Fn : Fld Z Z.heap wZ "java/time/Duration" "nanos" "I" (.int 0)) (Ra : Exa Z h0 a1 "java/time/Duration") (Rb : Fld Z h0 a1 "java/time/Duration" "seconds" "J" (.long sa)) (Rc : Fld Z h0 a1 "java/time/Duration" "nanos" "I" (.int na)) (hs1 : -2000000000000000000 ≤ sa.toInt) (hs2 : sa.toInt ≤ 2000000000000000000) (hn1 : 0 ≤ na.toInt) (hn2 : na.toInt < 1000000000) (hb1 : -2000000000000000000 ≤ s1.toInt) (hb2 : s1.toInt ≤ 2000000000000000000) :
    MetFree l (⟨"java/time/Duration", "plusSeconds", "(J)Ljava/time/Duration;"⟩ : MethodName) (head1 (Jvm.Cond.code (⟨"java/time/Duration", "plusSeconds", "(J)Ljava/time/Duration;"⟩ : MethodName) jdk_2316_method_32_code 3 (some (.object "java/time/Duration")) :: ws) ({ frames := 5, cells := 1, slots := 2, locals := 80 } : Room)) (fun a U => a = #[(.ref a1), (.long s1)] ∧ Z.Warmed39 U.vm ∧ U.heap = h0) (fun _ _ _ _ _ => True) (fun _ U o U' => ∃ v L, o = .returned v ∧ (QD Z ((sa.toInt + s1.toInt) * 1000000000 + na.toInt + (0 : Int64).toInt) h0 n0) v U'.heap L ∧ FrameEnd U o U' L ({ frames := 5, cells := 1, slots := 2, locals := 80 } : Room).cells ({ frames := 5, cells := 1, slots := 2, locals := 80 } : Room).slots) := by
  refine MetFree.of_bodySF (plainFor_of_name pn_2) hisR ?_
  intro p e s m args below meth c s₁ Bd hml0 hP hK
  obtain ⟨rfl, hZ, hh⟩ := hP
  have hx := Bd.exec
  have hby := Bd.bytes
  have hlk : meth.locks = false := BodyLoose.notSynchronized Bd
  have hml : c.maxLocals = 3 := hml0
  have hown : s.vm.findClass "java/time/Duration" = some m.cls := findClass_of_methodNamed Bd.named
  have hnm := (name_of_methodNamed Bd.named Bd.method).1
  have X0 : Stand p l e ({ frames := 5, cells := 1, slots := 2, locals := 80 } : Room) s m #[(.ref a1), (.long s1)] below meth c s₁ [] 0 0 := Stand.of_body Bd
  have e0 : s₁.heap = h0 := by rw [← hh, Bd.state]; rfl
  have N0 := Fr.nil n0
  show Goes p e below s (QD Z ((sa.toInt + s1.toInt) * 1000000000 + na.toInt + (0 : Int64).toInt) h0 n0) ({ frames := 5, cells := 1, slots := 2, locals := 80 } : Room).cells ({ frames := 5, cells := 1, slots := 2, locals := 80 } : Room).slots (s₁.setTop (entryFrame m #[(.ref a1), (.long s1)] 3))
  refine Goes.by (fun t k => castTop (ef_rm16 m a1 s1) k) ?_
  show Goes p e below s _ _ _ (s₁.setTop (mkF m 0 #[.val (.ref a1), .val (.long s1), .second] []))
  have KC0 : Keep h0 h0 [] := Keep.refl _ _
  refine Goes.by (fun t k => XS.aloadN X0.here hx rfl (hb hby d16_0) rfl rfl k) ?_
  show Goes p e below s _ _ _ (s₁.setTop (mkF m 1 #[.val (.ref a1), .val (.long s1), .second] [(.ref a1)]))
  refine Goes.by (fun t k => XS.lloadN X0.here hx rfl (hb hby d16_1) rfl k) ?_
  show Goes p e below s _ _ _ (s₁.setTop (mkF m 2 #[.val (.ref a1), .val (.long s1), .second] [(.long s1), (.ref a1)]))
  refine Goes.by (fun t k => XS.lconst X0.here hx rfl (hb hby d16_2) k) ?_
  show Goes p e below s _ _ _ (s₁.setTop (mkF m 3 #[.val (.ref a1), .val (.long s1), .second] [(.long (0 : Int64)), (.long s1), (.ref a1)]))
  obtain ⟨cq1, q1, q1'⟩ := (Ra).cell
  obtain ⟨_, _, ⟨T1, L1, k1, n1⟩, -, X1, ⟨Lc1, hQ1, l1, y1, z1⟩, st1⟩ := X0.privateBack hx (y := (⟨"java/time/Duration", "plus", "(JJ)Ljava/time/Duration;"⟩ : MethodName)) hown (mvT hZ (hw _ (List.mem_of_getElem? (i := 115) rfl))) (mvT hZ (hw _ (List.mem_of_getElem? (i := 116) rfl))) (mvT hZ (hw _ (List.mem_of_getElem? (i := 118) rfl))) (Cond.privateMethod_at (mvP hZ (hw _ (List.mem_of_getElem? (i := 117) rfl)) (args := #[]))) (mvT hZ (hw _ (List.mem_of_getElem? (i := 119) rfl))) (by decide) (backOf (W := 0) (rm17 l Z a0 hw [] a1 sa na s1 (0 : Int64) wZ h0 n0 Z0 O0 SZ EZ Fs Fn Ra Rb Rc hs1 hs2 hn1 hn2 hb1 hb2) hZ (hw _ (List.mem_of_getElem? (i := 119) rfl)) (hw _ (List.mem_of_getElem? (i := 27) rfl)) (by decide) (by decide)) (g := (mkF m 3 #[.val (.ref a1), .val (.long s1), .second] [(.long (0 : Int64)), (.long s1), (.ref a1)])) rfl (by rw [hml]; rfl) (Steps.refl _) (a := a1) (by rw [e0]; exact q1) q1' (argsL := [(.long s1), (.long (0 : Int64))]) (rest := []) (lenOf pd_15 rfl) rfl (by show 2 * 0 + _ ≤ _; exact Nat.le_of_eq rfl) (hb hby d16_3) (fun _ _ => ⟨rfl, e0, (by decide : 0 + 1 ≤ _), (by decide : 0 + 2 ≤ _)⟩)
  dsimp only [Pt.U, Pt.locs, Pt.cells, Pt.slots] at X1 l1 y1 z1 st1 hQ1
  subst l1 y1 z1
  obtain ⟨r1, u1, w1, rfl, N1q, hq1⟩ := hQ1
  have N1 := Fr.app N0 N1q
  refine Goes.by (fun t k => st1.trans k) ?_
  show Goes p e below s _ _ _ (T1.setTop (mkF m 6 #[.val (.ref a1), .val (.long s1), .second] [(.ref r1)]))
  exact Goes.retA X1 hx Bd.returns rfl rfl (hb hby d16_6) hlk (by exact ⟨r1, u1, w1, rfl, N1, hq1⟩) (by decide) (by decide)
theorem d22_0 : decode jdk_2316_method_34_code 0 = .ok (.aload_n 0, 1) := by decide +kernel
theorem d22_1 : decode jdk_2316_method_34_code 1 = .ok (.lconst 0, 1) := by decide +kernel
theorem d22_2 : decode jdk_2316_method_34_code 2 = .ok (.lload_n 1, 1) := by decide +kernel
theorem d22_3 : decode jdk_2316_method_34_code 3 = .ok (.invokevirtual 256, 3) := by decide +kernel
theorem d22_6 : decode jdk_2316_method_34_code 6 = .ok (.areturn, 1) := by decide +kernel
theorem ef_rm22 (m : MethodId) (x0 : Addr) (x1 : Int64) : entryFrame m #[(.ref x0), (.long x1)] 3 = mkF m 0 #[.val (.ref x0), .val (.long x1), .second] [] := by first | (simp [entryFrame, mkF, argsToLocals, Value.category]; done) | rfl
set_option maxRecDepth 65536 in
set_option maxHeartbeats 40000000 in
theorem rm22 (l : Launch) (Z : State) (a0 : Array Value) (hw : ∀ d ∈ tables_1, d.before a0 Z = true) (ws : List Jvm.Cond) (a1 : Addr) (sa : Int64) (na : Int32) (n1 : Int64) (wZ : Addr) (h0 : Heap) (n0 : Nat) (Z0 : n0 ≤ h0.size) (O0 : Old Z n0 h0) (SZ : Sta Z Z.heap "java/time/Duration" "ZERO" "Ljava/time/Duration;" (.ref wZ)) (EZ : Exa Z Z.heap wZ "java/time/Duration") (Fs : Fld Z Z.heap wZ "java/time/Duration" "seconds" "J" (.long 0)) (Fn : Fld Z Z.heap wZ "java/time/Duration" "nanos" "I" (.int 0)) (Ra : Exa Z h0 a1 "java/time/Duration") (Rb : Fld Z h0 a1 "java/time/Duration" "seconds" "J" (.long sa)) (Rc : Fld Z h0 a1 "java/time/Duration" "nanos" "I" (.int na)) (hs1 : -2000000000000000000 ≤ sa.toInt) (hs2 : sa.toInt ≤ 2000000000000000000) (hn1 : 0 ≤ na.toInt) (hn2 : na.toInt < 1000000000) :
    MetFree l (⟨"java/time/Duration", "plusNanos", "(J)Ljava/time/Duration;"⟩ : MethodName) (head1 (Jvm.Cond.code (⟨"java/time/Duration", "plusNanos", "(J)Ljava/time/Duration;"⟩ : MethodName) jdk_2316_method_34_code 3 (some (.object "java/time/Duration")) :: ws) ({ frames := 5, cells := 1, slots := 2, locals := 80 } : Room)) (fun a U => a = #[(.ref a1), (.long n1)] ∧ Z.Warmed39 U.vm ∧ U.heap = h0) (fun _ _ _ _ _ => True) (fun _ U o U' => ∃ v L, o = .returned v ∧ (QD Z ((sa.toInt + (0 : Int64).toInt) * 1000000000 + na.toInt + n1.toInt) h0 n0) v U'.heap L ∧ FrameEnd U o U' L ({ frames := 5, cells := 1, slots := 2, locals := 80 } : Room).cells ({ frames := 5, cells := 1, slots := 2, locals := 80 } : Room).slots) := by
  refine MetFree.of_bodySF (plainFor_of_name pn_2) hisR ?_
  intro p e s m args below meth c s₁ Bd hml0 hP hK
  obtain ⟨rfl, hZ, hh⟩ := hP
  have hx := Bd.exec
  have hby := Bd.bytes
  have hlk : meth.locks = false := BodyLoose.notSynchronized Bd
  have hml : c.maxLocals = 3 := hml0
  have hown : s.vm.findClass "java/time/Duration" = some m.cls := findClass_of_methodNamed Bd.named
  have hnm := (name_of_methodNamed Bd.named Bd.method).1
  have X0 : Stand p l e ({ frames := 5, cells := 1, slots := 2, locals := 80 } : Room) s m #[(.ref a1), (.long n1)] below meth c s₁ [] 0 0 := Stand.of_body Bd
  have e0 : s₁.heap = h0 := by rw [← hh, Bd.state]; rfl
  have N0 := Fr.nil n0
  show Goes p e below s (QD Z ((sa.toInt + (0 : Int64).toInt) * 1000000000 + na.toInt + n1.toInt) h0 n0) ({ frames := 5, cells := 1, slots := 2, locals := 80 } : Room).cells ({ frames := 5, cells := 1, slots := 2, locals := 80 } : Room).slots (s₁.setTop (entryFrame m #[(.ref a1), (.long n1)] 3))
  refine Goes.by (fun t k => castTop (ef_rm22 m a1 n1) k) ?_
  show Goes p e below s _ _ _ (s₁.setTop (mkF m 0 #[.val (.ref a1), .val (.long n1), .second] []))
  have KC0 : Keep h0 h0 [] := Keep.refl _ _
  refine Goes.by (fun t k => XS.aloadN X0.here hx rfl (hb hby d22_0) rfl rfl k) ?_
  show Goes p e below s _ _ _ (s₁.setTop (mkF m 1 #[.val (.ref a1), .val (.long n1), .second] [(.ref a1)]))
  refine Goes.by (fun t k => XS.lconst X0.here hx rfl (hb hby d22_1) k) ?_
  show Goes p e below s _ _ _ (s₁.setTop (mkF m 2 #[.val (.ref a1), .val (.long n1), .second] [(.long (0 : Int64)), (.ref a1)]))
  refine Goes.by (fun t k => XS.lloadN X0.here hx rfl (hb hby d22_2) rfl k) ?_
  show Goes p e below s _ _ _ (s₁.setTop (mkF m 3 #[.val (.ref a1), .val (.long n1), .second] [(.long n1), (.long (0 : Int64)), (.ref a1)]))
  obtain ⟨cq1, q1, q1'⟩ := (Ra).cell
  obtain ⟨_, _, ⟨T1, L1, k1, n1⟩, -, X1, ⟨Lc1, hQ1, l1, y1, z1⟩, st1⟩ := X0.privateBack hx (y := (⟨"java/time/Duration", "plus", "(JJ)Ljava/time/Duration;"⟩ : MethodName)) hown (mvT hZ (hw _ (List.mem_of_getElem? (i := 115) rfl))) (mvT hZ (hw _ (List.mem_of_getElem? (i := 116) rfl))) (mvT hZ (hw _ (List.mem_of_getElem? (i := 118) rfl))) (Cond.privateMethod_at (mvP hZ (hw _ (List.mem_of_getElem? (i := 117) rfl)) (args := #[]))) (mvT hZ (hw _ (List.mem_of_getElem? (i := 119) rfl))) (by decide) (backOf (W := 0) (rm17 l Z a0 hw [] a1 sa na (0 : Int64) n1 wZ h0 n0 Z0 O0 SZ EZ Fs Fn Ra Rb Rc hs1 hs2 hn1 hn2 (by decide) (by decide)) hZ (hw _ (List.mem_of_getElem? (i := 119) rfl)) (hw _ (List.mem_of_getElem? (i := 27) rfl)) (by decide) (by decide)) (g := (mkF m 3 #[.val (.ref a1), .val (.long n1), .second] [(.long n1), (.long (0 : Int64)), (.ref a1)])) rfl (by rw [hml]; rfl) (Steps.refl _) (a := a1) (by rw [e0]; exact q1) q1' (argsL := [(.long (0 : Int64)), (.long n1)]) (rest := []) (lenOf pd_15 rfl) rfl (by show 2 * 0 + _ ≤ _; exact Nat.le_of_eq rfl) (hb hby d22_3) (fun _ _ => ⟨rfl, e0, (by decide : 0 + 1 ≤ _), (by decide : 0 + 2 ≤ _)⟩)
  dsimp only [Pt.U, Pt.locs, Pt.cells, Pt.slots] at X1 l1 y1 z1 st1 hQ1
  subst l1 y1 z1
  obtain ⟨r1, u1, w1, rfl, N1q, hq1⟩ := hQ1
  have N1 := Fr.app N0 N1q
  refine Goes.by (fun t k => st1.trans k) ?_
  show Goes p e below s _ _ _ (T1.setTop (mkF m 6 #[.val (.ref a1), .val (.long n1), .second] [(.ref r1)]))
  exact Goes.retA X1 hx Bd.returns rfl rfl (hb hby d22_6) hlk (by exact ⟨r1, u1, w1, rfl, N1, hq1⟩) (by decide) (by decide)
def Q14 (o1 o2 : Int32) (h0 : Heap) (n0 : Nat) (v : Option Value) (h : Heap) (L : List Loc) : Prop := v = some (.int (o1 - o2)) ∧ Fr n0 L ∧ h = h0
theorem d14_0 : decode jdk_37_method_8_code 0 = .ok (.aload_n 1, 1) := by decide +kernel
theorem d14_1 : decode jdk_37_method_8_code 1 = .ok (.astore_n 2, 1) := by decide +kernel
theorem d14_2 : decode jdk_37_method_8_code 2 = .ok (.aload_n 0, 1) := by decide +kernel
theorem d14_3 : decode jdk_37_method_8_code 3 = .ok (.astore_n 3, 1) := by decide +kernel
theorem d14_4 : decode jdk_37_method_8_code 4 = .ok (.aload_n 3, 1) := by decide +kernel
theorem d14_5 : decode jdk_37_method_8_code 5 = .ok (.invokevirtual 29, 3) := by decide +kernel
theorem d14_8 : decode jdk_37_method_8_code 8 = .ok (.aload_n 2, 1) := by decide +kernel
theorem d14_9 : decode jdk_37_method_8_code 9 = .ok (.invokevirtual 29, 3) := by decide +kernel
theorem d14_12 : decode jdk_37_method_8_code 12 = .ok (.if_acmp .eq 22, 3) := by decide +kernel
theorem d14_15 : decode jdk_37_method_8_code 15 = .ok (.aload_n 3, 1) := by decide +kernel
theorem d14_16 : decode jdk_37_method_8_code 16 = .ok (.invokevirtual 33, 3) := by decide +kernel
theorem d14_19 : decode jdk_37_method_8_code 19 = .ok (.aload_n 2, 1) := by decide +kernel
theorem d14_20 : decode jdk_37_method_8_code 20 = .ok (.invokevirtual 33, 3) := by decide +kernel
theorem d14_23 : decode jdk_37_method_8_code 23 = .ok (.if_acmp .eq 11, 3) := by decide +kernel
theorem d14_26 : decode jdk_37_method_8_code 26 = .ok (.new 36, 3) := by decide +kernel
theorem d14_29 : decode jdk_37_method_8_code 29 = .ok (.dup, 1) := by decide +kernel
theorem d14_30 : decode jdk_37_method_8_code 30 = .ok (.invokespecial 38, 3) := by decide +kernel
theorem d14_33 : decode jdk_37_method_8_code 33 = .ok (.athrow, 1) := by decide +kernel
theorem d14_34 : decode jdk_37_method_8_code 34 = .ok (.aload_n 3, 1) := by decide +kernel
theorem d14_35 : decode jdk_37_method_8_code 35 = .ok (.getfield 7, 3) := by decide +kernel
theorem d14_38 : decode jdk_37_method_8_code 38 = .ok (.aload_n 2, 1) := by decide +kernel
theorem d14_39 : decode jdk_37_method_8_code 39 = .ok (.getfield 7, 3) := by decide +kernel
theorem d14_42 : decode jdk_37_method_8_code 42 = .ok (.isub, 1) := by decide +kernel
theorem d14_43 : decode jdk_37_method_8_code 43 = .ok (.ireturn, 1) := by decide +kernel
theorem ef_rm14 (m : MethodId) (x0 : Addr) (x1 : Addr) : entryFrame m #[(.ref x0), (.ref x1)] 4 = mkF m 0 #[.val (.ref x0), .val (.ref x1), .unset, .unset] [] := by first | (simp [entryFrame, mkF, argsToLocals, Value.category]; done) | rfl
set_option maxRecDepth 65536 in
set_option maxHeartbeats 40000000 in
theorem rm14 (l : Launch) (Z : State) (a0 : Array Value) (hw : ∀ d ∈ tables_1, d.before a0 Z = true) (ws : List Jvm.Cond) (a1 a2 : Addr) (o1 o2 : Int32) (cU : ClassId) (kU : Class) (mir : Addr) (h0 : Heap) (n0 : Nat) (Z0 : n0 ≤ h0.size) (hcU : Z.vm.findClass "java/time/temporal/ChronoUnit" = some cU) (hkU : Z.vm.classes[cU]? = some kU) (hmU : kU.mirror = some mir) (E1 : Exa Z h0 a1 "java/time/temporal/ChronoUnit") (E2 : Exa Z h0 a2 "java/time/temporal/ChronoUnit") (F1 : Fld Z h0 a1 "java/lang/Enum" "ordinal" "I" (.int o1)) (F2 : Fld Z h0 a2 "java/lang/Enum" "ordinal" "I" (.int o2)) :
    MetFree l (⟨"java/lang/Enum", "compareTo", "(Ljava/lang/Enum;)I"⟩ : MethodName) (head1 (Jvm.Cond.code (⟨"java/lang/Enum", "compareTo", "(Ljava/lang/Enum;)I"⟩ : MethodName) jdk_37_method_8_code 4 (some .int) :: ws) ({ frames := 1, cells := 0, slots := 0, locals := 20 } : Room)) (fun a U => a = #[(.ref a1), (.ref a2)] ∧ Z.Warmed39 U.vm ∧ U.heap = h0) (fun _ _ _ _ _ => True) (fun _ U o U' => ∃ v L, o = .returned v ∧ (Q14 o1 o2 h0 n0) v U'.heap L ∧ FrameEnd U o U' L ({ frames := 1, cells := 0, slots := 0, locals := 20 } : Room).cells ({ frames := 1, cells := 0, slots := 0, locals := 20 } : Room).slots) := by
  refine MetFree.of_bodySF (plainFor_of_name pn_3) hisR ?_
  intro p e s m args below meth c s₁ Bd hml0 hP hK
  obtain ⟨rfl, hZ, hh⟩ := hP
  have hx := Bd.exec
  have hby := Bd.bytes
  have hlk : meth.locks = false := BodyLoose.notSynchronized Bd
  have hml : c.maxLocals = 4 := hml0
  have hown : s.vm.findClass "java/lang/Enum" = some m.cls := findClass_of_methodNamed Bd.named
  have hnm := (name_of_methodNamed Bd.named Bd.method).1
  have X0 : Stand p l e ({ frames := 1, cells := 0, slots := 0, locals := 20 } : Room) s m #[(.ref a1), (.ref a2)] below meth c s₁ [] 0 0 := Stand.of_body Bd
  have e0 : s₁.heap = h0 := by rw [← hh, Bd.state]; rfl
  have N0 := Fr.nil n0
  show Goes p e below s (Q14 o1 o2 h0 n0) ({ frames := 1, cells := 0, slots := 0, locals := 20 } : Room).cells ({ frames := 1, cells := 0, slots := 0, locals := 20 } : Room).slots (s₁.setTop (entryFrame m #[(.ref a1), (.ref a2)] 4))
  refine Goes.by (fun t k => castTop (ef_rm14 m a1 a2) k) ?_
  show Goes p e below s _ _ _ (s₁.setTop (mkF m 0 #[.val (.ref a1), .val (.ref a2), .unset, .unset] []))
  obtain ⟨kU', hkU', heU⟩ := hZ.alike.2.2 _ _ hkU
  have hmU' : kU'.mirror = some mir := by rw [heU]; exact hmU
  have hcU' : s.vm.findClass "java/time/temporal/ChronoUnit" = some cU := (hZ.alike.findClass _ _).trans hcU
  refine Goes.by (fun t k => XS.aloadN X0.here hx rfl (hb hby d14_0) rfl rfl k) ?_
  show Goes p e below s _ _ _ (s₁.setTop (mkF m 1 #[.val (.ref a1), .val (.ref a2), .unset, .unset] [(.ref a2)]))
  refine Goes.by (fun t k => XS.astoreN X0.here hx rfl (hb hby d14_1) rfl rfl (l' := #[.val (.ref a1), .val (.ref a2), .val (.ref a2), .unset]) rfl k) ?_
  show Goes p e below s _ _ _ (s₁.setTop (mkF m 2 #[.val (.ref a1), .val (.ref a2), .val (.ref a2), .unset] []))
  refine Goes.by (fun t k => XS.aloadN X0.here hx rfl (hb hby d14_2) rfl rfl k) ?_
  show Goes p e below s _ _ _ (s₁.setTop (mkF m 3 #[.val (.ref a1), .val (.ref a2), .val (.ref a2), .unset] [(.ref a1)]))
  refine Goes.by (fun t k => XS.astoreN X0.here hx rfl (hb hby d14_3) rfl rfl (l' := #[.val (.ref a1), .val (.ref a2), .val (.ref a2), .val (.ref a1)]) rfl k) ?_
  show Goes p e below s _ _ _ (s₁.setTop (mkF m 4 #[.val (.ref a1), .val (.ref a2), .val (.ref a2), .val (.ref a1)] []))
  refine Goes.by (fun t k => XS.aloadN X0.here hx rfl (hb hby d14_4) rfl rfl k) ?_
  show Goes p e below s _ _ _ (s₁.setTop (mkF m 5 #[.val (.ref a1), .val (.ref a2), .val (.ref a2), .val (.ref a1)] [(.ref a1)]))
  obtain ⟨cq1, kq1, q1a, q1b, q1c⟩ := isOf hZ e0 E1
  obtain rfl := Option.some.inj (q1a.symm.trans hcU')
  obtain ⟨vm1, X1, st1⟩ := X0.getClassOf hx hown (mvT hZ (hw _ (List.mem_of_getElem? (i := 91) rfl))) (mvT hZ (hw _ (List.mem_of_getElem? (i := 92) rfl))) (notFace_of_selects (args := #[]) (mvT hZ (hw _ (List.mem_of_getElem? (i := 94) rfl)))) (mvT hZ (hw _ (List.mem_of_getElem? (i := 94) rfl))) (mvT hZ (hw _ (List.mem_of_getElem? (i := 93) rfl))) (mvT hZ (hw _ (List.mem_of_getElem? (i := 95) rfl))) hcU' q1c hkU' hmU' (g := (mkF m 5 #[.val (.ref a1), .val (.ref a2), .val (.ref a2), .val (.ref a1)] [(.ref a1)])) rfl (by rw [hml]; rfl) rfl (hb hby d14_5) (by decide) (by rw [nativeFrameWords_plain 1 (by decide)]; show 2 * 0 + 0 + (1 + 2 + 11) ≤ 20; decide)
  obtain ⟨T1, hT1⟩ : ∃ z, z = s₁.setVm vm1 := ⟨_, rfl⟩
  rw [← hT1] at X1 st1
  have e1 : T1.heap = h0 := by rw [hT1]; exact e0
  refine Goes.by (fun t k => st1 t k) ?_
  show Goes p e below s _ _ _ (T1.setTop (mkF m 8 #[.val (.ref a1), .val (.ref a2), .val (.ref a2), .val (.ref a1)] [(.ref mir)]))
  refine Goes.by (fun t k => XS.aloadN X1.here hx rfl (hb hby d14_8) rfl rfl k) ?_
  show Goes p e below s _ _ _ (T1.setTop (mkF m 9 #[.val (.ref a1), .val (.ref a2), .val (.ref a2), .val (.ref a1)] [(.ref a2), (.ref mir)]))
  obtain ⟨cq2, kq2, q2a, q2b, q2c⟩ := isOf hZ e1 E2
  obtain rfl := Option.some.inj (q2a.symm.trans hcU')
  obtain ⟨vm2, X2, st2⟩ := X1.getClassOf hx hown (mvT hZ (hw _ (List.mem_of_getElem? (i := 91) rfl))) (mvT hZ (hw _ (List.mem_of_getElem? (i := 92) rfl))) (notFace_of_selects (args := #[]) (mvT hZ (hw _ (List.mem_of_getElem? (i := 94) rfl)))) (mvT hZ (hw _ (List.mem_of_getElem? (i := 94) rfl))) (mvT hZ (hw _ (List.mem_of_getElem? (i := 93) rfl))) (mvT hZ (hw _ (List.mem_of_getElem? (i := 95) rfl))) hcU' q2c hkU' hmU' (g := (mkF m 9 #[.val (.ref a1), .val (.ref a2), .val (.ref a2), .val (.ref a1)] [(.ref a2), (.ref mir)])) rfl (by rw [hml]; rfl) rfl (hb hby d14_9) (by decide) (by rw [nativeFrameWords_plain 1 (by decide)]; show 2 * 0 + 1 + (1 + 2 + 11) ≤ 20; decide)
  obtain ⟨T2, hT2⟩ : ∃ z, z = T1.setVm vm2 := ⟨_, rfl⟩
  rw [← hT2] at X2 st2
  have e2 : T2.heap = h0 := by rw [hT2]; exact e1
  refine Goes.by (fun t k => st2 t k) ?_
  show Goes p e below s _ _ _ (T2.setTop (mkF m 12 #[.val (.ref a1), .val (.ref a2), .val (.ref a2), .val (.ref a1)] [(.ref mir), (.ref mir)]))
  refine Goes.by (fun t k => Jvm.RoadKit.acmp (g := (mkF m 12 #[.val (.ref a1), .val (.ref a2), .val (.ref a2), .val (.ref a1)] [(.ref mir), (.ref mir)])) X2 hx rfl rfl rfl (pc0 := 12) (pc' := 34) (same := true) rfl (hb hby d14_12) rfl (decide_eq_true rfl) (by decide) (by decide) k) ?_
  show Goes p e below s _ _ _ (T2.setTop (mkF m 34 #[.val (.ref a1), .val (.ref a2), .val (.ref a2), .val (.ref a1)] []))
  refine Goes.by (fun t k => XS.aloadN X2.here hx rfl (hb hby d14_34) rfl rfl k) ?_
  show Goes p e below s _ _ _ (T2.setTop (mkF m 35 #[.val (.ref a1), .val (.ref a2), .val (.ref a2), .val (.ref a1)] [(.ref a1)]))
  obtain ⟨T3, X3, e3, st3⟩ := getF X2 hx hZ hown (host := "") (Or.inl (hw _ (List.mem_of_getElem? (i := 97) rfl))) Via.refl e2 (F1) (g := (mkF m 35 #[.val (.ref a1), .val (.ref a2), .val (.ref a2), .val (.ref a1)] [(.ref a1)])) rfl rfl (hb hby d14_35)
  refine Goes.by (fun t k => st3 t k) ?_
  show Goes p e below s _ _ _ (T3.setTop (mkF m 38 #[.val (.ref a1), .val (.ref a2), .val (.ref a2), .val (.ref a1)] [(.int o1)]))
  refine Goes.by (fun t k => XS.aloadN X3.here hx rfl (hb hby d14_38) rfl rfl k) ?_
  show Goes p e below s _ _ _ (T3.setTop (mkF m 39 #[.val (.ref a1), .val (.ref a2), .val (.ref a2), .val (.ref a1)] [(.ref a2), (.int o1)]))
  obtain ⟨T4, X4, e4, st4⟩ := getF X3 hx hZ hown (host := "") (Or.inl (hw _ (List.mem_of_getElem? (i := 97) rfl))) Via.refl e3 (F2) (g := (mkF m 39 #[.val (.ref a1), .val (.ref a2), .val (.ref a2), .val (.ref a1)] [(.ref a2), (.int o1)])) rfl rfl (hb hby d14_39)
  refine Goes.by (fun t k => st4 t k) ?_
  show Goes p e below s _ _ _ (T4.setTop (mkF m 42 #[.val (.ref a1), .val (.ref a2), .val (.ref a2), .val (.ref a1)] [(.int o2), (.int o1)]))
  refine Goes.by (fun t k => XS.isub X4.here hx rfl (hb hby d14_42) rfl k) ?_
  show Goes p e below s _ _ _ (T4.setTop (mkF m 43 #[.val (.ref a1), .val (.ref a2), .val (.ref a2), .val (.ref a1)] [(.int (o1 - o2))]))
  exact Goes.retI X4 hx Bd.returns trivial (hb hby d14_43) hlk (by rw [e4]; exact ⟨rfl, N0, rfl⟩) (by decide) (by decide)
def Q13 (h0 : Heap) (n0 : Nat) (v : Option Value) (h : Heap) (L : List Loc) : Prop := v = some (.int 0) ∧ Fr n0 L ∧ h = h0
theorem d13_0 : decode jdk_2396_method_5_code 0 = .ok (.aload_n 0, 1) := by decide +kernel
theorem d13_1 : decode jdk_2396_method_5_code 1 = .ok (.getstatic 25, 3) := by decide +kernel
theorem d13_4 : decode jdk_2396_method_5_code 4 = .ok (.invokevirtual 79, 3) := by decide +kernel
theorem d13_7 : decode jdk_2396_method_5_code 7 = .ok (.ifCond .lt 7, 3) := by decide +kernel
theorem d13_10 : decode jdk_2396_method_5_code 10 = .ok (.iconst 1, 1) := by decide +kernel
theorem d13_11 : decode jdk_2396_method_5_code 11 = .ok (.goto 4, 3) := by decide +kernel
theorem d13_14 : decode jdk_2396_method_5_code 14 = .ok (.iconst 0, 1) := by decide +kernel
theorem d13_15 : decode jdk_2396_method_5_code 15 = .ok (.ireturn, 1) := by decide +kernel
theorem pn_4 : plainName "java/time/temporal/ChronoUnit" = true := by first | (simp [plainName, overriddenIn]; done) | decide +kernel
theorem ef_rm13 (m : MethodId) (x0 : Addr) : entryFrame m #[(.ref x0)] 1 = mkF m 0 #[.val (.ref x0)] [] := by first | (simp [entryFrame, mkF, argsToLocals, Value.category]; done) | rfl
set_option maxRecDepth 65536 in
set_option maxHeartbeats 40000000 in
theorem rm13 (l : Launch) (Z : State) (a0 : Array Value) (hw : ∀ d ∈ tables_1, d.before a0 Z = true) (ws : List Jvm.Cond) (wM wD : Addr) (cU : ClassId) (kU : Class) (mir : Addr) (h0 : Heap) (n0 : Nat) (Z0 : n0 ≤ h0.size) (hcU : Z.vm.findClass "java/time/temporal/ChronoUnit" = some cU) (hkU : Z.vm.classes[cU]? = some kU) (hmU : kU.mirror = some mir) (O0 : Old Z n0 h0) (SD : Sta Z Z.heap "java/time/temporal/ChronoUnit" "DAYS" "Ljava/time/temporal/ChronoUnit;" (.ref wD)) (EM : Exa Z Z.heap wM "java/time/temporal/ChronoUnit") (ED : Exa Z Z.heap wD "java/time/temporal/ChronoUnit") (FM : Fld Z Z.heap wM "java/lang/Enum" "ordinal" "I" (.int 1)) (FD : Fld Z Z.heap wD "java/lang/Enum" "ordinal" "I" (.int 7)) :
    MetFree l (⟨"java/time/temporal/ChronoUnit", "isDurationEstimated", "()Z"⟩ : MethodName) (head1 (Jvm.Cond.code (⟨"java/time/temporal/ChronoUnit", "isDurationEstimated", "()Z"⟩ : MethodName) jdk_2396_method_5_code 1 (some .boolean) :: ws) ({ frames := 2, cells := 0, slots := 0, locals := 35 } : Room)) (fun a U => a = #[(.ref wM)] ∧ Z.Warmed39 U.vm ∧ U.heap = h0) (fun _ _ _ _ _ => True) (fun _ U o U' => ∃ v L, o = .returned v ∧ (Q13 h0 n0) v U'.heap L ∧ FrameEnd U o U' L ({ frames := 2, cells := 0, slots := 0, locals := 35 } : Room).cells ({ frames := 2, cells := 0, slots := 0, locals := 35 } : Room).slots) := by
  refine MetFree.of_bodySF (plainFor_of_name pn_4) hisR ?_
  intro p e s m args below meth c s₁ Bd hml0 hP hK
  obtain ⟨rfl, hZ, hh⟩ := hP
  have hx := Bd.exec
  have hby := Bd.bytes
  have hlk : meth.locks = false := BodyLoose.notSynchronized Bd
  have hml : c.maxLocals = 1 := hml0
  have hown : s.vm.findClass "java/time/temporal/ChronoUnit" = some m.cls := findClass_of_methodNamed Bd.named
  have hnm := (name_of_methodNamed Bd.named Bd.method).1
  have X0 : Stand p l e ({ frames := 2, cells := 0, slots := 0, locals := 35 } : Room) s m #[(.ref wM)] below meth c s₁ [] 0 0 := Stand.of_body Bd
  have e0 : s₁.heap = h0 := by rw [← hh, Bd.state]; rfl
  have N0 := Fr.nil n0
  show Goes p e below s (Q13 h0 n0) ({ frames := 2, cells := 0, slots := 0, locals := 35 } : Room).cells ({ frames := 2, cells := 0, slots := 0, locals := 35 } : Room).slots (s₁.setTop (entryFrame m #[(.ref wM)] 1))
  refine Goes.by (fun t k => castTop (ef_rm13 m wM) k) ?_
  show Goes p e below s _ _ _ (s₁.setTop (mkF m 0 #[.val (.ref wM)] []))
  refine Goes.by (fun t k => XS.aloadN X0.here hx rfl (hb hby d13_0) rfl rfl k) ?_
  show Goes p e below s _ _ _ (s₁.setTop (mkF m 1 #[.val (.ref wM)] [(.ref wM)]))
  obtain ⟨T1, X1, e1, st1⟩ := getS2 X0 hx hZ hown (host := "") (Or.inl (hw _ (List.mem_of_getElem? (i := 83) rfl))) Via.refl e0 (SD.ext O0.2) (g := (mkF m 1 #[.val (.ref wM)] [(.ref wM)])) rfl (hb hby d13_1)
  refine Goes.by (fun t k => st1 t k) ?_
  show Goes p e below s _ _ _ (T1.setTop (mkF m 4 #[.val (.ref wM)] [(.ref wD), (.ref wM)]))
  obtain ⟨cq2, kq2, q2a, q2b, q2c⟩ := isOf hZ e1 (EM.ext O0.2)
  obtain ⟨_, _, ⟨T2, L2, k2, n2⟩, -, X2, ⟨Lc2, hQ2, l2, y2, z2⟩, st2⟩ := X1.virtualBackUp hx (x := (⟨"java/time/temporal/ChronoUnit", "compareTo", "(Ljava/lang/Enum;)I"⟩ : MethodName)) (y := (⟨"java/lang/Enum", "compareTo", "(Ljava/lang/Enum;)I"⟩ : MethodName)) (owner := "java/lang/Enum") hown (mvT hZ (hw _ (List.mem_of_getElem? (i := 84) rfl))) (mvT hZ (hw _ (List.mem_of_getElem? (i := 85) rfl))) (mvT hZ (hw _ (List.mem_of_getElem? (i := 86) rfl))) (by decide) (mvT hZ (hw _ (List.mem_of_getElem? (i := 88) rfl))) (mvT hZ (hw _ (List.mem_of_getElem? (i := 87) rfl))) (backOf (W := 0) (rm14 l Z a0 hw [] wM wD 1 7 cU kU mir h0 n0 Z0 hcU hkU hmU (EM.ext O0.2) (ED.ext O0.2) (FM.ext O0.2) (FD.ext O0.2)) hZ (hw _ (List.mem_of_getElem? (i := 90) rfl)) (hw _ (List.mem_of_getElem? (i := 89) rfl)) (by decide) (by decide)) q2a q2c (g := (mkF m 4 #[.val (.ref wM)] [(.ref wD), (.ref wM)])) rfl (by rw [hml]; rfl) (Steps.refl _) (argsL := [(.ref wD)]) (rest := []) (lenOf pd_13 rfl) rfl (by show 2 * 0 + _ ≤ _; exact Nat.le_of_eq rfl) (hb hby d13_4) (fun _ _ => ⟨rfl, e1, (by decide : 0 + 0 ≤ _), (by decide : 0 + 0 ≤ _)⟩)
  dsimp only [Pt.U, Pt.locs, Pt.cells, Pt.slots] at X2 l2 y2 z2 st2 hQ2
  subst l2 y2 z2
  obtain ⟨rfl, N2q, hh2⟩ := hQ2
  have N2 := Fr.app N0 N2q
  refine Goes.by (fun t k => st2.trans k) ?_
  show Goes p e below s _ _ _ (T2.setTop (mkF m 7 #[.val (.ref wM)] [(.int (1 - 7 : Int32))]))
  refine Goes.by (fun t k => XS.ifYes X2.here hx rfl (pc0 := 7) (pc' := 14) rfl (hb hby d13_7) rfl ((if0 _ _).trans (tlt (by decide)).1) (by decide) (by decide) k) ?_
  show Goes p e below s _ _ _ (T2.setTop (mkF m 14 #[.val (.ref wM)] []))
  refine Goes.by (fun t k => XS.iconst X2.here hx rfl (hb hby d13_14) k) ?_
  show Goes p e below s _ _ _ (T2.setTop (mkF m 15 #[.val (.ref wM)] [(.int (0 : Int32))]))
  exact Goes.retN X2 hx Bd.returns rfl (hb hby d13_15) hlk (by exact ⟨rfl, N2, hh2⟩) (by decide) (by decide)
def Q12 (a1 : Addr) (h0 : Heap) (n0 : Nat) (v : Option Value) (h : Heap) (L : List Loc) : Prop := v = some (.ref a1) ∧ Fr n0 L ∧ h = h0
theorem d12_0 : decode jdk_31_method_11_code 0 = .ok (.aload_n 0, 1) := by decide +kernel
theorem d12_1 : decode jdk_31_method_11_code 1 = .ok (.ifnonnull 12, 3) := by decide +kernel
theorem d12_4 : decode jdk_31_method_11_code 4 = .ok (.new 84, 3) := by decide +kernel
theorem d12_7 : decode jdk_31_method_11_code 7 = .ok (.dup, 1) := by decide +kernel
theorem d12_8 : decode jdk_31_method_11_code 8 = .ok (.aload_n 1, 1) := by decide +kernel
theorem d12_9 : decode jdk_31_method_11_code 9 = .ok (.invokespecial 87, 3) := by decide +kernel
theorem d12_12 : decode jdk_31_method_11_code 12 = .ok (.athrow, 1) := by decide +kernel
theorem d12_13 : decode jdk_31_method_11_code 13 = .ok (.aload_n 0, 1) := by decide +kernel
theorem d12_14 : decode jdk_31_method_11_code 14 = .ok (.areturn, 1) := by decide +kernel
theorem pn_5 : plainName "java/util/Objects" = true := by first | (simp [plainName, overriddenIn]; done) | decide +kernel
theorem ef_rm12 (m : MethodId) (x0 : Addr) (x1 : Addr) : entryFrame m #[(.ref x0), (.ref x1)] 2 = mkF m 0 #[.val (.ref x0), .val (.ref x1)] [] := by first | (simp [entryFrame, mkF, argsToLocals, Value.category]; done) | rfl
set_option maxRecDepth 65536 in
set_option maxHeartbeats 40000000 in
theorem rm12 (l : Launch) (Z : State) (a0 : Array Value) (hw : ∀ d ∈ tables_1, d.before a0 Z = true) (ws : List Jvm.Cond) (a1 a2 : Addr) (h0 : Heap) (n0 : Nat) (Z0 : n0 ≤ h0.size)  :
    MetFree l (⟨"java/util/Objects", "requireNonNull", "(Ljava/lang/Object;Ljava/lang/String;)Ljava/lang/Object;"⟩ : MethodName) (head1 (Jvm.Cond.code (⟨"java/util/Objects", "requireNonNull", "(Ljava/lang/Object;Ljava/lang/String;)Ljava/lang/Object;"⟩ : MethodName) jdk_31_method_11_code 2 (some (.object "java/lang/Object")) :: ws) ({ frames := 0, cells := 0, slots := 0, locals := 0 } : Room)) (fun a U => a = #[(.ref a1), (.ref a2)] ∧ Z.Warmed39 U.vm ∧ U.heap = h0) (fun _ _ _ _ _ => True) (fun _ U o U' => ∃ v L, o = .returned v ∧ (Q12 a1 h0 n0) v U'.heap L ∧ FrameEnd U o U' L ({ frames := 0, cells := 0, slots := 0, locals := 0 } : Room).cells ({ frames := 0, cells := 0, slots := 0, locals := 0 } : Room).slots) := by
  refine MetFree.of_bodySF (plainFor_of_name pn_5) hisR ?_
  intro p e s m args below meth c s₁ Bd hml0 hP hK
  obtain ⟨rfl, hZ, hh⟩ := hP
  have hx := Bd.exec
  have hby := Bd.bytes
  have hlk : meth.locks = false := BodyLoose.notSynchronized Bd
  have hml : c.maxLocals = 2 := hml0
  have hown : s.vm.findClass "java/util/Objects" = some m.cls := findClass_of_methodNamed Bd.named
  have hnm := (name_of_methodNamed Bd.named Bd.method).1
  have X0 : Stand p l e ({ frames := 0, cells := 0, slots := 0, locals := 0 } : Room) s m #[(.ref a1), (.ref a2)] below meth c s₁ [] 0 0 := Stand.of_body Bd
  have e0 : s₁.heap = h0 := by rw [← hh, Bd.state]; rfl
  have N0 := Fr.nil n0
  show Goes p e below s (Q12 a1 h0 n0) ({ frames := 0, cells := 0, slots := 0, locals := 0 } : Room).cells ({ frames := 0, cells := 0, slots := 0, locals := 0 } : Room).slots (s₁.setTop (entryFrame m #[(.ref a1), (.ref a2)] 2))
  refine Goes.by (fun t k => castTop (ef_rm12 m a1 a2) k) ?_
  show Goes p e below s _ _ _ (s₁.setTop (mkF m 0 #[.val (.ref a1), .val (.ref a2)] []))
  refine Goes.by (fun t k => XS.aloadN X0.here hx rfl (hb hby d12_0) rfl rfl k) ?_
  show Goes p e below s _ _ _ (s₁.setTop (mkF m 1 #[.val (.ref a1), .val (.ref a2)] [(.ref a1)]))
  refine Goes.by (fun t k => XS.ifnonnullYes X0.here hx rfl (pc0 := 1) (pc' := 13) rfl (hb hby d12_1) rfl (by decide) (by decide) k) ?_
  show Goes p e below s _ _ _ (s₁.setTop (mkF m 13 #[.val (.ref a1), .val (.ref a2)] []))
  refine Goes.by (fun t k => XS.aloadN X0.here hx rfl (hb hby d12_13) rfl rfl k) ?_
  show Goes p e below s _ _ _ (s₁.setTop (mkF m 14 #[.val (.ref a1), .val (.ref a2)] [(.ref a1)]))
  exact Goes.retA X0 hx Bd.returns rfl rfl (hb hby d12_14) hlk (by rw [e0]; exact ⟨rfl, N0, rfl⟩) (by decide) (by decide)
theorem d11_0 : decode jdk_2316_method_28_code 0 = .ok (.aload_n 3, 1) := by decide +kernel
theorem d11_1 : decode jdk_2316_method_28_code 1 = .ok (.ldc_w 258, 3) := by decide +kernel
theorem d11_4 : decode jdk_2316_method_28_code 4 = .ok (.invokestatic 42, 3) := by decide +kernel
theorem d11_7 : decode jdk_2316_method_28_code 7 = .ok (.pop, 1) := by decide +kernel
theorem d11_8 : decode jdk_2316_method_28_code 8 = .ok (.aload_n 3, 1) := by decide +kernel
theorem d11_9 : decode jdk_2316_method_28_code 9 = .ok (.getstatic 260, 3) := by decide +kernel
theorem d11_12 : decode jdk_2316_method_28_code 12 = .ok (.if_acmp .ne 15, 3) := by decide +kernel
theorem d11_15 : decode jdk_2316_method_28_code 15 = .ok (.aload_n 0, 1) := by decide +kernel
theorem d11_16 : decode jdk_2316_method_28_code 16 = .ok (.lload_n 1, 1) := by decide +kernel
theorem d11_17 : decode jdk_2316_method_28_code 17 = .ok (.ldc 3, 2) := by decide +kernel
theorem d11_19 : decode jdk_2316_method_28_code 19 = .ok (.invokestatic 4, 3) := by decide +kernel
theorem d11_22 : decode jdk_2316_method_28_code 22 = .ok (.lconst 0, 1) := by decide +kernel
theorem d11_23 : decode jdk_2316_method_28_code 23 = .ok (.invokevirtual 256, 3) := by decide +kernel
theorem d11_26 : decode jdk_2316_method_28_code 26 = .ok (.areturn, 1) := by decide +kernel
theorem d11_27 : decode jdk_2316_method_28_code 27 = .ok (.aload_n 3, 1) := by decide +kernel
theorem d11_28 : decode jdk_2316_method_28_code 28 = .ok (.invokeinterface 263 1, 5) := by decide +kernel
theorem d11_33 : decode jdk_2316_method_28_code 33 = .ok (.ifCond .eq 14, 3) := by decide +kernel
theorem d11_36 : decode jdk_2316_method_28_code 36 = .ok (.new 228, 3) := by decide +kernel
theorem d11_39 : decode jdk_2316_method_28_code 39 = .ok (.dup, 1) := by decide +kernel
theorem d11_40 : decode jdk_2316_method_28_code 40 = .ok (.ldc_w 266, 3) := by decide +kernel
theorem d11_43 : decode jdk_2316_method_28_code 43 = .ok (.invokespecial 235, 3) := by decide +kernel
theorem d11_46 : decode jdk_2316_method_28_code 46 = .ok (.athrow, 1) := by decide +kernel
theorem d11_47 : decode jdk_2316_method_28_code 47 = .ok (.lload_n 1, 1) := by decide +kernel
theorem d11_48 : decode jdk_2316_method_28_code 48 = .ok (.lconst 0, 1) := by decide +kernel
theorem d11_49 : decode jdk_2316_method_28_code 49 = .ok (.lcmp, 1) := by decide +kernel
theorem d11_50 : decode jdk_2316_method_28_code 50 = .ok (.ifCond .ne 5, 3) := by decide +kernel
theorem d11_53 : decode jdk_2316_method_28_code 53 = .ok (.aload_n 0, 1) := by decide +kernel
theorem d11_54 : decode jdk_2316_method_28_code 54 = .ok (.areturn, 1) := by decide +kernel
theorem d11_55 : decode jdk_2316_method_28_code 55 = .ok (.aload_n 3, 1) := by decide +kernel
theorem d11_56 : decode jdk_2316_method_28_code 56 = .ok (.instanceof 185, 3) := by decide +kernel
theorem d11_59 : decode jdk_2316_method_28_code 59 = .ok (.ifCond .eq 119, 3) := by decide +kernel
theorem d11_62 : decode jdk_2316_method_28_code 62 = .ok (.aload_n 3, 1) := by decide +kernel
theorem d11_63 : decode jdk_2316_method_28_code 63 = .ok (.checkcast 185, 3) := by decide +kernel
theorem d11_66 : decode jdk_2316_method_28_code 66 = .ok (.astore 4, 2) := by decide +kernel
theorem d11_68 : decode jdk_2316_method_28_code 68 = .ok (.getstatic 268, 3) := by decide +kernel
theorem d11_71 : decode jdk_2316_method_28_code 71 = .ok (.aload 4, 2) := by decide +kernel
theorem d11_73 : decode jdk_2316_method_28_code 73 = .ok (.invokevirtual 274, 3) := by decide +kernel
theorem d11_76 : decode jdk_2316_method_28_code 76 = .ok (.iaload, 1) := by decide +kernel
theorem d11_77 : decode jdk_2316_method_28_code 77 = .ok (.tableswitch 83 1 4 #[31, 39, 67, 75], 31) := by decide +kernel
theorem d11_108 : decode jdk_2316_method_28_code 108 = .ok (.aload_n 0, 1) := by decide +kernel
theorem d11_109 : decode jdk_2316_method_28_code 109 = .ok (.lload_n 1, 1) := by decide +kernel
theorem d11_110 : decode jdk_2316_method_28_code 110 = .ok (.invokevirtual 277, 3) := by decide +kernel
theorem d11_113 : decode jdk_2316_method_28_code 113 = .ok (.goto 64, 3) := by decide +kernel
theorem d11_116 : decode jdk_2316_method_28_code 116 = .ok (.aload_n 0, 1) := by decide +kernel
theorem d11_117 : decode jdk_2316_method_28_code 117 = .ok (.lload_n 1, 1) := by decide +kernel
theorem d11_118 : decode jdk_2316_method_28_code 118 = .ok (.ldc2_w 16, 3) := by decide +kernel
theorem d11_121 : decode jdk_2316_method_28_code 121 = .ok (.ldiv, 1) := by decide +kernel
theorem d11_122 : decode jdk_2316_method_28_code 122 = .ok (.ldc2_w 28, 3) := by decide +kernel
theorem d11_125 : decode jdk_2316_method_28_code 125 = .ok (.lmul, 1) := by decide +kernel
theorem d11_126 : decode jdk_2316_method_28_code 126 = .ok (.invokevirtual 280, 3) := by decide +kernel
theorem d11_129 : decode jdk_2316_method_28_code 129 = .ok (.lload_n 1, 1) := by decide +kernel
theorem d11_130 : decode jdk_2316_method_28_code 130 = .ok (.ldc2_w 16, 3) := by decide +kernel
theorem d11_133 : decode jdk_2316_method_28_code 133 = .ok (.lrem, 1) := by decide +kernel
theorem d11_134 : decode jdk_2316_method_28_code 134 = .ok (.ldc2_w 28, 3) := by decide +kernel
theorem d11_137 : decode jdk_2316_method_28_code 137 = .ok (.lmul, 1) := by decide +kernel
theorem d11_138 : decode jdk_2316_method_28_code 138 = .ok (.invokevirtual 277, 3) := by decide +kernel
theorem d11_141 : decode jdk_2316_method_28_code 141 = .ok (.goto 36, 3) := by decide +kernel
theorem d11_144 : decode jdk_2316_method_28_code 144 = .ok (.aload_n 0, 1) := by decide +kernel
theorem d11_145 : decode jdk_2316_method_28_code 145 = .ok (.lload_n 1, 1) := by decide +kernel
theorem d11_146 : decode jdk_2316_method_28_code 146 = .ok (.invokevirtual 283, 3) := by decide +kernel
theorem d11_149 : decode jdk_2316_method_28_code 149 = .ok (.goto 28, 3) := by decide +kernel
theorem d11_152 : decode jdk_2316_method_28_code 152 = .ok (.aload_n 0, 1) := by decide +kernel
theorem d11_153 : decode jdk_2316_method_28_code 153 = .ok (.lload_n 1, 1) := by decide +kernel
theorem d11_154 : decode jdk_2316_method_28_code 154 = .ok (.invokevirtual 280, 3) := by decide +kernel
theorem d11_157 : decode jdk_2316_method_28_code 157 = .ok (.goto 20, 3) := by decide +kernel
theorem d11_160 : decode jdk_2316_method_28_code 160 = .ok (.aload_n 0, 1) := by decide +kernel
theorem d11_161 : decode jdk_2316_method_28_code 161 = .ok (.aload_n 3, 1) := by decide +kernel
theorem d11_162 : decode jdk_2316_method_28_code 162 = .ok (.invokeinterface 286 1, 5) := by decide +kernel
theorem d11_167 : decode jdk_2316_method_28_code 167 = .ok (.getfield 221, 3) := by decide +kernel
theorem d11_170 : decode jdk_2316_method_28_code 170 = .ok (.lload_n 1, 1) := by decide +kernel
theorem d11_171 : decode jdk_2316_method_28_code 171 = .ok (.invokestatic 289, 3) := by decide +kernel
theorem d11_174 : decode jdk_2316_method_28_code 174 = .ok (.invokevirtual 280, 3) := by decide +kernel
theorem d11_177 : decode jdk_2316_method_28_code 177 = .ok (.areturn, 1) := by decide +kernel
theorem d11_178 : decode jdk_2316_method_28_code 178 = .ok (.aload_n 3, 1) := by decide +kernel
theorem d11_179 : decode jdk_2316_method_28_code 179 = .ok (.invokeinterface 286 1, 5) := by decide +kernel
theorem d11_184 : decode jdk_2316_method_28_code 184 = .ok (.lload_n 1, 1) := by decide +kernel
theorem d11_185 : decode jdk_2316_method_28_code 185 = .ok (.invokevirtual 291, 3) := by decide +kernel
theorem d11_188 : decode jdk_2316_method_28_code 188 = .ok (.astore 4, 2) := by decide +kernel
theorem d11_190 : decode jdk_2316_method_28_code 190 = .ok (.aload_n 0, 1) := by decide +kernel
theorem d11_191 : decode jdk_2316_method_28_code 191 = .ok (.aload 4, 2) := by decide +kernel
theorem d11_193 : decode jdk_2316_method_28_code 193 = .ok (.invokevirtual 248, 3) := by decide +kernel
theorem d11_196 : decode jdk_2316_method_28_code 196 = .ok (.invokevirtual 280, 3) := by decide +kernel
theorem d11_199 : decode jdk_2316_method_28_code 199 = .ok (.aload 4, 2) := by decide +kernel
theorem d11_201 : decode jdk_2316_method_28_code 201 = .ok (.invokevirtual 252, 3) := by decide +kernel
theorem d11_204 : decode jdk_2316_method_28_code 204 = .ok (.i2l, 1) := by decide +kernel
theorem d11_205 : decode jdk_2316_method_28_code 205 = .ok (.invokevirtual 277, 3) := by decide +kernel
theorem d11_208 : decode jdk_2316_method_28_code 208 = .ok (.areturn, 1) := by decide +kernel
theorem ef_rm11 (m : MethodId) (x0 : Addr) (x1 : Int64) (x2 : Addr) : entryFrame m #[(.ref x0), (.long x1), (.ref x2)] 5 = mkF m 0 #[.val (.ref x0), .val (.long x1), .second, .val (.ref x2), .unset] [] := by first | (simp [entryFrame, mkF, argsToLocals, Value.category]; done) | rfl
set_option maxRecDepth 65536 in
set_option maxHeartbeats 40000000 in
theorem rm11 (l : Launch) (Z : State) (a0 : Array Value) (hw : ∀ d ∈ tables_1, d.before a0 Z = true) (ws : List Jvm.Cond) (a1 : Addr) (sa : Int64) (na : Int32) (q1 : Int64) (wZ : Addr) (wM wD wA : Addr) (cA : Cell) (cU : ClassId) (kU : Class) (mir : Addr) (h0 : Heap) (n0 : Nat) (Z0 : n0 ≤ h0.size) (O0 : Old Z n0 h0) (SZ : Sta Z Z.heap "java/time/Duration" "ZERO" "Ljava/time/Duration;" (.ref wZ)) (EZ : Exa Z Z.heap wZ "java/time/Duration") (Fs : Fld Z Z.heap wZ "java/time/Duration" "seconds" "J" (.long 0)) (Fn : Fld Z Z.heap wZ "java/time/Duration" "nanos" "I" (.int 0)) (hcU : Z.vm.findClass "java/time/temporal/ChronoUnit" = some cU) (hkU : Z.vm.classes[cU]? = some kU) (hmU : kU.mirror = some mir) (SD : Sta Z Z.heap "java/time/temporal/ChronoUnit" "DAYS" "Ljava/time/temporal/ChronoUnit;" (.ref wD)) (EM : Exa Z Z.heap wM "java/time/temporal/ChronoUnit") (ED : Exa Z Z.heap wD "java/time/temporal/ChronoUnit") (FM : Fld Z Z.heap wM "java/lang/Enum" "ordinal" "I" (.int 1)) (FD : Fld Z Z.heap wD "java/lang/Enum" "ordinal" "I" (.int 7)) (hne : ¬ wM = wD) (SA : Sta Z Z.heap "java/time/Duration$1" "$SwitchMap$java$time$temporal$ChronoUnit" "[I" (.ref wA)) (AA : Arr Z Z.heap wA cA .int) (hsz : cA.slots.size = 16) (hat : cA.slots[1]? = some (.int 2)) (wS : ∀ a ∈ Bundle.stringAtoms, a.before a0 Z = true) (Ra : Exa Z h0 a1 "java/time/Duration") (Rb : Fld Z h0 a1 "java/time/Duration" "seconds" "J" (.long sa)) (Rc : Fld Z h0 a1 "java/time/Duration" "nanos" "I" (.int na)) (hs1 : -1000000000000000000 ≤ sa.toInt) (hs2 : sa.toInt ≤ 1000000000000000000) (hn1 : 0 ≤ na.toInt) (hn2 : na.toInt < 1000000000) :
    MetFree l (⟨"java/time/Duration", "plus", "(JLjava/time/temporal/TemporalUnit;)Ljava/time/Duration;"⟩ : MethodName) (head1 (Jvm.Cond.code (⟨"java/time/Duration", "plus", "(JLjava/time/temporal/TemporalUnit;)Ljava/time/Duration;"⟩ : MethodName) jdk_2316_method_28_code 5 (some (.object "java/time/Duration")) :: ws) ({ frames := 6, cells := 4, slots := 24, locals := 100 } : Room)) (fun a U => a = #[(.ref a1), (.long q1), (.ref wM)] ∧ Z.Warmed39 U.vm ∧ U.heap = h0) (fun _ _ _ _ _ => True) (fun _ U o U' => ∃ v L, o = .returned v ∧ (QD Z (sa.toInt * 1000000000 + na.toInt + q1.toInt * 1000) h0 n0) v U'.heap L ∧ ReturnedEndW U o U' L ({ frames := 6, cells := 4, slots := 24, locals := 100 } : Room).cells ({ frames := 6, cells := 4, slots := 24, locals := 100 } : Room).slots) := by
  refine MetFree.of_bodySF (plainFor_of_name pn_2) hisR ?_
  intro p e s m args below meth c s₁ Bd hml0 hP hK
  obtain ⟨rfl, hZ, hh⟩ := hP
  have hx := Bd.exec
  have hby := Bd.bytes
  have hlk : meth.locks = false := BodyLoose.notSynchronized Bd
  have hml : c.maxLocals = 5 := hml0
  have hown : s.vm.findClass "java/time/Duration" = some m.cls := findClass_of_methodNamed Bd.named
  have hnm := (name_of_methodNamed Bd.named Bd.method).1
  have X0 : Stand p l e ({ frames := 6, cells := 4, slots := 24, locals := 100 } : Room) (s.setVm s.vm) m #[(.ref a1), (.long q1), (.ref wM)] below meth c s₁ [] 0 0 := Stand.of_body Bd
  have e0 : s₁.heap = h0 := by rw [← hh, Bd.state]; rfl
  have N0 := Fr.nil n0
  show GoesW p e below s (QD Z (sa.toInt * 1000000000 + na.toInt + q1.toInt * 1000) h0 n0) ({ frames := 6, cells := 4, slots := 24, locals := 100 } : Room).cells ({ frames := 6, cells := 4, slots := 24, locals := 100 } : Room).slots (s₁.setTop (entryFrame m #[(.ref a1), (.long q1), (.ref wM)] 5))
  refine GoesW.by (fun t k => castTop (ef_rm11 m a1 q1 wM) k) ?_
  have hS : s.Since s.vm 0 := (State.WarmedH.refl s).since 0
  have hk0 : 0 ≤ h0.size := Nat.zero_le _
  show GoesW p e below s _ _ _ (s₁.setTop (mkF m 0 #[.val (.ref a1), .val (.long q1), .second, .val (.ref wM), .unset] []))
  have KC0 : Keep h0 h0 [] := Keep.refl _ _
  refine GoesW.by (fun t k => XS.aloadN X0.here hx rfl (hb hby d11_0) rfl rfl k) ?_
  show GoesW p e below s _ _ _ (s₁.setTop (mkF m 1 #[.val (.ref a1), .val (.long q1), .second, .val (.ref wM), .unset] [(.ref wM)]))
  obtain ⟨sl1, T1, h1, k1, X1, e1, E1, hS, hk1, hZ, hown, st1⟩ := ldcSW X0 hx hZ hown (hw _ (List.mem_of_getElem? (i := 61) rfl)) wS e0 hS hk0 (g := (mkF m 1 #[.val (.ref a1), .val (.long q1), .second, .val (.ref wM), .unset] [(.ref wM)])) rfl (hb hby d11_1) (n := 16) (by decide) (by decide) (by decide) (by decide)
  refine GoesW.by (fun t k => st1 t k) ?_
  show GoesW p e below s _ _ _ (T1.setTop (mkF m 4 #[.val (.ref a1), .val (.long q1), .second, .val (.ref wM), .unset] [(.ref sl1), (.ref wM)]))
  have f1 := O0.ext E1
  have f2 := KC0.ext E1
  have f3 := Nat.le_trans Z0 E1.1
  have f4 := Nat.le_trans hk0 E1.1
  have f5 := Ra.ext E1
  have f6 := Rb.ext E1
  have f7 := Rc.ext E1
  obtain ⟨_, _, ⟨T2, L2, k2, n2⟩, -, X2, ⟨Lc2, hQ2, l2, y2, z2⟩, st2⟩ := Jvm.LawKit.callS X1 hx (y := (⟨"java/util/Objects", "requireNonNull", "(Ljava/lang/Object;Ljava/lang/String;)Ljava/lang/Object;"⟩ : MethodName)) hown (mvT hZ (hw _ (List.mem_of_getElem? (i := 69) rfl))) (mvT hZ (hw _ (List.mem_of_getElem? (i := 70) rfl))) (mvT hZ (hw _ (List.mem_of_getElem? (i := 71) rfl))) (mvT hZ (hw _ (List.mem_of_getElem? (i := 72) rfl))) (by decide) (backOf (W := 0) (rm12 l Z a0 hw [] wM sl1 _ n0 f3) hZ (hw _ (List.mem_of_getElem? (i := 72) rfl)) (hw _ (List.mem_of_getElem? (i := 71) rfl)) (by decide) (by decide)) (g := (mkF m 4 #[.val (.ref a1), .val (.long q1), .second, .val (.ref wM), .unset] [(.ref sl1), (.ref wM)])) rfl (by rw [hml]; rfl) (argsL := [(.ref wM), (.ref sl1)]) (rest := []) (lenOf pd_11 rfl) rfl (by show 2 * 0 + _ ≤ _; exact Nat.le_of_eq rfl) (hb hby d11_4) (fun _ _ => ⟨rfl, e1, (by decide : 2 + 0 ≤ _), (by decide : 20 + 0 ≤ _)⟩)
  dsimp only [Pt.U, Pt.locs, Pt.cells, Pt.slots] at X2 l2 y2 z2 st2 hQ2
  subst l2 y2 z2
  obtain ⟨rfl, N2q, hh2⟩ := hQ2
  have N2 := Fr.app N0 N2q
  refine GoesW.by (fun t k => st2 _ k) ?_
  show GoesW p e below s _ _ _ (T2.setTop (mkF m 7 #[.val (.ref a1), .val (.long q1), .second, .val (.ref wM), .unset] [(.ref wM)]))
  have KK2 : Keep (h1) T2.heap [] := by rw [hh2]; exact Keep.refl _ _
  have OLD_KK2 := f1.keep KK2 all0
  have f8 := f2.trans KK2 all0
  have f9 := Nat.le_trans f3 KK2.1
  have f10 := Nat.le_trans hk1 KK2.1
  have f11 := f5.keep KK2
  have f12 := f6.keep KK2 nin0
  have f13 := f7.keep KK2 nin0
  refine GoesW.by (fun t k => XS.pop X2.here hx rfl (hb hby d11_7) rfl rfl k) ?_
  show GoesW p e below s _ _ _ (T2.setTop (mkF m 8 #[.val (.ref a1), .val (.long q1), .second, .val (.ref wM), .unset] []))
  refine GoesW.by (fun t k => XS.aloadN X2.here hx rfl (hb hby d11_8) rfl rfl k) ?_
  show GoesW p e below s _ _ _ (T2.setTop (mkF m 9 #[.val (.ref a1), .val (.long q1), .second, .val (.ref wM), .unset] [(.ref wM)]))
  obtain ⟨T3, X3, e3, st3⟩ := getS2 X2 hx hZ hown (host := "") (Or.inl (hw _ (List.mem_of_getElem? (i := 73) rfl))) Via.refl rfl (SD.ext OLD_KK2.2) (g := (mkF m 9 #[.val (.ref a1), .val (.long q1), .second, .val (.ref wM), .unset] [(.ref wM)])) rfl (hb hby d11_9)
  refine GoesW.by (fun t k => st3 t k) ?_
  show GoesW p e below s _ _ _ (T3.setTop (mkF m 12 #[.val (.ref a1), .val (.long q1), .second, .val (.ref wM), .unset] [(.ref wD), (.ref wM)]))
  refine GoesW.by (fun t k => Jvm.RoadKit.acmp (g := (mkF m 12 #[.val (.ref a1), .val (.long q1), .second, .val (.ref wM), .unset] [(.ref wD), (.ref wM)])) X3 hx rfl rfl rfl (pc0 := 12) (pc' := 27) (same := false) rfl (hb hby d11_12) rfl (decide_eq_false fun q => hne (Value.ref.inj q)) (by decide) (by decide) k) ?_
  show GoesW p e below s _ _ _ (T3.setTop (mkF m 27 #[.val (.ref a1), .val (.long q1), .second, .val (.ref wM), .unset] []))
  refine GoesW.by (fun t k => XS.aloadN X3.here hx rfl (hb hby d11_27) rfl rfl k) ?_
  show GoesW p e below s _ _ _ (T3.setTop (mkF m 28 #[.val (.ref a1), .val (.long q1), .second, .val (.ref wM), .unset] [(.ref wM)]))
  obtain ⟨cq4, kq4, q4a, q4b, q4c⟩ := isOf hZ e3 (EM.ext OLD_KK2.2)
  obtain ⟨_, _, ⟨T4, L4, k4, n4⟩, -, X4, ⟨Lc4, hQ4, l4, y4, z4⟩, st4⟩ := X3.interfaceBack hx (xi := (⟨"java/time/temporal/TemporalUnit", "isDurationEstimated", "()Z"⟩ : MethodName)) (y := (⟨"java/time/temporal/ChronoUnit", "isDurationEstimated", "()Z"⟩ : MethodName)) hown (mvT hZ (hw _ (List.mem_of_getElem? (i := 74) rfl))) (mvT hZ (hw _ (List.mem_of_getElem? (i := 75) rfl))) (mvT hZ (hw _ (List.mem_of_getElem? (i := 76) rfl))) (mvT hZ (hw _ (List.mem_of_getElem? (i := 77) rfl))) (mvT hZ (hw _ (List.mem_of_getElem? (i := 78) rfl))) (mvT hZ (hw _ (List.mem_of_getElem? (i := 79) rfl))) (mvT hZ (hw _ (List.mem_of_getElem? (i := 80) rfl))) (mvT hZ (hw _ (List.mem_of_getElem? (i := 81) rfl))) (by decide) (backOf (W := 0) (rm13 l Z a0 hw [] wM wD cU kU mir _ n0 f9 hcU hkU hmU OLD_KK2 SD EM ED FM FD) hZ (hw _ (List.mem_of_getElem? (i := 82) rfl)) (hw _ (List.mem_of_getElem? (i := 55) rfl)) (by decide) (by decide)) q4a q4b q4c (g := (mkF m 28 #[.val (.ref a1), .val (.long q1), .second, .val (.ref wM), .unset] [(.ref wM)])) rfl (by rw [hml]; rfl) (Steps.refl _) (argsL := []) (rest := []) (lenOf pd_12 rfl) rfl (by show 2 * 0 + _ ≤ _; exact Nat.le_of_eq rfl) (hb hby d11_28) (fun _ _ => ⟨rfl, e3, (by decide : 2 + 0 ≤ _), (by decide : 20 + 0 ≤ _)⟩)
  dsimp only [Pt.U, Pt.locs, Pt.cells, Pt.slots] at X4 l4 y4 z4 st4 hQ4
  subst l4 y4 z4
  obtain ⟨rfl, N4q, hh4⟩ := hQ4
  have N4 := Fr.app N2 N4q
  refine GoesW.by (fun t k => st4.trans k) ?_
  show GoesW p e below s _ _ _ (T4.setTop (mkF m 33 #[.val (.ref a1), .val (.long q1), .second, .val (.ref wM), .unset] [(.int (0 : Int32))]))
  have KK4 : Keep (T2.heap) T4.heap [] := by rw [hh4]; exact Keep.refl _ _
  have OLD_KK4 := OLD_KK2.keep KK4 all0
  have f14 := f8.trans KK4 all0
  have f15 := Nat.le_trans f9 KK4.1
  have f16 := Nat.le_trans f10 KK4.1
  have f17 := f11.keep KK4
  have f18 := f12.keep KK4 nin0
  have f19 := f13.keep KK4 nin0
  refine GoesW.by (fun t k => XS.ifYes X4.here hx rfl (pc0 := 33) (pc' := 47) rfl (hb hby d11_33) rfl ((if0 _ _).trans (teq (rfl)).1) (by decide) (by decide) k) ?_
  show GoesW p e below s _ _ _ (T4.setTop (mkF m 47 #[.val (.ref a1), .val (.long q1), .second, .val (.ref wM), .unset] []))
  refine GoesW.by (fun t k => XS.lloadN X4.here hx rfl (hb hby d11_47) rfl k) ?_
  show GoesW p e below s _ _ _ (T4.setTop (mkF m 48 #[.val (.ref a1), .val (.long q1), .second, .val (.ref wM), .unset] [(.long q1)]))
  refine GoesW.by (fun t k => XS.lconst X4.here hx rfl (hb hby d11_48) k) ?_
  show GoesW p e below s _ _ _ (T4.setTop (mkF m 49 #[.val (.ref a1), .val (.long q1), .second, .val (.ref wM), .unset] [(.long (0 : Int64)), (.long q1)]))
  refine GoesW.by (fun t k => XS.lcmp X4.here hx rfl (hb hby d11_49) rfl k) ?_
  show GoesW p e below s _ _ _ (T4.setTop (mkF m 50 #[.val (.ref a1), .val (.long q1), .second, .val (.ref wM), .unset] [(.int (lcmpW q1 (0 : Int64)))]))
  by_cases hc : (lcmpW q1 (0 : Int64)) = (0 : Int32)
  · skip
    refine GoesW.by (fun t k => XS.ifNo X4.here hx rfl (hb hby d11_50) rfl ((if0 _ _).trans (teq (hc)).2) k) ?_
    show GoesW p e below s _ _ _ (T4.setTop (mkF m 53 #[.val (.ref a1), .val (.long q1), .second, .val (.ref wM), .unset] []))
    refine GoesW.by (fun t k => XS.aloadN X4.here hx rfl (hb hby d11_53) rfl rfl k) ?_
    show GoesW p e below s _ _ _ (T4.setTop (mkF m 54 #[.val (.ref a1), .val (.long q1), .second, .val (.ref wM), .unset] [(.ref a1)]))
    have q0 : q1 = 0 := (lw_eq _ _).mp hc
    exact GoesW.retA X4 hS (by exact f16) hx Bd.returns rfl rfl (hb hby d11_54) hlk (by exact ⟨a1, sa, na, rfl, N4, f14, f17, f18, f19, by rw [q0, own_l0]; omega, hn1, hn2⟩) (by decide) (by decide)
  · skip
    refine GoesW.by (fun t k => XS.ifYes X4.here hx rfl (pc0 := 50) (pc' := 55) rfl (hb hby d11_50) rfl ((if0 _ _).trans (feq (hc)).2) (by decide) (by decide) k) ?_
    show GoesW p e below s _ _ _ (T4.setTop (mkF m 55 #[.val (.ref a1), .val (.long q1), .second, .val (.ref wM), .unset] []))
    refine GoesW.by (fun t k => XS.aloadN X4.here hx rfl (hb hby d11_55) rfl rfl k) ?_
    show GoesW p e below s _ _ _ (T4.setTop (mkF m 56 #[.val (.ref a1), .val (.long q1), .second, .val (.ref wM), .unset] [(.ref wM)]))
    obtain ⟨T5, X5, e5, st5⟩ := instY X4 hx hZ hown (hw _ (List.mem_of_getElem? (i := 99) rfl)) rfl (Ins.self (EM.ext OLD_KK4.2)) (g := (mkF m 56 #[.val (.ref a1), .val (.long q1), .second, .val (.ref wM), .unset] [(.ref wM)])) rfl rfl (hb hby d11_56)
    refine GoesW.by (fun t k => st5 t k) ?_
    show GoesW p e below s _ _ _ (T5.setTop (mkF m 59 #[.val (.ref a1), .val (.long q1), .second, .val (.ref wM), .unset] [(.int (1 : Int32))]))
    refine GoesW.by (fun t k => XS.ifNo X5.here hx rfl (hb hby d11_59) rfl ((if0 _ _).trans (feq (by decide)).1) k) ?_
    show GoesW p e below s _ _ _ (T5.setTop (mkF m 62 #[.val (.ref a1), .val (.long q1), .second, .val (.ref wM), .unset] []))
    refine GoesW.by (fun t k => XS.aloadN X5.here hx rfl (hb hby d11_62) rfl rfl k) ?_
    show GoesW p e below s _ _ _ (T5.setTop (mkF m 63 #[.val (.ref a1), .val (.long q1), .second, .val (.ref wM), .unset] [(.ref wM)]))
    obtain ⟨T6, X6, e6, st6⟩ := castY X5 hx hZ hown (hw _ (List.mem_of_getElem? (i := 99) rfl)) e5 (Ins.self (EM.ext OLD_KK4.2)) (g := (mkF m 63 #[.val (.ref a1), .val (.long q1), .second, .val (.ref wM), .unset] [(.ref wM)])) rfl rfl (hb hby d11_63)
    refine GoesW.by (fun t k => st6 t k) ?_
    show GoesW p e below s _ _ _ (T6.setTop (mkF m 66 #[.val (.ref a1), .val (.long q1), .second, .val (.ref wM), .unset] [(.ref wM)]))
    refine GoesW.by (fun t k => XS.astore X6.here hx rfl (hb hby d11_66) rfl rfl (l' := #[.val (.ref a1), .val (.long q1), .second, .val (.ref wM), .val (.ref wM)]) rfl k) ?_
    show GoesW p e below s _ _ _ (T6.setTop (mkF m 68 #[.val (.ref a1), .val (.long q1), .second, .val (.ref wM), .val (.ref wM)] []))
    obtain ⟨T7, X7, e7, st7⟩ := getS2 X6 hx hZ hown (host := "") (Or.inl (hw _ (List.mem_of_getElem? (i := 100) rfl))) Via.refl e6 (SA.ext OLD_KK4.2) (g := (mkF m 68 #[.val (.ref a1), .val (.long q1), .second, .val (.ref wM), .val (.ref wM)] [])) rfl (hb hby d11_68)
    refine GoesW.by (fun t k => st7 t k) ?_
    show GoesW p e below s _ _ _ (T7.setTop (mkF m 71 #[.val (.ref a1), .val (.long q1), .second, .val (.ref wM), .val (.ref wM)] [(.ref wA)]))
    refine GoesW.by (fun t k => XS.aload X7.here hx rfl (hb hby d11_71) rfl rfl k) ?_
    show GoesW p e below s _ _ _ (T7.setTop (mkF m 73 #[.val (.ref a1), .val (.long q1), .second, .val (.ref wM), .val (.ref wM)] [(.ref wM), (.ref wA)]))
    obtain ⟨cq8, kq8, q8a, q8b, q8c⟩ := isOf hZ e7 (EM.ext OLD_KK4.2)
    obtain ⟨_, _, ⟨T8, L8, k8, n8⟩, -, X8, ⟨Lc8, hQ8, l8, y8, z8⟩, st8⟩ := X7.virtualBackUp hx (x := (⟨"java/time/temporal/ChronoUnit", "ordinal", "()I"⟩ : MethodName)) (y := (⟨"java/lang/Enum", "ordinal", "()I"⟩ : MethodName)) (owner := "java/lang/Enum") hown (mvT hZ (hw _ (List.mem_of_getElem? (i := 102) rfl))) (mvT hZ (hw _ (List.mem_of_getElem? (i := 103) rfl))) (mvT hZ (hw _ (List.mem_of_getElem? (i := 104) rfl))) (by decide) (mvT hZ (hw _ (List.mem_of_getElem? (i := 106) rfl))) (mvT hZ (hw _ (List.mem_of_getElem? (i := 105) rfl))) (backOf (W := 1) (rm15 l Z a0 hw [] wM 1 _ n0 f15 (FM.ext OLD_KK4.2)) hZ (hw _ (List.mem_of_getElem? (i := 107) rfl)) (hw _ (List.mem_of_getElem? (i := 89) rfl)) (by decide) (by decide)) q8a q8c (g := (mkF m 73 #[.val (.ref a1), .val (.long q1), .second, .val (.ref wM), .val (.ref wM)] [(.ref wM), (.ref wA)])) rfl (by rw [hml]; rfl) (Steps.refl _) (argsL := []) (rest := [(.ref wA)]) (lenOf pd_14 rfl) rfl (by show 2 * 0 + _ ≤ _; exact Nat.le_of_eq rfl) (hb hby d11_73) (fun _ _ => ⟨rfl, e7, (by decide : 2 + 0 ≤ _), (by decide : 20 + 0 ≤ _)⟩)
    dsimp only [Pt.U, Pt.locs, Pt.cells, Pt.slots] at X8 l8 y8 z8 st8 hQ8
    subst l8 y8 z8
    obtain ⟨rfl, N8q, hh8⟩ := hQ8
    have N8 := Fr.app N4 N8q
    refine GoesW.by (fun t k => st8.trans k) ?_
    show GoesW p e below s _ _ _ (T8.setTop (mkF m 76 #[.val (.ref a1), .val (.long q1), .second, .val (.ref wM), .val (.ref wM)] [(.int (1 : Int32)), (.ref wA)]))
    have KK8 : Keep (T4.heap) T8.heap [] := by rw [hh8]; exact Keep.refl _ _
    have OLD_KK8 := OLD_KK4.keep KK8 all0
    have f20 := f14.trans KK8 all0
    have f21 := Nat.le_trans f15 KK8.1
    have f22 := Nat.le_trans f16 KK8.1
    have f23 := f17.keep KK8
    have f24 := f18.keep KK8 nin0
    have f25 := f19.keep KK8 nin0
    refine GoesW.by (fun t k => X8.iaload hx (j := 1) (v := .int 2) (OLD_KK8.2.2 _ _ AA.1) (State.isArrayOf_alike hZ.alike AA.2.1) AA.2.2 (by rw [hsz]; decide) hat (g := (mkF m 76 #[.val (.ref a1), .val (.long q1), .second, .val (.ref wM), .val (.ref wM)] [(.int (1 : Int32)), (.ref wA)])) rfl rfl (hb hby d11_76) _ k) ?_
    show GoesW p e below s _ _ _ (T8.setTop (mkF m 77 #[.val (.ref a1), .val (.long q1), .second, .val (.ref wM), .val (.ref wM)] [(.int (2 : Int32))]))
    refine GoesW.by (fun t k => X8.tableswitchIn hx (g := (mkF m 77 #[.val (.ref a1), .val (.long q1), .second, .val (.ref wM), .val (.ref wM)] [(.int (2 : Int32))])) rfl rfl (hb hby d11_77) (by decide) (off := 39) (by decide) (by show 0 ≤ ((77 : Nat) : Int) + 39; decide) _ k) ?_
    show GoesW p e below s _ _ _ (T8.setTop (mkF m 116 #[.val (.ref a1), .val (.long q1), .second, .val (.ref wM), .val (.ref wM)] []))
    refine GoesW.by (fun t k => XS.aloadN X8.here hx rfl (hb hby d11_116) rfl rfl k) ?_
    show GoesW p e below s _ _ _ (T8.setTop (mkF m 117 #[.val (.ref a1), .val (.long q1), .second, .val (.ref wM), .val (.ref wM)] [(.ref a1)]))
    refine GoesW.by (fun t k => XS.lloadN X8.here hx rfl (hb hby d11_117) rfl k) ?_
    show GoesW p e below s _ _ _ (T8.setTop (mkF m 118 #[.val (.ref a1), .val (.long q1), .second, .val (.ref wM), .val (.ref wM)] [(.long q1), (.ref a1)]))
    refine GoesW.by (fun t k => X8.ldc2Long hx hown (mvT hZ (hw _ (List.mem_of_getElem? (i := 108) rfl))) (g := (mkF m 118 #[.val (.ref a1), .val (.long q1), .second, .val (.ref wM), .val (.ref wM)] [(.long q1), (.ref a1)])) rfl (hb hby d11_118) _ k) ?_
    show GoesW p e below s _ _ _ (T8.setTop (mkF m 121 #[.val (.ref a1), .val (.long q1), .second, .val (.ref wM), .val (.ref wM)] [(.long (1000000000 : Int64)), (.long q1), (.ref a1)]))
    refine GoesW.by (fun t k => XS.ldiv X8.here hx rfl (hb hby d11_121) rfl (by decide) k) ?_
    show GoesW p e below s _ _ _ (T8.setTop (mkF m 122 #[.val (.ref a1), .val (.long q1), .second, .val (.ref wM), .val (.ref wM)] [(.long (q1 / (1000000000 : Int64))), (.ref a1)]))
    refine GoesW.by (fun t k => X8.ldc2Long hx hown (mvT hZ (hw _ (List.mem_of_getElem? (i := 109) rfl))) (g := (mkF m 122 #[.val (.ref a1), .val (.long q1), .second, .val (.ref wM), .val (.ref wM)] [(.long (q1 / (1000000000 : Int64))), (.ref a1)])) rfl (hb hby d11_122) _ k) ?_
    show GoesW p e below s _ _ _ (T8.setTop (mkF m 125 #[.val (.ref a1), .val (.long q1), .second, .val (.ref wM), .val (.ref wM)] [(.long (1000 : Int64)), (.long (q1 / (1000000000 : Int64))), (.ref a1)]))
    refine GoesW.by (fun t k => XS.lmul X8.here hx rfl (hb hby d11_125) rfl k) ?_
    show GoesW p e below s _ _ _ (T8.setTop (mkF m 126 #[.val (.ref a1), .val (.long q1), .second, .val (.ref wM), .val (.ref wM)] [(.long ((q1 / (1000000000 : Int64)) * (1000 : Int64))), (.ref a1)]))
    obtain ⟨m1, m2, m3, m4, m5⟩ := own_micro q1
    obtain ⟨cq9, kq9, q9a, q9b, q9c⟩ := isOf hZ rfl (f23)
    obtain ⟨_, _, ⟨T9, L9, k9, n9⟩, -, X9, ⟨Lc9, hQ9, l9, y9, z9⟩, st9⟩ := X8.virtualBack hx (y := (⟨"java/time/Duration", "plusSeconds", "(J)Ljava/time/Duration;"⟩ : MethodName)) (z := (⟨"java/time/Duration", "plusSeconds", "(J)Ljava/time/Duration;"⟩ : MethodName)) hown (mvT hZ (hw _ (List.mem_of_getElem? (i := 110) rfl))) (mvT hZ (hw _ (List.mem_of_getElem? (i := 111) rfl))) (notFace_of_selects (args := #[]) (mvT hZ (hw _ (List.mem_of_getElem? (i := 113) rfl)))) (mvT hZ (hw _ (List.mem_of_getElem? (i := 113) rfl))) (mvT hZ (hw _ (List.mem_of_getElem? (i := 112) rfl))) (by decide) (backOf (W := 0) (rm16 l Z a0 hw [] a1 sa na _ wZ _ n0 f21 OLD_KK8 SZ EZ Fs Fn f23 f24 f25 (by omega) (by omega) hn1 hn2 (by omega) (by omega)) hZ (hw _ (List.mem_of_getElem? (i := 114) rfl)) (hw _ (List.mem_of_getElem? (i := 27) rfl)) (by decide) (by decide)) q9a q9c (g := (mkF m 126 #[.val (.ref a1), .val (.long q1), .second, .val (.ref wM), .val (.ref wM)] [(.long ((q1 / (1000000000 : Int64)) * (1000 : Int64))), (.ref a1)])) rfl (by rw [hml]; rfl) (Steps.refl _) (argsL := [(.long ((q1 / (1000000000 : Int64)) * (1000 : Int64)))]) (rest := []) (lenOf pd_4 rfl) rfl (by show 2 * 0 + _ ≤ _; exact Nat.le_of_eq rfl) (hb hby d11_126) (fun _ _ => ⟨rfl, rfl, (by decide : 2 + 1 ≤ _), (by decide : 20 + 2 ≤ _)⟩)
    dsimp only [Pt.U, Pt.locs, Pt.cells, Pt.slots] at X9 l9 y9 z9 st9 hQ9
    subst l9 y9 z9
    obtain ⟨r9, u9, w9, rfl, N9q, K9, E9, F9, G9, t9, p9, s9⟩ := hQ9
    have N9 := Fr.app N8 N9q
    refine GoesW.by (fun t k => st9.trans k) ?_
    show GoesW p e below s _ _ _ (T9.setTop (mkF m 129 #[.val (.ref a1), .val (.long q1), .second, .val (.ref wM), .val (.ref wM)] [(.ref r9)]))
    have OLD_K9 := OLD_KK8.keep K9 all0
    have f26 := f20.trans K9 all0
    have f27 := Nat.le_trans f21 K9.1
    have f28 := Nat.le_trans f22 K9.1
    have f29 := f23.keep K9
    have f30 := f24.keep K9 nin0
    have f31 := f25.keep K9 nin0
    rw [own_l0] at t9
    obtain ⟨b1, b2⟩ := own_plb _ _ _ _ _ t9 hs1 hs2 m2 m3 hn1 hn2 p9 s9
    refine GoesW.by (fun t k => XS.lloadN X9.here hx rfl (hb hby d11_129) rfl k) ?_
    show GoesW p e below s _ _ _ (T9.setTop (mkF m 130 #[.val (.ref a1), .val (.long q1), .second, .val (.ref wM), .val (.ref wM)] [(.long q1), (.ref r9)]))
    refine GoesW.by (fun t k => X9.ldc2Long hx hown (mvT hZ (hw _ (List.mem_of_getElem? (i := 108) rfl))) (g := (mkF m 130 #[.val (.ref a1), .val (.long q1), .second, .val (.ref wM), .val (.ref wM)] [(.long q1), (.ref r9)])) rfl (hb hby d11_130) _ k) ?_
    show GoesW p e below s _ _ _ (T9.setTop (mkF m 133 #[.val (.ref a1), .val (.long q1), .second, .val (.ref wM), .val (.ref wM)] [(.long (1000000000 : Int64)), (.long q1), (.ref r9)]))
    refine GoesW.by (fun t k => XS.lrem X9.here hx rfl (hb hby d11_133) rfl (by decide) k) ?_
    show GoesW p e below s _ _ _ (T9.setTop (mkF m 134 #[.val (.ref a1), .val (.long q1), .second, .val (.ref wM), .val (.ref wM)] [(.long (q1 - q1 / (1000000000 : Int64) * (1000000000 : Int64))), (.ref r9)]))
    refine GoesW.by (fun t k => X9.ldc2Long hx hown (mvT hZ (hw _ (List.mem_of_getElem? (i := 109) rfl))) (g := (mkF m 134 #[.val (.ref a1), .val (.long q1), .second, .val (.ref wM), .val (.ref wM)] [(.long (q1 - q1 / (1000000000 : Int64) * (1000000000 : Int64))), (.ref r9)])) rfl (hb hby d11_134) _ k) ?_
    show GoesW p e below s _ _ _ (T9.setTop (mkF m 137 #[.val (.ref a1), .val (.long q1), .second, .val (.ref wM), .val (.ref wM)] [(.long (1000 : Int64)), (.long (q1 - q1 / (1000000000 : Int64) * (1000000000 : Int64))), (.ref r9)]))
    refine GoesW.by (fun t k => XS.lmul X9.here hx rfl (hb hby d11_137) rfl k) ?_
    show GoesW p e below s _ _ _ (T9.setTop (mkF m 138 #[.val (.ref a1), .val (.long q1), .second, .val (.ref wM), .val (.ref wM)] [(.long ((q1 - q1 / (1000000000 : Int64) * (1000000000 : Int64)) * (1000 : Int64))), (.ref r9)]))
    obtain ⟨cq10, kq10, q10a, q10b, q10c⟩ := isOf hZ rfl (E9)
    obtain ⟨_, _, ⟨T10, L10, k10, n10⟩, -, X10, ⟨Lc10, hQ10, l10, y10, z10⟩, st10⟩ := X9.virtualBack hx (y := (⟨"java/time/Duration", "plusNanos", "(J)Ljava/time/Duration;"⟩ : MethodName)) (z := (⟨"java/time/Duration", "plusNanos", "(J)Ljava/time/Duration;"⟩ : MethodName)) hown (mvT hZ (hw _ (List.mem_of_getElem? (i := 132) rfl))) (mvT hZ (hw _ (List.mem_of_getElem? (i := 133) rfl))) (notFace_of_selects (args := #[]) (mvT hZ (hw _ (List.mem_of_getElem? (i := 135) rfl)))) (mvT hZ (hw _ (List.mem_of_getElem? (i := 135) rfl))) (mvT hZ (hw _ (List.mem_of_getElem? (i := 134) rfl))) (by decide) (backOf (W := 0) (rm22 l Z a0 hw [] r9 u9 w9 _ wZ _ n0 f27 OLD_K9 SZ EZ Fs Fn E9 F9 G9 b1 b2 p9 s9) hZ (hw _ (List.mem_of_getElem? (i := 136) rfl)) (hw _ (List.mem_of_getElem? (i := 27) rfl)) (by decide) (by decide)) q10a q10c (g := (mkF m 138 #[.val (.ref a1), .val (.long q1), .second, .val (.ref wM), .val (.ref wM)] [(.long ((q1 - q1 / (1000000000 : Int64) * (1000000000 : Int64)) * (1000 : Int64))), (.ref r9)])) rfl (by rw [hml]; rfl) (Steps.refl _) (argsL := [(.long ((q1 - q1 / (1000000000 : Int64) * (1000000000 : Int64)) * (1000 : Int64)))]) (rest := []) (lenOf pd_4 rfl) rfl (by show 2 * 0 + _ ≤ _; exact Nat.le_of_eq rfl) (hb hby d11_138) (fun _ _ => ⟨rfl, rfl, (by decide : 3 + 1 ≤ _), (by decide : 22 + 2 ≤ _)⟩)
    dsimp only [Pt.U, Pt.locs, Pt.cells, Pt.slots] at X10 l10 y10 z10 st10 hQ10
    subst l10 y10 z10
    obtain ⟨r10, u10, w10, rfl, N10q, K10, E10, F10, G10, t10, p10, s10⟩ := hQ10
    have N10 := Fr.app N9 N10q
    refine GoesW.by (fun t k => st10.trans k) ?_
    show GoesW p e below s _ _ _ (T10.setTop (mkF m 141 #[.val (.ref a1), .val (.long q1), .second, .val (.ref wM), .val (.ref wM)] [(.ref r10)]))
    have OLD_K10 := OLD_K9.keep K10 all0
    have f32 := f26.trans K10 all0
    have f33 := Nat.le_trans f27 K10.1
    have f34 := Nat.le_trans f28 K10.1
    have f35 := f29.keep K10
    have f36 := f30.keep K10 nin0
    have f37 := f31.keep K10 nin0
    have f38 := E9.keep K10
    have f39 := F9.keep K10 nin0
    have f40 := G9.keep K10 nin0
    refine GoesW.by (fun t k => XS.goto X10.here hx rfl (pc0 := 141) (pc' := 177) rfl (hb hby d11_141) (by decide) (by decide) k) ?_
    show GoesW p e below s _ _ _ (T10.setTop (mkF m 177 #[.val (.ref a1), .val (.long q1), .second, .val (.ref wM), .val (.ref wM)] [(.ref r10)]))
    rw [own_l0] at t10
    exact GoesW.retA X10 hS (by exact f34) hx Bd.returns rfl rfl (hb hby d11_177) hlk (by exact ⟨r10, u10, w10, rfl, N10, f32, E10, F10, G10, t10.trans (own_plu _ _ _ _ _ _ _ _ m1 t9 rfl), p10, s10⟩) (by decide) (by decide)
def Q4n (h0 : Heap) (n0 : Nat) (v : Option Value) (h : Heap) (L : List Loc) : Prop := v = some .null ∧ Fr n0 L ∧ h = h0
theorem d4_0 : decode prog_35_method_3_code 0 = .ok (.aload_n 0, 1) := by decide +kernel
theorem d4_1 : decode prog_35_method_3_code 1 = .ok (.getfield 9, 3) := by decide +kernel
theorem d4_4 : decode prog_35_method_3_code 4 = .ok (.lconst 0, 1) := by decide +kernel
theorem d4_5 : decode prog_35_method_3_code 5 = .ok (.lcmp, 1) := by decide +kernel
theorem d4_6 : decode prog_35_method_3_code 6 = .ok (.ifCond .eq 7, 3) := by decide +kernel
theorem d4_9 : decode prog_35_method_3_code 9 = .ok (.aconst_null, 1) := by decide +kernel
theorem d4_10 : decode prog_35_method_3_code 10 = .ok (.goto 20, 3) := by decide +kernel
theorem d4_13 : decode prog_35_method_3_code 13 = .ok (.aload_n 0, 1) := by decide +kernel
theorem d4_14 : decode prog_35_method_3_code 14 = .ok (.getfield 13, 3) := by decide +kernel
theorem d4_17 : decode prog_35_method_3_code 17 = .ok (.invokestatic 53, 3) := by decide +kernel
theorem d4_20 : decode prog_35_method_3_code 20 = .ok (.aload_n 0, 1) := by decide +kernel
theorem d4_21 : decode prog_35_method_3_code 21 = .ok (.getfield 16, 3) := by decide +kernel
theorem d4_24 : decode prog_35_method_3_code 24 = .ok (.getstatic 59, 3) := by decide +kernel
theorem d4_27 : decode prog_35_method_3_code 27 = .ok (.invokevirtual 65, 3) := by decide +kernel
theorem d4_30 : decode prog_35_method_3_code 30 = .ok (.areturn, 1) := by decide +kernel
theorem ef_rm4n (m : MethodId) (x0 : Addr) : entryFrame m #[(.ref x0)] 1 = mkF m 0 #[.val (.ref x0)] [] := by first | (simp [entryFrame, mkF, argsToLocals, Value.category]; done) | rfl
set_option maxRecDepth 65536 in
set_option maxHeartbeats 40000000 in
theorem rm4n (l : Launch) (Z : State) (a0 : Array Value) (hw : ∀ d ∈ tables_1, d.before a0 Z = true) (ws : List Jvm.Cond) (a1 : Addr) (x1 x2 x3 : Int64) (h0 : Heap) (n0 : Nat) (Z0 : n0 ≤ h0.size) (Ma : Fld Z h0 a1 "com/example/libtxsession/libtxsession/internal/session/PostgresInterval" "months" "J" (.long x1)) (Mb : Fld Z h0 a1 "com/example/libtxsession/libtxsession/internal/session/PostgresInterval" "days" "J" (.long x2)) (Mc : Fld Z h0 a1 "com/example/libtxsession/libtxsession/internal/session/PostgresInterval" "micros" "J" (.long x3)) (hm : ¬ x1 = 0) :
    MetFree l (⟨"com/example/libtxsession/libtxsession/internal/session/PostgresInterval", "duration", "()Ljava/time/Duration;"⟩ : MethodName) (head1 (Jvm.Cond.code (⟨"com/example/libtxsession/libtxsession/internal/session/PostgresInterval", "duration", "()Ljava/time/Duration;"⟩ : MethodName) prog_35_method_3_code 1 (some (.object "java/time/Duration")) :: ws) ({ frames := 0, cells := 0, slots := 0, locals := 0 } : Room)) (fun a U => a = #[(.ref a1)] ∧ Z.Warmed39 U.vm ∧ U.heap = h0) (fun _ _ _ _ _ => True) (fun _ U o U' => ∃ v L, o = .returned v ∧ (Q4n h0 n0) v U'.heap L ∧ FrameEnd U o U' L ({ frames := 0, cells := 0, slots := 0, locals := 0 } : Room).cells ({ frames := 0, cells := 0, slots := 0, locals := 0 } : Room).slots) := by
  refine MetFree.of_bodySF (plainFor_of_name pn_1) hisR ?_
  intro p e s m args below meth c s₁ Bd hml0 hP hK
  obtain ⟨rfl, hZ, hh⟩ := hP
  have hx := Bd.exec
  have hby := Bd.bytes
  have hlk : meth.locks = false := BodyLoose.notSynchronized Bd
  have hml : c.maxLocals = 1 := hml0
  have hown : s.vm.findClass "com/example/libtxsession/libtxsession/internal/session/PostgresInterval" = some m.cls := findClass_of_methodNamed Bd.named
  have hnm := (name_of_methodNamed Bd.named Bd.method).1
  have X0 : Stand p l e ({ frames := 0, cells := 0, slots := 0, locals := 0 } : Room) s m #[(.ref a1)] below meth c s₁ [] 0 0 := Stand.of_body Bd
  have e0 : s₁.heap = h0 := by rw [← hh, Bd.state]; rfl
  have N0 := Fr.nil n0
  show Goes p e below s (Q4n h0 n0) ({ frames := 0, cells := 0, slots := 0, locals := 0 } : Room).cells ({ frames := 0, cells := 0, slots := 0, locals := 0 } : Room).slots (s₁.setTop (entryFrame m #[(.ref a1)] 1))
  refine Goes.by (fun t k => castTop (ef_rm4n m a1) k) ?_
  show Goes p e below s _ _ _ (s₁.setTop (mkF m 0 #[.val (.ref a1)] []))
  refine Goes.by (fun t k => XS.aloadN X0.here hx rfl (hb hby d4_0) rfl rfl k) ?_
  show Goes p e below s _ _ _ (s₁.setTop (mkF m 1 #[.val (.ref a1)] [(.ref a1)]))
  obtain ⟨T1, X1, e1, st1⟩ := getF X0 hx hZ hown (host := "") (Or.inl (hw _ (List.mem_of_getElem? (i := 14) rfl))) Via.refl e0 (Ma) (g := (mkF m 1 #[.val (.ref a1)] [(.ref a1)])) rfl rfl (hb hby d4_1)
  refine Goes.by (fun t k => st1 t k) ?_
  show Goes p e below s _ _ _ (T1.setTop (mkF m 4 #[.val (.ref a1)] [(.long x1)]))
  refine Goes.by (fun t k => XS.lconst X1.here hx rfl (hb hby d4_4) k) ?_
  show Goes p e below s _ _ _ (T1.setTop (mkF m 5 #[.val (.ref a1)] [(.long (0 : Int64)), (.long x1)]))
  refine Goes.by (fun t k => XS.lcmp X1.here hx rfl (hb hby d4_5) rfl k) ?_
  show Goes p e below s _ _ _ (T1.setTop (mkF m 6 #[.val (.ref a1)] [(.int (lcmpW x1 (0 : Int64)))]))
  refine Goes.by (fun t k => XS.ifNo X1.here hx rfl (hb hby d4_6) rfl ((if0 _ _).trans (feq (fun h => hm ((lw_eq _ _).mp h))).1) k) ?_
  show Goes p e below s _ _ _ (T1.setTop (mkF m 9 #[.val (.ref a1)] []))
  refine Goes.by (fun t k => XS.aconstNull X1.here hx rfl (hb hby d4_9) k) ?_
  show Goes p e below s _ _ _ (T1.setTop (mkF m 10 #[.val (.ref a1)] [.null]))
  refine Goes.by (fun t k => XS.goto X1.here hx rfl (pc0 := 10) (pc' := 30) rfl (hb hby d4_10) (by decide) (by decide) k) ?_
  show Goes p e below s _ _ _ (T1.setTop (mkF m 30 #[.val (.ref a1)] [.null]))
  exact Goes.retA X1 hx Bd.returns rfl rfl (hb hby d4_30) hlk (by rw [e1]; exact ⟨rfl, N0, rfl⟩) (by decide) (by decide)
theorem ef_rm4z (m : MethodId) (x0 : Addr) : entryFrame m #[(.ref x0)] 1 = mkF m 0 #[.val (.ref x0)] [] := by first | (simp [entryFrame, mkF, argsToLocals, Value.category]; done) | rfl
set_option maxRecDepth 65536 in
set_option maxHeartbeats 40000000 in
theorem rm4z (l : Launch) (Z : State) (a0 : Array Value) (hw : ∀ d ∈ tables_1, d.before a0 Z = true) (ws : List Jvm.Cond) (a1 : Addr) (x1 x2 x3 : Int64) (wZ : Addr) (wM wD wA : Addr) (cA : Cell) (cU : ClassId) (kU : Class) (mir : Addr) (h0 : Heap) (n0 : Nat) (Z0 : n0 ≤ h0.size) (O0 : Old Z n0 h0) (SZ : Sta Z Z.heap "java/time/Duration" "ZERO" "Ljava/time/Duration;" (.ref wZ)) (EZ : Exa Z Z.heap wZ "java/time/Duration") (Fs : Fld Z Z.heap wZ "java/time/Duration" "seconds" "J" (.long 0)) (Fn : Fld Z Z.heap wZ "java/time/Duration" "nanos" "I" (.int 0)) (hcU : Z.vm.findClass "java/time/temporal/ChronoUnit" = some cU) (hkU : Z.vm.classes[cU]? = some kU) (hmU : kU.mirror = some mir) (SD : Sta Z Z.heap "java/time/temporal/ChronoUnit" "DAYS" "Ljava/time/temporal/ChronoUnit;" (.ref wD)) (EM : Exa Z Z.heap wM "java/time/temporal/ChronoUnit") (ED : Exa Z Z.heap wD "java/time/temporal/ChronoUnit") (FM : Fld Z Z.heap wM "java/lang/Enum" "ordinal" "I" (.int 1)) (FD : Fld Z Z.heap wD "java/lang/Enum" "ordinal" "I" (.int 7)) (hne : ¬ wM = wD) (SA : Sta Z Z.heap "java/time/Duration$1" "$SwitchMap$java$time$temporal$ChronoUnit" "[I" (.ref wA)) (AA : Arr Z Z.heap wA cA .int) (hsz : cA.slots.size = 16) (hat : cA.slots[1]? = some (.int 2)) (wS : ∀ a ∈ Bundle.stringAtoms, a.before a0 Z = true) (SMi : Sta Z Z.heap "java/time/temporal/ChronoUnit" "MICROS" "Ljava/time/temporal/ChronoUnit;" (.ref wM)) (Ma : Fld Z h0 a1 "com/example/libtxsession/libtxsession/internal/session/PostgresInterval" "months" "J" (.long x1)) (Mb : Fld Z h0 a1 "com/example/libtxsession/libtxsession/internal/session/PostgresInterval" "days" "J" (.long x2)) (Mc : Fld Z h0 a1 "com/example/libtxsession/libtxsession/internal/session/PostgresInterval" "micros" "J" (.long x3)) (hm : x1 = 0) (hd1 : -2147483648 ≤ x2.toInt) (hd2 : x2.toInt < 2147483648) :
    MetFree l (⟨"com/example/libtxsession/libtxsession/internal/session/PostgresInterval", "duration", "()Ljava/time/Duration;"⟩ : MethodName) (head1 (Jvm.Cond.code (⟨"com/example/libtxsession/libtxsession/internal/session/PostgresInterval", "duration", "()Ljava/time/Duration;"⟩ : MethodName) prog_35_method_3_code 1 (some (.object "java/time/Duration")) :: ws) ({ frames := 7, cells := 5, slots := 26, locals := 120 } : Room)) (fun a U => a = #[(.ref a1)] ∧ Z.Warmed39 U.vm ∧ U.heap = h0) (fun _ _ _ _ _ => True) (fun _ U o U' => ∃ v L, o = .returned v ∧ (QD Z (x2.toInt * 86400 * 1000000000 + x3.toInt * 1000) h0 n0) v U'.heap L ∧ ReturnedEndW U o U' L ({ frames := 7, cells := 5, slots := 26, locals := 120 } : Room).cells ({ frames := 7, cells := 5, slots := 26, locals := 120 } : Room).slots) := by
  refine MetFree.of_bodySF (plainFor_of_name pn_1) hisR ?_
  intro p e s m args below meth c s₁ Bd hml0 hP hK
  obtain ⟨rfl, hZ, hh⟩ := hP
  have hx := Bd.exec
  have hby := Bd.bytes
  have hlk : meth.locks = false := BodyLoose.notSynchronized Bd
  have hml : c.maxLocals = 1 := hml0
  have hown : s.vm.findClass "com/example/libtxsession/libtxsession/internal/session/PostgresInterval" = some m.cls := findClass_of_methodNamed Bd.named
  have hnm := (name_of_methodNamed Bd.named Bd.method).1
  have X0 : Stand p l e ({ frames := 7, cells := 5, slots := 26, locals := 120 } : Room) (s.setVm s.vm) m #[(.ref a1)] below meth c s₁ [] 0 0 := Stand.of_body Bd
  have e0 : s₁.heap = h0 := by rw [← hh, Bd.state]; rfl
  have N0 := Fr.nil n0
  show GoesW p e below s (QD Z (x2.toInt * 86400 * 1000000000 + x3.toInt * 1000) h0 n0) ({ frames := 7, cells := 5, slots := 26, locals := 120 } : Room).cells ({ frames := 7, cells := 5, slots := 26, locals := 120 } : Room).slots (s₁.setTop (entryFrame m #[(.ref a1)] 1))
  refine GoesW.by (fun t k => castTop (ef_rm4z m a1) k) ?_
  have hS : s.Since s.vm 0 := (State.WarmedH.refl s).since 0
  have hk0 : 0 ≤ h0.size := Nat.zero_le _
  show GoesW p e below s _ _ _ (s₁.setTop (mkF m 0 #[.val (.ref a1)] []))
  have KC0 : Keep h0 h0 [] := Keep.refl _ _
  refine GoesW.by (fun t k => XS.aloadN X0.here hx rfl (hb hby d4_0) rfl rfl k) ?_
  show GoesW p e below s _ _ _ (s₁.setTop (mkF m 1 #[.val (.ref a1)] [(.ref a1)]))
  obtain ⟨T1, X1, e1, st1⟩ := getF X0 hx hZ hown (host := "") (Or.inl (hw _ (List.mem_of_getElem? (i := 14) rfl))) Via.refl e0 (Ma) (g := (mkF m 1 #[.val (.ref a1)] [(.ref a1)])) rfl rfl (hb hby d4_1)
  refine GoesW.by (fun t k => st1 t k) ?_
  show GoesW p e below s _ _ _ (T1.setTop (mkF m 4 #[.val (.ref a1)] [(.long x1)]))
  refine GoesW.by (fun t k => XS.lconst X1.here hx rfl (hb hby d4_4) k) ?_
  show GoesW p e below s _ _ _ (T1.setTop (mkF m 5 #[.val (.ref a1)] [(.long (0 : Int64)), (.long x1)]))
  refine GoesW.by (fun t k => XS.lcmp X1.here hx rfl (hb hby d4_5) rfl k) ?_
  show GoesW p e below s _ _ _ (T1.setTop (mkF m 6 #[.val (.ref a1)] [(.int (lcmpW x1 (0 : Int64)))]))
  refine GoesW.by (fun t k => XS.ifYes X1.here hx rfl (pc0 := 6) (pc' := 13) rfl (hb hby d4_6) rfl ((if0 _ _).trans (teq ((lw_eq _ _).mpr hm)).1) (by decide) (by decide) k) ?_
  show GoesW p e below s _ _ _ (T1.setTop (mkF m 13 #[.val (.ref a1)] []))
  refine GoesW.by (fun t k => XS.aloadN X1.here hx rfl (hb hby d4_13) rfl rfl k) ?_
  show GoesW p e below s _ _ _ (T1.setTop (mkF m 14 #[.val (.ref a1)] [(.ref a1)]))
  obtain ⟨T2, X2, e2, st2⟩ := getF X1 hx hZ hown (host := "") (Or.inl (hw _ (List.mem_of_getElem? (i := 16) rfl))) Via.refl e1 (Mb) (g := (mkF m 14 #[.val (.ref a1)] [(.ref a1)])) rfl rfl (hb hby d4_14)
  refine GoesW.by (fun t k => st2 t k) ?_
  show GoesW p e below s _ _ _ (T2.setTop (mkF m 17 #[.val (.ref a1)] [(.long x2)]))
  obtain ⟨_, _, ⟨T3, L3, k3, n3⟩, -, X3, ⟨Lc3, hQ3, l3, y3, z3⟩, st3⟩ := Jvm.LawKit.callS X2 hx (y := (⟨"java/time/Duration", "ofDays", "(J)Ljava/time/Duration;"⟩ : MethodName)) hown (mvT hZ (hw _ (List.mem_of_getElem? (i := 25) rfl))) (mvT hZ (hw _ (List.mem_of_getElem? (i := 26) rfl))) (mvT hZ (hw _ (List.mem_of_getElem? (i := 27) rfl))) (mvT hZ (hw _ (List.mem_of_getElem? (i := 28) rfl))) (by decide) (backOf (W := 0) (rm5 l Z a0 hw [] x2 wZ _ n0 Z0 O0 SZ EZ Fs Fn hd1 hd2) hZ (hw _ (List.mem_of_getElem? (i := 28) rfl)) (hw _ (List.mem_of_getElem? (i := 27) rfl)) (by decide) (by decide)) (g := (mkF m 17 #[.val (.ref a1)] [(.long x2)])) rfl (by rw [hml]; rfl) (argsL := [(.long x2)]) (rest := []) (lenOf pd_4 rfl) rfl (by show 2 * 0 + _ ≤ _; exact Nat.le_of_eq rfl) (hb hby d4_17) (fun _ _ => ⟨rfl, e2, (by decide : 0 + 1 ≤ _), (by decide : 0 + 2 ≤ _)⟩)
  dsimp only [Pt.U, Pt.locs, Pt.cells, Pt.slots] at X3 l3 y3 z3 st3 hQ3
  subst l3 y3 z3
  obtain ⟨r3, u3, w3, rfl, N3q, K3, E3, F3, G3, t3, p3, s3⟩ := hQ3
  have N3 := Fr.app N0 N3q
  refine GoesW.by (fun t k => st3 _ k) ?_
  show GoesW p e below s _ _ _ (T3.setTop (mkF m 20 #[.val (.ref a1)] [(.ref r3)]))
  have OLD_K3 := O0.keep K3 all0
  have f1 := KC0.trans K3 all0
  have f2 := Nat.le_trans Z0 K3.1
  have f3 := Nat.le_trans hk0 K3.1
  have f4 := Ma.keep K3 nin0
  have f5 := Mb.keep K3 nin0
  have f6 := Mc.keep K3 nin0
  refine GoesW.by (fun t k => XS.aloadN X3.here hx rfl (hb hby d4_20) rfl rfl k) ?_
  show GoesW p e below s _ _ _ (T3.setTop (mkF m 21 #[.val (.ref a1)] [(.ref a1), (.ref r3)]))
  obtain ⟨T4, X4, e4, st4⟩ := getF X3 hx hZ hown (host := "") (Or.inl (hw _ (List.mem_of_getElem? (i := 18) rfl))) Via.refl rfl (f6) (g := (mkF m 21 #[.val (.ref a1)] [(.ref a1), (.ref r3)])) rfl rfl (hb hby d4_21)
  refine GoesW.by (fun t k => st4 t k) ?_
  show GoesW p e below s _ _ _ (T4.setTop (mkF m 24 #[.val (.ref a1)] [(.long x3), (.ref r3)]))
  obtain ⟨T5, X5, e5, st5⟩ := getS2 X4 hx hZ hown (host := "") (Or.inl (hw _ (List.mem_of_getElem? (i := 54) rfl))) Via.refl e4 (SMi.ext OLD_K3.2) (g := (mkF m 24 #[.val (.ref a1)] [(.long x3), (.ref r3)])) rfl (hb hby d4_24)
  refine GoesW.by (fun t k => st5 t k) ?_
  show GoesW p e below s _ _ _ (T5.setTop (mkF m 27 #[.val (.ref a1)] [(.ref wM), (.long x3), (.ref r3)]))
  obtain ⟨cq6, kq6, q6a, q6b, q6c⟩ := isOf hZ e5 (E3)
  obtain ⟨_, _, ⟨T6, L6, k6, n6⟩, -, X6, hSi6, hgr6, ⟨Lc6, hQ6, l6, y6, z6⟩, st6⟩ := X5.virtualBackS hx (y := (⟨"java/time/Duration", "plus", "(JLjava/time/temporal/TemporalUnit;)Ljava/time/Duration;"⟩ : MethodName)) (z := (⟨"java/time/Duration", "plus", "(JLjava/time/temporal/TemporalUnit;)Ljava/time/Duration;"⟩ : MethodName)) hown (mvT hZ (hw _ (List.mem_of_getElem? (i := 56) rfl))) (mvT hZ (hw _ (List.mem_of_getElem? (i := 57) rfl))) (notFace_of_selects (args := #[]) (mvT hZ (hw _ (List.mem_of_getElem? (i := 59) rfl)))) (mvT hZ (hw _ (List.mem_of_getElem? (i := 59) rfl))) (mvT hZ (hw _ (List.mem_of_getElem? (i := 58) rfl))) (by decide) (backOfS (W := 0) (rm11 l Z a0 hw [] r3 u3 w3 x3 wZ wM wD wA cA cU kU mir _ n0 f2 OLD_K3 SZ EZ Fs Fn hcU hkU hmU SD EM ED FM FD hne SA AA hsz hat wS E3 F3 G3 (by omega) (by omega) p3 s3) hZ (hw _ (List.mem_of_getElem? (i := 60) rfl)) (hw _ (List.mem_of_getElem? (i := 27) rfl)) (by decide) (by decide)) q6a q6c (g := (mkF m 27 #[.val (.ref a1)] [(.ref wM), (.long x3), (.ref r3)])) rfl (by rw [hml]; rfl) (Steps.refl _) (argsL := [(.long x3), (.ref wM)]) (rest := []) (lenOf pd_10 rfl) rfl (by show 2 * 0 + _ ≤ _; exact Nat.le_of_eq rfl) (hb hby d4_27) (fun _ _ => ⟨rfl, e5, (by decide : 1 + 4 ≤ _), (by decide : 2 + 24 ≤ _)⟩)
  dsimp only [Pt.U, Pt.locs, Pt.cells, Pt.slots] at X6 l6 y6 z6 st6 hQ6 hSi6 hgr6
  subst l6 y6 z6
  obtain ⟨X6, hS, hZ, hown⟩ := rebS hS (by rw [e5]; exact f3) X6 hSi6 hgr6 hZ hown
  have hkS6 : T6.heap.size ≤ T6.heap.size := Nat.le_refl _
  obtain ⟨r6, u6, w6, rfl, N6q, K6, E6, F6, G6, t6, p6, s6⟩ := hQ6
  have N6 := Fr.app N3 N6q
  refine GoesW.by (fun t k => st6.trans k) ?_
  show GoesW p e below s _ _ _ (T6.setTop (mkF m 30 #[.val (.ref a1)] [(.ref r6)]))
  have OLD_K6 := OLD_K3.keep K6 all0
  have f7 := f1.trans K6 all0
  have f8 := Nat.le_trans f2 K6.1
  have f9 := f4.keep K6 nin0
  have f10 := f5.keep K6 nin0
  have f11 := f6.keep K6 nin0
  have f12 := E3.keep K6
  have f13 := F3.keep K6 nin0
  have f14 := G3.keep K6 nin0
  exact GoesW.retA X6 hS (by exact hkS6) hx Bd.returns rfl rfl (hb hby d4_30) hlk (by exact ⟨r6, u6, w6, rfl, N6, f7, E6, F6, G6, by rw [t6, t3], p6, s6⟩) (by decide) (by decide)
def Q0 (n0 : Nat) (v : Option Value) (h : Heap) (L : List Loc) : Prop := v = some (.int 1) ∧ Fr n0 L
theorem pn_6 : plainName "com/example/libtxsession/libtxsession/internal/session/PostgresIntervalDurationPinLaw" = true := by first | (simp [plainName, overriddenIn]; done) | decide +kernel
theorem ef_rm0 (m : MethodId) (x0 : Int32) (x1 : Int64) (x2 : Int32) (x3 : Int64) : entryFrame m #[(.int x0), (.long x1), (.int x2), (.long x3)] maxLocals = mkF m 0 #[.val (.int x0), .val (.long x1), .second, .val (.int x2), .val (.long x3), .second, .unset, .unset, .unset, .unset, .unset, .unset, .unset, .unset, .unset, .unset] [] := by first | (simp [entryFrame, mkF, argsToLocals, Value.category, maxLocals]; done) | rfl
set_option maxRecDepth 65536 in
set_option maxHeartbeats 40000000 in
theorem rm0 (l : Launch) (Z : State) (a0 : Array Value) (hw : ∀ d ∈ tables_1, d.before a0 Z = true) (ws : List Jvm.Cond) (p0 : Int32) (q1 : Int64) (p2 : Int32) (q3 : Int64) (wZ : Addr) (wM wD wA : Addr) (cA : Cell) (cU : ClassId) (kU : Class) (mir : Addr) (h0 : Heap) (n0 : Nat) (Z0 : n0 ≤ h0.size) (O0 : Old Z n0 h0) (SZ : Sta Z Z.heap "java/time/Duration" "ZERO" "Ljava/time/Duration;" (.ref wZ)) (EZ : Exa Z Z.heap wZ "java/time/Duration") (Fs : Fld Z Z.heap wZ "java/time/Duration" "seconds" "J" (.long 0)) (Fn : Fld Z Z.heap wZ "java/time/Duration" "nanos" "I" (.int 0)) (hcU : Z.vm.findClass "java/time/temporal/ChronoUnit" = some cU) (hkU : Z.vm.classes[cU]? = some kU) (hmU : kU.mirror = some mir) (SD : Sta Z Z.heap "java/time/temporal/ChronoUnit" "DAYS" "Ljava/time/temporal/ChronoUnit;" (.ref wD)) (EM : Exa Z Z.heap wM "java/time/temporal/ChronoUnit") (ED : Exa Z Z.heap wD "java/time/temporal/ChronoUnit") (FM : Fld Z Z.heap wM "java/lang/Enum" "ordinal" "I" (.int 1)) (FD : Fld Z Z.heap wD "java/lang/Enum" "ordinal" "I" (.int 7)) (hne : ¬ wM = wD) (SA : Sta Z Z.heap "java/time/Duration$1" "$SwitchMap$java$time$temporal$ChronoUnit" "[I" (.ref wA)) (AA : Arr Z Z.heap wA cA .int) (hsz : cA.slots.size = 16) (hat : cA.slots[1]? = some (.int 2)) (wS : ∀ a ∈ Bundle.stringAtoms, a.before a0 Z = true) (SMi : Sta Z Z.heap "java/time/temporal/ChronoUnit" "MICROS" "Ljava/time/temporal/ChronoUnit;" (.ref wM)) :
    MetFree l x (head1 (Jvm.Cond.code x code maxLocals ret :: ws) room_1) (fun a U => a = #[(.int p0), (.long q1), (.int p2), (.long q3)] ∧ Z.Warmed39 U.vm ∧ U.heap = h0) (fun _ _ _ _ _ => True) (fun _ U o U' => ∃ v L, o = .returned v ∧ (Q0 n0) v U'.heap L ∧ ReturnedEndW U o U' L room_1.cells room_1.slots) := by
  refine MetFree.of_bodySF (plainFor_of_name pn_6) hisR ?_
  intro p e s m args below meth c s₁ Bd hml0 hP hK
  obtain ⟨rfl, hZ, hh⟩ := hP
  have hx := Bd.exec
  have hby := Bd.bytes
  have hlk : meth.locks = false := BodyLoose.notSynchronized Bd
  have hml : c.maxLocals = 16 := hml0
  have hown : s.vm.findClass "com/example/libtxsession/libtxsession/internal/session/PostgresIntervalDurationPinLaw" = some m.cls := findClass_of_methodNamed Bd.named
  have hnm := (name_of_methodNamed Bd.named Bd.method).1
  have X0 : Stand p l e room_1 (s.setVm s.vm) m #[(.int p0), (.long q1), (.int p2), (.long q3)] below meth c s₁ [] 0 0 := Stand.of_body Bd
  have e0 : s₁.heap = h0 := by rw [← hh, Bd.state]; rfl
  have N0 := Fr.nil n0
  show GoesW p e below s (Q0 n0) room_1.cells room_1.slots (s₁.setTop (entryFrame m #[(.int p0), (.long q1), (.int p2), (.long q3)] maxLocals))
  refine GoesW.by (fun t k => castTop (ef_rm0 m p0 q1 p2 q3) k) ?_
  have hS : s.Since s.vm 0 := (State.WarmedH.refl s).since 0
  have hk0 : 0 ≤ h0.size := Nat.zero_le _
  show GoesW p e below s _ _ _ (s₁.setTop (mkF m 0 #[.val (.int p0), .val (.long q1), .second, .val (.int p2), .val (.long q3), .second, .unset, .unset, .unset, .unset, .unset, .unset, .unset, .unset, .unset, .unset] []))
  refine GoesW.by (fun t k => XS.iloadN X0.here hx rfl (hb hby at_0) rfl k) ?_
  show GoesW p e below s _ _ _ (s₁.setTop (mkF m 1 #[.val (.int p0), .val (.long q1), .second, .val (.int p2), .val (.long q3), .second, .unset, .unset, .unset, .unset, .unset, .unset, .unset, .unset, .unset, .unset] [(.int p0)]))
  refine GoesW.by (fun t k => XS.iconst X0.here hx rfl (hb hby at_1) k) ?_
  show GoesW p e below s _ _ _ (s₁.setTop (mkF m 2 #[.val (.int p0), .val (.long q1), .second, .val (.int p2), .val (.long q3), .second, .unset, .unset, .unset, .unset, .unset, .unset, .unset, .unset, .unset, .unset] [(.int (1 : Int32)), (.int p0)]))
  refine GoesW.by (fun t k => XS.iand X0.here hx rfl (hb hby at_2) rfl k) ?_
  show GoesW p e below s _ _ _ (s₁.setTop (mkF m 3 #[.val (.int p0), .val (.long q1), .second, .val (.int p2), .val (.long q3), .second, .unset, .unset, .unset, .unset, .unset, .unset, .unset, .unset, .unset, .unset] [(.int (p0 &&& (1 : Int32)))]))
  have J11 : ∀ mu : Int64, GoesW p e below s (Q0 n0) room_1.cells room_1.slots (s₁.setTop (mkF m 11 #[.val (.int p0), .val (.long q1), .second, .val (.int p2), .val (.long q3), .second, .unset, .unset, .unset, .unset, .unset, .unset, .unset, .unset, .unset, .unset] [(.long mu)])) := by
    intro mu
    show GoesW p e below s _ _ _ (s₁.setTop (mkF m 11 #[.val (.int p0), .val (.long q1), .second, .val (.int p2), .val (.long q3), .second, .unset, .unset, .unset, .unset, .unset, .unset, .unset, .unset, .unset, .unset] [(.long mu)]))
    refine GoesW.by (fun t k => XS.lstore X0.here hx rfl (hb hby at_11) rfl (l' := #[.val (.int p0), .val (.long q1), .second, .val (.int p2), .val (.long q3), .second, .val (.long mu), .second, .unset, .unset, .unset, .unset, .unset, .unset, .unset, .unset]) rfl k) ?_
    show GoesW p e below s _ _ _ (s₁.setTop (mkF m 13 #[.val (.int p0), .val (.long q1), .second, .val (.int p2), .val (.long q3), .second, .val (.long mu), .second, .unset, .unset, .unset, .unset, .unset, .unset, .unset, .unset] []))
    obtain ⟨T1, h1, X1, e1, E1, A1, D1, -, st1⟩ := newO X0 hx hZ hown (hw _ (List.mem_of_getElem? (i := 0) rfl)) (hw _ (List.mem_of_getElem? (i := 1) rfl)) (hw _ (List.mem_of_getElem? (i := 2) rfl)) e0 (g := (mkF m 13 #[.val (.int p0), .val (.long q1), .second, .val (.int p2), .val (.long q3), .second, .val (.long mu), .second, .unset, .unset, .unset, .unset, .unset, .unset, .unset, .unset] [])) rfl (hb hby at_13) (by decide) (by decide)
    obtain ⟨b1, g1⟩ : ∃ z, z = h0.size := ⟨_, rfl⟩
    rw [← g1] at A1 D1 st1
    refine GoesW.by (fun t k => st1 t k) ?_
    show GoesW p e below s _ _ _ (T1.setTop (mkF m 16 #[.val (.int p0), .val (.long q1), .second, .val (.int p2), .val (.long q3), .second, .val (.long mu), .second, .unset, .unset, .unset, .unset, .unset, .unset, .unset, .unset] [(.ref b1)]))
    have ge_b1 : n0 ≤ b1 := Nat.le_trans Z0 (Nat.le_of_eq g1.symm)
    have f1 := O0.ext E1
    have f2 := Nat.le_trans Z0 E1.1
    have f3 := Nat.le_trans hk0 E1.1
    have f4 : Fld Z h1 b1 "com/example/libtxsession/libtxsession/internal/session/PostgresInterval" "months" "J" (.long (0 : Int64)) := D1 (Or.inr (hw _ (List.mem_of_getElem? (i := 15) rfl))) (ty := .long) (by decide)
    have f5 : Fld Z h1 b1 "com/example/libtxsession/libtxsession/internal/session/PostgresInterval" "days" "J" (.long (0 : Int64)) := D1 (Or.inr (hw _ (List.mem_of_getElem? (i := 17) rfl))) (ty := .long) (by decide)
    have f6 : Fld Z h1 b1 "com/example/libtxsession/libtxsession/internal/session/PostgresInterval" "micros" "J" (.long (0 : Int64)) := D1 (Or.inr (hw _ (List.mem_of_getElem? (i := 19) rfl))) (ty := .long) (by decide)
    refine GoesW.by (fun t k => XS.dup X1.here hx rfl (hb hby at_16) rfl rfl k) ?_
    show GoesW p e below s _ _ _ (T1.setTop (mkF m 17 #[.val (.int p0), .val (.long q1), .second, .val (.int p2), .val (.long q3), .second, .val (.long mu), .second, .unset, .unset, .unset, .unset, .unset, .unset, .unset, .unset] [(.ref b1), (.ref b1)]))
    refine GoesW.by (fun t k => XS.lload X1.here hx rfl (hb hby at_17) rfl k) ?_
    show GoesW p e below s _ _ _ (T1.setTop (mkF m 19 #[.val (.int p0), .val (.long q1), .second, .val (.int p2), .val (.long q3), .second, .val (.long mu), .second, .unset, .unset, .unset, .unset, .unset, .unset, .unset, .unset] [(.long mu), (.ref b1), (.ref b1)]))
    refine GoesW.by (fun t k => XS.iloadN X1.here hx rfl (hb hby at_19) rfl k) ?_
    show GoesW p e below s _ _ _ (T1.setTop (mkF m 20 #[.val (.int p0), .val (.long q1), .second, .val (.int p2), .val (.long q3), .second, .val (.long mu), .second, .unset, .unset, .unset, .unset, .unset, .unset, .unset, .unset] [(.int p2), (.long mu), (.ref b1), (.ref b1)]))
    refine GoesW.by (fun t k => XS.i2l X1.here hx rfl (hb hby at_20) rfl k) ?_
    show GoesW p e below s _ _ _ (T1.setTop (mkF m 21 #[.val (.int p0), .val (.long q1), .second, .val (.int p2), .val (.long q3), .second, .val (.long mu), .second, .unset, .unset, .unset, .unset, .unset, .unset, .unset, .unset] [(.long (p2.toInt64)), (.long mu), (.ref b1), (.ref b1)]))
    refine GoesW.by (fun t k => XS.lload X1.here hx rfl (hb hby at_21) rfl k) ?_
    show GoesW p e below s _ _ _ (T1.setTop (mkF m 23 #[.val (.int p0), .val (.long q1), .second, .val (.int p2), .val (.long q3), .second, .val (.long mu), .second, .unset, .unset, .unset, .unset, .unset, .unset, .unset, .unset] [(.long q3), (.long (p2.toInt64)), (.long mu), (.ref b1), (.ref b1)]))
    obtain ⟨_, _, ⟨T2, L2, k2, n2⟩, -, X2, ⟨Lc2, hQ2, l2, y2, z2⟩, st2⟩ := X1.specialBack hx (y := (⟨"com/example/libtxsession/libtxsession/internal/session/PostgresInterval", "<init>", "(JJJ)V"⟩ : MethodName)) rfl hown (mvT hZ (hw _ (List.mem_of_getElem? (i := 3) rfl))) (mvT hZ (hw _ (List.mem_of_getElem? (i := 4) rfl))) (mvT hZ (hw _ (List.mem_of_getElem? (i := 5) rfl))) (by decide) (backOf (W := 1) (rm1 l Z a0 hw [] b1 mu p2.toInt64 q3 _ _ _ h1 n0 f2 f4 f5 f6 A1 ge_b1) hZ (hw _ (List.mem_of_getElem? (i := 5) rfl)) (hw _ (List.mem_of_getElem? (i := 2) rfl)) (by decide) (by decide)) (g := (mkF m 23 #[.val (.int p0), .val (.long q1), .second, .val (.int p2), .val (.long q3), .second, .val (.long mu), .second, .unset, .unset, .unset, .unset, .unset, .unset, .unset, .unset] [(.long q3), (.long (p2.toInt64)), (.long mu), (.ref b1), (.ref b1)])) rfl (by rw [hml]; rfl) (Steps.refl _) (a := b1) (argsL := [(.long mu), (.long (p2.toInt64)), (.long q3)]) (rest := [(.ref b1)]) (lenOf pd_1 rfl) rfl (by show 2 * 0 + _ ≤ _; exact Nat.le_of_eq rfl) (hb hby at_23) (fun _ _ => ⟨rfl, e1, (by decide : 1 + 0 ≤ _), (by decide : 3 + 0 ≤ _)⟩)
    dsimp only [Pt.U, Pt.locs, Pt.cells, Pt.slots] at X2 l2 y2 z2 st2 hQ2
    subst l2 y2 z2
    obtain ⟨rfl, N2q, K2, E2, F2, G2, H2⟩ := hQ2
    have N2 := Fr.app N0 N2q
    refine GoesW.by (fun t k => st2.trans k) ?_
    show GoesW p e below s _ _ _ (T2.setTop (mkF m 26 #[.val (.int p0), .val (.long q1), .second, .val (.int p2), .val (.long q3), .second, .val (.long mu), .second, .unset, .unset, .unset, .unset, .unset, .unset, .unset, .unset] [(.ref b1)]))
    have OLD_K2 := f1.keep K2 (allS ge_b1 all0)
    have f7 := Nat.le_trans f2 K2.1
    have f8 := Nat.le_trans f3 K2.1
    have f9 := A1.keep K2
    refine GoesW.by (fun t k => XS.astore X2.here hx rfl (hb hby at_26) rfl rfl (l' := #[.val (.int p0), .val (.long q1), .second, .val (.int p2), .val (.long q3), .second, .val (.long mu), .second, .val (.ref b1), .unset, .unset, .unset, .unset, .unset, .unset, .unset]) rfl k) ?_
    show GoesW p e below s _ _ _ (T2.setTop (mkF m 28 #[.val (.int p0), .val (.long q1), .second, .val (.int p2), .val (.long q3), .second, .val (.long mu), .second, .val (.ref b1), .unset, .unset, .unset, .unset, .unset, .unset, .unset] []))
    refine GoesW.by (fun t k => XS.aload X2.here hx rfl (hb hby at_28) rfl rfl k) ?_
    show GoesW p e below s _ _ _ (T2.setTop (mkF m 30 #[.val (.int p0), .val (.long q1), .second, .val (.int p2), .val (.long q3), .second, .val (.long mu), .second, .val (.ref b1), .unset, .unset, .unset, .unset, .unset, .unset, .unset] [(.ref b1)]))
    by_cases hmu : mu = 0
    · skip
      have r32 := rng32 p2
      have ci := c_i2l p2
      obtain ⟨cq3, kq3, q3a, q3b, q3c⟩ := isOf hZ rfl (E2)
      obtain ⟨_, _, ⟨T3, L3, k3, n3⟩, -, X3, hSi3, hgr3, ⟨Lc3, hQ3, l3, y3, z3⟩, st3⟩ := X2.virtualBackS hx (y := (⟨"com/example/libtxsession/libtxsession/internal/session/PostgresInterval", "duration", "()Ljava/time/Duration;"⟩ : MethodName)) (z := (⟨"com/example/libtxsession/libtxsession/internal/session/PostgresInterval", "duration", "()Ljava/time/Duration;"⟩ : MethodName)) hown (mvT hZ (hw _ (List.mem_of_getElem? (i := 20) rfl))) (mvT hZ (hw _ (List.mem_of_getElem? (i := 21) rfl))) (notFace_of_selects (args := #[]) (mvT hZ (hw _ (List.mem_of_getElem? (i := 23) rfl)))) (mvT hZ (hw _ (List.mem_of_getElem? (i := 23) rfl))) (mvT hZ (hw _ (List.mem_of_getElem? (i := 22) rfl))) (by decide) (backOfS (W := 0) (rm4z l Z a0 hw [] b1 mu p2.toInt64 q3 wZ wM wD wA cA cU kU mir _ n0 f7 OLD_K2 SZ EZ Fs Fn hcU hkU hmU SD EM ED FM FD hne SA AA hsz hat wS SMi F2 G2 H2 hmu (by omega) (by omega)) hZ (hw _ (List.mem_of_getElem? (i := 24) rfl)) (hw _ (List.mem_of_getElem? (i := 2) rfl)) (by decide) (by decide)) q3a q3c (g := (mkF m 30 #[.val (.int p0), .val (.long q1), .second, .val (.int p2), .val (.long q3), .second, .val (.long mu), .second, .val (.ref b1), .unset, .unset, .unset, .unset, .unset, .unset, .unset] [(.ref b1)])) rfl (by rw [hml]; rfl) (Steps.refl _) (argsL := []) (rest := []) (lenOf pd_3 rfl) rfl (by show 2 * 0 + _ ≤ _; exact Nat.le_of_eq rfl) (hb hby at_30) (fun _ _ => ⟨rfl, rfl, (by decide : 1 + 5 ≤ _), (by decide : 3 + 26 ≤ _)⟩)
      dsimp only [Pt.U, Pt.locs, Pt.cells, Pt.slots] at X3 l3 y3 z3 st3 hQ3 hSi3 hgr3
      subst l3 y3 z3
      obtain ⟨X3, hS, hZ, hown⟩ := rebS hS (by exact f8) X3 hSi3 hgr3 hZ hown
      have hkS3 : T3.heap.size ≤ T3.heap.size := Nat.le_refl _
      obtain ⟨r3, u3, w3, rfl, N3q, K3, E3, F3, G3, t3, p3, s3⟩ := hQ3
      have N3 := Fr.app N2 N3q
      refine GoesW.by (fun t k => st3.trans k) ?_
      show GoesW p e below s _ _ _ (T3.setTop (mkF m 33 #[.val (.int p0), .val (.long q1), .second, .val (.int p2), .val (.long q3), .second, .val (.long mu), .second, .val (.ref b1), .unset, .unset, .unset, .unset, .unset, .unset, .unset] [(.ref r3)]))
      have OLD_K3 := OLD_K2.keep K3 all0
      have f10 := Nat.le_trans f7 K3.1
      have f11 := E2.keep K3
      have f12 := F2.keep K3 nin0
      have f13 := G2.keep K3 nin0
      have f14 := H2.keep K3 nin0
      rw [ci] at t3
      obtain ⟨f1, f2⟩ := own_fin _ _ p2 q3 t3 p3 s3
      refine GoesW.by (fun t k => XS.astore X3.here hx rfl (hb hby at_33) rfl rfl (l' := #[.val (.int p0), .val (.long q1), .second, .val (.int p2), .val (.long q3), .second, .val (.long mu), .second, .val (.ref b1), .val (.ref r3), .unset, .unset, .unset, .unset, .unset, .unset]) rfl k) ?_
      show GoesW p e below s _ _ _ (T3.setTop (mkF m 35 #[.val (.int p0), .val (.long q1), .second, .val (.int p2), .val (.long q3), .second, .val (.long mu), .second, .val (.ref b1), .val (.ref r3), .unset, .unset, .unset, .unset, .unset, .unset] []))
      refine GoesW.by (fun t k => XS.lload X3.here hx rfl (hb hby at_35) rfl k) ?_
      show GoesW p e below s _ _ _ (T3.setTop (mkF m 37 #[.val (.int p0), .val (.long q1), .second, .val (.int p2), .val (.long q3), .second, .val (.long mu), .second, .val (.ref b1), .val (.ref r3), .unset, .unset, .unset, .unset, .unset, .unset] [(.long mu)]))
      refine GoesW.by (fun t k => XS.lconst X3.here hx rfl (hb hby at_37) k) ?_
      show GoesW p e below s _ _ _ (T3.setTop (mkF m 38 #[.val (.int p0), .val (.long q1), .second, .val (.int p2), .val (.long q3), .second, .val (.long mu), .second, .val (.ref b1), .val (.ref r3), .unset, .unset, .unset, .unset, .unset, .unset] [(.long (0 : Int64)), (.long mu)]))
      refine GoesW.by (fun t k => XS.lcmp X3.here hx rfl (hb hby at_38) rfl k) ?_
      show GoesW p e below s _ _ _ (T3.setTop (mkF m 39 #[.val (.int p0), .val (.long q1), .second, .val (.int p2), .val (.long q3), .second, .val (.long mu), .second, .val (.ref b1), .val (.ref r3), .unset, .unset, .unset, .unset, .unset, .unset] [(.int (lcmpW mu (0 : Int64)))]))
      refine GoesW.by (fun t k => XS.ifYes X3.here hx rfl (pc0 := 39) (pc' := 53) rfl (hb hby at_39) rfl ((if0 _ _).trans (teq ((lw_eq _ _).mpr hmu)).1) (by decide) (by decide) k) ?_
      show GoesW p e below s _ _ _ (T3.setTop (mkF m 53 #[.val (.int p0), .val (.long q1), .second, .val (.int p2), .val (.long q3), .second, .val (.long mu), .second, .val (.ref b1), .val (.ref r3), .unset, .unset, .unset, .unset, .unset, .unset] []))
      refine GoesW.by (fun t k => XS.aload X3.here hx rfl (hb hby at_53) rfl rfl k) ?_
      show GoesW p e below s _ _ _ (T3.setTop (mkF m 55 #[.val (.int p0), .val (.long q1), .second, .val (.int p2), .val (.long q3), .second, .val (.long mu), .second, .val (.ref b1), .val (.ref r3), .unset, .unset, .unset, .unset, .unset, .unset] [(.ref r3)]))
      refine GoesW.by (fun t k => XS.ifnonnullYes X3.here hx rfl (pc0 := 55) (pc' := 60) rfl (hb hby at_55) rfl (by decide) (by decide) k) ?_
      show GoesW p e below s _ _ _ (T3.setTop (mkF m 60 #[.val (.int p0), .val (.long q1), .second, .val (.int p2), .val (.long q3), .second, .val (.long mu), .second, .val (.ref b1), .val (.ref r3), .unset, .unset, .unset, .unset, .unset, .unset] []))
      refine GoesW.by (fun t k => XS.lload X3.here hx rfl (hb hby at_60) rfl k) ?_
      show GoesW p e below s _ _ _ (T3.setTop (mkF m 62 #[.val (.int p0), .val (.long q1), .second, .val (.int p2), .val (.long q3), .second, .val (.long mu), .second, .val (.ref b1), .val (.ref r3), .unset, .unset, .unset, .unset, .unset, .unset] [(.long q3)]))
      refine GoesW.by (fun t k => X3.ldc2Long hx hown (mvT hZ (hw _ (List.mem_of_getElem? (i := 137) rfl))) (g := (mkF m 62 #[.val (.int p0), .val (.long q1), .second, .val (.int p2), .val (.long q3), .second, .val (.long mu), .second, .val (.ref b1), .val (.ref r3), .unset, .unset, .unset, .unset, .unset, .unset] [(.long q3)])) rfl (hb hby at_62) _ k) ?_
      show GoesW p e below s _ _ _ (T3.setTop (mkF m 65 #[.val (.int p0), .val (.long q1), .second, .val (.int p2), .val (.long q3), .second, .val (.long mu), .second, .val (.ref b1), .val (.ref r3), .unset, .unset, .unset, .unset, .unset, .unset] [(.long (1000000 : Int64)), (.long q3)]))
      refine GoesW.by (fun t k => XS.ldiv X3.here hx rfl (hb hby at_65) rfl (by decide) k) ?_
      show GoesW p e below s _ _ _ (T3.setTop (mkF m 66 #[.val (.int p0), .val (.long q1), .second, .val (.int p2), .val (.long q3), .second, .val (.long mu), .second, .val (.ref b1), .val (.ref r3), .unset, .unset, .unset, .unset, .unset, .unset] [(.long (q3 / (1000000 : Int64)))]))
      refine GoesW.by (fun t k => XS.lstore X3.here hx rfl (hb hby at_66) rfl (l' := #[.val (.int p0), .val (.long q1), .second, .val (.int p2), .val (.long q3), .second, .val (.long mu), .second, .val (.ref b1), .val (.ref r3), .val (.long (q3 / (1000000 : Int64))), .second, .unset, .unset, .unset, .unset]) rfl k) ?_
      show GoesW p e below s _ _ _ (T3.setTop (mkF m 68 #[.val (.int p0), .val (.long q1), .second, .val (.int p2), .val (.long q3), .second, .val (.long mu), .second, .val (.ref b1), .val (.ref r3), .val (.long (q3 / (1000000 : Int64))), .second, .unset, .unset, .unset, .unset] []))
      refine GoesW.by (fun t k => XS.lload X3.here hx rfl (hb hby at_68) rfl k) ?_
      show GoesW p e below s _ _ _ (T3.setTop (mkF m 70 #[.val (.int p0), .val (.long q1), .second, .val (.int p2), .val (.long q3), .second, .val (.long mu), .second, .val (.ref b1), .val (.ref r3), .val (.long (q3 / (1000000 : Int64))), .second, .unset, .unset, .unset, .unset] [(.long q3)]))
      refine GoesW.by (fun t k => X3.ldc2Long hx hown (mvT hZ (hw _ (List.mem_of_getElem? (i := 137) rfl))) (g := (mkF m 70 #[.val (.int p0), .val (.long q1), .second, .val (.int p2), .val (.long q3), .second, .val (.long mu), .second, .val (.ref b1), .val (.ref r3), .val (.long (q3 / (1000000 : Int64))), .second, .unset, .unset, .unset, .unset] [(.long q3)])) rfl (hb hby at_70) _ k) ?_
      show GoesW p e below s _ _ _ (T3.setTop (mkF m 73 #[.val (.int p0), .val (.long q1), .second, .val (.int p2), .val (.long q3), .second, .val (.long mu), .second, .val (.ref b1), .val (.ref r3), .val (.long (q3 / (1000000 : Int64))), .second, .unset, .unset, .unset, .unset] [(.long (1000000 : Int64)), (.long q3)]))
      refine GoesW.by (fun t k => XS.lrem X3.here hx rfl (hb hby at_73) rfl (by decide) k) ?_
      show GoesW p e below s _ _ _ (T3.setTop (mkF m 74 #[.val (.int p0), .val (.long q1), .second, .val (.int p2), .val (.long q3), .second, .val (.long mu), .second, .val (.ref b1), .val (.ref r3), .val (.long (q3 / (1000000 : Int64))), .second, .unset, .unset, .unset, .unset] [(.long (q3 - q3 / (1000000 : Int64) * (1000000 : Int64)))]))
      refine GoesW.by (fun t k => XS.lstore X3.here hx rfl (hb hby at_74) rfl (l' := #[.val (.int p0), .val (.long q1), .second, .val (.int p2), .val (.long q3), .second, .val (.long mu), .second, .val (.ref b1), .val (.ref r3), .val (.long (q3 / (1000000 : Int64))), .second, .val (.long (q3 - q3 / (1000000 : Int64) * (1000000 : Int64))), .second, .unset, .unset]) rfl k) ?_
      show GoesW p e below s _ _ _ (T3.setTop (mkF m 76 #[.val (.int p0), .val (.long q1), .second, .val (.int p2), .val (.long q3), .second, .val (.long mu), .second, .val (.ref b1), .val (.ref r3), .val (.long (q3 / (1000000 : Int64))), .second, .val (.long (q3 - q3 / (1000000 : Int64) * (1000000 : Int64))), .second, .unset, .unset] []))
      refine GoesW.by (fun t k => XS.lload X3.here hx rfl (hb hby at_76) rfl k) ?_
      show GoesW p e below s _ _ _ (T3.setTop (mkF m 78 #[.val (.int p0), .val (.long q1), .second, .val (.int p2), .val (.long q3), .second, .val (.long mu), .second, .val (.ref b1), .val (.ref r3), .val (.long (q3 / (1000000 : Int64))), .second, .val (.long (q3 - q3 / (1000000 : Int64) * (1000000 : Int64))), .second, .unset, .unset] [(.long (q3 - q3 / (1000000 : Int64) * (1000000 : Int64)))]))
      refine GoesW.by (fun t k => XS.lconst X3.here hx rfl (hb hby at_78) k) ?_
      show GoesW p e below s _ _ _ (T3.setTop (mkF m 79 #[.val (.int p0), .val (.long q1), .second, .val (.int p2), .val (.long q3), .second, .val (.long mu), .second, .val (.ref b1), .val (.ref r3), .val (.long (q3 / (1000000 : Int64))), .second, .val (.long (q3 - q3 / (1000000 : Int64) * (1000000 : Int64))), .second, .unset, .unset] [(.long (0 : Int64)), (.long (q3 - q3 / (1000000 : Int64) * (1000000 : Int64)))]))
      refine GoesW.by (fun t k => XS.lcmp X3.here hx rfl (hb hby at_79) rfl k) ?_
      show GoesW p e below s _ _ _ (T3.setTop (mkF m 80 #[.val (.int p0), .val (.long q1), .second, .val (.int p2), .val (.long q3), .second, .val (.long mu), .second, .val (.ref b1), .val (.ref r3), .val (.long (q3 / (1000000 : Int64))), .second, .val (.long (q3 - q3 / (1000000 : Int64) * (1000000 : Int64))), .second, .unset, .unset] [(.int (lcmpW (q3 - q3 / (1000000 : Int64) * (1000000 : Int64)) (0 : Int64)))]))
      by_cases hr : (lcmpW (q3 - q3 / (1000000 : Int64) * (1000000 : Int64)) (0 : Int64)) < (0 : Int32)
      · skip
        refine GoesW.by (fun t k => XS.ifNo X3.here hx rfl (hb hby at_80) rfl ((if0 _ _).trans (tlt (hr)).2.1) k) ?_
        show GoesW p e below s _ _ _ (T3.setTop (mkF m 83 #[.val (.int p0), .val (.long q1), .second, .val (.int p2), .val (.long q3), .second, .val (.long mu), .second, .val (.ref b1), .val (.ref r3), .val (.long (q3 / (1000000 : Int64))), .second, .val (.long (q3 - q3 / (1000000 : Int64) * (1000000 : Int64))), .second, .unset, .unset] []))
        obtain ⟨y1, y2⟩ := f2 ((lw_lt _ _).mp hr)
        refine GoesW.by (fun t k => XS.lload X3.here hx rfl (hb hby at_83) rfl k) ?_
        show GoesW p e below s _ _ _ (T3.setTop (mkF m 85 #[.val (.int p0), .val (.long q1), .second, .val (.int p2), .val (.long q3), .second, .val (.long mu), .second, .val (.ref b1), .val (.ref r3), .val (.long (q3 / (1000000 : Int64))), .second, .val (.long (q3 - q3 / (1000000 : Int64) * (1000000 : Int64))), .second, .unset, .unset] [(.long (q3 / (1000000 : Int64)))]))
        refine GoesW.by (fun t k => XS.lconst X3.here hx rfl (hb hby at_85) k) ?_
        show GoesW p e below s _ _ _ (T3.setTop (mkF m 86 #[.val (.int p0), .val (.long q1), .second, .val (.int p2), .val (.long q3), .second, .val (.long mu), .second, .val (.ref b1), .val (.ref r3), .val (.long (q3 / (1000000 : Int64))), .second, .val (.long (q3 - q3 / (1000000 : Int64) * (1000000 : Int64))), .second, .unset, .unset] [(.long (1 : Int64)), (.long (q3 / (1000000 : Int64)))]))
        refine GoesW.by (fun t k => XS.lsub X3.here hx rfl (hb hby at_86) rfl k) ?_
        show GoesW p e below s _ _ _ (T3.setTop (mkF m 87 #[.val (.int p0), .val (.long q1), .second, .val (.int p2), .val (.long q3), .second, .val (.long mu), .second, .val (.ref b1), .val (.ref r3), .val (.long (q3 / (1000000 : Int64))), .second, .val (.long (q3 - q3 / (1000000 : Int64) * (1000000 : Int64))), .second, .unset, .unset] [(.long ((q3 / (1000000 : Int64)) - (1 : Int64)))]))
        refine GoesW.by (fun t k => XS.lstore X3.here hx rfl (hb hby at_87) rfl (l' := #[.val (.int p0), .val (.long q1), .second, .val (.int p2), .val (.long q3), .second, .val (.long mu), .second, .val (.ref b1), .val (.ref r3), .val (.long ((q3 / (1000000 : Int64)) - (1 : Int64))), .second, .val (.long (q3 - q3 / (1000000 : Int64) * (1000000 : Int64))), .second, .unset, .unset]) rfl k) ?_
        show GoesW p e below s _ _ _ (T3.setTop (mkF m 89 #[.val (.int p0), .val (.long q1), .second, .val (.int p2), .val (.long q3), .second, .val (.long mu), .second, .val (.ref b1), .val (.ref r3), .val (.long ((q3 / (1000000 : Int64)) - (1 : Int64))), .second, .val (.long (q3 - q3 / (1000000 : Int64) * (1000000 : Int64))), .second, .unset, .unset] []))
        refine GoesW.by (fun t k => XS.lload X3.here hx rfl (hb hby at_89) rfl k) ?_
        show GoesW p e below s _ _ _ (T3.setTop (mkF m 91 #[.val (.int p0), .val (.long q1), .second, .val (.int p2), .val (.long q3), .second, .val (.long mu), .second, .val (.ref b1), .val (.ref r3), .val (.long ((q3 / (1000000 : Int64)) - (1 : Int64))), .second, .val (.long (q3 - q3 / (1000000 : Int64) * (1000000 : Int64))), .second, .unset, .unset] [(.long (q3 - q3 / (1000000 : Int64) * (1000000 : Int64)))]))
        refine GoesW.by (fun t k => X3.ldc2Long hx hown (mvT hZ (hw _ (List.mem_of_getElem? (i := 137) rfl))) (g := (mkF m 91 #[.val (.int p0), .val (.long q1), .second, .val (.int p2), .val (.long q3), .second, .val (.long mu), .second, .val (.ref b1), .val (.ref r3), .val (.long ((q3 / (1000000 : Int64)) - (1 : Int64))), .second, .val (.long (q3 - q3 / (1000000 : Int64) * (1000000 : Int64))), .second, .unset, .unset] [(.long (q3 - q3 / (1000000 : Int64) * (1000000 : Int64)))])) rfl (hb hby at_91) _ k) ?_
        show GoesW p e below s _ _ _ (T3.setTop (mkF m 94 #[.val (.int p0), .val (.long q1), .second, .val (.int p2), .val (.long q3), .second, .val (.long mu), .second, .val (.ref b1), .val (.ref r3), .val (.long ((q3 / (1000000 : Int64)) - (1 : Int64))), .second, .val (.long (q3 - q3 / (1000000 : Int64) * (1000000 : Int64))), .second, .unset, .unset] [(.long (1000000 : Int64)), (.long (q3 - q3 / (1000000 : Int64) * (1000000 : Int64)))]))
        refine GoesW.by (fun t k => XS.ladd X3.here hx rfl (hb hby at_94) rfl k) ?_
        show GoesW p e below s _ _ _ (T3.setTop (mkF m 95 #[.val (.int p0), .val (.long q1), .second, .val (.int p2), .val (.long q3), .second, .val (.long mu), .second, .val (.ref b1), .val (.ref r3), .val (.long ((q3 / (1000000 : Int64)) - (1 : Int64))), .second, .val (.long (q3 - q3 / (1000000 : Int64) * (1000000 : Int64))), .second, .unset, .unset] [(.long ((q3 - q3 / (1000000 : Int64) * (1000000 : Int64)) + (1000000 : Int64)))]))
        refine GoesW.by (fun t k => XS.lstore X3.here hx rfl (hb hby at_95) rfl (l' := #[.val (.int p0), .val (.long q1), .second, .val (.int p2), .val (.long q3), .second, .val (.long mu), .second, .val (.ref b1), .val (.ref r3), .val (.long ((q3 / (1000000 : Int64)) - (1 : Int64))), .second, .val (.long ((q3 - q3 / (1000000 : Int64) * (1000000 : Int64)) + (1000000 : Int64))), .second, .unset, .unset]) rfl k) ?_
        show GoesW p e below s _ _ _ (T3.setTop (mkF m 97 #[.val (.int p0), .val (.long q1), .second, .val (.int p2), .val (.long q3), .second, .val (.long mu), .second, .val (.ref b1), .val (.ref r3), .val (.long ((q3 / (1000000 : Int64)) - (1 : Int64))), .second, .val (.long ((q3 - q3 / (1000000 : Int64) * (1000000 : Int64)) + (1000000 : Int64))), .second, .unset, .unset] []))
        refine GoesW.by (fun t k => XS.iloadN X3.here hx rfl (hb hby at_97) rfl k) ?_
        show GoesW p e below s _ _ _ (T3.setTop (mkF m 98 #[.val (.int p0), .val (.long q1), .second, .val (.int p2), .val (.long q3), .second, .val (.long mu), .second, .val (.ref b1), .val (.ref r3), .val (.long ((q3 / (1000000 : Int64)) - (1 : Int64))), .second, .val (.long ((q3 - q3 / (1000000 : Int64) * (1000000 : Int64)) + (1000000 : Int64))), .second, .unset, .unset] [(.int p2)]))
        refine GoesW.by (fun t k => XS.i2l X3.here hx rfl (hb hby at_98) rfl k) ?_
        show GoesW p e below s _ _ _ (T3.setTop (mkF m 99 #[.val (.int p0), .val (.long q1), .second, .val (.int p2), .val (.long q3), .second, .val (.long mu), .second, .val (.ref b1), .val (.ref r3), .val (.long ((q3 / (1000000 : Int64)) - (1 : Int64))), .second, .val (.long ((q3 - q3 / (1000000 : Int64) * (1000000 : Int64)) + (1000000 : Int64))), .second, .unset, .unset] [(.long (p2.toInt64))]))
        refine GoesW.by (fun t k => X3.ldc2Long hx hown (mvT hZ (hw _ (List.mem_of_getElem? (i := 138) rfl))) (g := (mkF m 99 #[.val (.int p0), .val (.long q1), .second, .val (.int p2), .val (.long q3), .second, .val (.long mu), .second, .val (.ref b1), .val (.ref r3), .val (.long ((q3 / (1000000 : Int64)) - (1 : Int64))), .second, .val (.long ((q3 - q3 / (1000000 : Int64) * (1000000 : Int64)) + (1000000 : Int64))), .second, .unset, .unset] [(.long (p2.toInt64))])) rfl (hb hby at_99) _ k) ?_
        show GoesW p e below s _ _ _ (T3.setTop (mkF m 102 #[.val (.int p0), .val (.long q1), .second, .val (.int p2), .val (.long q3), .second, .val (.long mu), .second, .val (.ref b1), .val (.ref r3), .val (.long ((q3 / (1000000 : Int64)) - (1 : Int64))), .second, .val (.long ((q3 - q3 / (1000000 : Int64) * (1000000 : Int64)) + (1000000 : Int64))), .second, .unset, .unset] [(.long (86400 : Int64)), (.long (p2.toInt64))]))
        refine GoesW.by (fun t k => XS.lmul X3.here hx rfl (hb hby at_102) rfl k) ?_
        show GoesW p e below s _ _ _ (T3.setTop (mkF m 103 #[.val (.int p0), .val (.long q1), .second, .val (.int p2), .val (.long q3), .second, .val (.long mu), .second, .val (.ref b1), .val (.ref r3), .val (.long ((q3 / (1000000 : Int64)) - (1 : Int64))), .second, .val (.long ((q3 - q3 / (1000000 : Int64) * (1000000 : Int64)) + (1000000 : Int64))), .second, .unset, .unset] [(.long ((p2.toInt64) * (86400 : Int64)))]))
        refine GoesW.by (fun t k => XS.lload X3.here hx rfl (hb hby at_103) rfl k) ?_
        show GoesW p e below s _ _ _ (T3.setTop (mkF m 105 #[.val (.int p0), .val (.long q1), .second, .val (.int p2), .val (.long q3), .second, .val (.long mu), .second, .val (.ref b1), .val (.ref r3), .val (.long ((q3 / (1000000 : Int64)) - (1 : Int64))), .second, .val (.long ((q3 - q3 / (1000000 : Int64) * (1000000 : Int64)) + (1000000 : Int64))), .second, .unset, .unset] [(.long ((q3 / (1000000 : Int64)) - (1 : Int64))), (.long ((p2.toInt64) * (86400 : Int64)))]))
        refine GoesW.by (fun t k => XS.ladd X3.here hx rfl (hb hby at_105) rfl k) ?_
        show GoesW p e below s _ _ _ (T3.setTop (mkF m 106 #[.val (.int p0), .val (.long q1), .second, .val (.int p2), .val (.long q3), .second, .val (.long mu), .second, .val (.ref b1), .val (.ref r3), .val (.long ((q3 / (1000000 : Int64)) - (1 : Int64))), .second, .val (.long ((q3 - q3 / (1000000 : Int64) * (1000000 : Int64)) + (1000000 : Int64))), .second, .unset, .unset] [(.long (((p2.toInt64) * (86400 : Int64)) + ((q3 / (1000000 : Int64)) - (1 : Int64))))]))
        refine GoesW.by (fun t k => XS.lstore X3.here hx rfl (hb hby at_106) rfl (l' := #[.val (.int p0), .val (.long q1), .second, .val (.int p2), .val (.long q3), .second, .val (.long mu), .second, .val (.ref b1), .val (.ref r3), .val (.long ((q3 / (1000000 : Int64)) - (1 : Int64))), .second, .val (.long ((q3 - q3 / (1000000 : Int64) * (1000000 : Int64)) + (1000000 : Int64))), .second, .val (.long (((p2.toInt64) * (86400 : Int64)) + ((q3 / (1000000 : Int64)) - (1 : Int64)))), .second]) rfl k) ?_
        show GoesW p e below s _ _ _ (T3.setTop (mkF m 108 #[.val (.int p0), .val (.long q1), .second, .val (.int p2), .val (.long q3), .second, .val (.long mu), .second, .val (.ref b1), .val (.ref r3), .val (.long ((q3 / (1000000 : Int64)) - (1 : Int64))), .second, .val (.long ((q3 - q3 / (1000000 : Int64) * (1000000 : Int64)) + (1000000 : Int64))), .second, .val (.long (((p2.toInt64) * (86400 : Int64)) + ((q3 / (1000000 : Int64)) - (1 : Int64)))), .second] []))
        refine GoesW.by (fun t k => XS.aload X3.here hx rfl (hb hby at_108) rfl rfl k) ?_
        show GoesW p e below s _ _ _ (T3.setTop (mkF m 110 #[.val (.int p0), .val (.long q1), .second, .val (.int p2), .val (.long q3), .second, .val (.long mu), .second, .val (.ref b1), .val (.ref r3), .val (.long ((q3 / (1000000 : Int64)) - (1 : Int64))), .second, .val (.long ((q3 - q3 / (1000000 : Int64) * (1000000 : Int64)) + (1000000 : Int64))), .second, .val (.long (((p2.toInt64) * (86400 : Int64)) + ((q3 / (1000000 : Int64)) - (1 : Int64)))), .second] [(.ref r3)]))
        obtain ⟨cq4, kq4, q4a, q4b, q4c⟩ := isOf hZ rfl (E3)
        obtain ⟨_, _, ⟨T4, L4, k4, n4⟩, -, X4, ⟨Lc4, hQ4, l4, y4, z4⟩, st4⟩ := X3.virtualBack hx (y := (⟨"java/time/Duration", "getSeconds", "()J"⟩ : MethodName)) (z := (⟨"java/time/Duration", "getSeconds", "()J"⟩ : MethodName)) hown (mvT hZ (hw _ (List.mem_of_getElem? (i := 139) rfl))) (mvT hZ (hw _ (List.mem_of_getElem? (i := 140) rfl))) (notFace_of_selects (args := #[]) (mvT hZ (hw _ (List.mem_of_getElem? (i := 142) rfl)))) (mvT hZ (hw _ (List.mem_of_getElem? (i := 142) rfl))) (mvT hZ (hw _ (List.mem_of_getElem? (i := 141) rfl))) (by decide) (backOf (W := 0) (rm23 l Z a0 hw [] r3 u3 _ n0 f10 F3) hZ (hw _ (List.mem_of_getElem? (i := 143) rfl)) (hw _ (List.mem_of_getElem? (i := 27) rfl)) (by decide) (by decide)) q4a q4c (g := (mkF m 110 #[.val (.int p0), .val (.long q1), .second, .val (.int p2), .val (.long q3), .second, .val (.long mu), .second, .val (.ref b1), .val (.ref r3), .val (.long ((q3 / (1000000 : Int64)) - (1 : Int64))), .second, .val (.long ((q3 - q3 / (1000000 : Int64) * (1000000 : Int64)) + (1000000 : Int64))), .second, .val (.long (((p2.toInt64) * (86400 : Int64)) + ((q3 / (1000000 : Int64)) - (1 : Int64)))), .second] [(.ref r3)])) rfl (by rw [hml]; rfl) (Steps.refl _) (argsL := []) (rest := []) (lenOf pd_16 rfl) rfl (by show 2 * 0 + _ ≤ _; exact Nat.le_of_eq rfl) (hb hby at_110) (fun _ _ => ⟨rfl, rfl, (by decide : 6 + 0 ≤ _), (by decide : 29 + 0 ≤ _)⟩)
        dsimp only [Pt.U, Pt.locs, Pt.cells, Pt.slots] at X4 l4 y4 z4 st4 hQ4
        subst l4 y4 z4
        obtain ⟨rfl, N4q, hh4⟩ := hQ4
        have N4 := Fr.app N3 N4q
        refine GoesW.by (fun t k => st4.trans k) ?_
        show GoesW p e below s _ _ _ (T4.setTop (mkF m 113 #[.val (.int p0), .val (.long q1), .second, .val (.int p2), .val (.long q3), .second, .val (.long mu), .second, .val (.ref b1), .val (.ref r3), .val (.long ((q3 / (1000000 : Int64)) - (1 : Int64))), .second, .val (.long ((q3 - q3 / (1000000 : Int64) * (1000000 : Int64)) + (1000000 : Int64))), .second, .val (.long (((p2.toInt64) * (86400 : Int64)) + ((q3 / (1000000 : Int64)) - (1 : Int64)))), .second] [(.long u3)]))
        have KK4 : Keep (T3.heap) T4.heap [] := by rw [hh4]; exact Keep.refl _ _
        have OLD_KK4 := OLD_K3.keep KK4 all0
        have f15 := Nat.le_trans f10 KK4.1
        have f16 := Nat.le_trans hkS3 KK4.1
        have f17 := f11.keep KK4
        have f18 := f12.keep KK4 nin0
        have f19 := f13.keep KK4 nin0
        have f20 := f14.keep KK4 nin0
        have f21 := E3.keep KK4
        have f22 := F3.keep KK4 nin0
        have f23 := G3.keep KK4 nin0
        refine GoesW.by (fun t k => XS.lload X4.here hx rfl (hb hby at_113) rfl k) ?_
        show GoesW p e below s _ _ _ (T4.setTop (mkF m 115 #[.val (.int p0), .val (.long q1), .second, .val (.int p2), .val (.long q3), .second, .val (.long mu), .second, .val (.ref b1), .val (.ref r3), .val (.long ((q3 / (1000000 : Int64)) - (1 : Int64))), .second, .val (.long ((q3 - q3 / (1000000 : Int64) * (1000000 : Int64)) + (1000000 : Int64))), .second, .val (.long (((p2.toInt64) * (86400 : Int64)) + ((q3 / (1000000 : Int64)) - (1 : Int64)))), .second] [(.long (((p2.toInt64) * (86400 : Int64)) + ((q3 / (1000000 : Int64)) - (1 : Int64)))), (.long u3)]))
        refine GoesW.by (fun t k => XS.lcmp X4.here hx rfl (hb hby at_115) rfl k) ?_
        show GoesW p e below s _ _ _ (T4.setTop (mkF m 116 #[.val (.int p0), .val (.long q1), .second, .val (.int p2), .val (.long q3), .second, .val (.long mu), .second, .val (.ref b1), .val (.ref r3), .val (.long ((q3 / (1000000 : Int64)) - (1 : Int64))), .second, .val (.long ((q3 - q3 / (1000000 : Int64) * (1000000 : Int64)) + (1000000 : Int64))), .second, .val (.long (((p2.toInt64) * (86400 : Int64)) + ((q3 / (1000000 : Int64)) - (1 : Int64)))), .second] [(.int (lcmpW u3 (((p2.toInt64) * (86400 : Int64)) + ((q3 / (1000000 : Int64)) - (1 : Int64)))))]))
        refine GoesW.by (fun t k => XS.ifNo X4.here hx rfl (hb hby at_116) rfl ((if0 _ _).trans (teq ((lw_eq _ _).mpr y1)).2) k) ?_
        show GoesW p e below s _ _ _ (T4.setTop (mkF m 119 #[.val (.int p0), .val (.long q1), .second, .val (.int p2), .val (.long q3), .second, .val (.long mu), .second, .val (.ref b1), .val (.ref r3), .val (.long ((q3 / (1000000 : Int64)) - (1 : Int64))), .second, .val (.long ((q3 - q3 / (1000000 : Int64) * (1000000 : Int64)) + (1000000 : Int64))), .second, .val (.long (((p2.toInt64) * (86400 : Int64)) + ((q3 / (1000000 : Int64)) - (1 : Int64)))), .second] []))
        refine GoesW.by (fun t k => XS.aload X4.here hx rfl (hb hby at_119) rfl rfl k) ?_
        show GoesW p e below s _ _ _ (T4.setTop (mkF m 121 #[.val (.int p0), .val (.long q1), .second, .val (.int p2), .val (.long q3), .second, .val (.long mu), .second, .val (.ref b1), .val (.ref r3), .val (.long ((q3 / (1000000 : Int64)) - (1 : Int64))), .second, .val (.long ((q3 - q3 / (1000000 : Int64) * (1000000 : Int64)) + (1000000 : Int64))), .second, .val (.long (((p2.toInt64) * (86400 : Int64)) + ((q3 / (1000000 : Int64)) - (1 : Int64)))), .second] [(.ref r3)]))
        obtain ⟨cq5, kq5, q5a, q5b, q5c⟩ := isOf hZ rfl (f21)
        obtain ⟨_, _, ⟨T5, L5, k5, n5⟩, -, X5, ⟨Lc5, hQ5, l5, y5, z5⟩, st5⟩ := X4.virtualBack hx (y := (⟨"java/time/Duration", "getNano", "()I"⟩ : MethodName)) (z := (⟨"java/time/Duration", "getNano", "()I"⟩ : MethodName)) hown (mvT hZ (hw _ (List.mem_of_getElem? (i := 144) rfl))) (mvT hZ (hw _ (List.mem_of_getElem? (i := 145) rfl))) (notFace_of_selects (args := #[]) (mvT hZ (hw _ (List.mem_of_getElem? (i := 147) rfl)))) (mvT hZ (hw _ (List.mem_of_getElem? (i := 147) rfl))) (mvT hZ (hw _ (List.mem_of_getElem? (i := 146) rfl))) (by decide) (backOf (W := 0) (rm24 l Z a0 hw [] r3 w3 _ n0 f15 f23) hZ (hw _ (List.mem_of_getElem? (i := 148) rfl)) (hw _ (List.mem_of_getElem? (i := 27) rfl)) (by decide) (by decide)) q5a q5c (g := (mkF m 121 #[.val (.int p0), .val (.long q1), .second, .val (.int p2), .val (.long q3), .second, .val (.long mu), .second, .val (.ref b1), .val (.ref r3), .val (.long ((q3 / (1000000 : Int64)) - (1 : Int64))), .second, .val (.long ((q3 - q3 / (1000000 : Int64) * (1000000 : Int64)) + (1000000 : Int64))), .second, .val (.long (((p2.toInt64) * (86400 : Int64)) + ((q3 / (1000000 : Int64)) - (1 : Int64)))), .second] [(.ref r3)])) rfl (by rw [hml]; rfl) (Steps.refl _) (argsL := []) (rest := []) (lenOf pd_14 rfl) rfl (by show 2 * 0 + _ ≤ _; exact Nat.le_of_eq rfl) (hb hby at_121) (fun _ _ => ⟨rfl, rfl, (by decide : 6 + 0 ≤ _), (by decide : 29 + 0 ≤ _)⟩)
        dsimp only [Pt.U, Pt.locs, Pt.cells, Pt.slots] at X5 l5 y5 z5 st5 hQ5
        subst l5 y5 z5
        obtain ⟨rfl, N5q, hh5⟩ := hQ5
        have N5 := Fr.app N4 N5q
        refine GoesW.by (fun t k => st5.trans k) ?_
        show GoesW p e below s _ _ _ (T5.setTop (mkF m 124 #[.val (.int p0), .val (.long q1), .second, .val (.int p2), .val (.long q3), .second, .val (.long mu), .second, .val (.ref b1), .val (.ref r3), .val (.long ((q3 / (1000000 : Int64)) - (1 : Int64))), .second, .val (.long ((q3 - q3 / (1000000 : Int64) * (1000000 : Int64)) + (1000000 : Int64))), .second, .val (.long (((p2.toInt64) * (86400 : Int64)) + ((q3 / (1000000 : Int64)) - (1 : Int64)))), .second] [(.int w3)]))
        have KK5 : Keep (T4.heap) T5.heap [] := by rw [hh5]; exact Keep.refl _ _
        have OLD_KK5 := OLD_KK4.keep KK5 all0
        have f24 := Nat.le_trans f15 KK5.1
        have f25 := Nat.le_trans f16 KK5.1
        have f26 := f17.keep KK5
        have f27 := f18.keep KK5 nin0
        have f28 := f19.keep KK5 nin0
        have f29 := f20.keep KK5 nin0
        have f30 := f21.keep KK5
        have f31 := f22.keep KK5 nin0
        have f32 := f23.keep KK5 nin0
        refine GoesW.by (fun t k => XS.lload X5.here hx rfl (hb hby at_124) rfl k) ?_
        show GoesW p e below s _ _ _ (T5.setTop (mkF m 126 #[.val (.int p0), .val (.long q1), .second, .val (.int p2), .val (.long q3), .second, .val (.long mu), .second, .val (.ref b1), .val (.ref r3), .val (.long ((q3 / (1000000 : Int64)) - (1 : Int64))), .second, .val (.long ((q3 - q3 / (1000000 : Int64) * (1000000 : Int64)) + (1000000 : Int64))), .second, .val (.long (((p2.toInt64) * (86400 : Int64)) + ((q3 / (1000000 : Int64)) - (1 : Int64)))), .second] [(.long ((q3 - q3 / (1000000 : Int64) * (1000000 : Int64)) + (1000000 : Int64))), (.int w3)]))
        refine GoesW.by (fun t k => X5.ldc2Long hx hown (mvT hZ (hw _ (List.mem_of_getElem? (i := 149) rfl))) (g := (mkF m 126 #[.val (.int p0), .val (.long q1), .second, .val (.int p2), .val (.long q3), .second, .val (.long mu), .second, .val (.ref b1), .val (.ref r3), .val (.long ((q3 / (1000000 : Int64)) - (1 : Int64))), .second, .val (.long ((q3 - q3 / (1000000 : Int64) * (1000000 : Int64)) + (1000000 : Int64))), .second, .val (.long (((p2.toInt64) * (86400 : Int64)) + ((q3 / (1000000 : Int64)) - (1 : Int64)))), .second] [(.long ((q3 - q3 / (1000000 : Int64) * (1000000 : Int64)) + (1000000 : Int64))), (.int w3)])) rfl (hb hby at_126) _ k) ?_
        show GoesW p e below s _ _ _ (T5.setTop (mkF m 129 #[.val (.int p0), .val (.long q1), .second, .val (.int p2), .val (.long q3), .second, .val (.long mu), .second, .val (.ref b1), .val (.ref r3), .val (.long ((q3 / (1000000 : Int64)) - (1 : Int64))), .second, .val (.long ((q3 - q3 / (1000000 : Int64) * (1000000 : Int64)) + (1000000 : Int64))), .second, .val (.long (((p2.toInt64) * (86400 : Int64)) + ((q3 / (1000000 : Int64)) - (1 : Int64)))), .second] [(.long (1000 : Int64)), (.long ((q3 - q3 / (1000000 : Int64) * (1000000 : Int64)) + (1000000 : Int64))), (.int w3)]))
        refine GoesW.by (fun t k => XS.lmul X5.here hx rfl (hb hby at_129) rfl k) ?_
        show GoesW p e below s _ _ _ (T5.setTop (mkF m 130 #[.val (.int p0), .val (.long q1), .second, .val (.int p2), .val (.long q3), .second, .val (.long mu), .second, .val (.ref b1), .val (.ref r3), .val (.long ((q3 / (1000000 : Int64)) - (1 : Int64))), .second, .val (.long ((q3 - q3 / (1000000 : Int64) * (1000000 : Int64)) + (1000000 : Int64))), .second, .val (.long (((p2.toInt64) * (86400 : Int64)) + ((q3 / (1000000 : Int64)) - (1 : Int64)))), .second] [(.long (((q3 - q3 / (1000000 : Int64) * (1000000 : Int64)) + (1000000 : Int64)) * (1000 : Int64))), (.int w3)]))
        refine GoesW.by (fun t k => XS.l2i X5.here hx rfl (hb hby at_130) rfl k) ?_
        show GoesW p e below s _ _ _ (T5.setTop (mkF m 131 #[.val (.int p0), .val (.long q1), .second, .val (.int p2), .val (.long q3), .second, .val (.long mu), .second, .val (.ref b1), .val (.ref r3), .val (.long ((q3 / (1000000 : Int64)) - (1 : Int64))), .second, .val (.long ((q3 - q3 / (1000000 : Int64) * (1000000 : Int64)) + (1000000 : Int64))), .second, .val (.long (((p2.toInt64) * (86400 : Int64)) + ((q3 / (1000000 : Int64)) - (1 : Int64)))), .second] [(.int ((((q3 - q3 / (1000000 : Int64) * (1000000 : Int64)) + (1000000 : Int64)) * (1000 : Int64)).toInt32)), (.int w3)]))
        refine GoesW.by (fun t k => XS.icmpNo X5.here hx rfl (hb hby at_131) rfl (teq (y2)).2 k) ?_
        show GoesW p e below s _ _ _ (T5.setTop (mkF m 134 #[.val (.int p0), .val (.long q1), .second, .val (.int p2), .val (.long q3), .second, .val (.long mu), .second, .val (.ref b1), .val (.ref r3), .val (.long ((q3 / (1000000 : Int64)) - (1 : Int64))), .second, .val (.long ((q3 - q3 / (1000000 : Int64) * (1000000 : Int64)) + (1000000 : Int64))), .second, .val (.long (((p2.toInt64) * (86400 : Int64)) + ((q3 / (1000000 : Int64)) - (1 : Int64)))), .second] []))
        refine GoesW.by (fun t k => XS.iconst X5.here hx rfl (hb hby at_134) k) ?_
        show GoesW p e below s _ _ _ (T5.setTop (mkF m 135 #[.val (.int p0), .val (.long q1), .second, .val (.int p2), .val (.long q3), .second, .val (.long mu), .second, .val (.ref b1), .val (.ref r3), .val (.long ((q3 / (1000000 : Int64)) - (1 : Int64))), .second, .val (.long ((q3 - q3 / (1000000 : Int64) * (1000000 : Int64)) + (1000000 : Int64))), .second, .val (.long (((p2.toInt64) * (86400 : Int64)) + ((q3 / (1000000 : Int64)) - (1 : Int64)))), .second] [(.int (1 : Int32))]))
        refine GoesW.by (fun t k => XS.goto X5.here hx rfl (pc0 := 135) (pc' := 139) rfl (hb hby at_135) (by decide) (by decide) k) ?_
        show GoesW p e below s _ _ _ (T5.setTop (mkF m 139 #[.val (.int p0), .val (.long q1), .second, .val (.int p2), .val (.long q3), .second, .val (.long mu), .second, .val (.ref b1), .val (.ref r3), .val (.long ((q3 / (1000000 : Int64)) - (1 : Int64))), .second, .val (.long ((q3 - q3 / (1000000 : Int64) * (1000000 : Int64)) + (1000000 : Int64))), .second, .val (.long (((p2.toInt64) * (86400 : Int64)) + ((q3 / (1000000 : Int64)) - (1 : Int64)))), .second] [(.int (1 : Int32))]))
        exact GoesW.retN X5 hS (by exact f25) hx Bd.returns rfl (hb hby at_139) hlk (by exact ⟨rfl, N5⟩) (by decide) (by decide)
      · skip
        refine GoesW.by (fun t k => XS.ifYes X3.here hx rfl (pc0 := 80) (pc' := 97) rfl (hb hby at_80) rfl ((if0 _ _).trans (flt (hr)).2.1) (by decide) (by decide) k) ?_
        show GoesW p e below s _ _ _ (T3.setTop (mkF m 97 #[.val (.int p0), .val (.long q1), .second, .val (.int p2), .val (.long q3), .second, .val (.long mu), .second, .val (.ref b1), .val (.ref r3), .val (.long (q3 / (1000000 : Int64))), .second, .val (.long (q3 - q3 / (1000000 : Int64) * (1000000 : Int64))), .second, .unset, .unset] []))
        obtain ⟨y1, y2⟩ := f1 (fun h => hr ((lw_lt _ _).mpr h))
        refine GoesW.by (fun t k => XS.iloadN X3.here hx rfl (hb hby at_97) rfl k) ?_
        show GoesW p e below s _ _ _ (T3.setTop (mkF m 98 #[.val (.int p0), .val (.long q1), .second, .val (.int p2), .val (.long q3), .second, .val (.long mu), .second, .val (.ref b1), .val (.ref r3), .val (.long (q3 / (1000000 : Int64))), .second, .val (.long (q3 - q3 / (1000000 : Int64) * (1000000 : Int64))), .second, .unset, .unset] [(.int p2)]))
        refine GoesW.by (fun t k => XS.i2l X3.here hx rfl (hb hby at_98) rfl k) ?_
        show GoesW p e below s _ _ _ (T3.setTop (mkF m 99 #[.val (.int p0), .val (.long q1), .second, .val (.int p2), .val (.long q3), .second, .val (.long mu), .second, .val (.ref b1), .val (.ref r3), .val (.long (q3 / (1000000 : Int64))), .second, .val (.long (q3 - q3 / (1000000 : Int64) * (1000000 : Int64))), .second, .unset, .unset] [(.long (p2.toInt64))]))
        refine GoesW.by (fun t k => X3.ldc2Long hx hown (mvT hZ (hw _ (List.mem_of_getElem? (i := 138) rfl))) (g := (mkF m 99 #[.val (.int p0), .val (.long q1), .second, .val (.int p2), .val (.long q3), .second, .val (.long mu), .second, .val (.ref b1), .val (.ref r3), .val (.long (q3 / (1000000 : Int64))), .second, .val (.long (q3 - q3 / (1000000 : Int64) * (1000000 : Int64))), .second, .unset, .unset] [(.long (p2.toInt64))])) rfl (hb hby at_99) _ k) ?_
        show GoesW p e below s _ _ _ (T3.setTop (mkF m 102 #[.val (.int p0), .val (.long q1), .second, .val (.int p2), .val (.long q3), .second, .val (.long mu), .second, .val (.ref b1), .val (.ref r3), .val (.long (q3 / (1000000 : Int64))), .second, .val (.long (q3 - q3 / (1000000 : Int64) * (1000000 : Int64))), .second, .unset, .unset] [(.long (86400 : Int64)), (.long (p2.toInt64))]))
        refine GoesW.by (fun t k => XS.lmul X3.here hx rfl (hb hby at_102) rfl k) ?_
        show GoesW p e below s _ _ _ (T3.setTop (mkF m 103 #[.val (.int p0), .val (.long q1), .second, .val (.int p2), .val (.long q3), .second, .val (.long mu), .second, .val (.ref b1), .val (.ref r3), .val (.long (q3 / (1000000 : Int64))), .second, .val (.long (q3 - q3 / (1000000 : Int64) * (1000000 : Int64))), .second, .unset, .unset] [(.long ((p2.toInt64) * (86400 : Int64)))]))
        refine GoesW.by (fun t k => XS.lload X3.here hx rfl (hb hby at_103) rfl k) ?_
        show GoesW p e below s _ _ _ (T3.setTop (mkF m 105 #[.val (.int p0), .val (.long q1), .second, .val (.int p2), .val (.long q3), .second, .val (.long mu), .second, .val (.ref b1), .val (.ref r3), .val (.long (q3 / (1000000 : Int64))), .second, .val (.long (q3 - q3 / (1000000 : Int64) * (1000000 : Int64))), .second, .unset, .unset] [(.long (q3 / (1000000 : Int64))), (.long ((p2.toInt64) * (86400 : Int64)))]))
        refine GoesW.by (fun t k => XS.ladd X3.here hx rfl (hb hby at_105) rfl k) ?_
        show GoesW p e below s _ _ _ (T3.setTop (mkF m 106 #[.val (.int p0), .val (.long q1), .second, .val (.int p2), .val (.long q3), .second, .val (.long mu), .second, .val (.ref b1), .val (.ref r3), .val (.long (q3 / (1000000 : Int64))), .second, .val (.long (q3 - q3 / (1000000 : Int64) * (1000000 : Int64))), .second, .unset, .unset] [(.long (((p2.toInt64) * (86400 : Int64)) + (q3 / (1000000 : Int64))))]))
        refine GoesW.by (fun t k => XS.lstore X3.here hx rfl (hb hby at_106) rfl (l' := #[.val (.int p0), .val (.long q1), .second, .val (.int p2), .val (.long q3), .second, .val (.long mu), .second, .val (.ref b1), .val (.ref r3), .val (.long (q3 / (1000000 : Int64))), .second, .val (.long (q3 - q3 / (1000000 : Int64) * (1000000 : Int64))), .second, .val (.long (((p2.toInt64) * (86400 : Int64)) + (q3 / (1000000 : Int64)))), .second]) rfl k) ?_
        show GoesW p e below s _ _ _ (T3.setTop (mkF m 108 #[.val (.int p0), .val (.long q1), .second, .val (.int p2), .val (.long q3), .second, .val (.long mu), .second, .val (.ref b1), .val (.ref r3), .val (.long (q3 / (1000000 : Int64))), .second, .val (.long (q3 - q3 / (1000000 : Int64) * (1000000 : Int64))), .second, .val (.long (((p2.toInt64) * (86400 : Int64)) + (q3 / (1000000 : Int64)))), .second] []))
        refine GoesW.by (fun t k => XS.aload X3.here hx rfl (hb hby at_108) rfl rfl k) ?_
        show GoesW p e below s _ _ _ (T3.setTop (mkF m 110 #[.val (.int p0), .val (.long q1), .second, .val (.int p2), .val (.long q3), .second, .val (.long mu), .second, .val (.ref b1), .val (.ref r3), .val (.long (q3 / (1000000 : Int64))), .second, .val (.long (q3 - q3 / (1000000 : Int64) * (1000000 : Int64))), .second, .val (.long (((p2.toInt64) * (86400 : Int64)) + (q3 / (1000000 : Int64)))), .second] [(.ref r3)]))
        obtain ⟨cq6, kq6, q6a, q6b, q6c⟩ := isOf hZ rfl (E3)
        obtain ⟨_, _, ⟨T6, L6, k6, n6⟩, -, X6, ⟨Lc6, hQ6, l6, y6, z6⟩, st6⟩ := X3.virtualBack hx (y := (⟨"java/time/Duration", "getSeconds", "()J"⟩ : MethodName)) (z := (⟨"java/time/Duration", "getSeconds", "()J"⟩ : MethodName)) hown (mvT hZ (hw _ (List.mem_of_getElem? (i := 139) rfl))) (mvT hZ (hw _ (List.mem_of_getElem? (i := 140) rfl))) (notFace_of_selects (args := #[]) (mvT hZ (hw _ (List.mem_of_getElem? (i := 142) rfl)))) (mvT hZ (hw _ (List.mem_of_getElem? (i := 142) rfl))) (mvT hZ (hw _ (List.mem_of_getElem? (i := 141) rfl))) (by decide) (backOf (W := 0) (rm23 l Z a0 hw [] r3 u3 _ n0 f10 F3) hZ (hw _ (List.mem_of_getElem? (i := 143) rfl)) (hw _ (List.mem_of_getElem? (i := 27) rfl)) (by decide) (by decide)) q6a q6c (g := (mkF m 110 #[.val (.int p0), .val (.long q1), .second, .val (.int p2), .val (.long q3), .second, .val (.long mu), .second, .val (.ref b1), .val (.ref r3), .val (.long (q3 / (1000000 : Int64))), .second, .val (.long (q3 - q3 / (1000000 : Int64) * (1000000 : Int64))), .second, .val (.long (((p2.toInt64) * (86400 : Int64)) + (q3 / (1000000 : Int64)))), .second] [(.ref r3)])) rfl (by rw [hml]; rfl) (Steps.refl _) (argsL := []) (rest := []) (lenOf pd_16 rfl) rfl (by show 2 * 0 + _ ≤ _; exact Nat.le_of_eq rfl) (hb hby at_110) (fun _ _ => ⟨rfl, rfl, (by decide : 6 + 0 ≤ _), (by decide : 29 + 0 ≤ _)⟩)
        dsimp only [Pt.U, Pt.locs, Pt.cells, Pt.slots] at X6 l6 y6 z6 st6 hQ6
        subst l6 y6 z6
        obtain ⟨rfl, N6q, hh6⟩ := hQ6
        have N6 := Fr.app N3 N6q
        refine GoesW.by (fun t k => st6.trans k) ?_
        show GoesW p e below s _ _ _ (T6.setTop (mkF m 113 #[.val (.int p0), .val (.long q1), .second, .val (.int p2), .val (.long q3), .second, .val (.long mu), .second, .val (.ref b1), .val (.ref r3), .val (.long (q3 / (1000000 : Int64))), .second, .val (.long (q3 - q3 / (1000000 : Int64) * (1000000 : Int64))), .second, .val (.long (((p2.toInt64) * (86400 : Int64)) + (q3 / (1000000 : Int64)))), .second] [(.long u3)]))
        have KK6 : Keep (T3.heap) T6.heap [] := by rw [hh6]; exact Keep.refl _ _
        have OLD_KK6 := OLD_K3.keep KK6 all0
        have f33 := Nat.le_trans f10 KK6.1
        have f34 := Nat.le_trans hkS3 KK6.1
        have f35 := f11.keep KK6
        have f36 := f12.keep KK6 nin0
        have f37 := f13.keep KK6 nin0
        have f38 := f14.keep KK6 nin0
        have f39 := E3.keep KK6
        have f40 := F3.keep KK6 nin0
        have f41 := G3.keep KK6 nin0
        refine GoesW.by (fun t k => XS.lload X6.here hx rfl (hb hby at_113) rfl k) ?_
        show GoesW p e below s _ _ _ (T6.setTop (mkF m 115 #[.val (.int p0), .val (.long q1), .second, .val (.int p2), .val (.long q3), .second, .val (.long mu), .second, .val (.ref b1), .val (.ref r3), .val (.long (q3 / (1000000 : Int64))), .second, .val (.long (q3 - q3 / (1000000 : Int64) * (1000000 : Int64))), .second, .val (.long (((p2.toInt64) * (86400 : Int64)) + (q3 / (1000000 : Int64)))), .second] [(.long (((p2.toInt64) * (86400 : Int64)) + (q3 / (1000000 : Int64)))), (.long u3)]))
        refine GoesW.by (fun t k => XS.lcmp X6.here hx rfl (hb hby at_115) rfl k) ?_
        show GoesW p e below s _ _ _ (T6.setTop (mkF m 116 #[.val (.int p0), .val (.long q1), .second, .val (.int p2), .val (.long q3), .second, .val (.long mu), .second, .val (.ref b1), .val (.ref r3), .val (.long (q3 / (1000000 : Int64))), .second, .val (.long (q3 - q3 / (1000000 : Int64) * (1000000 : Int64))), .second, .val (.long (((p2.toInt64) * (86400 : Int64)) + (q3 / (1000000 : Int64)))), .second] [(.int (lcmpW u3 (((p2.toInt64) * (86400 : Int64)) + (q3 / (1000000 : Int64)))))]))
        refine GoesW.by (fun t k => XS.ifNo X6.here hx rfl (hb hby at_116) rfl ((if0 _ _).trans (teq ((lw_eq _ _).mpr y1)).2) k) ?_
        show GoesW p e below s _ _ _ (T6.setTop (mkF m 119 #[.val (.int p0), .val (.long q1), .second, .val (.int p2), .val (.long q3), .second, .val (.long mu), .second, .val (.ref b1), .val (.ref r3), .val (.long (q3 / (1000000 : Int64))), .second, .val (.long (q3 - q3 / (1000000 : Int64) * (1000000 : Int64))), .second, .val (.long (((p2.toInt64) * (86400 : Int64)) + (q3 / (1000000 : Int64)))), .second] []))
        refine GoesW.by (fun t k => XS.aload X6.here hx rfl (hb hby at_119) rfl rfl k) ?_
        show GoesW p e below s _ _ _ (T6.setTop (mkF m 121 #[.val (.int p0), .val (.long q1), .second, .val (.int p2), .val (.long q3), .second, .val (.long mu), .second, .val (.ref b1), .val (.ref r3), .val (.long (q3 / (1000000 : Int64))), .second, .val (.long (q3 - q3 / (1000000 : Int64) * (1000000 : Int64))), .second, .val (.long (((p2.toInt64) * (86400 : Int64)) + (q3 / (1000000 : Int64)))), .second] [(.ref r3)]))
        obtain ⟨cq7, kq7, q7a, q7b, q7c⟩ := isOf hZ rfl (f39)
        obtain ⟨_, _, ⟨T7, L7, k7, n7⟩, -, X7, ⟨Lc7, hQ7, l7, y7, z7⟩, st7⟩ := X6.virtualBack hx (y := (⟨"java/time/Duration", "getNano", "()I"⟩ : MethodName)) (z := (⟨"java/time/Duration", "getNano", "()I"⟩ : MethodName)) hown (mvT hZ (hw _ (List.mem_of_getElem? (i := 144) rfl))) (mvT hZ (hw _ (List.mem_of_getElem? (i := 145) rfl))) (notFace_of_selects (args := #[]) (mvT hZ (hw _ (List.mem_of_getElem? (i := 147) rfl)))) (mvT hZ (hw _ (List.mem_of_getElem? (i := 147) rfl))) (mvT hZ (hw _ (List.mem_of_getElem? (i := 146) rfl))) (by decide) (backOf (W := 0) (rm24 l Z a0 hw [] r3 w3 _ n0 f33 f41) hZ (hw _ (List.mem_of_getElem? (i := 148) rfl)) (hw _ (List.mem_of_getElem? (i := 27) rfl)) (by decide) (by decide)) q7a q7c (g := (mkF m 121 #[.val (.int p0), .val (.long q1), .second, .val (.int p2), .val (.long q3), .second, .val (.long mu), .second, .val (.ref b1), .val (.ref r3), .val (.long (q3 / (1000000 : Int64))), .second, .val (.long (q3 - q3 / (1000000 : Int64) * (1000000 : Int64))), .second, .val (.long (((p2.toInt64) * (86400 : Int64)) + (q3 / (1000000 : Int64)))), .second] [(.ref r3)])) rfl (by rw [hml]; rfl) (Steps.refl _) (argsL := []) (rest := []) (lenOf pd_14 rfl) rfl (by show 2 * 0 + _ ≤ _; exact Nat.le_of_eq rfl) (hb hby at_121) (fun _ _ => ⟨rfl, rfl, (by decide : 6 + 0 ≤ _), (by decide : 29 + 0 ≤ _)⟩)
        dsimp only [Pt.U, Pt.locs, Pt.cells, Pt.slots] at X7 l7 y7 z7 st7 hQ7
        subst l7 y7 z7
        obtain ⟨rfl, N7q, hh7⟩ := hQ7
        have N7 := Fr.app N6 N7q
        refine GoesW.by (fun t k => st7.trans k) ?_
        show GoesW p e below s _ _ _ (T7.setTop (mkF m 124 #[.val (.int p0), .val (.long q1), .second, .val (.int p2), .val (.long q3), .second, .val (.long mu), .second, .val (.ref b1), .val (.ref r3), .val (.long (q3 / (1000000 : Int64))), .second, .val (.long (q3 - q3 / (1000000 : Int64) * (1000000 : Int64))), .second, .val (.long (((p2.toInt64) * (86400 : Int64)) + (q3 / (1000000 : Int64)))), .second] [(.int w3)]))
        have KK7 : Keep (T6.heap) T7.heap [] := by rw [hh7]; exact Keep.refl _ _
        have OLD_KK7 := OLD_KK6.keep KK7 all0
        have f42 := Nat.le_trans f33 KK7.1
        have f43 := Nat.le_trans f34 KK7.1
        have f44 := f35.keep KK7
        have f45 := f36.keep KK7 nin0
        have f46 := f37.keep KK7 nin0
        have f47 := f38.keep KK7 nin0
        have f48 := f39.keep KK7
        have f49 := f40.keep KK7 nin0
        have f50 := f41.keep KK7 nin0
        refine GoesW.by (fun t k => XS.lload X7.here hx rfl (hb hby at_124) rfl k) ?_
        show GoesW p e below s _ _ _ (T7.setTop (mkF m 126 #[.val (.int p0), .val (.long q1), .second, .val (.int p2), .val (.long q3), .second, .val (.long mu), .second, .val (.ref b1), .val (.ref r3), .val (.long (q3 / (1000000 : Int64))), .second, .val (.long (q3 - q3 / (1000000 : Int64) * (1000000 : Int64))), .second, .val (.long (((p2.toInt64) * (86400 : Int64)) + (q3 / (1000000 : Int64)))), .second] [(.long (q3 - q3 / (1000000 : Int64) * (1000000 : Int64))), (.int w3)]))
        refine GoesW.by (fun t k => X7.ldc2Long hx hown (mvT hZ (hw _ (List.mem_of_getElem? (i := 149) rfl))) (g := (mkF m 126 #[.val (.int p0), .val (.long q1), .second, .val (.int p2), .val (.long q3), .second, .val (.long mu), .second, .val (.ref b1), .val (.ref r3), .val (.long (q3 / (1000000 : Int64))), .second, .val (.long (q3 - q3 / (1000000 : Int64) * (1000000 : Int64))), .second, .val (.long (((p2.toInt64) * (86400 : Int64)) + (q3 / (1000000 : Int64)))), .second] [(.long (q3 - q3 / (1000000 : Int64) * (1000000 : Int64))), (.int w3)])) rfl (hb hby at_126) _ k) ?_
        show GoesW p e below s _ _ _ (T7.setTop (mkF m 129 #[.val (.int p0), .val (.long q1), .second, .val (.int p2), .val (.long q3), .second, .val (.long mu), .second, .val (.ref b1), .val (.ref r3), .val (.long (q3 / (1000000 : Int64))), .second, .val (.long (q3 - q3 / (1000000 : Int64) * (1000000 : Int64))), .second, .val (.long (((p2.toInt64) * (86400 : Int64)) + (q3 / (1000000 : Int64)))), .second] [(.long (1000 : Int64)), (.long (q3 - q3 / (1000000 : Int64) * (1000000 : Int64))), (.int w3)]))
        refine GoesW.by (fun t k => XS.lmul X7.here hx rfl (hb hby at_129) rfl k) ?_
        show GoesW p e below s _ _ _ (T7.setTop (mkF m 130 #[.val (.int p0), .val (.long q1), .second, .val (.int p2), .val (.long q3), .second, .val (.long mu), .second, .val (.ref b1), .val (.ref r3), .val (.long (q3 / (1000000 : Int64))), .second, .val (.long (q3 - q3 / (1000000 : Int64) * (1000000 : Int64))), .second, .val (.long (((p2.toInt64) * (86400 : Int64)) + (q3 / (1000000 : Int64)))), .second] [(.long ((q3 - q3 / (1000000 : Int64) * (1000000 : Int64)) * (1000 : Int64))), (.int w3)]))
        refine GoesW.by (fun t k => XS.l2i X7.here hx rfl (hb hby at_130) rfl k) ?_
        show GoesW p e below s _ _ _ (T7.setTop (mkF m 131 #[.val (.int p0), .val (.long q1), .second, .val (.int p2), .val (.long q3), .second, .val (.long mu), .second, .val (.ref b1), .val (.ref r3), .val (.long (q3 / (1000000 : Int64))), .second, .val (.long (q3 - q3 / (1000000 : Int64) * (1000000 : Int64))), .second, .val (.long (((p2.toInt64) * (86400 : Int64)) + (q3 / (1000000 : Int64)))), .second] [(.int (((q3 - q3 / (1000000 : Int64) * (1000000 : Int64)) * (1000 : Int64)).toInt32)), (.int w3)]))
        refine GoesW.by (fun t k => XS.icmpNo X7.here hx rfl (hb hby at_131) rfl (teq (y2)).2 k) ?_
        show GoesW p e below s _ _ _ (T7.setTop (mkF m 134 #[.val (.int p0), .val (.long q1), .second, .val (.int p2), .val (.long q3), .second, .val (.long mu), .second, .val (.ref b1), .val (.ref r3), .val (.long (q3 / (1000000 : Int64))), .second, .val (.long (q3 - q3 / (1000000 : Int64) * (1000000 : Int64))), .second, .val (.long (((p2.toInt64) * (86400 : Int64)) + (q3 / (1000000 : Int64)))), .second] []))
        refine GoesW.by (fun t k => XS.iconst X7.here hx rfl (hb hby at_134) k) ?_
        show GoesW p e below s _ _ _ (T7.setTop (mkF m 135 #[.val (.int p0), .val (.long q1), .second, .val (.int p2), .val (.long q3), .second, .val (.long mu), .second, .val (.ref b1), .val (.ref r3), .val (.long (q3 / (1000000 : Int64))), .second, .val (.long (q3 - q3 / (1000000 : Int64) * (1000000 : Int64))), .second, .val (.long (((p2.toInt64) * (86400 : Int64)) + (q3 / (1000000 : Int64)))), .second] [(.int (1 : Int32))]))
        refine GoesW.by (fun t k => XS.goto X7.here hx rfl (pc0 := 135) (pc' := 139) rfl (hb hby at_135) (by decide) (by decide) k) ?_
        show GoesW p e below s _ _ _ (T7.setTop (mkF m 139 #[.val (.int p0), .val (.long q1), .second, .val (.int p2), .val (.long q3), .second, .val (.long mu), .second, .val (.ref b1), .val (.ref r3), .val (.long (q3 / (1000000 : Int64))), .second, .val (.long (q3 - q3 / (1000000 : Int64) * (1000000 : Int64))), .second, .val (.long (((p2.toInt64) * (86400 : Int64)) + (q3 / (1000000 : Int64)))), .second] [(.int (1 : Int32))]))
        exact GoesW.retN X7 hS (by exact f43) hx Bd.returns rfl (hb hby at_139) hlk (by exact ⟨rfl, N7⟩) (by decide) (by decide)
    · skip
      obtain ⟨cq8, kq8, q8a, q8b, q8c⟩ := isOf hZ rfl (E2)
      obtain ⟨_, _, ⟨T8, L8, k8, n8⟩, -, X8, ⟨Lc8, hQ8, l8, y8, z8⟩, st8⟩ := X2.virtualBack hx (y := (⟨"com/example/libtxsession/libtxsession/internal/session/PostgresInterval", "duration", "()Ljava/time/Duration;"⟩ : MethodName)) (z := (⟨"com/example/libtxsession/libtxsession/internal/session/PostgresInterval", "duration", "()Ljava/time/Duration;"⟩ : MethodName)) hown (mvT hZ (hw _ (List.mem_of_getElem? (i := 20) rfl))) (mvT hZ (hw _ (List.mem_of_getElem? (i := 21) rfl))) (notFace_of_selects (args := #[]) (mvT hZ (hw _ (List.mem_of_getElem? (i := 23) rfl)))) (mvT hZ (hw _ (List.mem_of_getElem? (i := 23) rfl))) (mvT hZ (hw _ (List.mem_of_getElem? (i := 22) rfl))) (by decide) (backOf (W := 0) (rm4n l Z a0 hw [] b1 mu p2.toInt64 q3 _ n0 f7 F2 G2 H2 hmu) hZ (hw _ (List.mem_of_getElem? (i := 24) rfl)) (hw _ (List.mem_of_getElem? (i := 2) rfl)) (by decide) (by decide)) q8a q8c (g := (mkF m 30 #[.val (.int p0), .val (.long q1), .second, .val (.int p2), .val (.long q3), .second, .val (.long mu), .second, .val (.ref b1), .unset, .unset, .unset, .unset, .unset, .unset, .unset] [(.ref b1)])) rfl (by rw [hml]; rfl) (Steps.refl _) (argsL := []) (rest := []) (lenOf pd_3 rfl) rfl (by show 2 * 0 + _ ≤ _; exact Nat.le_of_eq rfl) (hb hby at_30) (fun _ _ => ⟨rfl, rfl, (by decide : 1 + 0 ≤ _), (by decide : 3 + 0 ≤ _)⟩)
      dsimp only [Pt.U, Pt.locs, Pt.cells, Pt.slots] at X8 l8 y8 z8 st8 hQ8
      subst l8 y8 z8
      obtain ⟨rfl, N8q, hh8⟩ := hQ8
      have N8 := Fr.app N2 N8q
      refine GoesW.by (fun t k => st8.trans k) ?_
      show GoesW p e below s _ _ _ (T8.setTop (mkF m 33 #[.val (.int p0), .val (.long q1), .second, .val (.int p2), .val (.long q3), .second, .val (.long mu), .second, .val (.ref b1), .unset, .unset, .unset, .unset, .unset, .unset, .unset] [.null]))
      have KK8 : Keep (T2.heap) T8.heap [] := by rw [hh8]; exact Keep.refl _ _
      have OLD_KK8 := OLD_K2.keep KK8 all0
      have f51 := Nat.le_trans f7 KK8.1
      have f52 := Nat.le_trans f8 KK8.1
      have f53 := E2.keep KK8
      have f54 := F2.keep KK8 nin0
      have f55 := G2.keep KK8 nin0
      have f56 := H2.keep KK8 nin0
      refine GoesW.by (fun t k => XS.astore X8.here hx rfl (hb hby at_33) rfl rfl (l' := #[.val (.int p0), .val (.long q1), .second, .val (.int p2), .val (.long q3), .second, .val (.long mu), .second, .val (.ref b1), .val .null, .unset, .unset, .unset, .unset, .unset, .unset]) rfl k) ?_
      show GoesW p e below s _ _ _ (T8.setTop (mkF m 35 #[.val (.int p0), .val (.long q1), .second, .val (.int p2), .val (.long q3), .second, .val (.long mu), .second, .val (.ref b1), .val .null, .unset, .unset, .unset, .unset, .unset, .unset] []))
      refine GoesW.by (fun t k => XS.lload X8.here hx rfl (hb hby at_35) rfl k) ?_
      show GoesW p e below s _ _ _ (T8.setTop (mkF m 37 #[.val (.int p0), .val (.long q1), .second, .val (.int p2), .val (.long q3), .second, .val (.long mu), .second, .val (.ref b1), .val .null, .unset, .unset, .unset, .unset, .unset, .unset] [(.long mu)]))
      refine GoesW.by (fun t k => XS.lconst X8.here hx rfl (hb hby at_37) k) ?_
      show GoesW p e below s _ _ _ (T8.setTop (mkF m 38 #[.val (.int p0), .val (.long q1), .second, .val (.int p2), .val (.long q3), .second, .val (.long mu), .second, .val (.ref b1), .val .null, .unset, .unset, .unset, .unset, .unset, .unset] [(.long (0 : Int64)), (.long mu)]))
      refine GoesW.by (fun t k => XS.lcmp X8.here hx rfl (hb hby at_38) rfl k) ?_
      show GoesW p e below s _ _ _ (T8.setTop (mkF m 39 #[.val (.int p0), .val (.long q1), .second, .val (.int p2), .val (.long q3), .second, .val (.long mu), .second, .val (.ref b1), .val .null, .unset, .unset, .unset, .unset, .unset, .unset] [(.int (lcmpW mu (0 : Int64)))]))
      refine GoesW.by (fun t k => XS.ifNo X8.here hx rfl (hb hby at_39) rfl ((if0 _ _).trans (feq (fun h => hmu ((lw_eq _ _).mp h))).1) k) ?_
      show GoesW p e below s _ _ _ (T8.setTop (mkF m 42 #[.val (.int p0), .val (.long q1), .second, .val (.int p2), .val (.long q3), .second, .val (.long mu), .second, .val (.ref b1), .val .null, .unset, .unset, .unset, .unset, .unset, .unset] []))
      refine GoesW.by (fun t k => XS.aload X8.here hx rfl (hb hby at_42) rfl rfl k) ?_
      show GoesW p e below s _ _ _ (T8.setTop (mkF m 44 #[.val (.int p0), .val (.long q1), .second, .val (.int p2), .val (.long q3), .second, .val (.long mu), .second, .val (.ref b1), .val .null, .unset, .unset, .unset, .unset, .unset, .unset] [.null]))
      refine GoesW.by (fun t k => XS.ifnonnullNo X8.here hx rfl (hb hby at_44) rfl k) ?_
      show GoesW p e below s _ _ _ (T8.setTop (mkF m 47 #[.val (.int p0), .val (.long q1), .second, .val (.int p2), .val (.long q3), .second, .val (.long mu), .second, .val (.ref b1), .val .null, .unset, .unset, .unset, .unset, .unset, .unset] []))
      refine GoesW.by (fun t k => XS.iconst X8.here hx rfl (hb hby at_47) k) ?_
      show GoesW p e below s _ _ _ (T8.setTop (mkF m 48 #[.val (.int p0), .val (.long q1), .second, .val (.int p2), .val (.long q3), .second, .val (.long mu), .second, .val (.ref b1), .val .null, .unset, .unset, .unset, .unset, .unset, .unset] [(.int (1 : Int32))]))
      refine GoesW.by (fun t k => XS.goto X8.here hx rfl (pc0 := 48) (pc' := 52) rfl (hb hby at_48) (by decide) (by decide) k) ?_
      show GoesW p e below s _ _ _ (T8.setTop (mkF m 52 #[.val (.int p0), .val (.long q1), .second, .val (.int p2), .val (.long q3), .second, .val (.long mu), .second, .val (.ref b1), .val .null, .unset, .unset, .unset, .unset, .unset, .unset] [(.int (1 : Int32))]))
      exact GoesW.retN X8 hS (by exact f52) hx Bd.returns rfl (hb hby at_52) hlk (by exact ⟨rfl, N8⟩) (by decide) (by decide)
  by_cases hc : (p0 &&& (1 : Int32)) = (0 : Int32)
  · skip
    refine GoesW.by (fun t k => XS.ifNo X0.here hx rfl (hb hby at_3) rfl ((if0 _ _).trans (teq (hc)).2) k) ?_
    show GoesW p e below s _ _ _ (s₁.setTop (mkF m 6 #[.val (.int p0), .val (.long q1), .second, .val (.int p2), .val (.long q3), .second, .unset, .unset, .unset, .unset, .unset, .unset, .unset, .unset, .unset, .unset] []))
    refine GoesW.by (fun t k => XS.lconst X0.here hx rfl (hb hby at_6) k) ?_
    show GoesW p e below s _ _ _ (s₁.setTop (mkF m 7 #[.val (.int p0), .val (.long q1), .second, .val (.int p2), .val (.long q3), .second, .unset, .unset, .unset, .unset, .unset, .unset, .unset, .unset, .unset, .unset] [(.long (0 : Int64))]))
    refine GoesW.by (fun t k => XS.goto X0.here hx rfl (pc0 := 7) (pc' := 11) rfl (hb hby at_7) (by decide) (by decide) k) ?_
    show GoesW p e below s _ _ _ (s₁.setTop (mkF m 11 #[.val (.int p0), .val (.long q1), .second, .val (.int p2), .val (.long q3), .second, .unset, .unset, .unset, .unset, .unset, .unset, .unset, .unset, .unset, .unset] [(.long (0 : Int64))]))
    exact J11 _
  · skip
    refine GoesW.by (fun t k => XS.ifYes X0.here hx rfl (pc0 := 3) (pc' := 10) rfl (hb hby at_3) rfl ((if0 _ _).trans (feq (hc)).2) (by decide) (by decide) k) ?_
    show GoesW p e below s _ _ _ (s₁.setTop (mkF m 10 #[.val (.int p0), .val (.long q1), .second, .val (.int p2), .val (.long q3), .second, .unset, .unset, .unset, .unset, .unset, .unset, .unset, .unset, .unset, .unset] []))
    refine GoesW.by (fun t k => XS.lloadN X0.here hx rfl (hb hby at_10) rfl k) ?_
    show GoesW p e below s _ _ _ (s₁.setTop (mkF m 11 #[.val (.int p0), .val (.long q1), .second, .val (.int p2), .val (.long q3), .second, .unset, .unset, .unset, .unset, .unset, .unset, .unset, .unset, .unset, .unset] [(.long q1)]))
    exact J11 _
theorem own_long_eval (n : Int64) {args : Array Value} {s : State} : (Term.long n).eval args s none [] s = some (.long n) := rfl
theorem own_eqLong {t : Term} {k : Int64} {args : Array Value} {s : State} {v : Option Value} (he : t.eval args s none [] s = v) (h : (Jvm.Cond.eq t (.long k)).value args s none s [] = some true) : v = some (.long k) := by
  subst he
  obtain ⟨x, y, h1, h2, h3, -⟩ := cmp_v (Or.inl h)
  rw [own_long_eval] at h2
  obtain rfl := Option.some.inj h2
  cases x <;> simp [Kin, Value.isRef] at h3
  rename_i z
  have := gotT (P := z = k) (by simp [Cond.value, h1, own_long_eval]) h
  rw [h1, this]
set_option maxRecDepth 65536 in
set_option maxHeartbeats 40000000 in
theorem comes_1 {Post : Tables → Env → Array Value → State → Outcome → State → Prop} (hpost : ∀ tb e args s v u, (limb_1_1.after args s (.returned v) u = true ∧ limb_1_2.after args s (.returned v) u = true ∧ True) → ReturnedEndW s (.returned v) u (Jvm.fieldLocs frame_1_writes args s ++ Jvm.arrayLocs frame_1_arrays args s ++ Jvm.staticLocs frame_1_statics s) 24 1152 → Post tb e args s (.returned v) u) :
    ArmFor flags0 classFile x code maxLocals ret World_1 tables_1 room_1 Calls_1 rest_1 Pre_1 Post := by
  intro l hfl _ _ p e ha hc hk s m args below hf hA hF happ hP
  obtain ⟨hcalls, hrest, hpre⟩ := hP
  obtain ⟨-, -, -, hnamed, -, -, -, hat⟩ := (Spec.applies_iff hf).mp happ
  obtain ⟨hg, hn⟩ := and_e (Cond.before_iff.mp (show (Jvm.Cond.and given_1 narrow_1).before args s = true from hpre))
  obtain ⟨hcnt, hg⟩ := and_e hg
  obtain ⟨ga0, hg⟩ := and_e hg
  obtain ⟨ga1, hg⟩ := and_e hg
  obtain ⟨ga2, hg⟩ := and_e hg
  have ga3 := hg
  obtain ⟨w0, w1, w2, w3, rfl⟩ : ∃ w0 w1 w2 w3 : Value, args = #[w0, w1, w2, w3] := by
    have hs : args.size = 4 := by simpa [Cond.value, given_1] using hcnt
    obtain ⟨L⟩ := args
    match L, hs with
    | [w0, w1, w2, w3], _ => exact ⟨w0, w1, w2, w3, rfl⟩
  have hw := fun d (hd : d ∈ tables_1) => atoms_spec (ws := Jvm.Cond.code x code maxLocals ret :: tables_1) hat d (List.mem_cons_of_mem _ hd)
  obtain ⟨i0, ei0⟩ := is_v ga0
  obtain rfl : w0 = (.int i0) := Option.some.inj ei0
  obtain ⟨i1, ei1⟩ := isL_v ga1
  obtain rfl : w1 = (.long i1) := Option.some.inj ei1
  obtain ⟨i2, ei2⟩ := is_v ga2
  obtain rfl : w2 = (.int i2) := Option.some.inj ei2
  obtain ⟨i3, ei3⟩ := isL_v ga3
  obtain rfl : w3 = (.long i3) := Option.some.inj ei3
  obtain ⟨hsets, hown0⟩ := atoms_of _ (rest_1_c_eq ▸ (show rest_1_c.before _ s = true from hrest))
  obtain ⟨wZ, evwZ⟩ := exa_v (Cond.before_iff.mp (hsets _ (List.mem_of_getElem? (i := 41) rfl)))
  have EwZ := Exa.start evwZ (Cond.before_iff.mp (hsets _ (List.mem_of_getElem? (i := 41) rfl)))
  have SZ := Sta.start evwZ (Or.inl (hsets _ (List.mem_of_getElem? (i := 40) rfl)))
  obtain ⟨wM, evwM⟩ := exa_v (Cond.before_iff.mp (hsets _ (List.mem_of_getElem? (i := 2) rfl)))
  have EwM := Exa.start evwM (Cond.before_iff.mp (hsets _ (List.mem_of_getElem? (i := 2) rfl)))
  have SMi := Sta.start evwM (Or.inl (hsets _ (List.mem_of_getElem? (i := 1) rfl)))
  obtain ⟨wD, evwD⟩ := exa_v (Cond.before_iff.mp (hsets _ (List.mem_of_getElem? (i := 11) rfl)))
  have EwD := Exa.start evwD (Cond.before_iff.mp (hsets _ (List.mem_of_getElem? (i := 11) rfl)))
  have SD := Sta.start evwD (Or.inl (hsets _ (List.mem_of_getElem? (i := 10) rfl)))
  have Fs : s.fieldOf? wZ "java/time/Duration" "seconds" "J" = some (.long 0) := own_eqLong (t := .field (Jvm.Term.static "java/time/Duration" "ZERO" "Ljava/time/Duration;") "java/time/Duration" "seconds" "J") (fld_at evwZ) (Cond.before_iff.mp (hsets _ (List.mem_of_getElem? (i := 42) rfl)))
  have Fn : s.fieldOf? wZ "java/time/Duration" "nanos" "I" = some (.int 0) := own_eqInt (t := .field (Jvm.Term.static "java/time/Duration" "ZERO" "Ljava/time/Duration;") "java/time/Duration" "nanos" "I") (fld_at evwZ) (Cond.before_iff.mp (hsets _ (List.mem_of_getElem? (i := 43) rfl)))
  have FM : s.fieldOf? wM "java/lang/Enum" "ordinal" "I" = some (.int 1) := own_eqInt (t := .field (Jvm.Term.static "java/time/temporal/ChronoUnit" "MICROS" "Ljava/time/temporal/ChronoUnit;") "java/lang/Enum" "ordinal" "I") (fld_at evwM) (Cond.before_iff.mp (hsets _ (List.mem_of_getElem? (i := 4) rfl)))
  have FD : s.fieldOf? wD "java/lang/Enum" "ordinal" "I" = some (.int 7) := own_eqInt (t := .field (Jvm.Term.static "java/time/temporal/ChronoUnit" "DAYS" "Ljava/time/temporal/ChronoUnit;") "java/lang/Enum" "ordinal" "I") (fld_at evwD) (Cond.before_iff.mp (hsets _ (List.mem_of_getElem? (i := 13) rfl)))
  have hne : ¬ wM = wD := fun q => by rw [q, FD] at FM; exact absurd FM (by decide)
  obtain ⟨wA, evA⟩ := arr_v (Cond.before_iff.mp (hsets _ (List.mem_of_getElem? (i := 20) rfl)))
  obtain ⟨cA, AA⟩ := Arr.start evA (Cond.before_iff.mp (hsets _ (List.mem_of_getElem? (i := 20) rfl)))
  have SA := Sta.start evA (Or.inl (hsets _ (List.mem_of_getElem? (i := 19) rfl)))
  have hsz : cA.slots.size = 16 := own_sizeOf evA AA.1 (own_eqInt (t := .length (Jvm.Term.static "java/time/Duration$1" "$SwitchMap$java$time$temporal$ChronoUnit" "[I")) rfl (Cond.before_iff.mp (hsets _ (List.mem_of_getElem? (i := 22) rfl)))) (by decide)
  have hat := own_elemOf (i := 1) evA AA.1 (Cond.before_iff.mp (hsets _ (List.mem_of_getElem? (i := 24) rfl))) (by decide)
  obtain ⟨cU, kU, mir, hcU, hkU, hmU, -⟩ := hcalls.1
  have wS : ∀ a ∈ Bundle.stringAtoms, a.before _ s = true := fun d hd => hw d (by simp only [Bundle.stringAtoms, List.mem_cons, List.not_mem_nil, or_false] at hd; rcases hd with rfl | rfl | rfl | rfl | rfl | rfl | rfl <;> first | exact List.mem_of_getElem? (i := 62) rfl | exact List.mem_of_getElem? (i := 63) rfl | exact List.mem_of_getElem? (i := 64) rfl | exact List.mem_of_getElem? (i := 65) rfl | exact List.mem_of_getElem? (i := 66) rfl | exact List.mem_of_getElem? (i := 67) rfl | exact List.mem_of_getElem? (i := 68) rfl)
  obtain ⟨n, o, h1, h2, h3, _, L, rfl, ⟨rfl, N⟩, hq⟩ := rm0 l s _ hw tables_1 i0 i1 i2 i3 wZ wM wD wA cA cU kU mir s.heap s.heap.size (Nat.le_refl _) (Old.start s) SZ EwZ (Fld.start Fs) (Fld.start Fn) hcU hkU hmU SD EwM EwD (Fld.start FM) (Fld.start FD) hne SA AA hsz hat wS SMi p e ha hc hk s m _ below hf ((Spec.applies_iff_loose hf).mp happ).1 ⟨rfl, State.Warmed39.refl s, rfl⟩ trivial
  refine ⟨n, _, h1, h2, h3, hpost _ _ _ _ _ _ ⟨Cond.after_iff.mpr rfl, Cond.after_iff.mpr (eq_i res_at (Term.int_eval (1)) rfl), trivial⟩ ⟨hq.1, hq.2.1, hq.2.2.1, (hq.2.2.2.sift fun y hy => Or.inr (N y hy)).mono (by decide) (by decide)⟩⟩
theorem main_1_1 : Claimed_1_1 := comes_1 fun _ _ _ _ _ _ h hF => ⟨h.1, hF⟩
theorem main_1_2 : Claimed_1_2 := comes_1 fun _ _ _ _ _ _ h hF => ⟨h.2.1, hF⟩
end Jvm.Pilot.@@N@@
namespace Jvm.Pilot.@@N@@
open Jvm Jvm.ClassFile Sem Op Lib Jvm.Free Jvm.Stand Jvm.Pilot.@@N@@.Jvm.D
/-! MADE BY PROGRAM (witnessworld.py) out of the Statement's table words and the real class files: 24 classes; the members and pool entries that the words name. The judged class is class 1, her method 1. -/
namespace start1
open Jvm.ClassFile
def u (s : String) : CpInfo := .utf8 (stringToUtf16 s)
/-- a pool by its gaps: so many unusable entries, then the entry; so many at the end -/
def gap : Nat → List CpInfo → List CpInfo
  | 0, r => r
  | n + 1, r => .unusable :: gap n r
def poolList (es : List (Nat × CpInfo)) (last : Nat) : List CpInfo := es.foldr (fun e r => gap e.1 (e.2 :: r)) (gap last [])
def pool (es : List (Nat × CpInfo)) (last : Nat) : Array CpInfo := ⟨poolList es last⟩
def fileOf (pool : Array CpInfo) (this : Nat) (attrs : Array Attribute := #[]) (ms : Array MethodInfo := #[]) (fl : Nat := 33) (sup : Nat := 0) (ifs : Array Nat := #[]) (fds : Array FieldInfo := #[]) : ClassFile where
  minorVersion := 0
  majorVersion := 65
  constantPool := pool
  accessFlags := fl
  thisClass := this
  superClass := sup
  interfaces := ifs
  fields := fds
  methods := ms
  attributes := attrs
def plain (name : String) (sup : Option ClassId) : Class where
  name := name
  kind := .ordinary
  loader := none
  accessFlags := 33
  super := sup
  interfaces := #[]
  cf := none
  fields := #[]
  methods := #[]
  instanceTypes := #[]
  staticTypes := #[]
  resolved := #[]
  callSites := []
  init := .initialized
  statics := none
  mirror := none

def pool0 : Array CpInfo := pool [(5, u "<init>"), (0, u "()V"), (1, .class_ 10), (1, u "java/lang/Object"), (0, u "getClass"), (0, u "()Ljava/lang/Class;")] 111

def k0c0 : Code := { maxStack := 0, maxLocals := 1, code := object_method_1_code, exceptionTable := #[], attributes := #[] }
def k0m0 : Method := { name := "<init>", desc := "()V", sig := { parameters := [], returnType := none }, accessFlags := 1, code := some k0c0 }
def k0m1 : Method := { name := "getClass", desc := "()Ljava/lang/Class;", sig := { parameters := [], returnType := some (.object "java/lang/Class") }, accessFlags := 273, code := none }
/-- java/lang/Object -/
def k0 : Class := { plain "java/lang/Object" none with
  accessFlags := 33
  interfaces := #[]
  cf := some (fileOf pool0 8 #[] #[{ accessFlags := 1, nameIndex := 5, descriptorIndex := 6, attributes := #[] }, { accessFlags := 273, nameIndex := 11, descriptorIndex := 12, attributes := #[] }] 33 0 #[] #[])
  fields := #[]
  methods := #[k0m0, k0m1]
  instanceTypes := #[]
  staticTypes := #[]
  resolved := Array.replicate 124 none
  statics := none }

def pool1 : Array CpInfo := pool [(2, .class_ 4), (1, u "java/lang/Object"), (0, u "<init>"), (0, u "()V"), (0, .class_ 8), (0, u "com/example/libtxsession/libtxsession/internal/session/PostgresInterval"), (0, .methodref 7 10), (0, .nameAndType 5 11), (0, u "(JJJ)V"), (0, .methodref 7 13), (0, .nameAndType 14 15), (0, u "duration"), (0, u "()Ljava/time/Duration;"), (0, .long 1000000), (1, .long 86400), (1, .methodref 21 22), (0, .class_ 23), (0, .nameAndType 24 25), (0, u "java/time/Duration"), (0, u "getSeconds"), (0, u "()J"), (0, .methodref 21 27), (0, .nameAndType 28 29), (0, u "getNano"), (0, u "()I"), (0, .long 1000), (1, .class_ 33), (0, u "com/example/libtxsession/libtxsession/internal/session/PostgresIntervalDurationPinLaw"), (2, u "law"), (0, u "(IJIJ)Z")] 3

def k1m0 : Method := { name := "<init>", desc := "()V", sig := { parameters := [], returnType := none }, accessFlags := 1, code := none }
def k1c1 : Code := { maxStack := 8, maxLocals := 16, code := code, exceptionTable := #[], attributes := #[] }
def k1m1 : Method := { name := "law", desc := "(IJIJ)Z", sig := { parameters := [.int, .long, .int, .long], returnType := some .boolean }, accessFlags := 9, code := some k1c1 }
/-- com/example/libtxsession/libtxsession/internal/session/PostgresIntervalDurationPinLaw -/
def k1 : Class := { plain "com/example/libtxsession/libtxsession/internal/session/PostgresIntervalDurationPinLaw" (some 0) with
  accessFlags := 49
  interfaces := #[]
  cf := some (fileOf pool1 32 #[] #[{ accessFlags := 1, nameIndex := 5, descriptorIndex := 6, attributes := #[] }, { accessFlags := 9, nameIndex := 36, descriptorIndex := 37, attributes := #[] }] 49 2 #[] #[])
  fields := #[]
  methods := #[k1m0, k1m1]
  instanceTypes := #[]
  staticTypes := #[]
  resolved := Array.replicate 41 none
  statics := none }

def pool2 : Array CpInfo := pool [(1, .methodref 2 3), (0, .class_ 4), (0, .nameAndType 5 6), (0, u "java/lang/Object"), (0, u "<init>"), (0, u "()V"), (0, .class_ 8), (0, u "java/lang/Record")] 13

def k2c0 : Code := { maxStack := 1, maxLocals := 1, code := jdk_30_method_1_code, exceptionTable := #[], attributes := #[] }
def k2m0 : Method := { name := "<init>", desc := "()V", sig := { parameters := [], returnType := none }, accessFlags := 4, code := some k2c0 }
/-- java/lang/Record -/
def k2 : Class := { plain "java/lang/Record" (some 0) with
  accessFlags := 1057
  interfaces := #[]
  cf := some (fileOf pool2 7 #[] #[{ accessFlags := 4, nameIndex := 5, descriptorIndex := 6, attributes := #[] }] 1057 2 #[] #[])
  fields := #[]
  methods := #[k2m0]
  instanceTypes := #[]
  staticTypes := #[]
  resolved := Array.replicate 22 none
  statics := none }

def pool3 : Array CpInfo := pool [(1, .class_ 2), (0, u "com/example/libtxsession/libtxsession/internal/session/PostgresInterval"), (0, .methodref 4 5), (0, .class_ 6), (0, .nameAndType 7 8), (0, u "java/lang/Record"), (0, u "<init>"), (0, u "()V"), (0, .fieldref 1 10), (0, .nameAndType 11 12), (0, u "months"), (0, u "J"), (0, .fieldref 1 14), (0, .nameAndType 15 12), (0, u "days"), (0, .fieldref 1 17), (0, .nameAndType 18 12), (0, u "micros"), (34, .methodref 54 55), (0, .class_ 56), (0, .nameAndType 57 58), (0, u "java/time/Duration"), (0, u "ofDays"), (0, u "(J)Ljava/time/Duration;"), (0, .fieldref 60 61), (0, .class_ 62), (0, .nameAndType 63 64), (0, u "java/time/temporal/ChronoUnit"), (0, u "MICROS"), (0, u "Ljava/time/temporal/ChronoUnit;"), (0, .methodref 54 66), (0, .nameAndType 67 68), (0, u "plus"), (0, u "(JLjava/time/temporal/TemporalUnit;)Ljava/time/Duration;"), (8, .class_ 78), (0, u "com/example/libtxsession/libtxsession/internal/session/PostgresInterval$Sum"), (41, u "ZERO"), (0, u "Lcom/example/libtxsession/libtxsession/internal/session/PostgresInterval;"), (82, u "(JJJ)V"), (0, u "YEARS"), (0, u "I"), (2, u "MONTHS"), (1, u "DAYS"), (1, u "HOURS"), (1, u "MINUTES"), (1, u "SECONDS"), (1, u "MICROS_PER_SECOND"), (0, u "MICROS_PER_MINUTE"), (0, u "MICROS_PER_HOUR"), (2, u "FRACTION_DIGITS"), (10, u "duration"), (0, u "()Ljava/time/Duration;")] 29

def k3c0 : Code := { maxStack := 3, maxLocals := 7, code := prog_35_method_1_code, exceptionTable := #[], attributes := #[] }
def k3m0 : Method := { name := "<init>", desc := "(JJJ)V", sig := { parameters := [.long, .long, .long], returnType := none }, accessFlags := 0, code := some k3c0 }
def k3c1 : Code := { maxStack := 4, maxLocals := 1, code := prog_35_method_3_code, exceptionTable := #[], attributes := #[] }
def k3m1 : Method := { name := "duration", desc := "()Ljava/time/Duration;", sig := { parameters := [], returnType := some (.object "java/time/Duration") }, accessFlags := 0, code := some k3c1 }
/-- com/example/libtxsession/libtxsession/internal/session/PostgresInterval -/
def k3 : Class := { plain "com/example/libtxsession/libtxsession/internal/session/PostgresInterval" (some 2) with
  accessFlags := 48
  interfaces := #[]
  cf := some (fileOf pool3 1 #[.nestMembers #[77]] #[{ accessFlags := 0, nameIndex := 7, descriptorIndex := 204, attributes := #[] }, { accessFlags := 0, nameIndex := 235, descriptorIndex := 236, attributes := #[] }] 48 4 #[] #[{ accessFlags := 18, nameIndex := 11, descriptorIndex := 12, attributes := #[] }, { accessFlags := 18, nameIndex := 15, descriptorIndex := 12, attributes := #[] }, { accessFlags := 18, nameIndex := 18, descriptorIndex := 12, attributes := #[] }, { accessFlags := 26, nameIndex := 205, descriptorIndex := 206, attributes := #[] }, { accessFlags := 26, nameIndex := 209, descriptorIndex := 206, attributes := #[] }, { accessFlags := 26, nameIndex := 211, descriptorIndex := 206, attributes := #[] }, { accessFlags := 26, nameIndex := 213, descriptorIndex := 206, attributes := #[] }, { accessFlags := 26, nameIndex := 215, descriptorIndex := 206, attributes := #[] }, { accessFlags := 26, nameIndex := 217, descriptorIndex := 206, attributes := #[] }, { accessFlags := 26, nameIndex := 219, descriptorIndex := 12, attributes := #[] }, { accessFlags := 26, nameIndex := 220, descriptorIndex := 12, attributes := #[] }, { accessFlags := 26, nameIndex := 221, descriptorIndex := 12, attributes := #[] }, { accessFlags := 26, nameIndex := 224, descriptorIndex := 206, attributes := #[] }, { accessFlags := 26, nameIndex := 120, descriptorIndex := 121, attributes := #[] }])
  fields := #[{ name := "months", type := .long, accessFlags := 18, slot := 0, constantValue := 0 }, { name := "days", type := .long, accessFlags := 18, slot := 1, constantValue := 0 }, { name := "micros", type := .long, accessFlags := 18, slot := 2, constantValue := 0 }, { name := "YEARS", type := .int, accessFlags := 26, slot := 0, constantValue := 0 }, { name := "MONTHS", type := .int, accessFlags := 26, slot := 1, constantValue := 0 }, { name := "DAYS", type := .int, accessFlags := 26, slot := 2, constantValue := 0 }, { name := "HOURS", type := .int, accessFlags := 26, slot := 3, constantValue := 0 }, { name := "MINUTES", type := .int, accessFlags := 26, slot := 4, constantValue := 0 }, { name := "SECONDS", type := .int, accessFlags := 26, slot := 5, constantValue := 0 }, { name := "MICROS_PER_SECOND", type := .long, accessFlags := 26, slot := 6, constantValue := 0 }, { name := "MICROS_PER_MINUTE", type := .long, accessFlags := 26, slot := 7, constantValue := 0 }, { name := "MICROS_PER_HOUR", type := .long, accessFlags := 26, slot := 8, constantValue := 0 }, { name := "FRACTION_DIGITS", type := .int, accessFlags := 26, slot := 9, constantValue := 0 }, { name := "ZERO", type := (.object "com/example/libtxsession/libtxsession/internal/session/PostgresInterval"), accessFlags := 26, slot := 10, constantValue := 0 }]
  methods := #[k3m0, k3m1]
  instanceTypes := #[.long, .long, .long]
  staticTypes := #[.int, .int, .int, .int, .int, .int, .long, .long, .long, .int, (.object "com/example/libtxsession/libtxsession/internal/session/PostgresInterval")]
  resolved := Array.replicate 266 none
  statics := none }

def pool4 : Array CpInfo := pool [(1, .class_ 2), (0, u "java/time/temporal/TemporalAmount"), (0, .class_ 4), (0, u "java/lang/Object")] 11

/-- java/time/temporal/TemporalAmount -/
def k4 : Class := { plain "java/time/temporal/TemporalAmount" (some 0) with
  accessFlags := 1537
  interfaces := #[]
  cf := some (fileOf pool4 1 #[] #[] 1537 3 #[] #[])
  fields := #[]
  methods := #[]
  instanceTypes := #[]
  staticTypes := #[]
  resolved := Array.replicate 16 none
  statics := none }

def pool5 : Array CpInfo := pool [(1, .class_ 2), (0, u "java/lang/Comparable"), (0, .class_ 4), (0, u "java/lang/Object")] 7

/-- java/lang/Comparable -/
def k5 : Class := { plain "java/lang/Comparable" (some 0) with
  accessFlags := 1537
  interfaces := #[]
  cf := some (fileOf pool5 1 #[] #[] 1537 3 #[] #[])
  fields := #[]
  methods := #[]
  instanceTypes := #[]
  staticTypes := #[]
  resolved := Array.replicate 12 none
  statics := none }

def pool6 : Array CpInfo := pool [(1, .class_ 2), (0, u "java/io/Serializable"), (0, .class_ 4), (0, u "java/lang/Object")] 2

/-- java/io/Serializable -/
def k6 : Class := { plain "java/io/Serializable" (some 0) with
  accessFlags := 1537
  interfaces := #[]
  cf := some (fileOf pool6 1 #[] #[] 1537 3 #[] #[])
  fields := #[]
  methods := #[]
  instanceTypes := #[]
  staticTypes := #[]
  resolved := Array.replicate 7 none
  statics := none }

def pool7 : Array CpInfo := pool [(3, .integer 86400), (0, .methodref 5 6), (0, .class_ 7), (0, .nameAndType 8 9), (0, u "java/lang/Math"), (0, u "multiplyExact"), (0, u "(JI)J"), (0, .methodref 11 12), (0, .class_ 13), (0, .nameAndType 14 15), (0, u "java/time/Duration"), (0, u "create"), (0, u "(JI)Ljava/time/Duration;"), (0, .long 1000000000), (1, .methodref 5 19), (0, .nameAndType 20 21), (0, u "floorDiv"), (0, u "(JJ)J"), (0, .methodref 5 23), (0, .nameAndType 24 21), (0, u "addExact"), (0, .methodref 5 26), (0, .nameAndType 27 21), (0, u "floorMod"), (0, .long 1000), (3, .fieldref 11 33), (0, .nameAndType 34 35), (0, u "ZERO"), (0, u "Ljava/time/Duration;"), (2, u "plus"), (0, u "(JLjava/time/temporal/TemporalUnit;)Ljava/time/Duration;"), (2, .methodref 43 44), (0, .class_ 45), (0, .nameAndType 46 47), (0, u "java/util/Objects"), (0, u "requireNonNull"), (0, u "(Ljava/lang/Object;Ljava/lang/String;)Ljava/lang/Object;"), (1, .class_ 51), (1, u "java/time/temporal/TemporalAmount"), (13, u "()Z"), (4, .class_ 71), (0, u "java/time/temporal/TemporalUnit"), (7, .class_ 81), (1, u "java/time/Duration$Lazy"), (35, u "seconds"), (21, u "<init>"), (17, .nameAndType 139 158), (0, u "()V"), (17, .methodref 11 177), (0, .nameAndType 178 179), (0, u "ofSeconds"), (0, u "(JJ)Ljava/time/Duration;"), (5, .class_ 187), (1, u "java/time/temporal/ChronoUnit"), (1, u "Ljava/time/temporal/ChronoUnit;"), (9, u "(J)Ljava/time/Duration;"), (15, .methodref 11 216), (0, .nameAndType 139 217), (0, u "(JI)V"), (0, .methodref 219 157), (0, .class_ 220), (0, u "java/lang/Object"), (0, .fieldref 11 222), (0, .nameAndType 117 223), (0, u "J"), (0, .fieldref 11 225), (0, .nameAndType 226 227), (0, u "nanos"), (0, u "I"), (11, .class_ 241), (1, u "java/time/Duration$DurationUnits"), (8, u "getSeconds"), (0, u "()J"), (2, u "getNano"), (0, u "()I"), (0, .methodref 11 257), (0, .nameAndType 38 179), (0, .string 259), (0, u "unit"), (0, .fieldref 185 261), (0, .nameAndType 262 189), (0, u "DAYS"), (0, .interfaceMethodref 70 264), (0, .nameAndType 265 65), (0, u "isDurationEstimated"), (2, .fieldref 269 270), (0, .class_ 271), (0, .nameAndType 272 273), (0, u "java/time/Duration$1"), (0, u "$SwitchMap$java$time$temporal$ChronoUnit"), (0, u "[I"), (0, .methodref 185 275), (0, .nameAndType 276 255), (0, u "ordinal"), (0, .methodref 11 278), (0, .nameAndType 279 199), (0, u "plusNanos"), (0, .methodref 11 281), (0, .nameAndType 282 199), (0, u "plusSeconds"), (80, u "BI_NANOS_PER_SECOND"), (0, u "Ljava/math/BigInteger;"), (120, .class_ 486), (0, u "java/lang/Comparable"), (0, .class_ 488), (0, u "java/io/Serializable"), (0, u "serialVersionUID"), (3, u "ofDays")] 162

def k7c0 : Code := { maxStack := 3, maxLocals := 2, code := jdk_2316_method_1_code, exceptionTable := #[], attributes := #[] }
def k7m0 : Method := { name := "ofDays", desc := "(J)Ljava/time/Duration;", sig := { parameters := [.long], returnType := some (.object "java/time/Duration") }, accessFlags := 9, code := some k7c0 }
def k7c1 : Code := { maxStack := 6, maxLocals := 7, code := jdk_2316_method_5_code, exceptionTable := #[], attributes := #[] }
def k7m1 : Method := { name := "ofSeconds", desc := "(JJ)Ljava/time/Duration;", sig := { parameters := [.long, .long], returnType := some (.object "java/time/Duration") }, accessFlags := 9, code := some k7c1 }
def k7c2 : Code := { maxStack := 5, maxLocals := 3, code := jdk_2316_method_16_code, exceptionTable := #[], attributes := #[] }
def k7m2 : Method := { name := "create", desc := "(JI)Ljava/time/Duration;", sig := { parameters := [.long, .int], returnType := some (.object "java/time/Duration") }, accessFlags := 10, code := some k7c2 }
def k7c3 : Code := { maxStack := 3, maxLocals := 4, code := jdk_2316_method_17_code, exceptionTable := #[], attributes := #[] }
def k7m3 : Method := { name := "<init>", desc := "(JI)V", sig := { parameters := [.long, .int], returnType := none }, accessFlags := 2, code := some k7c3 }
def k7c4 : Code := { maxStack := 2, maxLocals := 1, code := jdk_2316_method_23_code, exceptionTable := #[], attributes := #[] }
def k7m4 : Method := { name := "getSeconds", desc := "()J", sig := { parameters := [], returnType := some .long }, accessFlags := 1, code := some k7c4 }
def k7c5 : Code := { maxStack := 1, maxLocals := 1, code := jdk_2316_method_24_code, exceptionTable := #[], attributes := #[] }
def k7m5 : Method := { name := "getNano", desc := "()I", sig := { parameters := [], returnType := some .int }, accessFlags := 1, code := some k7c5 }
def k7c6 : Code := { maxStack := 5, maxLocals := 5, code := jdk_2316_method_28_code, exceptionTable := #[], attributes := #[] }
def k7m6 : Method := { name := "plus", desc := "(JLjava/time/temporal/TemporalUnit;)Ljava/time/Duration;", sig := { parameters := [.long, (.object "java/time/temporal/TemporalUnit")], returnType := some (.object "java/time/Duration") }, accessFlags := 1, code := some k7c6 }
def k7c7 : Code := { maxStack := 5, maxLocals := 3, code := jdk_2316_method_32_code, exceptionTable := #[], attributes := #[] }
def k7m7 : Method := { name := "plusSeconds", desc := "(J)Ljava/time/Duration;", sig := { parameters := [.long], returnType := some (.object "java/time/Duration") }, accessFlags := 1, code := some k7c7 }
def k7c8 : Code := { maxStack := 5, maxLocals := 3, code := jdk_2316_method_34_code, exceptionTable := #[], attributes := #[] }
def k7m8 : Method := { name := "plusNanos", desc := "(J)Ljava/time/Duration;", sig := { parameters := [.long], returnType := some (.object "java/time/Duration") }, accessFlags := 1, code := some k7c8 }
def k7c9 : Code := { maxStack := 6, maxLocals := 9, code := jdk_2316_method_35_code, exceptionTable := #[], attributes := #[] }
def k7m9 : Method := { name := "plus", desc := "(JJ)Ljava/time/Duration;", sig := { parameters := [.long, .long], returnType := some (.object "java/time/Duration") }, accessFlags := 2, code := some k7c9 }
/-- java/time/Duration -/
def k7 : Class := { plain "java/time/Duration" (some 0) with
  accessFlags := 49
  interfaces := #[4, 5, 6]
  cf := some (fileOf pool7 11 #[.nestMembers #[269, 239, 79]] #[{ accessFlags := 9, nameIndex := 493, descriptorIndex := 199, attributes := #[] }, { accessFlags := 9, nameIndex := 178, descriptorIndex := 179, attributes := #[] }, { accessFlags := 10, nameIndex := 14, descriptorIndex := 15, attributes := #[] }, { accessFlags := 2, nameIndex := 139, descriptorIndex := 217, attributes := #[] }, { accessFlags := 1, nameIndex := 250, descriptorIndex := 251, attributes := #[] }, { accessFlags := 1, nameIndex := 254, descriptorIndex := 255, attributes := #[] }, { accessFlags := 1, nameIndex := 38, descriptorIndex := 39, attributes := #[] }, { accessFlags := 1, nameIndex := 282, descriptorIndex := 199, attributes := #[] }, { accessFlags := 1, nameIndex := 279, descriptorIndex := 199, attributes := #[] }, { accessFlags := 2, nameIndex := 38, descriptorIndex := 179, attributes := #[] }] 49 219 #[49, 485, 487] #[{ accessFlags := 25, nameIndex := 34, descriptorIndex := 35, attributes := #[] }, { accessFlags := 26, nameIndex := 489, descriptorIndex := 223, attributes := #[] }, { accessFlags := 26, nameIndex := 363, descriptorIndex := 364, attributes := #[] }, { accessFlags := 18, nameIndex := 117, descriptorIndex := 223, attributes := #[] }, { accessFlags := 18, nameIndex := 226, descriptorIndex := 227, attributes := #[] }])
  fields := #[{ name := "ZERO", type := (.object "java/time/Duration"), accessFlags := 25, slot := 0, constantValue := 0 }, { name := "serialVersionUID", type := .long, accessFlags := 26, slot := 1, constantValue := 0 }, { name := "BI_NANOS_PER_SECOND", type := (.object "java/math/BigInteger"), accessFlags := 26, slot := 2, constantValue := 0 }, { name := "seconds", type := .long, accessFlags := 18, slot := 0, constantValue := 0 }, { name := "nanos", type := .int, accessFlags := 18, slot := 1, constantValue := 0 }]
  methods := #[k7m0, k7m1, k7m2, k7m3, k7m4, k7m5, k7m6, k7m7, k7m8, k7m9]
  instanceTypes := #[.long, .int]
  staticTypes := #[(.object "java/time/Duration"), .long, (.object "java/math/BigInteger")]
  resolved := Array.replicate 656 none
  statics := some 0 }

def pool8 : Array CpInfo := pool [(1, .class_ 2), (0, u "java/lang/Math"), (1, .class_ 6), (1, u "java/lang/Object"), (0, u "<init>"), (0, u "()V"), (89, .class_ 100), (1, u "java/lang/Math$RandomNumberGeneratorHolder"), (17, .methodref 1 119), (0, .nameAndType 120 121), (0, u "multiplyExact"), (0, u "(JJ)J"), (0, .methodref 1 123), (0, .nameAndType 124 125), (0, u "abs"), (0, u "(J)J"), (2, .long 9223372036854775808), (16, u "floorDiv"), (2, u "floorMod"), (23, u "negativeZeroFloatBits"), (0, u "J"), (2, u "negativeZeroDoubleBits"), (68, u "$assertionsDisabled"), (0, u "Z"), (91, u "twoToTheDoubleScaleDown"), (0, u "D"), (4, u "twoToTheDoubleScaleUp"), (9, u "E"), (3, u "PI"), (2, u "TAU"), (2, u "DEGREES_TO_RADIANS"), (0, u "RADIANS_TO_DEGREES"), (27, u "addExact"), (1, u "(JI)J")] 64

def k8m0 : Method := { name := "<init>", desc := "()V", sig := { parameters := [], returnType := none }, accessFlags := 2, code := none }
def k8c1 : Code := { maxStack := 6, maxLocals := 6, code := jdk_29_method_25_code, exceptionTable := #[], attributes := #[] }
def k8m1 : Method := { name := "addExact", desc := "(JJ)J", sig := { parameters := [.long, .long], returnType := some .long }, accessFlags := 9, code := some k8c1 }
def k8c2 : Code := { maxStack := 4, maxLocals := 3, code := jdk_29_method_29_code, exceptionTable := #[], attributes := #[] }
def k8m2 : Method := { name := "multiplyExact", desc := "(JI)J", sig := { parameters := [.long, .int], returnType := some .long }, accessFlags := 9, code := some k8c2 }
def k8c3 : Code := { maxStack := 4, maxLocals := 10, code := jdk_29_method_30_code, exceptionTable := #[], attributes := #[] }
def k8m3 : Method := { name := "multiplyExact", desc := "(JJ)J", sig := { parameters := [.long, .long], returnType := some .long }, accessFlags := 9, code := some k8c3 }
def k8c4 : Code := { maxStack := 4, maxLocals := 6, code := jdk_29_method_49_code, exceptionTable := #[], attributes := #[] }
def k8m4 : Method := { name := "floorDiv", desc := "(JJ)J", sig := { parameters := [.long, .long], returnType := some .long }, accessFlags := 9, code := some k8c4 }
def k8c5 : Code := { maxStack := 4, maxLocals := 6, code := jdk_29_method_52_code, exceptionTable := #[], attributes := #[] }
def k8m5 : Method := { name := "floorMod", desc := "(JJ)J", sig := { parameters := [.long, .long], returnType := some .long }, accessFlags := 9, code := some k8c5 }
def k8c6 : Code := { maxStack := 4, maxLocals := 2, code := jdk_29_method_61_code, exceptionTable := #[], attributes := #[] }
def k8m6 : Method := { name := "abs", desc := "(J)J", sig := { parameters := [.long], returnType := some .long }, accessFlags := 9, code := some k8c6 }
/-- java/lang/Math -/
def k8 : Class := { plain "java/lang/Math" (some 0) with
  accessFlags := 49
  interfaces := #[]
  cf := some (fileOf pool8 1 #[.nestMembers #[98]] #[{ accessFlags := 2, nameIndex := 7, descriptorIndex := 8, attributes := #[] }, { accessFlags := 9, nameIndex := 393, descriptorIndex := 121, attributes := #[] }, { accessFlags := 9, nameIndex := 120, descriptorIndex := 395, attributes := #[] }, { accessFlags := 9, nameIndex := 120, descriptorIndex := 121, attributes := #[] }, { accessFlags := 9, nameIndex := 145, descriptorIndex := 121, attributes := #[] }, { accessFlags := 9, nameIndex := 148, descriptorIndex := 121, attributes := #[] }, { accessFlags := 9, nameIndex := 124, descriptorIndex := 125, attributes := #[] }] 49 4 #[] #[{ accessFlags := 25, nameIndex := 354, descriptorIndex := 339, attributes := #[] }, { accessFlags := 25, nameIndex := 358, descriptorIndex := 339, attributes := #[] }, { accessFlags := 25, nameIndex := 361, descriptorIndex := 339, attributes := #[] }, { accessFlags := 26, nameIndex := 364, descriptorIndex := 339, attributes := #[] }, { accessFlags := 26, nameIndex := 365, descriptorIndex := 339, attributes := #[] }, { accessFlags := 26, nameIndex := 172, descriptorIndex := 173, attributes := #[] }, { accessFlags := 26, nameIndex := 176, descriptorIndex := 173, attributes := #[] }, { accessFlags := 8, nameIndex := 344, descriptorIndex := 339, attributes := #[] }, { accessFlags := 8, nameIndex := 338, descriptorIndex := 339, attributes := #[] }, { accessFlags := 4120, nameIndex := 245, descriptorIndex := 246, attributes := #[] }])
  fields := #[{ name := "E", type := .double, accessFlags := 25, slot := 0, constantValue := 0 }, { name := "PI", type := .double, accessFlags := 25, slot := 1, constantValue := 0 }, { name := "TAU", type := .double, accessFlags := 25, slot := 2, constantValue := 0 }, { name := "DEGREES_TO_RADIANS", type := .double, accessFlags := 26, slot := 3, constantValue := 0 }, { name := "RADIANS_TO_DEGREES", type := .double, accessFlags := 26, slot := 4, constantValue := 0 }, { name := "negativeZeroFloatBits", type := .long, accessFlags := 26, slot := 5, constantValue := 0 }, { name := "negativeZeroDoubleBits", type := .long, accessFlags := 26, slot := 6, constantValue := 0 }, { name := "twoToTheDoubleScaleUp", type := .double, accessFlags := 8, slot := 7, constantValue := 0 }, { name := "twoToTheDoubleScaleDown", type := .double, accessFlags := 8, slot := 8, constantValue := 0 }, { name := "$assertionsDisabled", type := .boolean, accessFlags := 4120, slot := 9, constantValue := 0 }]
  methods := #[k8m0, k8m1, k8m2, k8m3, k8m4, k8m5, k8m6]
  instanceTypes := #[]
  staticTypes := #[.double, .double, .double, .double, .double, .long, .long, .double, .double, .boolean]
  resolved := Array.replicate 460 none
  statics := none }

def pool9 : Array CpInfo := pool [(1, .class_ 2), (0, u "java/lang/constant/Constable"), (0, .class_ 4), (0, u "java/lang/Object")] 6

/-- java/lang/constant/Constable -/
def k9 : Class := { plain "java/lang/constant/Constable" (some 0) with
  accessFlags := 1537
  interfaces := #[]
  cf := some (fileOf pool9 1 #[] #[] 1537 3 #[] #[])
  fields := #[]
  methods := #[]
  instanceTypes := #[]
  staticTypes := #[]
  resolved := Array.replicate 11 none
  statics := none }

def pool10 : Array CpInfo := pool [(2, .class_ 4), (1, u "java/lang/Enum"), (0, u "name"), (0, u "Ljava/lang/String;"), (0, .fieldref 2 8), (0, .nameAndType 9 10), (0, u "ordinal"), (0, u "I"), (1, .class_ 14), (1, u "java/lang/Object"), (4, u "hash"), (9, .methodref 12 30), (0, .nameAndType 31 32), (0, u "getClass"), (0, u "()Ljava/lang/Class;"), (70, u "compareTo"), (0, u "(Ljava/lang/Enum;)I"), (1, .class_ 108), (1, u "java/lang/Enum$EnumDesc"), (2, .class_ 112), (0, u "java/lang/constant/Constable"), (0, .class_ 114), (0, u "java/lang/Comparable"), (0, .class_ 116), (0, u "java/io/Serializable"), (9, u "()I")] 77

def k10c0 : Code := { maxStack := 1, maxLocals := 1, code := jdk_37_method_2_code, exceptionTable := #[], attributes := #[] }
def k10m0 : Method := { name := "ordinal", desc := "()I", sig := { parameters := [], returnType := some .int }, accessFlags := 17, code := some k10c0 }
def k10c1 : Code := { maxStack := 2, maxLocals := 4, code := jdk_37_method_8_code, exceptionTable := #[], attributes := #[] }
def k10m1 : Method := { name := "compareTo", desc := "(Ljava/lang/Enum;)I", sig := { parameters := [(.object "java/lang/Enum")], returnType := some .int }, accessFlags := 17, code := some k10c1 }
/-- java/lang/Enum -/
def k10 : Class := { plain "java/lang/Enum" (some 0) with
  accessFlags := 1057
  interfaces := #[9, 5, 6]
  cf := some (fileOf pool10 2 #[.nestMembers #[106]] #[{ accessFlags := 17, nameIndex := 9, descriptorIndex := 126, attributes := #[] }, { accessFlags := 17, nameIndex := 103, descriptorIndex := 104, attributes := #[] }] 1057 12 #[111, 113, 115] #[{ accessFlags := 18, nameIndex := 5, descriptorIndex := 6, attributes := #[] }, { accessFlags := 18, nameIndex := 9, descriptorIndex := 10, attributes := #[] }, { accessFlags := 2, nameIndex := 19, descriptorIndex := 10, attributes := #[] }])
  fields := #[{ name := "name", type := (.object "java/lang/String"), accessFlags := 18, slot := 0, constantValue := 0 }, { name := "ordinal", type := .int, accessFlags := 18, slot := 1, constantValue := 0 }, { name := "hash", type := .int, accessFlags := 2, slot := 2, constantValue := 0 }]
  methods := #[k10m0, k10m1]
  instanceTypes := #[(.object "java/lang/String"), .int, .int]
  staticTypes := #[]
  resolved := Array.replicate 204 none
  statics := none }

def pool11 : Array CpInfo := pool [(4, .class_ 6), (1, u "java/time/temporal/TemporalUnit"), (1, u "()Z"), (21, .class_ 31), (0, u "java/lang/Object"), (2, u "isDurationEstimated")] 24

def k11m0 : Method := { name := "isDurationEstimated", desc := "()Z", sig := { parameters := [], returnType := some .boolean }, accessFlags := 1025, code := none }
/-- java/time/temporal/TemporalUnit -/
def k11 : Class := { plain "java/time/temporal/TemporalUnit" (some 0) with
  accessFlags := 1537
  interfaces := #[]
  cf := some (fileOf pool11 4 #[] #[{ accessFlags := 1025, nameIndex := 34, descriptorIndex := 8, attributes := #[] }] 1537 30 #[] #[])
  fields := #[]
  methods := #[k11m0]
  instanceTypes := #[]
  staticTypes := #[]
  resolved := Array.replicate 59 none
  statics := none }

def pool12 : Array CpInfo := pool [(1, .class_ 2), (0, u "java/time/temporal/ChronoUnit"), (2, u "NANOS"), (0, u "Ljava/time/temporal/ChronoUnit;"), (2, u "MICROS"), (2, u "MILLIS"), (2, u "SECONDS"), (2, u "MINUTES"), (2, u "HOURS"), (2, u "HALF_DAYS"), (0, .fieldref 1 26), (0, .nameAndType 27 6), (0, u "DAYS"), (2, u "WEEKS"), (2, u "MONTHS"), (2, u "YEARS"), (2, u "DECADES"), (2, u "CENTURIES"), (2, u "MILLENNIA"), (2, u "ERAS"), (2, u "FOREVER"), (2, u "$VALUES"), (0, u "[Ljava/time/temporal/ChronoUnit;"), (6, .class_ 64), (1, u "java/lang/Enum"), (8, u "name"), (0, u "Ljava/lang/String;"), (2, u "duration"), (0, u "Ljava/time/Duration;"), (0, .methodref 1 80), (0, .nameAndType 81 82), (0, u "compareTo"), (0, u "(Ljava/lang/Enum;)I"), (113, .class_ 197), (0, u "java/time/temporal/TemporalUnit"), (12, u "isDurationEstimated"), (0, u "()Z")] 25

def k12c0 : Code := { maxStack := 2, maxLocals := 1, code := jdk_2396_method_5_code, exceptionTable := #[], attributes := #[] }
def k12m0 : Method := { name := "isDurationEstimated", desc := "()Z", sig := { parameters := [], returnType := some .boolean }, accessFlags := 1, code := some k12c0 }
/-- java/time/temporal/ChronoUnit -/
def k12 : Class := { plain "java/time/temporal/ChronoUnit" (some 10) with
  accessFlags := 16433
  interfaces := #[11]
  cf := some (fileOf pool12 1 #[] #[{ accessFlags := 1, nameIndex := 210, descriptorIndex := 211, attributes := #[] }] 16433 62 #[196] #[{ accessFlags := 16409, nameIndex := 5, descriptorIndex := 6, attributes := #[] }, { accessFlags := 16409, nameIndex := 9, descriptorIndex := 6, attributes := #[] }, { accessFlags := 16409, nameIndex := 12, descriptorIndex := 6, attributes := #[] }, { accessFlags := 16409, nameIndex := 15, descriptorIndex := 6, attributes := #[] }, { accessFlags := 16409, nameIndex := 18, descriptorIndex := 6, attributes := #[] }, { accessFlags := 16409, nameIndex := 21, descriptorIndex := 6, attributes := #[] }, { accessFlags := 16409, nameIndex := 24, descriptorIndex := 6, attributes := #[] }, { accessFlags := 16409, nameIndex := 27, descriptorIndex := 6, attributes := #[] }, { accessFlags := 16409, nameIndex := 30, descriptorIndex := 6, attributes := #[] }, { accessFlags := 16409, nameIndex := 33, descriptorIndex := 6, attributes := #[] }, { accessFlags := 16409, nameIndex := 36, descriptorIndex := 6, attributes := #[] }, { accessFlags := 16409, nameIndex := 39, descriptorIndex := 6, attributes := #[] }, { accessFlags := 16409, nameIndex := 42, descriptorIndex := 6, attributes := #[] }, { accessFlags := 16409, nameIndex := 45, descriptorIndex := 6, attributes := #[] }, { accessFlags := 16409, nameIndex := 48, descriptorIndex := 6, attributes := #[] }, { accessFlags := 16409, nameIndex := 51, descriptorIndex := 6, attributes := #[] }, { accessFlags := 18, nameIndex := 73, descriptorIndex := 74, attributes := #[] }, { accessFlags := 18, nameIndex := 77, descriptorIndex := 78, attributes := #[] }, { accessFlags := 4122, nameIndex := 54, descriptorIndex := 55, attributes := #[] }])
  fields := #[{ name := "NANOS", type := (.object "java/time/temporal/ChronoUnit"), accessFlags := 16409, slot := 0, constantValue := 0 }, { name := "MICROS", type := (.object "java/time/temporal/ChronoUnit"), accessFlags := 16409, slot := 1, constantValue := 0 }, { name := "MILLIS", type := (.object "java/time/temporal/ChronoUnit"), accessFlags := 16409, slot := 2, constantValue := 0 }, { name := "SECONDS", type := (.object "java/time/temporal/ChronoUnit"), accessFlags := 16409, slot := 3, constantValue := 0 }, { name := "MINUTES", type := (.object "java/time/temporal/ChronoUnit"), accessFlags := 16409, slot := 4, constantValue := 0 }, { name := "HOURS", type := (.object "java/time/temporal/ChronoUnit"), accessFlags := 16409, slot := 5, constantValue := 0 }, { name := "HALF_DAYS", type := (.object "java/time/temporal/ChronoUnit"), accessFlags := 16409, slot := 6, constantValue := 0 }, { name := "DAYS", type := (.object "java/time/temporal/ChronoUnit"), accessFlags := 16409, slot := 7, constantValue := 0 }, { name := "WEEKS", type := (.object "java/time/temporal/ChronoUnit"), accessFlags := 16409, slot := 8, constantValue := 0 }, { name := "MONTHS", type := (.object "java/time/temporal/ChronoUnit"), accessFlags := 16409, slot := 9, constantValue := 0 }, { name := "YEARS", type := (.object "java/time/temporal/ChronoUnit"), accessFlags := 16409, slot := 10, constantValue := 0 }, { name := "DECADES", type := (.object "java/time/temporal/ChronoUnit"), accessFlags := 16409, slot := 11, constantValue := 0 }, { name := "CENTURIES", type := (.object "java/time/temporal/ChronoUnit"), accessFlags := 16409, slot := 12, constantValue := 0 }, { name := "MILLENNIA", type := (.object "java/time/temporal/ChronoUnit"), accessFlags := 16409, slot := 13, constantValue := 0 }, { name := "ERAS", type := (.object "java/time/temporal/ChronoUnit"), accessFlags := 16409, slot := 14, constantValue := 0 }, { name := "FOREVER", type := (.object "java/time/temporal/ChronoUnit"), accessFlags := 16409, slot := 15, constantValue := 0 }, { name := "name", type := (.object "java/lang/String"), accessFlags := 18, slot := 3, constantValue := 0 }, { name := "duration", type := (.object "java/time/Duration"), accessFlags := 18, slot := 4, constantValue := 0 }, { name := "$VALUES", type := (.array (.object "java/time/temporal/ChronoUnit")), accessFlags := 4122, slot := 16, constantValue := 0 }]
  methods := #[k12m0]
  instanceTypes := #[(.object "java/lang/String"), .int, .int, (.object "java/lang/String"), (.object "java/time/Duration")]
  staticTypes := #[(.object "java/time/temporal/ChronoUnit"), (.object "java/time/temporal/ChronoUnit"), (.object "java/time/temporal/ChronoUnit"), (.object "java/time/temporal/ChronoUnit"), (.object "java/time/temporal/ChronoUnit"), (.object "java/time/temporal/ChronoUnit"), (.object "java/time/temporal/ChronoUnit"), (.object "java/time/temporal/ChronoUnit"), (.object "java/time/temporal/ChronoUnit"), (.object "java/time/temporal/ChronoUnit"), (.object "java/time/temporal/ChronoUnit"), (.object "java/time/temporal/ChronoUnit"), (.object "java/time/temporal/ChronoUnit"), (.object "java/time/temporal/ChronoUnit"), (.object "java/time/temporal/ChronoUnit"), (.object "java/time/temporal/ChronoUnit"), (.array (.object "java/time/temporal/ChronoUnit"))]
  resolved := Array.replicate 237 none
  mirror := some 3
  statics := some 1 }

def pool13 : Array CpInfo := pool [(2, .class_ 4), (1, u "java/lang/CharSequence"), (42, .class_ 48), (0, u "java/lang/CharSequence$1CodePointIterator"), (10, .class_ 60), (0, u "java/lang/CharSequence$1CharIterator"), (5, .class_ 67), (0, u "java/lang/Object")] 63

/-- java/lang/CharSequence -/
def k13 : Class := { plain "java/lang/CharSequence" (some 0) with
  accessFlags := 1537
  interfaces := #[]
  cf := some (fileOf pool13 2 #[.nestMembers #[47, 59]] #[] 1537 66 #[] #[])
  fields := #[]
  methods := #[]
  instanceTypes := #[]
  staticTypes := #[]
  resolved := Array.replicate 131 none
  statics := none }

def pool14 : Array CpInfo := pool [(1, .class_ 2), (0, u "java/lang/constant/ConstantDesc"), (0, .class_ 4), (0, u "java/lang/Object")] 32

/-- java/lang/constant/ConstantDesc -/
def k14 : Class := { plain "java/lang/constant/ConstantDesc" (some 0) with
  accessFlags := 1537
  interfaces := #[]
  cf := some (fileOf pool14 1 #[] #[] 1537 3 #[] #[])
  fields := #[]
  methods := #[]
  instanceTypes := #[]
  staticTypes := #[]
  resolved := Array.replicate 37 none
  statics := none }

def pool15 : Array CpInfo := pool [(2, .class_ 4), (1, u "java/lang/Object"), (0, u "<init>"), (0, u "()V"), (3, .class_ 12), (1, u "java/lang/String"), (0, u "value"), (0, u "[B"), (2, u "coder"), (0, u "B"), (2, u "hash"), (0, u "I"), (2, u "hashIsZero"), (0, u "Z"), (13, u "COMPACT_STRINGS"), (534, .class_ 576), (0, u "java/lang/CharSequence"), (22, u "CASE_INSENSITIVE_ORDER"), (0, u "Ljava/util/Comparator;"), (500, u "serialPersistentFields"), (0, u "[Ljava/io/ObjectStreamField;"), (0, .class_ 1104), (0, u "java/lang/String$CaseInsensitiveComparator"), (1, .class_ 1107), (0, u "java/io/Serializable"), (0, .class_ 1109), (0, u "java/lang/Comparable"), (0, .class_ 1111), (0, u "java/lang/constant/Constable"), (0, .class_ 1113), (0, u "java/lang/constant/ConstantDesc"), (2, u "serialVersionUID"), (0, u "J"), (3, u "REPL"), (0, u "C"), (2, u "LATIN1"), (1, u "UTF16")] 323

def k15m0 : Method := { name := "<init>", desc := "()V", sig := { parameters := [], returnType := none }, accessFlags := 1, code := none }
/-- java/lang/String -/
def k15 : Class := { plain "java/lang/String" (some 0) with
  accessFlags := 49
  interfaces := #[6, 5, 13, 9, 14]
  cf := some (fileOf pool15 10 #[.nestMembers #[1103]] #[{ accessFlags := 1, nameIndex := 5, descriptorIndex := 6, attributes := #[] }] 49 2 #[1106, 1108, 575, 1110, 1112] #[{ accessFlags := 18, nameIndex := 13, descriptorIndex := 14, attributes := #[] }, { accessFlags := 18, nameIndex := 17, descriptorIndex := 18, attributes := #[] }, { accessFlags := 2, nameIndex := 21, descriptorIndex := 22, attributes := #[] }, { accessFlags := 2, nameIndex := 25, descriptorIndex := 26, attributes := #[] }, { accessFlags := 26, nameIndex := 1116, descriptorIndex := 1117, attributes := #[] }, { accessFlags := 24, nameIndex := 40, descriptorIndex := 26, attributes := #[] }, { accessFlags := 26, nameIndex := 1101, descriptorIndex := 1102, attributes := #[] }, { accessFlags := 26, nameIndex := 1121, descriptorIndex := 1122, attributes := #[] }, { accessFlags := 25, nameIndex := 599, descriptorIndex := 600, attributes := #[] }, { accessFlags := 24, nameIndex := 1125, descriptorIndex := 18, attributes := #[] }, { accessFlags := 24, nameIndex := 1127, descriptorIndex := 18, attributes := #[] }])
  fields := #[{ name := "value", type := (.array .byte), accessFlags := 18, slot := 0, constantValue := 0 }, { name := "coder", type := .byte, accessFlags := 18, slot := 1, constantValue := 0 }, { name := "hash", type := .int, accessFlags := 2, slot := 2, constantValue := 0 }, { name := "hashIsZero", type := .boolean, accessFlags := 2, slot := 3, constantValue := 0 }, { name := "serialVersionUID", type := .long, accessFlags := 26, slot := 0, constantValue := 0 }, { name := "COMPACT_STRINGS", type := .boolean, accessFlags := 24, slot := 1, constantValue := 0 }, { name := "serialPersistentFields", type := (.array (.object "java/io/ObjectStreamField")), accessFlags := 26, slot := 2, constantValue := 0 }, { name := "REPL", type := .char, accessFlags := 26, slot := 3, constantValue := 0 }, { name := "CASE_INSENSITIVE_ORDER", type := (.object "java/util/Comparator"), accessFlags := 25, slot := 4, constantValue := 0 }, { name := "LATIN1", type := .byte, accessFlags := 24, slot := 5, constantValue := 0 }, { name := "UTF16", type := .byte, accessFlags := 24, slot := 6, constantValue := 0 }]
  methods := #[k15m0]
  instanceTypes := #[(.array .byte), .byte, .int, .boolean]
  staticTypes := #[.long, .boolean, (.array (.object "java/io/ObjectStreamField")), .char, (.object "java/util/Comparator"), .byte, .byte]
  resolved := Array.replicate 1451 none
  statics := none }

def pool16 : Array CpInfo := pool [(2, .class_ 4), (1, u "java/lang/Object"), (0, u "<init>"), (0, u "()V"), (35, .class_ 44), (1, u "java/util/Objects"), (0, u "requireNonNull"), (48, u "(Ljava/lang/Object;Ljava/lang/String;)Ljava/lang/Object;")] 89

def k16m0 : Method := { name := "<init>", desc := "()V", sig := { parameters := [], returnType := none }, accessFlags := 2, code := none }
def k16c1 : Code := { maxStack := 3, maxLocals := 2, code := jdk_31_method_11_code, exceptionTable := #[], attributes := #[] }
def k16m1 : Method := { name := "requireNonNull", desc := "(Ljava/lang/Object;Ljava/lang/String;)Ljava/lang/Object;", sig := { parameters := [(.object "java/lang/Object"), (.object "java/lang/String")], returnType := some (.object "java/lang/Object") }, accessFlags := 9, code := some k16c1 }
/-- java/util/Objects -/
def k16 : Class := { plain "java/util/Objects" (some 0) with
  accessFlags := 49
  interfaces := #[]
  cf := some (fileOf pool16 42 #[] #[{ accessFlags := 2, nameIndex := 5, descriptorIndex := 6, attributes := #[] }, { accessFlags := 9, nameIndex := 45, descriptorIndex := 94, attributes := #[] }] 49 2 #[] #[])
  fields := #[]
  methods := #[k16m0, k16m1]
  instanceTypes := #[]
  staticTypes := #[]
  resolved := Array.replicate 184 none
  statics := none }

def pool17 : Array CpInfo := pool [(8, .class_ 10), (1, u "java/time/Duration$1"), (0, u "$SwitchMap$java$time$temporal$ChronoUnit"), (0, u "[I"), (19, .class_ 33), (0, u "java/lang/Object"), (9, .class_ 44), (0, u "java/time/Duration")] 2

/-- java/time/Duration$1 -/
def k17 : Class := { plain "java/time/Duration$1" (some 0) with
  accessFlags := 4128
  interfaces := #[]
  cf := some (fileOf pool17 8 #[.nestHost 43] #[] 4128 32 #[] #[{ accessFlags := 4120, nameIndex := 11, descriptorIndex := 12, attributes := #[] }])
  fields := #[{ name := "$SwitchMap$java$time$temporal$ChronoUnit", type := (.array .int), accessFlags := 4120, slot := 0, constantValue := 0 }]
  methods := #[]
  instanceTypes := #[]
  staticTypes := #[(.array .int)]
  resolved := Array.replicate 47 none
  statics := some 2 }

def pool18 : Array CpInfo := pool [(1, u "java/lang/Class"), (0, .class_ 1), (0, u "java/lang/Object"), (0, .class_ 3)] 3

/-- java/lang/Class -/
def k18 : Class := { plain "java/lang/Class" (some 0) with
  accessFlags := 49
  interfaces := #[]
  cf := some (fileOf pool18 2 #[] #[] 49 4 #[] #[])
  fields := #[]
  methods := #[]
  instanceTypes := #[]
  staticTypes := #[]
  resolved := Array.replicate 8 none
  statics := none }

def pool19 : Array CpInfo := pool [(1, u "java/lang/Cloneable"), (0, .class_ 1), (0, u "java/lang/Object"), (0, .class_ 3)] 3

/-- java/lang/Cloneable -/
def k19 : Class := { plain "java/lang/Cloneable" (some 0) with
  accessFlags := 1537
  interfaces := #[]
  cf := some (fileOf pool19 2 #[] #[] 1537 4 #[] #[])
  fields := #[]
  methods := #[]
  instanceTypes := #[]
  staticTypes := #[]
  resolved := Array.replicate 8 none
  statics := none }

/-- the primitive byte -/
def k20 : Class := { plain "byte" none with kind := .primitive 'B', accessFlags := 0x411 }
/-- [B -/
def k21 : Class := { plain "[B" (some 0) with kind := .array 20 .byte, interfaces := #[19, 6], accessFlags := 1041 }

/-- the primitive int -/
def k22 : Class := { plain "int" none with kind := .primitive 'I', accessFlags := 0x411 }
/-- [I -/
def k23 : Class := { plain "[I" (some 0) with kind := .array 22 .int, interfaces := #[19, 6], accessFlags := 1041 }

def heap : Heap := #[{ cls := 7, slots := #[.ref 10, .long 0, .null], vm := .statics 7 },
  { cls := 12, slots := #[.null, .ref 7, .null, .null, .null, .null, .null, .ref 8, .null, .null, .null, .null, .null, .null, .null, .null, .null], vm := .statics 12 },
  { cls := 17, slots := #[.ref 9], vm := .statics 17 },
  { cls := 18, slots := #[], vm := .mirror 12 },
  { cls := 15, slots := #[.null, .int 0, .int 0, .int 0], vm := .none },
  { cls := 7, slots := #[.long 0, .int 1000], vm := .none },
  { cls := 7, slots := #[.long 86400, .int 0], vm := .none },
  { cls := 12, slots := #[.ref 4, .int 1, .int 0, .ref 4, .ref 5], vm := .none },
  { cls := 12, slots := #[.ref 4, .int 7, .int 0, .ref 4, .ref 6], vm := .none },
  { cls := 23, slots := #[.int 1, .int 2, .int 3, .int 4, .int 0, .int 0, .int 0, .int 0, .int 0, .int 0, .int 0, .int 0, .int 0, .int 0, .int 0, .int 0], vm := .none },
  { cls := 7, slots := #[.long 0, .int 0], vm := .none }]
def classes : Array Class := #[k0, k1, k2, k3, k4, k5, k6, k7, k8, k9, k10, k11, k12, k13, k14, k15, k16, k17, k18, k19, k20, k21, k22, k23]
def interned : List (Array UInt16 × Addr) := []
def slotsUsed : Nat := 57
def theMethod : MethodId := ⟨1, 1⟩
def args0 : Array Value := #[.int 0, .long 2, .int 1, .long 5]
def aboutOver (below : List Frame) : State where
  vm := { classes := classes, interned := interned.toArray }
  heap := heap
  slotsUsed := slotsUsed
  threads := #[{ frames := .invoking theMethod args0 :: below }]
def below0 : List Frame := [.native { method := ⟨0, 0⟩, args := #[] }]
def about1 : State := aboutOver below0
def p0 : Program := .bare "" "" ""
def e0 : Env := launch0.env 0 0 0
theorem w_frames : about1.frames = Frame.invoking theMethod args0 :: below0 := rfl
set_option maxRecDepth 65536 in
theorem w_args : argsFit about1.vm theMethod args0 = true := by decide +kernel
set_option maxRecDepth 65536 in
theorem w_heap : heapFits about1 = true := by decide +kernel
set_option maxRecDepth 65536 in
theorem w_runnable : about1.curStatus? = some .runnable := by decide +kernel
set_option maxRecDepth 65536 in
theorem w_alone : about1.alone = true := by decide +kernel
set_option maxRecDepth 65536 in
theorem w_named : about1.methodNamed? x = some theMethod := by decide +kernel
set_option maxRecDepth 65536 in
theorem w_hears : about1.hears theMethod below0 = true := by decide +kernel
set_option maxRecDepth 65536 in
theorem w_ripe : about1.ripe theMethod args0 below0 = true := by decide +kernel
theorem w_running : about1.status = .running := rfl
set_option maxRecDepth 65536 in
theorem w_room : about1.hasRoom e0.platform room_1 = true :=
  launch0.hasRoom_least _ room_1 (by decide +kernel) (by decide +kernel) (by decide +kernel) (by decide +kernel) (by decide +kernel) (by decide +kernel)
theorem allAtoms_all (ts : List Jvm.Cond) (a : Array Jvm.Value) (st : Jvm.State) : (allAtoms ts).before a st = ts.all (fun c => c.before a st) := by
  induction ts with
  | nil => rfl
  | cons c t ih =>
    show (Jvm.Cond.and c (allAtoms t)).before a st = _
    rw [Jvm.Cond.before_and, ih, List.all_cons]
def words1 : List Jvm.Cond := Jvm.Cond.code x code maxLocals ret :: tables_1
/-- a 'code' word, met by the world's own term for the bytes: nothing is compared byte by byte -/
theorem code_word {y : MethodName} {bytes : ByteArray} {mx : Nat} {rt : Option FieldType} {a : Array Value} {s : State} {m : MethodId} {meth : Method} {c : Code} (h1 : s.methodNamed? y = some m) (h2 : s.vm.method? m = some meth) (h3 : meth.code = some c) (h4 : c.code = bytes)
    (h5 : (c.maxLocals == mx && c.exceptionTable.isEmpty && decide (c.maxStack ≤ mostOperands) && decide (meth.sig.returnType = rt) && !meth.locks && decide (parseMethodDescriptor y.desc = some meth.sig)) = true) : (Jvm.Cond.code y bytes mx rt).before a s = true := by
  simp only [Bool.and_eq_true, beq_iff_eq, Bool.not_eq_true', decide_eq_true_eq] at h5
  obtain ⟨⟨⟨⟨⟨g1, g2⟩, g3⟩, g4⟩, g5⟩, g6⟩ := h5
  simp [Cond.before, Cond.holds, Cond.value, h1, h2, h3, h4, g1, g2, g3, g4, g5, g6]
def isCode : Jvm.Cond → Bool
  | .code _ _ _ _ => true
  | _ => false
theorem all_split {L : List Jvm.Cond} {P : Jvm.Cond → Bool} (h1 : L.all (fun c => isCode c || P c) = true) (h2 : ∀ c ∈ L.filter isCode, P c = true) : L.all P = true := by
  refine List.all_eq_true.mpr fun c hc => ?_
  have h := List.all_eq_true.mp h1 c hc
  rcases Bool.eq_false_or_eq_true (isCode c) with hi | hi
  · exact h2 c (List.mem_filter.mpr ⟨hc, hi⟩)
  · simpa [hi] using h
set_option maxRecDepth 65536 in
theorem w_c0 : (Jvm.Cond.code x code maxLocals ret).before args0 about1 = true := code_word (m := ⟨1, 1⟩) (meth := k1m1) (c := k1c1) (by decide +kernel) rfl rfl rfl (by decide +kernel)
set_option maxRecDepth 65536 in
theorem w_c1 : (Jvm.Cond.code ({ cls := "com/example/libtxsession/libtxsession/internal/session/PostgresInterval", name := "<init>", desc := "(JJJ)V" } : Jvm.MethodName) prog_35_method_1_code (7 : Nat) (Option.none : Option Jvm.ClassFile.FieldType)).before args0 about1 = true := code_word (m := ⟨3, 0⟩) (meth := k3m0) (c := k3c0) (by decide +kernel) rfl rfl rfl (by decide +kernel)
set_option maxRecDepth 65536 in
theorem w_c2 : (Jvm.Cond.code ({ cls := "java/lang/Record", name := "<init>", desc := "()V" } : Jvm.MethodName) jdk_30_method_1_code (1 : Nat) (Option.none : Option Jvm.ClassFile.FieldType)).before args0 about1 = true := code_word (m := ⟨2, 0⟩) (meth := k2m0) (c := k2c0) (by decide +kernel) rfl rfl rfl (by decide +kernel)
set_option maxRecDepth 65536 in
theorem w_c3 : (Jvm.Cond.code ({ cls := "java/lang/Object", name := "<init>", desc := "()V" } : Jvm.MethodName) object_method_1_code (1 : Nat) (Option.none : Option Jvm.ClassFile.FieldType)).before args0 about1 = true := code_word (m := ⟨0, 0⟩) (meth := k0m0) (c := k0c0) (by decide +kernel) rfl rfl rfl (by decide +kernel)
set_option maxRecDepth 65536 in
theorem w_c4 : (Jvm.Cond.code ({ cls := "com/example/libtxsession/libtxsession/internal/session/PostgresInterval", name := "duration", desc := "()Ljava/time/Duration;" } : Jvm.MethodName) prog_35_method_3_code (1 : Nat) (Option.some (Jvm.ClassFile.FieldType.object "java/time/Duration"))).before args0 about1 = true := code_word (m := ⟨3, 1⟩) (meth := k3m1) (c := k3c1) (by decide +kernel) rfl rfl rfl (by decide +kernel)
set_option maxRecDepth 65536 in
theorem w_c5 : (Jvm.Cond.code ({ cls := "java/time/Duration", name := "ofDays", desc := "(J)Ljava/time/Duration;" } : Jvm.MethodName) jdk_2316_method_1_code (2 : Nat) (Option.some (Jvm.ClassFile.FieldType.object "java/time/Duration"))).before args0 about1 = true := code_word (m := ⟨7, 0⟩) (meth := k7m0) (c := k7c0) (by decide +kernel) rfl rfl rfl (by decide +kernel)
set_option maxRecDepth 65536 in
theorem w_c6 : (Jvm.Cond.code ({ cls := "java/lang/Math", name := "multiplyExact", desc := "(JI)J" } : Jvm.MethodName) jdk_29_method_29_code (3 : Nat) (Option.some Jvm.ClassFile.FieldType.long)).before args0 about1 = true := code_word (m := ⟨8, 2⟩) (meth := k8m2) (c := k8c2) (by decide +kernel) rfl rfl rfl (by decide +kernel)
set_option maxRecDepth 65536 in
theorem w_c7 : (Jvm.Cond.code ({ cls := "java/lang/Math", name := "multiplyExact", desc := "(JJ)J" } : Jvm.MethodName) jdk_29_method_30_code (10 : Nat) (Option.some Jvm.ClassFile.FieldType.long)).before args0 about1 = true := code_word (m := ⟨8, 3⟩) (meth := k8m3) (c := k8c3) (by decide +kernel) rfl rfl rfl (by decide +kernel)
set_option maxRecDepth 65536 in
theorem w_c8 : (Jvm.Cond.code ({ cls := "java/lang/Math", name := "abs", desc := "(J)J" } : Jvm.MethodName) jdk_29_method_61_code (2 : Nat) (Option.some Jvm.ClassFile.FieldType.long)).before args0 about1 = true := code_word (m := ⟨8, 6⟩) (meth := k8m6) (c := k8c6) (by decide +kernel) rfl rfl rfl (by decide +kernel)
set_option maxRecDepth 65536 in
theorem w_c9 : (Jvm.Cond.code ({ cls := "java/time/Duration", name := "create", desc := "(JI)Ljava/time/Duration;" } : Jvm.MethodName) jdk_2316_method_16_code (3 : Nat) (Option.some (Jvm.ClassFile.FieldType.object "java/time/Duration"))).before args0 about1 = true := code_word (m := ⟨7, 2⟩) (meth := k7m2) (c := k7c2) (by decide +kernel) rfl rfl rfl (by decide +kernel)
set_option maxRecDepth 65536 in
theorem w_c10 : (Jvm.Cond.code ({ cls := "java/time/Duration", name := "<init>", desc := "(JI)V" } : Jvm.MethodName) jdk_2316_method_17_code (4 : Nat) (Option.none : Option Jvm.ClassFile.FieldType)).before args0 about1 = true := code_word (m := ⟨7, 3⟩) (meth := k7m3) (c := k7c3) (by decide +kernel) rfl rfl rfl (by decide +kernel)
set_option maxRecDepth 65536 in
theorem w_c11 : (Jvm.Cond.code ({ cls := "java/time/Duration", name := "plus", desc := "(JLjava/time/temporal/TemporalUnit;)Ljava/time/Duration;" } : Jvm.MethodName) jdk_2316_method_28_code (5 : Nat) (Option.some (Jvm.ClassFile.FieldType.object "java/time/Duration"))).before args0 about1 = true := code_word (m := ⟨7, 6⟩) (meth := k7m6) (c := k7c6) (by decide +kernel) rfl rfl rfl (by decide +kernel)
set_option maxRecDepth 65536 in
theorem w_c12 : (Jvm.Cond.code ({ cls := "java/util/Objects", name := "requireNonNull", desc := "(Ljava/lang/Object;Ljava/lang/String;)Ljava/lang/Object;" } : Jvm.MethodName) jdk_31_method_11_code (2 : Nat) (Option.some (Jvm.ClassFile.FieldType.object "java/lang/Object"))).before args0 about1 = true := code_word (m := ⟨16, 1⟩) (meth := k16m1) (c := k16c1) (by decide +kernel) rfl rfl rfl (by decide +kernel)
set_option maxRecDepth 65536 in
theorem w_c13 : (Jvm.Cond.code ({ cls := "java/time/temporal/ChronoUnit", name := "isDurationEstimated", desc := "()Z" } : Jvm.MethodName) jdk_2396_method_5_code (1 : Nat) (Option.some Jvm.ClassFile.FieldType.boolean)).before args0 about1 = true := code_word (m := ⟨12, 0⟩) (meth := k12m0) (c := k12c0) (by decide +kernel) rfl rfl rfl (by decide +kernel)
set_option maxRecDepth 65536 in
theorem w_c14 : (Jvm.Cond.code ({ cls := "java/lang/Enum", name := "compareTo", desc := "(Ljava/lang/Enum;)I" } : Jvm.MethodName) jdk_37_method_8_code (4 : Nat) (Option.some Jvm.ClassFile.FieldType.int)).before args0 about1 = true := code_word (m := ⟨10, 1⟩) (meth := k10m1) (c := k10c1) (by decide +kernel) rfl rfl rfl (by decide +kernel)
set_option maxRecDepth 65536 in
theorem w_c15 : (Jvm.Cond.code ({ cls := "java/lang/Enum", name := "ordinal", desc := "()I" } : Jvm.MethodName) jdk_37_method_2_code (1 : Nat) (Option.some Jvm.ClassFile.FieldType.int)).before args0 about1 = true := code_word (m := ⟨10, 0⟩) (meth := k10m0) (c := k10c0) (by decide +kernel) rfl rfl rfl (by decide +kernel)
set_option maxRecDepth 65536 in
theorem w_c16 : (Jvm.Cond.code ({ cls := "java/time/Duration", name := "plusSeconds", desc := "(J)Ljava/time/Duration;" } : Jvm.MethodName) jdk_2316_method_32_code (3 : Nat) (Option.some (Jvm.ClassFile.FieldType.object "java/time/Duration"))).before args0 about1 = true := code_word (m := ⟨7, 7⟩) (meth := k7m7) (c := k7c7) (by decide +kernel) rfl rfl rfl (by decide +kernel)
set_option maxRecDepth 65536 in
theorem w_c17 : (Jvm.Cond.code ({ cls := "java/time/Duration", name := "plus", desc := "(JJ)Ljava/time/Duration;" } : Jvm.MethodName) jdk_2316_method_35_code (9 : Nat) (Option.some (Jvm.ClassFile.FieldType.object "java/time/Duration"))).before args0 about1 = true := code_word (m := ⟨7, 9⟩) (meth := k7m9) (c := k7c9) (by decide +kernel) rfl rfl rfl (by decide +kernel)
set_option maxRecDepth 65536 in
theorem w_c18 : (Jvm.Cond.code ({ cls := "java/lang/Math", name := "addExact", desc := "(JJ)J" } : Jvm.MethodName) jdk_29_method_25_code (6 : Nat) (Option.some Jvm.ClassFile.FieldType.long)).before args0 about1 = true := code_word (m := ⟨8, 1⟩) (meth := k8m1) (c := k8c1) (by decide +kernel) rfl rfl rfl (by decide +kernel)
set_option maxRecDepth 65536 in
theorem w_c19 : (Jvm.Cond.code ({ cls := "java/time/Duration", name := "ofSeconds", desc := "(JJ)Ljava/time/Duration;" } : Jvm.MethodName) jdk_2316_method_5_code (7 : Nat) (Option.some (Jvm.ClassFile.FieldType.object "java/time/Duration"))).before args0 about1 = true := code_word (m := ⟨7, 1⟩) (meth := k7m1) (c := k7c1) (by decide +kernel) rfl rfl rfl (by decide +kernel)
set_option maxRecDepth 65536 in
theorem w_c20 : (Jvm.Cond.code ({ cls := "java/lang/Math", name := "floorDiv", desc := "(JJ)J" } : Jvm.MethodName) jdk_29_method_49_code (6 : Nat) (Option.some Jvm.ClassFile.FieldType.long)).before args0 about1 = true := code_word (m := ⟨8, 4⟩) (meth := k8m4) (c := k8c4) (by decide +kernel) rfl rfl rfl (by decide +kernel)
set_option maxRecDepth 65536 in
theorem w_c21 : (Jvm.Cond.code ({ cls := "java/lang/Math", name := "floorMod", desc := "(JJ)J" } : Jvm.MethodName) jdk_29_method_52_code (6 : Nat) (Option.some Jvm.ClassFile.FieldType.long)).before args0 about1 = true := code_word (m := ⟨8, 5⟩) (meth := k8m5) (c := k8c5) (by decide +kernel) rfl rfl rfl (by decide +kernel)
set_option maxRecDepth 65536 in
theorem w_c22 : (Jvm.Cond.code ({ cls := "java/time/Duration", name := "plusNanos", desc := "(J)Ljava/time/Duration;" } : Jvm.MethodName) jdk_2316_method_34_code (3 : Nat) (Option.some (Jvm.ClassFile.FieldType.object "java/time/Duration"))).before args0 about1 = true := code_word (m := ⟨7, 8⟩) (meth := k7m8) (c := k7c8) (by decide +kernel) rfl rfl rfl (by decide +kernel)
set_option maxRecDepth 65536 in
theorem w_c23 : (Jvm.Cond.code ({ cls := "java/time/Duration", name := "getSeconds", desc := "()J" } : Jvm.MethodName) jdk_2316_method_23_code (1 : Nat) (Option.some Jvm.ClassFile.FieldType.long)).before args0 about1 = true := code_word (m := ⟨7, 4⟩) (meth := k7m4) (c := k7c4) (by decide +kernel) rfl rfl rfl (by decide +kernel)
set_option maxRecDepth 65536 in
theorem w_c24 : (Jvm.Cond.code ({ cls := "java/time/Duration", name := "getNano", desc := "()I" } : Jvm.MethodName) jdk_2316_method_24_code (1 : Nat) (Option.some Jvm.ClassFile.FieldType.int)).before args0 about1 = true := code_word (m := ⟨7, 5⟩) (meth := k7m5) (c := k7c5) (by decide +kernel) rfl rfl rfl (by decide +kernel)
def codes1 : List Jvm.Cond := [Jvm.Cond.code x code maxLocals ret, Jvm.Cond.code ({ cls := "com/example/libtxsession/libtxsession/internal/session/PostgresInterval", name := "<init>", desc := "(JJJ)V" } : Jvm.MethodName) prog_35_method_1_code (7 : Nat) (Option.none : Option Jvm.ClassFile.FieldType), Jvm.Cond.code ({ cls := "java/lang/Record", name := "<init>", desc := "()V" } : Jvm.MethodName) jdk_30_method_1_code (1 : Nat) (Option.none : Option Jvm.ClassFile.FieldType), Jvm.Cond.code ({ cls := "java/lang/Object", name := "<init>", desc := "()V" } : Jvm.MethodName) object_method_1_code (1 : Nat) (Option.none : Option Jvm.ClassFile.FieldType), Jvm.Cond.code ({ cls := "com/example/libtxsession/libtxsession/internal/session/PostgresInterval", name := "duration", desc := "()Ljava/time/Duration;" } : Jvm.MethodName) prog_35_method_3_code (1 : Nat) (Option.some (Jvm.ClassFile.FieldType.object "java/time/Duration")), Jvm.Cond.code ({ cls := "java/time/Duration", name := "ofDays", desc := "(J)Ljava/time/Duration;" } : Jvm.MethodName) jdk_2316_method_1_code (2 : Nat) (Option.some (Jvm.ClassFile.FieldType.object "java/time/Duration")), Jvm.Cond.code ({ cls := "java/lang/Math", name := "multiplyExact", desc := "(JI)J" } : Jvm.MethodName) jdk_29_method_29_code (3 : Nat) (Option.some Jvm.ClassFile.FieldType.long), Jvm.Cond.code ({ cls := "java/lang/Math", name := "multiplyExact", desc := "(JJ)J" } : Jvm.MethodName) jdk_29_method_30_code (10 : Nat) (Option.some Jvm.ClassFile.FieldType.long), Jvm.Cond.code ({ cls := "java/lang/Math", name := "abs", desc := "(J)J" } : Jvm.MethodName) jdk_29_method_61_code (2 : Nat) (Option.some Jvm.ClassFile.FieldType.long), Jvm.Cond.code ({ cls := "java/time/Duration", name := "create", desc := "(JI)Ljava/time/Duration;" } : Jvm.MethodName) jdk_2316_method_16_code (3 : Nat) (Option.some (Jvm.ClassFile.FieldType.object "java/time/Duration")), Jvm.Cond.code ({ cls := "java/time/Duration", name := "<init>", desc := "(JI)V" } : Jvm.MethodName) jdk_2316_method_17_code (4 : Nat) (Option.none : Option Jvm.ClassFile.FieldType), Jvm.Cond.code ({ cls := "java/time/Duration", name := "plus", desc := "(JLjava/time/temporal/TemporalUnit;)Ljava/time/Duration;" } : Jvm.MethodName) jdk_2316_method_28_code (5 : Nat) (Option.some (Jvm.ClassFile.FieldType.object "java/time/Duration")), Jvm.Cond.code ({ cls := "java/util/Objects", name := "requireNonNull", desc := "(Ljava/lang/Object;Ljava/lang/String;)Ljava/lang/Object;" } : Jvm.MethodName) jdk_31_method_11_code (2 : Nat) (Option.some (Jvm.ClassFile.FieldType.object "java/lang/Object")), Jvm.Cond.code ({ cls := "java/time/temporal/ChronoUnit", name := "isDurationEstimated", desc := "()Z" } : Jvm.MethodName) jdk_2396_method_5_code (1 : Nat) (Option.some Jvm.ClassFile.FieldType.boolean), Jvm.Cond.code ({ cls := "java/lang/Enum", name := "compareTo", desc := "(Ljava/lang/Enum;)I" } : Jvm.MethodName) jdk_37_method_8_code (4 : Nat) (Option.some Jvm.ClassFile.FieldType.int), Jvm.Cond.code ({ cls := "java/lang/Enum", name := "ordinal", desc := "()I" } : Jvm.MethodName) jdk_37_method_2_code (1 : Nat) (Option.some Jvm.ClassFile.FieldType.int), Jvm.Cond.code ({ cls := "java/time/Duration", name := "plusSeconds", desc := "(J)Ljava/time/Duration;" } : Jvm.MethodName) jdk_2316_method_32_code (3 : Nat) (Option.some (Jvm.ClassFile.FieldType.object "java/time/Duration")), Jvm.Cond.code ({ cls := "java/time/Duration", name := "plus", desc := "(JJ)Ljava/time/Duration;" } : Jvm.MethodName) jdk_2316_method_35_code (9 : Nat) (Option.some (Jvm.ClassFile.FieldType.object "java/time/Duration")), Jvm.Cond.code ({ cls := "java/lang/Math", name := "addExact", desc := "(JJ)J" } : Jvm.MethodName) jdk_29_method_25_code (6 : Nat) (Option.some Jvm.ClassFile.FieldType.long), Jvm.Cond.code ({ cls := "java/time/Duration", name := "ofSeconds", desc := "(JJ)Ljava/time/Duration;" } : Jvm.MethodName) jdk_2316_method_5_code (7 : Nat) (Option.some (Jvm.ClassFile.FieldType.object "java/time/Duration")), Jvm.Cond.code ({ cls := "java/lang/Math", name := "floorDiv", desc := "(JJ)J" } : Jvm.MethodName) jdk_29_method_49_code (6 : Nat) (Option.some Jvm.ClassFile.FieldType.long), Jvm.Cond.code ({ cls := "java/lang/Math", name := "floorMod", desc := "(JJ)J" } : Jvm.MethodName) jdk_29_method_52_code (6 : Nat) (Option.some Jvm.ClassFile.FieldType.long), Jvm.Cond.code ({ cls := "java/time/Duration", name := "plusNanos", desc := "(J)Ljava/time/Duration;" } : Jvm.MethodName) jdk_2316_method_34_code (3 : Nat) (Option.some (Jvm.ClassFile.FieldType.object "java/time/Duration")), Jvm.Cond.code ({ cls := "java/time/Duration", name := "getSeconds", desc := "()J" } : Jvm.MethodName) jdk_2316_method_23_code (1 : Nat) (Option.some Jvm.ClassFile.FieldType.long), Jvm.Cond.code ({ cls := "java/time/Duration", name := "getNano", desc := "()I" } : Jvm.MethodName) jdk_2316_method_24_code (1 : Nat) (Option.some Jvm.ClassFile.FieldType.int)]
set_option maxRecDepth 65536 in
theorem codes_eq : words1.filter isCode = codes1 := rfl
theorem w_codes : ∀ c ∈ words1.filter isCode, c.before args0 about1 = true := by
  rw [codes_eq]
  intro c hc
  simp only [codes1, List.mem_cons, List.not_mem_nil, or_false] at hc
  rcases hc with rfl | rfl | rfl | rfl | rfl | rfl | rfl | rfl | rfl | rfl | rfl | rfl | rfl | rfl | rfl | rfl | rfl | rfl | rfl | rfl | rfl | rfl | rfl | rfl | rfl
  · exact w_c0
  · exact w_c1
  · exact w_c2
  · exact w_c3
  · exact w_c4
  · exact w_c5
  · exact w_c6
  · exact w_c7
  · exact w_c8
  · exact w_c9
  · exact w_c10
  · exact w_c11
  · exact w_c12
  · exact w_c13
  · exact w_c14
  · exact w_c15
  · exact w_c16
  · exact w_c17
  · exact w_c18
  · exact w_c19
  · exact w_c20
  · exact w_c21
  · exact w_c22
  · exact w_c23
  · exact w_c24
set_option maxRecDepth 65536 in
theorem w_t1 : (words1.take 24).all (fun c => isCode c || c.before args0 about1) = true := by decide +kernel
set_option maxRecDepth 65536 in
theorem w_t2 : ((words1.drop 24).take 24).all (fun c => isCode c || c.before args0 about1) = true := by decide +kernel
set_option maxRecDepth 65536 in
theorem w_t3 : (((words1.drop 24).drop 24).take 24).all (fun c => isCode c || c.before args0 about1) = true := by decide +kernel
set_option maxRecDepth 65536 in
theorem w_t4 : ((((words1.drop 24).drop 24).drop 24).take 24).all (fun c => isCode c || c.before args0 about1) = true := by decide +kernel
set_option maxRecDepth 65536 in
theorem w_t5 : (((((words1.drop 24).drop 24).drop 24).drop 24).take 24).all (fun c => isCode c || c.before args0 about1) = true := by decide +kernel
set_option maxRecDepth 65536 in
theorem w_t6 : ((((((words1.drop 24).drop 24).drop 24).drop 24).drop 24).take 24).all (fun c => isCode c || c.before args0 about1) = true := by decide +kernel
set_option maxRecDepth 65536 in
theorem w_t7 : ((((((words1.drop 24).drop 24).drop 24).drop 24).drop 24).drop 24).all (fun c => isCode c || c.before args0 about1) = true := by decide +kernel
theorem w_tables : (allAtoms (Jvm.Cond.code x code maxLocals ret :: tables_1)).before args0 about1 = true := by
  rw [allAtoms_all]
  show words1.all (fun c => c.before args0 about1) = true
  refine all_split ?_ w_codes
  rw [← List.take_append_drop 24 words1, List.all_append, w_t1, ← List.take_append_drop 24 (words1.drop 24), List.all_append, w_t2, ← List.take_append_drop 24 ((words1.drop 24).drop 24), List.all_append, w_t3, ← List.take_append_drop 24 (((words1.drop 24).drop 24).drop 24), List.all_append, w_t4, ← List.take_append_drop 24 ((((words1.drop 24).drop 24).drop 24).drop 24), List.all_append, w_t5, ← List.take_append_drop 24 (((((words1.drop 24).drop 24).drop 24).drop 24).drop 24), List.all_append, w_t6, w_t7]
  rfl
set_option maxRecDepth 65536 in
theorem w_rest : rest_1_c.before args0 about1 = true := by decide +kernel
set_option maxRecDepth 65536 in
theorem w_case : (Jvm.Cond.and given_1 narrow_1).before args0 about1 = true := by decide +kernel
theorem w_applies : (headSpec (Jvm.Cond.code x code maxLocals ret :: tables_1) room_1).applies x e0.platform about1 = true :=
  (Spec.applies_iff w_frames).mpr ⟨w_running, w_runnable, w_alone, w_named, w_hears, w_ripe, w_room, w_tables⟩
theorem atStart : AtStart classFile x code maxLocals ret World_1 tables_1 room_1 Calls_1 rest_1 Pre_1 launch0 p0 e0 about1 theMethod args0 below0 :=
  ⟨lists_1, trivial, launch0.admits_env _ _ _, launch0.least_env, fairChoices_fair.cas, fairChoices_fair.clock, w_frames, w_args, w_heap, w_applies, ⟨⟨12, k12, 3, by decide +kernel, rfl, rfl, _, rfl, rfl⟩, trivial⟩, w_rest, w_case⟩
end start1
theorem witness_1 : WitnessClaimed_1 := ⟨start1.p0, start1.e0, start1.about1, start1.theMethod, start1.args0, start1.below0, start1.atStart⟩
end Jvm.Pilot.@@N@@
