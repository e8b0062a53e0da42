import JvmDerived
import JvmDerived.Pilot.@@N@@Statement
import JvmDerived.Pilot.@@N@@Code
set_option linter.unusedVariables false
set_option linter.unusedSimpArgs false
namespace Jvm.Pilot.@@N@@
open Jvm Jvm.ClassFile Sem Op Lib Jvm.Free Jvm.Stand Jvm.LawKit Jvm.RoadKit Bundle Jvm.Pilot.@@N@@.Jvm.D
/-! a run that ends as a contract says: forks and joins go by it -/
def Goes (p : Program) (e : Env) (below : List Frame) (s : State) (Q : Option Value → Heap → List Loc → Prop) (kc ks : Nat) (A : State) : Prop :=
  ∃ s₂ o, Steps p.tables e below A s₂ ∧ s₂.status = .running ∧ Ended s₂ below o ∧ ∃ v L, o = .returned v ∧ Q v s₂.heap L ∧ FrameEnd s o s₂ L kc ks
section Go
variable {p : Program} {l : Launch} {e : Env} {R : Room} {s : State} {m : MethodId} {args : Array Value} {below : List Frame} {meth : Method} {c : Code} {T : State} {locs : List Loc} {cells slots kc ks : Nat} {Q : Option Value → Heap → List Loc → Prop}
theorem Goes.by {A B : State} (h : ∀ t, Steps p.tables e below B t → Steps p.tables e below A t) (k : Goes p e below s Q kc ks B) : Goes p e below s Q kc ks A := by
  obtain ⟨s₂, o, h1, h2⟩ := k
  exact ⟨s₂, o, h _ h1, h2⟩
theorem Goes.out (X : Stand p l e R s m args below meth c T locs cells slots) (hx : p.tables.exec = Jvm.exec) {pc : Nat} {Ls : Array Slot} {w : Value} {t : FieldType} {i : Instr} {rest : List Value} (hret : meth.sig.returnType = some t) (hn : narrow t w = w)
    (hi : (i = .ireturn ∧ (t = .int ∨ t = .boolean ∨ t = .byte ∨ t = .char ∨ t = .short) ∧ ∃ z, w = .int z) ∨ (i = .lreturn ∧ t = .long ∧ ∃ z, w = .long z) ∨ (i = .dreturn ∧ t = .double ∧ ∃ z, w = .double z) ∨ (i = .freturn ∧ t = .float ∧ ∃ z, w = .float z) ∨ (i = .areturn ∧ t.isReference = true ∧ w.isRef = true))
    (hd : decode c.code pc = .ok (i, 1)) (hlk : meth.locks = false) (hQ : Q (some w) T.heap locs) (hc : cells ≤ kc) (hs : slots ≤ ks) : Goes p e below s Q kc ks (T.setTop (mkF m pc Ls (w :: rest))) := by
  obtain ⟨fs, hr, hrun, hended, hW, hsame⟩ := X.leave (v := some w) (fun h => by rw [hret] at h; cases h) hlk
  exact ⟨_, _, retOut X hx hret hn hi hd hr, hrun, hended, _, _, rfl, hQ, ⟨_, rfl⟩, hW, hsame.mono hc hs⟩
theorem Goes.retI (X : Stand p l e R s m args below meth c T locs cells slots) (hx : p.tables.exec = Jvm.exec) {pc : Nat} {Ls : Array Slot} {z : Int32} {rest : List Value} (hret : meth.sig.returnType = some .int) (hn : True) (hd : decode c.code pc = .ok (.ireturn, 1)) (hlk : meth.locks = false) (hQ : Q (some (.int z)) T.heap locs) (hc : cells ≤ kc) (hs : slots ≤ ks) :
    Goes p e below s Q kc ks (T.setTop (mkF m pc Ls (.int z :: rest))) := Goes.out X hx hret rfl (Or.inl ⟨rfl, Or.inl rfl, z, rfl⟩) hd hlk hQ hc hs
theorem Goes.retN (X : Stand p l e R s m args below meth c T locs cells slots) (hx : p.tables.exec = Jvm.exec) {pc : Nat} {Ls : Array Slot} {z : Int32} {rest : List Value} (hret : meth.sig.returnType = some .boolean) (hn : narrow .boolean (.int z) = .int z) (hd : decode c.code pc = .ok (.ireturn, 1)) (hlk : meth.locks = false) (hQ : Q (some (.int z)) T.heap locs) (hc : cells ≤ kc) (hs : slots ≤ ks) :
    Goes p e below s Q kc ks (T.setTop (mkF m pc Ls (.int z :: rest))) := Goes.out X hx hret hn (Or.inl ⟨rfl, Or.inr (Or.inl rfl), z, rfl⟩) hd hlk hQ hc hs
theorem Goes.retL (X : Stand p l e R s m args below meth c T locs cells slots) (hx : p.tables.exec = Jvm.exec) {pc : Nat} {Ls : Array Slot} {z : Int64} {rest : List Value} (hret : meth.sig.returnType = some .long) (hn : True) (hd : decode c.code pc = .ok (.lreturn, 1)) (hlk : meth.locks = false) (hQ : Q (some (.long z)) T.heap locs) (hc : cells ≤ kc) (hs : slots ≤ ks) :
    Goes p e below s Q kc ks (T.setTop (mkF m pc Ls (.long z :: rest))) := Goes.out X hx hret rfl (Or.inr (Or.inl ⟨rfl, rfl, z, rfl⟩)) hd hlk hQ hc hs
theorem Goes.retD (X : Stand p l e R s m args below meth c T locs cells slots) (hx : p.tables.exec = Jvm.exec) {pc : Nat} {Ls : Array Slot} {z : UInt64} {rest : List Value} (hret : meth.sig.returnType = some .double) (hn : True) (hd : decode c.code pc = .ok (.dreturn, 1)) (hlk : meth.locks = false) (hQ : Q (some (.double z)) T.heap locs) (hc : cells ≤ kc) (hs : slots ≤ ks) :
    Goes p e below s Q kc ks (T.setTop (mkF m pc Ls (.double z :: rest))) := Goes.out X hx hret rfl (Or.inr (Or.inr (Or.inl ⟨rfl, rfl, z, rfl⟩))) hd hlk hQ hc hs
theorem Goes.retA (X : Stand p l e R s m args below meth c T locs cells slots) (hx : p.tables.exec = Jvm.exec) {pc : Nat} {Ls : Array Slot} {w : Value} {t : FieldType} {rest : List Value} (hret : meth.sig.returnType = some t) (ht : t.isReference = true) (hw : w.isRef = true) (hd : decode c.code pc = .ok (.areturn, 1)) (hlk : meth.locks = false) (hQ : Q (some w) T.heap locs) (hc : cells ≤ kc) (hs : slots ≤ ks) :
    Goes p e below s Q kc ks (T.setTop (mkF m pc Ls (w :: rest))) := Goes.out X hx hret (by rcases ref_cases hw with rfl | ⟨a, rfl⟩ <;> cases t <;> first | rfl | (simp [FieldType.isReference] at ht)) (Or.inr (Or.inr (Or.inr (Or.inr ⟨rfl, ht, hw⟩)))) hd hlk hQ hc hs
theorem Goes.retV (X : Stand p l e R s m args below meth c T locs cells slots) (hx : p.tables.exec = Jvm.exec) {pc : Nat} {Ls : Array Slot} (hret : meth.sig.returnType = none) (hd : decode c.code pc = .ok (.return_, 1)) (hlk : meth.locks = false) (hQ : Q none T.heap locs) (hc : cells ≤ kc) (hs : slots ≤ ks) :
    Goes p e below s Q kc ks (T.setTop (mkF m pc Ls [])) := by
  obtain ⟨fs, hr, hrun, hended, hW, hsame⟩ := X.leave (v := none) (fun _ => rfl) hlk
  exact ⟨_, _, X.returnOut hx hret hd hr, hrun, hended, _, _, rfl, hQ, ⟨_, rfl⟩, hW, hsame.mono hc hs⟩
end Go
/-! the same for a run that may intern: the wide end -/
def GoesW (p : Program) (e : Env) (below : List Frame) (s : State) (Q : Option Value → Heap → List Loc → Prop) (kc ks : Nat) (A : State) : Prop :=
  ∃ s₂ o, Steps p.tables e below A s₂ ∧ s₂.status = .running ∧ Ended s₂ below o ∧ ∃ v L, o = .returned v ∧ Q v s₂.heap L ∧ ReturnedEndW s o s₂ L kc ks
section GoW
variable {p : Program} {l : Launch} {e : Env} {R : Room} {s : State} {vm0 : Vm} {k0 : Nat} {m : MethodId} {args : Array Value} {below : List Frame} {meth : Method} {c : Code} {T : State} {locs : List Loc} {cells slots kc ks : Nat} {Q : Option Value → Heap → List Loc → Prop}
theorem GoesW.by {A B : State} (h : ∀ t, Steps p.tables e below B t → Steps p.tables e below A t) (k : GoesW p e below s Q kc ks B) : GoesW p e below s Q kc ks A := by
  obtain ⟨s₂, o, h1, h2⟩ := k
  exact ⟨s₂, o, h _ h1, h2⟩
theorem GoesW.out (X : Stand p l e R (s.setVm vm0) m args below meth c T locs cells slots) (hS : s.Since vm0 k0) (hk : k0 ≤ T.heap.size) (hx : p.tables.exec = Jvm.exec) {pc : Nat} {Ls : Array Slot} {w : Value} {t : FieldType} {i : Instr} {rest : List Value} (hret : meth.sig.returnType = some t) (hn : narrow t w = w)
    (hi : (i = .ireturn ∧ (t = .int ∨ t = .boolean ∨ t = .byte ∨ t = .char ∨ t = .short) ∧ ∃ z, w = .int z) ∨ (i = .lreturn ∧ t = .long ∧ ∃ z, w = .long z) ∨ (i = .dreturn ∧ t = .double ∧ ∃ z, w = .double z) ∨ (i = .freturn ∧ t = .float ∧ ∃ z, w = .float z) ∨ (i = .areturn ∧ t.isReference = true ∧ w.isRef = true))
    (hd : decode c.code pc = .ok (i, 1)) (hlk : meth.locks = false) (hQ : Q (some w) T.heap locs) (hc : cells ≤ kc) (hs : slots ≤ ks) : GoesW p e below s Q kc ks (T.setTop (mkF m pc Ls (w :: rest))) := by
  obtain ⟨fs, hr, hrun, hended, hE⟩ := X.leaveW hS hk (v := some w) (fun h => by rw [hret] at h; cases h) hlk
  exact ⟨_, _, retOut X hx hret hn hi hd hr, hrun, hended, _, _, rfl, hQ, hE.1, hE.2.1, hE.2.2.1, hE.2.2.2.mono hc hs⟩
theorem GoesW.retN (X : Stand p l e R (s.setVm vm0) m args below meth c T locs cells slots) (hS : s.Since vm0 k0) (hk : k0 ≤ T.heap.size) (hx : p.tables.exec = Jvm.exec) {pc : Nat} {Ls : Array Slot} {z : Int32} {rest : List Value} (hret : meth.sig.returnType = some .boolean) (hn : narrow .boolean (.int z) = .int z) (hd : decode c.code pc = .ok (.ireturn, 1)) (hlk : meth.locks = false) (hQ : Q (some (.int z)) T.heap locs) (hc : cells ≤ kc) (hs : slots ≤ ks) :
    GoesW p e below s Q kc ks (T.setTop (mkF m pc Ls (.int z :: rest))) := GoesW.out X hS hk hx hret hn (Or.inl ⟨rfl, Or.inr (Or.inl rfl), z, rfl⟩) hd hlk hQ hc hs
theorem GoesW.retA (X : Stand p l e R (s.setVm vm0) m args below meth c T locs cells slots) (hS : s.Since vm0 k0) (hk : k0 ≤ T.heap.size) (hx : p.tables.exec = Jvm.exec) {pc : Nat} {Ls : Array Slot} {w : Value} {t : FieldType} {rest : List Value} (hret : meth.sig.returnType = some t) (ht : t.isReference = true) (hw : w.isRef = true) (hd : decode c.code pc = .ok (.areturn, 1)) (hlk : meth.locks = false) (hQ : Q (some w) T.heap locs) (hc : cells ≤ kc) (hs : slots ≤ ks) :
    GoesW p e below s Q kc ks (T.setTop (mkF m pc Ls (w :: rest))) := GoesW.out X hS hk hx hret (by rcases ref_cases hw with rfl | ⟨a, rfl⟩ <;> cases t <;> first | rfl | (simp [FieldType.isReference] at ht)) (Or.inr (Or.inr (Or.inr (Or.inr ⟨rfl, ht, hw⟩)))) hd hlk hQ hc hs
theorem GoesW.retV (X : Stand p l e R (s.setVm vm0) m args below meth c T locs cells slots) (hS : s.Since vm0 k0) (hk : k0 ≤ T.heap.size) (hx : p.tables.exec = Jvm.exec) {pc : Nat} {Ls : Array Slot} (hret : meth.sig.returnType = none) (hd : decode c.code pc = .ok (.return_, 1)) (hlk : meth.locks = false) (hQ : Q none T.heap locs) (hc : cells ≤ kc) (hs : slots ≤ ks) :
    GoesW p e below s Q kc ks (T.setTop (mkF m pc Ls [])) := by
  obtain ⟨fs, hr, hrun, hended, hE⟩ := X.leaveW hS hk (v := none) (fun _ => rfl) hlk
  exact ⟨_, _, X.returnOut hx hret hd hr, hrun, hended, _, _, rfl, hQ, hE.1, hE.2.1, hE.2.2.1, hE.2.2.2.mono hc hs⟩
end GoW

theorem own_eqInt {t : Term} {k : Int32} {args : Array Value} {s : State} {v : Option Value} (he : t.eval args s none [] s = v) (h : (Jvm.Cond.eq t (.int k)).value args s none s [] = some true) : v = some (.int k) := by
  subst he
  obtain ⟨x, y, h1, h2, h3, -⟩ := cmp_v (Or.inl h)
  rw [Term.int_eval] at h2
  obtain rfl := Option.some.inj h2
  cases x <;> simp [Kin, Value.isRef] at h3
  rename_i z
  have := gotT (P := z = k) (by simp [Cond.value, h1, Term.int_eval]) h
  rw [h1, this]
theorem own_lenOf {t : Term} {a : Addr} {c : Cell} {args : Array Value} {s : State} {v : Value} (ht : t.eval args s none [] s = some (.ref a)) (hc : s.heap[a]? = some c) (h : (Term.length t).eval args s none [] s = some v) : v = .int c.slots.size.toInt32 ∧ c.slots.size < 2147483648 := by
  obtain ⟨a', cell, e1, e2, e3⟩ := Term.length_spec h
  cases ht.symm.trans e1
  have hcell : s.heap[a]? = some cell := by
    simp only [State.arrayAt?, Option.bind_eq_bind, Option.bind_eq_some_iff] at e2
    obtain ⟨c', h1, k, h2, h3⟩ := e2
    rw [h1]
    split at h3
    · cases h3
    · split at h3
      · exact h3
      · cases h3
  cases hc.symm.trans hcell
  refine ⟨e3, ?_⟩
  simp only [Term.eval, ht, Option.bind_eq_bind, Option.bind_some, e2] at h
  split at h
  · assumption
  · cases h
theorem own_sizeOf {t : Term} {a : Addr} {c : Cell} {args : Array Value} {s : State} {z : Int32} {n : Nat} (ht : t.eval args s none [] s = some (.ref a)) (hc : s.heap[a]? = some c) (h : (Term.length t).eval args s none [] s = some (.int z)) (hz : z.toInt = n) : c.slots.size = n := by
  obtain ⟨e, hl⟩ := own_lenOf ht hc h
  have e2 : z = c.slots.size.toInt32 := by cases e; rfl
  have e3 := len_toInt hl
  rw [← e2, hz] at e3
  omega
theorem own_elemOf {t : Term} {a : Addr} {c : Cell} {args : Array Value} {s : State} {j v : Int32} {i : Nat} (ht : t.eval args s none [] s = some (.ref a)) (hc : s.heap[a]? = some c) (h : (Jvm.Cond.eq (.elem t (.int j)) (.int v)).value args s none s [] = some true) (hj : j.toNatClampNeg = i) : c.slots[i]? = some (.int v) := by
  have h1 := own_eqInt (t := .elem t (.int j)) rfl h
  have h2 := (elem_in h1 ht (Term.int_eval j) hc).2
  rw [hj] at h2
  exact h2
/-! byte arrays by their length and a function -/
def BA (Z : State) (h : Heap) (a : Addr) (n : Nat) (f : Nat → Int32) : Prop := ∃ c : Cell, Arr Z h a c .byte ∧ c.slots.size = n ∧ ∀ i, i < n → c.slots[i]? = some (.int (f i))
section BAs
variable {Z : State} {h h' : Heap} {a b : Addr} {n : Nat} {f : Nat → Int32} {sl : Nat} {v : Value} {ws : List Addr}
theorem BA.lt (A : BA Z h a n f) : a < h.size := by obtain ⟨c, A, -⟩ := A; exact A.lt
theorem BA.ext (A : BA Z h a n f) (E : Ext h h') : BA Z h' a n f := by obtain ⟨c, A, q⟩ := A; exact ⟨c, A.ext E, q⟩
theorem BA.other (A : BA Z h b n f) (W : Wr h h' a sl v) (q : b ≠ a) : BA Z h' b n f := by obtain ⟨c, A, r⟩ := A; exact ⟨c, A.other W q, r⟩
theorem BA.keep (A : BA Z h a n f) (K : Keep h h' ws) (q : a ∉ ws) : BA Z h' a n f := by obtain ⟨c, A, r⟩ := A; exact ⟨c, ⟨K.2.1 a c A.1 q, A.2⟩, r⟩
theorem BA.of_arv {k : ClassId} {z : Int32} {vs : List Value} {dv : Value} (A : Arv Z h a k .byte z vs dv) (hz : z.toNatClampNeg = n) (hv : ∀ i, i < n → vs.getD i dv = .int (f i)) : BA Z h a n f := by
  obtain ⟨c, A, -, S, -, H, -⟩ := A
  exact ⟨c, A, S.trans hz, fun i hi => by rw [H i (by omega), hv i hi]⟩
end BAs
section BASteps
variable {p : Program} {l : Launch} {e : Env} {R : Room} {s : State} {m : MethodId} {args : Array Value} {below : List Frame} {meth : Method} {c : Code} {T : State} {locs : List Loc} {cells slots : Nat} {Z : State} {a0 : Array Value} {h : Heap} {a : Addr} {n : Nat} {f : Nat → Int32}
theorem own_baload (X : Stand p l e R s m args below meth c T locs cells slots) (hx : p.tables.exec = Jvm.exec) (hZ : Z.Warmed39 s.vm) (eT : T.heap = h) (A : BA Z h a n f) {i : Nat} (hi : i < n) (hn : n < 2147483648) {g : JFrame} (hg : g.method = m) {rest : List Value} (hs : g.stack = .int (Int32.ofNat i) :: .ref a :: rest) (hd : decode c.code g.pc = .ok (.baload, 1)) {target : State}
    (hr : Steps p.tables e below (T.setTop { g with pc := g.pc + 1, stack := .int (f i) :: rest }) target) : Steps p.tables e below (T.setTop g) target := by
  obtain ⟨cl, A, S, H⟩ := A
  exact X.baloadBytes hx (j := Int32.ofNat i) (v := .int (f i)) (by rw [eT]; exact A.1) (State.isArrayOf_alike hZ.alike A.2.1) A.2.2 (by rw [S]; exact within rfl hi hn) (by rw [clamp_of (c := i) rfl (by omega)]; exact H i hi) hg hs hd _ hr
theorem own_lenB (X : Stand p l e R s m args below meth c T locs cells slots) (hx : p.tables.exec = Jvm.exec) (hZ : Z.Warmed39 s.vm) (eT : T.heap = h) (A : BA Z h a n f) {g : JFrame} (hg : g.method = m) {rest : List Value} (hs : g.stack = .ref a :: rest) (hd : decode c.code g.pc = .ok (.arraylength, 1)) {target : State}
    (hr : Steps p.tables e below (T.setTop { g with pc := g.pc + 1, stack := .int (Int32.ofNat n) :: rest }) target) : Steps p.tables e below (T.setTop g) target := by
  obtain ⟨cl, A, S, H⟩ := A
  refine X.arraylength hx (by rw [eT]; exact A.1) (State.isArrayOf_alike hZ.alike A.2.1) hg hs hd _ ?_
  rw [S]; exact hr
end BASteps
theorem own_ltN {i m : Nat} (h : i < m) (hm : m < 2147483648) : Int32.ofNat i < Int32.ofNat m := by
  rw [Int32.lt_iff_toInt_lt, toInt_of (n := Int32.ofNat i) (c := i) rfl (by omega), toInt_of (n := Int32.ofNat m) (c := m) rfl (by omega)]; omega
theorem own_nltN {i m : Nat} (h : ¬ i < m) (hi : i < 2147483648) : ¬ Int32.ofNat i < Int32.ofNat m := by
  rw [Int32.lt_iff_toInt_lt, toInt_of (n := Int32.ofNat i) (c := i) rfl (by omega), toInt_of (n := Int32.ofNat m) (c := m) rfl (by omega)]; omega

theorem pd_0 : parseMethodDescriptor "(Lcom/example/vestwright/vestwright/plan/Basis;)Lcom/example/vestwright/vestwright/census/Census$Amount;" = some ⟨[(.object "com/example/vestwright/vestwright/plan/Basis")], some (.object "com/example/vestwright/vestwright/census/Census$Amount")⟩ := by decide +kernel
theorem pd_1 : parseMethodDescriptor "()I" = some ⟨[], some .int⟩ := by decide +kernel
theorem pd_2 : parseMethodDescriptor "()Ljava/lang/String;" = some ⟨[], some (.object "java/lang/String")⟩ := by decide +kernel
theorem pd_3 : parseMethodDescriptor "(Ljava/lang/Object;)Z" = some ⟨[(.object "java/lang/Object")], some .boolean⟩ := by decide +kernel
theorem pd_4 : parseMethodDescriptor "([B[B)Z" = some ⟨[(.array .byte), (.array .byte)], some .boolean⟩ := by decide +kernel
def Q5 (h0 : Heap) (n0 : Nat) (v : Option Value) (h : Heap) (L : List Loc) : Prop := v = some (.int 1) ∧ Fr n0 L ∧ h = h0
theorem d5_0 : decode jdk_43_method_13_code 0 = .ok (.aload_n 0, 1) := by decide +kernel
theorem d5_1 : decode jdk_43_method_13_code 1 = .ok (.arraylength, 1) := by decide +kernel
theorem d5_2 : decode jdk_43_method_13_code 2 = .ok (.aload_n 1, 1) := by decide +kernel
theorem d5_3 : decode jdk_43_method_13_code 3 = .ok (.arraylength, 1) := by decide +kernel
theorem d5_4 : decode jdk_43_method_13_code 4 = .ok (.if_icmp .ne 30, 3) := by decide +kernel
theorem d5_7 : decode jdk_43_method_13_code 7 = .ok (.iconst 0, 1) := by decide +kernel
theorem d5_8 : decode jdk_43_method_13_code 8 = .ok (.istore_n 2, 1) := by decide +kernel
theorem d5_9 : decode jdk_43_method_13_code 9 = .ok (.iload_n 2, 1) := by decide +kernel
theorem d5_10 : decode jdk_43_method_13_code 10 = .ok (.aload_n 0, 1) := by decide +kernel
theorem d5_11 : decode jdk_43_method_13_code 11 = .ok (.arraylength, 1) := by decide +kernel
theorem d5_12 : decode jdk_43_method_13_code 12 = .ok (.if_icmp .ge 20, 3) := by decide +kernel
theorem d5_15 : decode jdk_43_method_13_code 15 = .ok (.aload_n 0, 1) := by decide +kernel
theorem d5_16 : decode jdk_43_method_13_code 16 = .ok (.iload_n 2, 1) := by decide +kernel
theorem d5_17 : decode jdk_43_method_13_code 17 = .ok (.baload, 1) := by decide +kernel
theorem d5_18 : decode jdk_43_method_13_code 18 = .ok (.aload_n 1, 1) := by decide +kernel
theorem d5_19 : decode jdk_43_method_13_code 19 = .ok (.iload_n 2, 1) := by decide +kernel
theorem d5_20 : decode jdk_43_method_13_code 20 = .ok (.baload, 1) := by decide +kernel
theorem d5_21 : decode jdk_43_method_13_code 21 = .ok (.if_icmp .eq 5, 3) := by decide +kernel
theorem d5_24 : decode jdk_43_method_13_code 24 = .ok (.iconst 0, 1) := by decide +kernel
theorem d5_25 : decode jdk_43_method_13_code 25 = .ok (.ireturn, 1) := by decide +kernel
theorem d5_26 : decode jdk_43_method_13_code 26 = .ok (.iinc 2 1, 3) := by decide +kernel
theorem d5_29 : decode jdk_43_method_13_code 29 = .ok (.goto (-20), 3) := by decide +kernel
theorem d5_32 : decode jdk_43_method_13_code 32 = .ok (.iconst 1, 1) := by decide +kernel
theorem d5_33 : decode jdk_43_method_13_code 33 = .ok (.ireturn, 1) := by decide +kernel
theorem d5_34 : decode jdk_43_method_13_code 34 = .ok (.iconst 0, 1) := by decide +kernel
theorem d5_35 : decode jdk_43_method_13_code 35 = .ok (.ireturn, 1) := by decide +kernel
theorem pn_0 : plainName "java/lang/StringLatin1" = true := by first | (simp [plainName, overriddenIn]; done) | decide +kernel
theorem ef_rm5 (m : MethodId) (x0 : Addr) (x1 : Addr) : entryFrame m #[(.ref x0), (.ref x1)] 3 = mkF m 0 #[.val (.ref x0), .val (.ref x1), .unset] [] := by first | (simp [entryFrame, mkF, argsToLocals, Value.category]; done) | rfl
set_option maxRecDepth 65536 in
set_option maxHeartbeats 40000000 in
theorem rm5 (l : Launch) (Z : State) (a0 : Array Value) (hw : ∀ d ∈ tables_1, d.before a0 Z = true) (ws : List Jvm.Cond) (t1 t2 : Addr) (n : Nat) (f : Nat → Int32) (h0 : Heap) (n0 : Nat) (Z0 : n0 ≤ h0.size) (hn : n < 2147483648) (B1 : BA Z h0 t1 n f) (B2 : BA Z h0 t2 n f) :
    MetFree l (⟨"java/lang/StringLatin1", "equals", "([B[B)Z"⟩ : MethodName) (head1 (Jvm.Cond.code (⟨"java/lang/StringLatin1", "equals", "([B[B)Z"⟩ : MethodName) jdk_43_method_13_code 3 (some .boolean) :: ws) ({ frames := 0, cells := 0, slots := 0, locals := 0 } : Room)) (fun a U => a = #[(.ref t1), (.ref t2)] ∧ Z.Warmed39 U.vm ∧ U.heap = h0) (fun _ _ _ _ _ => True) (fun _ U o U' => ∃ v L, o = .returned v ∧ (Q5 h0 n0) v U'.heap L ∧ FrameEnd U o U' L ({ frames := 0, cells := 0, slots := 0, locals := 0 } : Room).cells ({ frames := 0, cells := 0, slots := 0, locals := 0 } : Room).slots) := by
  refine MetFree.of_bodySF (plainFor_of_name pn_0) hisR ?_
  intro p e s m args below meth c s₁ Bd hml0 hP hK
  obtain ⟨rfl, hZ, hh⟩ := hP
  have hx := Bd.exec
  have hby := Bd.bytes
  have hlk : meth.locks = false := BodyLoose.notSynchronized Bd
  have hml : c.maxLocals = 3 := hml0
  have hown : s.vm.findClass "java/lang/StringLatin1" = some m.cls := findClass_of_methodNamed Bd.named
  have hnm := (name_of_methodNamed Bd.named Bd.method).1
  have X0 : Stand p l e ({ frames := 0, cells := 0, slots := 0, locals := 0 } : Room) s m #[(.ref t1), (.ref t2)] below meth c s₁ [] 0 0 := Stand.of_body Bd
  have e0 : s₁.heap = h0 := by rw [← hh, Bd.state]; rfl
  have N0 := Fr.nil n0
  show Goes p e below s (Q5 h0 n0) ({ frames := 0, cells := 0, slots := 0, locals := 0 } : Room).cells ({ frames := 0, cells := 0, slots := 0, locals := 0 } : Room).slots (s₁.setTop (entryFrame m #[(.ref t1), (.ref t2)] 3))
  refine Goes.by (fun t k => castTop (ef_rm5 m t1 t2) k) ?_
  show Goes p e below s _ _ _ (s₁.setTop (mkF m 0 #[.val (.ref t1), .val (.ref t2), .unset] []))
  refine Goes.by (fun t k => XS.aloadN X0.here hx rfl (hb hby d5_0) rfl rfl k) ?_
  show Goes p e below s _ _ _ (s₁.setTop (mkF m 1 #[.val (.ref t1), .val (.ref t2), .unset] [(.ref t1)]))
  refine Goes.by (fun t k => own_lenB X0 hx hZ e0 (B1) (g := (mkF m 1 #[.val (.ref t1), .val (.ref t2), .unset] [(.ref t1)])) rfl rfl (hb hby d5_1) k) ?_
  show Goes p e below s _ _ _ (s₁.setTop (mkF m 2 #[.val (.ref t1), .val (.ref t2), .unset] [(.int (Int32.ofNat n))]))
  refine Goes.by (fun t k => XS.aloadN X0.here hx rfl (hb hby d5_2) rfl rfl k) ?_
  show Goes p e below s _ _ _ (s₁.setTop (mkF m 3 #[.val (.ref t1), .val (.ref t2), .unset] [(.ref t2), (.int (Int32.ofNat n))]))
  refine Goes.by (fun t k => own_lenB X0 hx hZ e0 (B2) (g := (mkF m 3 #[.val (.ref t1), .val (.ref t2), .unset] [(.ref t2), (.int (Int32.ofNat n))])) rfl rfl (hb hby d5_3) k) ?_
  show Goes p e below s _ _ _ (s₁.setTop (mkF m 4 #[.val (.ref t1), .val (.ref t2), .unset] [(.int (Int32.ofNat n)), (.int (Int32.ofNat n))]))
  refine Goes.by (fun t k => XS.icmpNo X0.here hx rfl (hb hby d5_4) rfl (teq (rfl)).2 k) ?_
  show Goes p e below s _ _ _ (s₁.setTop (mkF m 7 #[.val (.ref t1), .val (.ref t2), .unset] []))
  refine Goes.by (fun t k => XS.iconst X0.here hx rfl (hb hby d5_7) k) ?_
  show Goes p e below s _ _ _ (s₁.setTop (mkF m 8 #[.val (.ref t1), .val (.ref t2), .unset] [(.int (0 : Int32))]))
  refine Goes.by (fun t k => XS.istoreN X0.here hx rfl (hb hby d5_8) rfl (l' := #[.val (.ref t1), .val (.ref t2), .val (.int (0 : Int32))]) rfl k) ?_
  show Goes p e below s _ _ _ (s₁.setTop (mkF m 9 #[.val (.ref t1), .val (.ref t2), .val (.int (0 : Int32))] []))
  show Goes p e below s _ _ _ (s₁.setTop (mkF m 9 #[.val (.ref t1), .val (.ref t2), .val (.int (Int32.ofNat 0))] []))
  have L1 : ∀ k i : Nat, i + k = n → Goes p e below s (Q5 h0 n0) ({ frames := 0, cells := 0, slots := 0, locals := 0 } : Room).cells ({ frames := 0, cells := 0, slots := 0, locals := 0 } : Room).slots (s₁.setTop (mkF m 9 #[.val (.ref t1), .val (.ref t2), .val (.int (Int32.ofNat i))] [])) := by
    intro k
    induction k with
    | succ k ih =>
      intro i hik
      show Goes p e below s _ _ _ (s₁.setTop (mkF m 9 #[.val (.ref t1), .val (.ref t2), .val (.int (Int32.ofNat i))] []))
      refine Goes.by (fun t k => XS.iloadN X0.here hx rfl (hb hby d5_9) rfl k) ?_
      show Goes p e below s _ _ _ (s₁.setTop (mkF m 10 #[.val (.ref t1), .val (.ref t2), .val (.int (Int32.ofNat i))] [(.int (Int32.ofNat i))]))
      refine Goes.by (fun t k => XS.aloadN X0.here hx rfl (hb hby d5_10) rfl rfl k) ?_
      show Goes p e below s _ _ _ (s₁.setTop (mkF m 11 #[.val (.ref t1), .val (.ref t2), .val (.int (Int32.ofNat i))] [(.ref t1), (.int (Int32.ofNat i))]))
      refine Goes.by (fun t k => own_lenB X0 hx hZ e0 (B1) (g := (mkF m 11 #[.val (.ref t1), .val (.ref t2), .val (.int (Int32.ofNat i))] [(.ref t1), (.int (Int32.ofNat i))])) rfl rfl (hb hby d5_11) k) ?_
      show Goes p e below s _ _ _ (s₁.setTop (mkF m 12 #[.val (.ref t1), .val (.ref t2), .val (.int (Int32.ofNat i))] [(.int (Int32.ofNat n)), (.int (Int32.ofNat i))]))
      refine Goes.by (fun t k => XS.icmpNo X0.here hx rfl (hb hby d5_12) rfl (tlt (own_ltN (by omega) hn)).2.1 k) ?_
      show Goes p e below s _ _ _ (s₁.setTop (mkF m 15 #[.val (.ref t1), .val (.ref t2), .val (.int (Int32.ofNat i))] []))
      refine Goes.by (fun t k => XS.aloadN X0.here hx rfl (hb hby d5_15) rfl rfl k) ?_
      show Goes p e below s _ _ _ (s₁.setTop (mkF m 16 #[.val (.ref t1), .val (.ref t2), .val (.int (Int32.ofNat i))] [(.ref t1)]))
      refine Goes.by (fun t k => XS.iloadN X0.here hx rfl (hb hby d5_16) rfl k) ?_
      show Goes p e below s _ _ _ (s₁.setTop (mkF m 17 #[.val (.ref t1), .val (.ref t2), .val (.int (Int32.ofNat i))] [(.int (Int32.ofNat i)), (.ref t1)]))
      refine Goes.by (fun t k => own_baload X0 hx hZ e0 (B1) (i := i) (by omega) hn (g := (mkF m 17 #[.val (.ref t1), .val (.ref t2), .val (.int (Int32.ofNat i))] [(.int (Int32.ofNat i)), (.ref t1)])) rfl rfl (hb hby d5_17) k) ?_
      show Goes p e below s _ _ _ (s₁.setTop (mkF m 18 #[.val (.ref t1), .val (.ref t2), .val (.int (Int32.ofNat i))] [(.int (f i))]))
      refine Goes.by (fun t k => XS.aloadN X0.here hx rfl (hb hby d5_18) rfl rfl k) ?_
      show Goes p e below s _ _ _ (s₁.setTop (mkF m 19 #[.val (.ref t1), .val (.ref t2), .val (.int (Int32.ofNat i))] [(.ref t2), (.int (f i))]))
      refine Goes.by (fun t k => XS.iloadN X0.here hx rfl (hb hby d5_19) rfl k) ?_
      show Goes p e below s _ _ _ (s₁.setTop (mkF m 20 #[.val (.ref t1), .val (.ref t2), .val (.int (Int32.ofNat i))] [(.int (Int32.ofNat i)), (.ref t2), (.int (f i))]))
      refine Goes.by (fun t k => own_baload X0 hx hZ e0 (B2) (i := i) (by omega) hn (g := (mkF m 20 #[.val (.ref t1), .val (.ref t2), .val (.int (Int32.ofNat i))] [(.int (Int32.ofNat i)), (.ref t2), (.int (f i))])) rfl rfl (hb hby d5_20) k) ?_
      show Goes p e below s _ _ _ (s₁.setTop (mkF m 21 #[.val (.ref t1), .val (.ref t2), .val (.int (Int32.ofNat i))] [(.int (f i)), (.int (f i))]))
      refine Goes.by (fun t k => XS.icmpYes X0.here hx rfl (pc0 := 21) (pc' := 26) rfl (hb hby d5_21) rfl (teq (rfl)).1 (by decide) (by decide) k) ?_
      show Goes p e below s _ _ _ (s₁.setTop (mkF m 26 #[.val (.ref t1), .val (.ref t2), .val (.int (Int32.ofNat i))] []))
      refine Goes.by (fun t k => XS.iinc X0.here hx rfl (hb hby d5_26) rfl (l' := #[.val (.ref t1), .val (.ref t2), .val (.int ((Int32.ofNat i) + (1 : Int32)))]) rfl k) ?_
      show Goes p e below s _ _ _ (s₁.setTop (mkF m 29 #[.val (.ref t1), .val (.ref t2), .val (.int ((Int32.ofNat i) + (1 : Int32)))] []))
      refine Goes.by (fun t k => XS.goto X0.here hx rfl (pc0 := 29) (pc' := 9) rfl (hb hby d5_29) (by decide) (by decide) k) ?_
      show Goes p e below s _ _ _ (s₁.setTop (mkF m 9 #[.val (.ref t1), .val (.ref t2), .val (.int ((Int32.ofNat i) + (1 : Int32)))] []))
      rw [← inc_ofNat]
      exact ih (i + 1) (by omega)
    | zero =>
      intro i hik
      obtain rfl : i = n := by omega
      show Goes p e below s _ _ _ (s₁.setTop (mkF m 9 #[.val (.ref t1), .val (.ref t2), .val (.int (Int32.ofNat i))] []))
      refine Goes.by (fun t k => XS.iloadN X0.here hx rfl (hb hby d5_9) rfl k) ?_
      show Goes p e below s _ _ _ (s₁.setTop (mkF m 10 #[.val (.ref t1), .val (.ref t2), .val (.int (Int32.ofNat i))] [(.int (Int32.ofNat i))]))
      refine Goes.by (fun t k => XS.aloadN X0.here hx rfl (hb hby d5_10) rfl rfl k) ?_
      show Goes p e below s _ _ _ (s₁.setTop (mkF m 11 #[.val (.ref t1), .val (.ref t2), .val (.int (Int32.ofNat i))] [(.ref t1), (.int (Int32.ofNat i))]))
      refine Goes.by (fun t k => own_lenB X0 hx hZ e0 (B1) (g := (mkF m 11 #[.val (.ref t1), .val (.ref t2), .val (.int (Int32.ofNat i))] [(.ref t1), (.int (Int32.ofNat i))])) rfl rfl (hb hby d5_11) k) ?_
      show Goes p e below s _ _ _ (s₁.setTop (mkF m 12 #[.val (.ref t1), .val (.ref t2), .val (.int (Int32.ofNat i))] [(.int (Int32.ofNat i)), (.int (Int32.ofNat i))]))
      refine Goes.by (fun t k => XS.icmpYes X0.here hx rfl (pc0 := 12) (pc' := 32) rfl (hb hby d5_12) rfl (flt (own_nltN (by omega) hn)).2.1 (by decide) (by decide) k) ?_
      show Goes p e below s _ _ _ (s₁.setTop (mkF m 32 #[.val (.ref t1), .val (.ref t2), .val (.int (Int32.ofNat i))] []))
      refine Goes.by (fun t k => XS.iconst X0.here hx rfl (hb hby d5_32) k) ?_
      show Goes p e below s _ _ _ (s₁.setTop (mkF m 33 #[.val (.ref t1), .val (.ref t2), .val (.int (Int32.ofNat i))] [(.int (1 : Int32))]))
      exact Goes.retN X0 hx Bd.returns rfl (hb hby d5_33) hlk (by rw [e0]; exact ⟨rfl, N0, rfl⟩) (by decide) (by decide)
  exact L1 n 0 (by omega)
theorem d4_0 : decode jdk_42_method_66_code 0 = .ok (.aload_n 0, 1) := by decide +kernel
theorem d4_1 : decode jdk_42_method_66_code 1 = .ok (.aload_n 1, 1) := by decide +kernel
theorem d4_2 : decode jdk_42_method_66_code 2 = .ok (.if_acmp .ne 5, 3) := by decide +kernel
theorem d4_5 : decode jdk_42_method_66_code 5 = .ok (.iconst 1, 1) := by decide +kernel
theorem d4_6 : decode jdk_42_method_66_code 6 = .ok (.ireturn, 1) := by decide +kernel
theorem d4_7 : decode jdk_42_method_66_code 7 = .ok (.aload_n 1, 1) := by decide +kernel
theorem d4_8 : decode jdk_42_method_66_code 8 = .ok (.instanceof 10, 3) := by decide +kernel
theorem d4_11 : decode jdk_42_method_66_code 11 = .ok (.ifCond .eq 43, 3) := by decide +kernel
theorem d4_14 : decode jdk_42_method_66_code 14 = .ok (.aload_n 1, 1) := by decide +kernel
theorem d4_15 : decode jdk_42_method_66_code 15 = .ok (.checkcast 10, 3) := by decide +kernel
theorem d4_18 : decode jdk_42_method_66_code 18 = .ok (.astore_n 2, 1) := by decide +kernel
theorem d4_19 : decode jdk_42_method_66_code 19 = .ok (.getstatic 38, 3) := by decide +kernel
theorem d4_22 : decode jdk_42_method_66_code 22 = .ok (.ifCond .eq 14, 3) := by decide +kernel
theorem d4_25 : decode jdk_42_method_66_code 25 = .ok (.aload_n 0, 1) := by decide +kernel
theorem d4_26 : decode jdk_42_method_66_code 26 = .ok (.getfield 15, 3) := by decide +kernel
theorem d4_29 : decode jdk_42_method_66_code 29 = .ok (.aload_n 2, 1) := by decide +kernel
theorem d4_30 : decode jdk_42_method_66_code 30 = .ok (.getfield 15, 3) := by decide +kernel
theorem d4_33 : decode jdk_42_method_66_code 33 = .ok (.if_icmp .ne 21, 3) := by decide +kernel
theorem d4_36 : decode jdk_42_method_66_code 36 = .ok (.aload_n 0, 1) := by decide +kernel
theorem d4_37 : decode jdk_42_method_66_code 37 = .ok (.getfield 9, 3) := by decide +kernel
theorem d4_40 : decode jdk_42_method_66_code 40 = .ok (.aload_n 2, 1) := by decide +kernel
theorem d4_41 : decode jdk_42_method_66_code 41 = .ok (.getfield 9, 3) := by decide +kernel
theorem d4_44 : decode jdk_42_method_66_code 44 = .ok (.invokestatic 541, 3) := by decide +kernel
theorem d4_47 : decode jdk_42_method_66_code 47 = .ok (.ifCond .eq 7, 3) := by decide +kernel
theorem d4_50 : decode jdk_42_method_66_code 50 = .ok (.iconst 1, 1) := by decide +kernel
theorem d4_51 : decode jdk_42_method_66_code 51 = .ok (.goto 4, 3) := by decide +kernel
theorem d4_54 : decode jdk_42_method_66_code 54 = .ok (.iconst 0, 1) := by decide +kernel
theorem d4_55 : decode jdk_42_method_66_code 55 = .ok (.ireturn, 1) := by decide +kernel
theorem pn_1 : plainName "java/lang/String" = true := by first | (simp [plainName, overriddenIn]; done) | decide +kernel
theorem ef_rm4 (m : MethodId) (x0 : Addr) (x1 : Addr) : entryFrame m #[(.ref x0), (.ref x1)] 3 = mkF m 0 #[.val (.ref x0), .val (.ref x1), .unset] [] := by first | (simp [entryFrame, mkF, argsToLocals, Value.category]; done) | rfl
set_option maxRecDepth 65536 in
set_option maxHeartbeats 40000000 in
theorem rm4 (l : Launch) (Z : State) (a0 : Array Value) (hw : ∀ d ∈ tables_1, d.before a0 Z = true) (ws : List Jvm.Cond) (x y t1 t2 : Addr) (n : Nat) (f : Nat → Int32) (z : Int32) (h0 : Heap) (n0 : Nat) (Z0 : n0 ≤ h0.size) (hn : n < 2147483648) (E_x : Exa Z h0 x "java/lang/String") (C_x : Fld Z h0 x "java/lang/String" "coder" "B" (.int 0)) (V_x : Fld Z h0 x "java/lang/String" "value" "[B" (.ref t1)) (B_t1 : BA Z h0 t1 n f) (E_y : Exa Z h0 y "java/lang/String") (C_y : Fld Z h0 y "java/lang/String" "coder" "B" (.int 0)) (V_y : Fld Z h0 y "java/lang/String" "value" "[B" (.ref t2)) (B_t2 : BA Z h0 t2 n f) (SC : Sta Z h0 "java/lang/String" "COMPACT_STRINGS" "Z" (.int z)) (hz : ¬ z = 0) :
    MetFree l (⟨"java/lang/String", "equals", "(Ljava/lang/Object;)Z"⟩ : MethodName) (head1 (Jvm.Cond.code (⟨"java/lang/String", "equals", "(Ljava/lang/Object;)Z"⟩ : MethodName) jdk_42_method_66_code 3 (some .boolean) :: ws) ({ frames := 1, cells := 0, slots := 0, locals := 14 } : Room)) (fun a U => a = #[(.ref x), (.ref y)] ∧ Z.Warmed39 U.vm ∧ U.heap = h0) (fun _ _ _ _ _ => True) (fun _ U o U' => ∃ v L, o = .returned v ∧ (Q5 h0 n0) v U'.heap L ∧ FrameEnd U o U' L ({ frames := 1, cells := 0, slots := 0, locals := 14 } : Room).cells ({ frames := 1, cells := 0, slots := 0, locals := 14 } : Room).slots) := by
  refine MetFree.of_bodySF (plainFor_of_name pn_1) hisR ?_
  intro p e s m args below meth c s₁ Bd hml0 hP hK
  obtain ⟨rfl, hZ, hh⟩ := hP
  have hx := Bd.exec
  have hby := Bd.bytes
  have hlk : meth.locks = false := BodyLoose.notSynchronized Bd
  have hml : c.maxLocals = 3 := hml0
  have hown : s.vm.findClass "java/lang/String" = some m.cls := findClass_of_methodNamed Bd.named
  have hnm := (name_of_methodNamed Bd.named Bd.method).1
  have X0 : Stand p l e ({ frames := 1, cells := 0, slots := 0, locals := 14 } : Room) s m #[(.ref x), (.ref y)] below meth c s₁ [] 0 0 := Stand.of_body Bd
  have e0 : s₁.heap = h0 := by rw [← hh, Bd.state]; rfl
  have N0 := Fr.nil n0
  show Goes p e below s (Q5 h0 n0) ({ frames := 1, cells := 0, slots := 0, locals := 14 } : Room).cells ({ frames := 1, cells := 0, slots := 0, locals := 14 } : Room).slots (s₁.setTop (entryFrame m #[(.ref x), (.ref y)] 3))
  refine Goes.by (fun t k => castTop (ef_rm4 m x y) k) ?_
  show Goes p e below s _ _ _ (s₁.setTop (mkF m 0 #[.val (.ref x), .val (.ref y), .unset] []))
  refine Goes.by (fun t k => XS.aloadN X0.here hx rfl (hb hby d4_0) rfl rfl k) ?_
  show Goes p e below s _ _ _ (s₁.setTop (mkF m 1 #[.val (.ref x), .val (.ref y), .unset] [(.ref x)]))
  refine Goes.by (fun t k => XS.aloadN X0.here hx rfl (hb hby d4_1) rfl rfl k) ?_
  show Goes p e below s _ _ _ (s₁.setTop (mkF m 2 #[.val (.ref x), .val (.ref y), .unset] [(.ref y), (.ref x)]))
  by_cases hxy : x = y
  · skip
    refine Goes.by (fun t k => Jvm.RoadKit.acmp (g := (mkF m 2 #[.val (.ref x), .val (.ref y), .unset] [(.ref y), (.ref x)])) X0 hx rfl rfl rfl (pc0 := 2) (pc' := 5) (same := true) rfl (hb hby d4_2) rfl (decide_eq_true (congrArg Value.ref hxy)) (by decide) (by decide) k) ?_
    show Goes p e below s _ _ _ (s₁.setTop (mkF m 5 #[.val (.ref x), .val (.ref y), .unset] []))
    refine Goes.by (fun t k => XS.iconst X0.here hx rfl (hb hby d4_5) k) ?_
    show Goes p e below s _ _ _ (s₁.setTop (mkF m 6 #[.val (.ref x), .val (.ref y), .unset] [(.int (1 : Int32))]))
    exact Goes.retN X0 hx Bd.returns rfl (hb hby d4_6) hlk (by rw [e0]; exact ⟨rfl, N0, rfl⟩) (by decide) (by decide)
  · skip
    refine Goes.by (fun t k => Jvm.RoadKit.acmp (g := (mkF m 2 #[.val (.ref x), .val (.ref y), .unset] [(.ref y), (.ref x)])) X0 hx rfl rfl rfl (pc0 := 2) (pc' := 7) (same := false) rfl (hb hby d4_2) rfl (decide_eq_false fun q => hxy (Value.ref.inj q)) (by decide) (by decide) k) ?_
    show Goes p e below s _ _ _ (s₁.setTop (mkF m 7 #[.val (.ref x), .val (.ref y), .unset] []))
    refine Goes.by (fun t k => XS.aloadN X0.here hx rfl (hb hby d4_7) rfl rfl k) ?_
    show Goes p e below s _ _ _ (s₁.setTop (mkF m 8 #[.val (.ref x), .val (.ref y), .unset] [(.ref y)]))
    obtain ⟨T1, X1, e1, st1⟩ := instY X0 hx hZ hown (hw _ (List.mem_of_getElem? (i := 43) rfl)) e0 (Ins.self E_y) (g := (mkF m 8 #[.val (.ref x), .val (.ref y), .unset] [(.ref y)])) rfl rfl (hb hby d4_8)
    refine Goes.by (fun t k => st1 t k) ?_
    show Goes p e below s _ _ _ (T1.setTop (mkF m 11 #[.val (.ref x), .val (.ref y), .unset] [(.int (1 : Int32))]))
    refine Goes.by (fun t k => XS.ifNo X1.here hx rfl (hb hby d4_11) rfl ((if0 _ _).trans (feq (by decide)).1) k) ?_
    show Goes p e below s _ _ _ (T1.setTop (mkF m 14 #[.val (.ref x), .val (.ref y), .unset] []))
    refine Goes.by (fun t k => XS.aloadN X1.here hx rfl (hb hby d4_14) rfl rfl k) ?_
    show Goes p e below s _ _ _ (T1.setTop (mkF m 15 #[.val (.ref x), .val (.ref y), .unset] [(.ref y)]))
    obtain ⟨T2, X2, e2, st2⟩ := castY X1 hx hZ hown (hw _ (List.mem_of_getElem? (i := 43) rfl)) e1 (Ins.self E_y) (g := (mkF m 15 #[.val (.ref x), .val (.ref y), .unset] [(.ref y)])) rfl rfl (hb hby d4_15)
    refine Goes.by (fun t k => st2 t k) ?_
    show Goes p e below s _ _ _ (T2.setTop (mkF m 18 #[.val (.ref x), .val (.ref y), .unset] [(.ref y)]))
    refine Goes.by (fun t k => XS.astoreN X2.here hx rfl (hb hby d4_18) rfl rfl (l' := #[.val (.ref x), .val (.ref y), .val (.ref y)]) rfl k) ?_
    show Goes p e below s _ _ _ (T2.setTop (mkF m 19 #[.val (.ref x), .val (.ref y), .val (.ref y)] []))
    obtain ⟨T3, X3, e3, st3⟩ := getS2 X2 hx hZ hown (host := "") (Or.inl (hw _ (List.mem_of_getElem? (i := 45) rfl))) Via.refl e2 SC (g := (mkF m 19 #[.val (.ref x), .val (.ref y), .val (.ref y)] [])) rfl (hb hby d4_19)
    refine Goes.by (fun t k => st3 t k) ?_
    show Goes p e below s _ _ _ (T3.setTop (mkF m 22 #[.val (.ref x), .val (.ref y), .val (.ref y)] [(.int z)]))
    refine Goes.by (fun t k => XS.ifNo X3.here hx rfl (hb hby d4_22) rfl ((if0 _ _).trans (feq (hz)).1) k) ?_
    show Goes p e below s _ _ _ (T3.setTop (mkF m 25 #[.val (.ref x), .val (.ref y), .val (.ref y)] []))
    refine Goes.by (fun t k => XS.aloadN X3.here hx rfl (hb hby d4_25) rfl rfl k) ?_
    show Goes p e below s _ _ _ (T3.setTop (mkF m 26 #[.val (.ref x), .val (.ref y), .val (.ref y)] [(.ref x)]))
    obtain ⟨T4, X4, e4, st4⟩ := getF X3 hx hZ hown (host := "") (Or.inl (hw _ (List.mem_of_getElem? (i := 46) rfl))) Via.refl e3 (C_x) (g := (mkF m 26 #[.val (.ref x), .val (.ref y), .val (.ref y)] [(.ref x)])) rfl rfl (hb hby d4_26)
    refine Goes.by (fun t k => st4 t k) ?_
    show Goes p e below s _ _ _ (T4.setTop (mkF m 29 #[.val (.ref x), .val (.ref y), .val (.ref y)] [(.int (0 : Int32))]))
    refine Goes.by (fun t k => XS.aloadN X4.here hx rfl (hb hby d4_29) rfl rfl k) ?_
    show Goes p e below s _ _ _ (T4.setTop (mkF m 30 #[.val (.ref x), .val (.ref y), .val (.ref y)] [(.ref y), (.int (0 : Int32))]))
    obtain ⟨T5, X5, e5, st5⟩ := getF X4 hx hZ hown (host := "") (Or.inl (hw _ (List.mem_of_getElem? (i := 46) rfl))) Via.refl e4 (C_y) (g := (mkF m 30 #[.val (.ref x), .val (.ref y), .val (.ref y)] [(.ref y), (.int (0 : Int32))])) rfl rfl (hb hby d4_30)
    refine Goes.by (fun t k => st5 t k) ?_
    show Goes p e below s _ _ _ (T5.setTop (mkF m 33 #[.val (.ref x), .val (.ref y), .val (.ref y)] [(.int (0 : Int32)), (.int (0 : Int32))]))
    refine Goes.by (fun t k => XS.icmpNo X5.here hx rfl (hb hby d4_33) rfl (teq (rfl)).2 k) ?_
    show Goes p e below s _ _ _ (T5.setTop (mkF m 36 #[.val (.ref x), .val (.ref y), .val (.ref y)] []))
    refine Goes.by (fun t k => XS.aloadN X5.here hx rfl (hb hby d4_36) rfl rfl k) ?_
    show Goes p e below s _ _ _ (T5.setTop (mkF m 37 #[.val (.ref x), .val (.ref y), .val (.ref y)] [(.ref x)]))
    obtain ⟨T6, X6, e6, st6⟩ := getF X5 hx hZ hown (host := "") (Or.inl (hw _ (List.mem_of_getElem? (i := 47) rfl))) Via.refl e5 (V_x) (g := (mkF m 37 #[.val (.ref x), .val (.ref y), .val (.ref y)] [(.ref x)])) rfl rfl (hb hby d4_37)
    refine Goes.by (fun t k => st6 t k) ?_
    show Goes p e below s _ _ _ (T6.setTop (mkF m 40 #[.val (.ref x), .val (.ref y), .val (.ref y)] [(.ref t1)]))
    refine Goes.by (fun t k => XS.aloadN X6.here hx rfl (hb hby d4_40) rfl rfl k) ?_
    show Goes p e below s _ _ _ (T6.setTop (mkF m 41 #[.val (.ref x), .val (.ref y), .val (.ref y)] [(.ref y), (.ref t1)]))
    obtain ⟨T7, X7, e7, st7⟩ := getF X6 hx hZ hown (host := "") (Or.inl (hw _ (List.mem_of_getElem? (i := 47) rfl))) Via.refl e6 (V_y) (g := (mkF m 41 #[.val (.ref x), .val (.ref y), .val (.ref y)] [(.ref y), (.ref t1)])) rfl rfl (hb hby d4_41)
    refine Goes.by (fun t k => st7 t k) ?_
    show Goes p e below s _ _ _ (T7.setTop (mkF m 44 #[.val (.ref x), .val (.ref y), .val (.ref y)] [(.ref t2), (.ref t1)]))
    obtain ⟨_, _, ⟨T8, L8, k8, n8⟩, -, X8, ⟨Lc8, hQ8, l8, y8, z8⟩, st8⟩ := Jvm.LawKit.callS X7 hx (y := (⟨"java/lang/StringLatin1", "equals", "([B[B)Z"⟩ : MethodName)) hown (mvT hZ (hw _ (List.mem_of_getElem? (i := 48) rfl))) (mvT hZ (hw _ (List.mem_of_getElem? (i := 49) rfl))) (mvT hZ (hw _ (List.mem_of_getElem? (i := 50) rfl))) (mvT hZ (hw _ (List.mem_of_getElem? (i := 51) rfl))) (by decide) (backOf (W := 0) (rm5 l Z a0 hw [] t1 t2 n f h0 n0 Z0 hn B_t1 B_t2) hZ (hw _ (List.mem_of_getElem? (i := 51) rfl)) (hw _ (List.mem_of_getElem? (i := 50) rfl)) (by decide) (by decide)) (g := (mkF m 44 #[.val (.ref x), .val (.ref y), .val (.ref y)] [(.ref t2), (.ref t1)])) rfl (by rw [hml]; rfl) (argsL := [(.ref t1), (.ref t2)]) (rest := []) (lenOf pd_4 rfl) rfl (by show 2 * 0 + _ ≤ _; exact Nat.le_of_eq rfl) (hb hby d4_44) (fun _ _ => ⟨rfl, e7, (by decide : 0 + 0 ≤ _), (by decide : 0 + 0 ≤ _)⟩)
    dsimp only [Pt.U, Pt.locs, Pt.cells, Pt.slots] at X8 l8 y8 z8 st8 hQ8
    subst l8 y8 z8
    obtain ⟨rfl, N8q, hh8⟩ := hQ8
    have N8 := Fr.app N0 N8q
    refine Goes.by (fun t k => st8 _ k) ?_
    show Goes p e below s _ _ _ (T8.setTop (mkF m 47 #[.val (.ref x), .val (.ref y), .val (.ref y)] [(.int (1 : Int32))]))
    refine Goes.by (fun t k => XS.ifNo X8.here hx rfl (hb hby d4_47) rfl ((if0 _ _).trans (feq (by decide)).1) k) ?_
    show Goes p e below s _ _ _ (T8.setTop (mkF m 50 #[.val (.ref x), .val (.ref y), .val (.ref y)] []))
    refine Goes.by (fun t k => XS.iconst X8.here hx rfl (hb hby d4_50) k) ?_
    show Goes p e below s _ _ _ (T8.setTop (mkF m 51 #[.val (.ref x), .val (.ref y), .val (.ref y)] [(.int (1 : Int32))]))
    refine Goes.by (fun t k => XS.goto X8.here hx rfl (pc0 := 51) (pc' := 55) rfl (hb hby d4_51) (by decide) (by decide) k) ?_
    show Goes p e below s _ _ _ (T8.setTop (mkF m 55 #[.val (.ref x), .val (.ref y), .val (.ref y)] [(.int (1 : Int32))]))
    exact Goes.retN X8 hx Bd.returns rfl (hb hby d4_55) hlk (by exact ⟨rfl, N8, hh8⟩) (by decide) (by decide)
def Q2 (x1 : Int32) (h0 : Heap) (n0 : Nat) (v : Option Value) (h : Heap) (L : List Loc) : Prop := v = some (.int x1) ∧ Fr n0 L ∧ h = h0
theorem d2_0 : decode jdk_37_method_2_code 0 = .ok (.aload_n 0, 1) := by decide +kernel
theorem d2_1 : decode jdk_37_method_2_code 1 = .ok (.getfield 7, 3) := by decide +kernel
theorem d2_4 : decode jdk_37_method_2_code 4 = .ok (.ireturn, 1) := by decide +kernel
theorem pn_2 : plainName "java/lang/Enum" = true := by first | (simp [plainName, overriddenIn]; done) | decide +kernel
theorem ef_rm2 (m : MethodId) (x0 : Addr) : entryFrame m #[(.ref x0)] 1 = mkF m 0 #[.val (.ref x0)] [] := by first | (simp [entryFrame, mkF, argsToLocals, Value.category]; done) | rfl
set_option maxRecDepth 65536 in
set_option maxHeartbeats 40000000 in
theorem rm2 (l : Launch) (Z : State) (a0 : Array Value) (hw : ∀ d ∈ tables_1, d.before a0 Z = true) (ws : List Jvm.Cond) (a1 : Addr) (x1 : Int32) (h0 : Heap) (n0 : Nat) (Z0 : n0 ≤ h0.size) (F1 : Fld Z h0 a1 "java/lang/Enum" "ordinal" "I" (.int x1)) :
    MetFree l (⟨"java/lang/Enum", "ordinal", "()I"⟩ : MethodName) (head1 (Jvm.Cond.code (⟨"java/lang/Enum", "ordinal", "()I"⟩ : MethodName) jdk_37_method_2_code 1 (some .int) :: ws) ({ frames := 0, cells := 0, slots := 0, locals := 0 } : Room)) (fun a U => a = #[(.ref a1)] ∧ Z.Warmed39 U.vm ∧ U.heap = h0) (fun _ _ _ _ _ => True) (fun _ U o U' => ∃ v L, o = .returned v ∧ (Q2 x1 h0 n0) v U'.heap L ∧ FrameEnd U o U' L ({ frames := 0, cells := 0, slots := 0, locals := 0 } : Room).cells ({ frames := 0, cells := 0, slots := 0, locals := 0 } : Room).slots) := by
  refine MetFree.of_bodySF (plainFor_of_name pn_2) hisR ?_
  intro p e s m args below meth c s₁ Bd hml0 hP hK
  obtain ⟨rfl, hZ, hh⟩ := hP
  have hx := Bd.exec
  have hby := Bd.bytes
  have hlk : meth.locks = false := BodyLoose.notSynchronized Bd
  have hml : c.maxLocals = 1 := hml0
  have hown : s.vm.findClass "java/lang/Enum" = some m.cls := findClass_of_methodNamed Bd.named
  have hnm := (name_of_methodNamed Bd.named Bd.method).1
  have X0 : Stand p l e ({ frames := 0, cells := 0, slots := 0, locals := 0 } : Room) s m #[(.ref a1)] below meth c s₁ [] 0 0 := Stand.of_body Bd
  have e0 : s₁.heap = h0 := by rw [← hh, Bd.state]; rfl
  have N0 := Fr.nil n0
  show Goes p e below s (Q2 x1 h0 n0) ({ frames := 0, cells := 0, slots := 0, locals := 0 } : Room).cells ({ frames := 0, cells := 0, slots := 0, locals := 0 } : Room).slots (s₁.setTop (entryFrame m #[(.ref a1)] 1))
  refine Goes.by (fun t k => castTop (ef_rm2 m a1) k) ?_
  show Goes p e below s _ _ _ (s₁.setTop (mkF m 0 #[.val (.ref a1)] []))
  refine Goes.by (fun t k => XS.aloadN X0.here hx rfl (hb hby d2_0) rfl rfl k) ?_
  show Goes p e below s _ _ _ (s₁.setTop (mkF m 1 #[.val (.ref a1)] [(.ref a1)]))
  obtain ⟨T1, X1, e1, st1⟩ := getF X0 hx hZ hown (host := "") (Or.inl (hw _ (List.mem_of_getElem? (i := 17) rfl))) Via.refl e0 (F1) (g := (mkF m 1 #[.val (.ref a1)] [(.ref a1)])) rfl rfl (hb hby d2_1)
  refine Goes.by (fun t k => st1 t k) ?_
  show Goes p e below s _ _ _ (T1.setTop (mkF m 4 #[.val (.ref a1)] [(.int x1)]))
  exact Goes.retI X1 hx Bd.returns trivial (hb hby d2_4) hlk (by rw [e1]; exact ⟨rfl, N0, rfl⟩) (by decide) (by decide)
def Q3 (x1 : Addr) (h0 : Heap) (n0 : Nat) (v : Option Value) (h : Heap) (L : List Loc) : Prop := v = some (.ref x1) ∧ Fr n0 L ∧ h = h0
theorem d3_0 : decode prog_36_method_4_code 0 = .ok (.aload_n 0, 1) := by decide +kernel
theorem d3_1 : decode prog_36_method_4_code 1 = .ok (.getfield 35, 3) := by decide +kernel
theorem d3_4 : decode prog_36_method_4_code 4 = .ok (.areturn, 1) := by decide +kernel
theorem pn_3 : plainName "com/example/vestwright/vestwright/census/Census$Amount" = true := by first | (simp [plainName, overriddenIn]; done) | decide +kernel
theorem ef_rm3 (m : MethodId) (x0 : Addr) : entryFrame m #[(.ref x0)] 1 = mkF m 0 #[.val (.ref x0)] [] := by first | (simp [entryFrame, mkF, argsToLocals, Value.category]; done) | rfl
set_option maxRecDepth 65536 in
set_option maxHeartbeats 40000000 in
theorem rm3 (l : Launch) (Z : State) (a0 : Array Value) (hw : ∀ d ∈ tables_1, d.before a0 Z = true) (ws : List Jvm.Cond) (a1 : Addr) (x1 : Addr) (h0 : Heap) (n0 : Nat) (Z0 : n0 ≤ h0.size) (F1 : Fld Z h0 a1 "com/example/vestwright/vestwright/census/Census$Amount" "header" "Ljava/lang/String;" (.ref x1)) :
    MetFree l (⟨"com/example/vestwright/vestwright/census/Census$Amount", "header", "()Ljava/lang/String;"⟩ : MethodName) (head1 (Jvm.Cond.code (⟨"com/example/vestwright/vestwright/census/Census$Amount", "header", "()Ljava/lang/String;"⟩ : MethodName) prog_36_method_4_code 1 (some (.object "java/lang/String")) :: ws) ({ frames := 0, cells := 0, slots := 0, locals := 0 } : Room)) (fun a U => a = #[(.ref a1)] ∧ Z.Warmed39 U.vm ∧ U.heap = h0) (fun _ _ _ _ _ => True) (fun _ U o U' => ∃ v L, o = .returned v ∧ (Q3 x1 h0 n0) v U'.heap L ∧ FrameEnd U o U' L ({ frames := 0, cells := 0, slots := 0, locals := 0 } : Room).cells ({ frames := 0, cells := 0, slots := 0, locals := 0 } : Room).slots) := by
  refine MetFree.of_bodySF (plainFor_of_name pn_3) hisR ?_
  intro p e s m args below meth c s₁ Bd hml0 hP hK
  obtain ⟨rfl, hZ, hh⟩ := hP
  have hx := Bd.exec
  have hby := Bd.bytes
  have hlk : meth.locks = false := BodyLoose.notSynchronized Bd
  have hml : c.maxLocals = 1 := hml0
  have hown : s.vm.findClass "com/example/vestwright/vestwright/census/Census$Amount" = some m.cls := findClass_of_methodNamed Bd.named
  have hnm := (name_of_methodNamed Bd.named Bd.method).1
  have X0 : Stand p l e ({ frames := 0, cells := 0, slots := 0, locals := 0 } : Room) s m #[(.ref a1)] below meth c s₁ [] 0 0 := Stand.of_body Bd
  have e0 : s₁.heap = h0 := by rw [← hh, Bd.state]; rfl
  have N0 := Fr.nil n0
  show Goes p e below s (Q3 x1 h0 n0) ({ frames := 0, cells := 0, slots := 0, locals := 0 } : Room).cells ({ frames := 0, cells := 0, slots := 0, locals := 0 } : Room).slots (s₁.setTop (entryFrame m #[(.ref a1)] 1))
  refine Goes.by (fun t k => castTop (ef_rm3 m a1) k) ?_
  show Goes p e below s _ _ _ (s₁.setTop (mkF m 0 #[.val (.ref a1)] []))
  refine Goes.by (fun t k => XS.aloadN X0.here hx rfl (hb hby d3_0) rfl rfl k) ?_
  show Goes p e below s _ _ _ (s₁.setTop (mkF m 1 #[.val (.ref a1)] [(.ref a1)]))
  obtain ⟨T1, X1, e1, st1⟩ := getF X0 hx hZ hown (host := "") (Or.inl (hw _ (List.mem_of_getElem? (i := 28) rfl))) Via.refl e0 (F1) (g := (mkF m 1 #[.val (.ref a1)] [(.ref a1)])) rfl rfl (hb hby d3_1)
  refine Goes.by (fun t k => st1 t k) ?_
  show Goes p e below s _ _ _ (T1.setTop (mkF m 4 #[.val (.ref a1)] [(.ref x1)]))
  exact Goes.retA X1 hx Bd.returns rfl rfl (hb hby d3_4) hlk (by rw [e1]; exact ⟨rfl, N0, rfl⟩) (by decide) (by decide)
def Q1 (r : Addr) (h0 : Heap) (n0 : Nat) (v : Option Value) (h : Heap) (L : List Loc) : Prop := v = some (.ref r) ∧ Fr n0 L ∧ h = h0
theorem d1_0 : decode prog_27_method_11_code 0 = .ok (.getstatic 411, 3) := by decide +kernel
theorem d1_3 : decode prog_27_method_11_code 3 = .ok (.aload_n 0, 1) := by decide +kernel
theorem d1_4 : decode prog_27_method_11_code 4 = .ok (.invokevirtual 417, 3) := by decide +kernel
theorem d1_7 : decode prog_27_method_11_code 7 = .ok (.iaload, 1) := by decide +kernel
theorem d1_8 : decode prog_27_method_11_code 8 = .ok (.lookupswitch 28 #[(1, 38), (2, 44)], 28) := by decide +kernel
theorem d1_36 : decode prog_27_method_11_code 36 = .ok (.new 422, 3) := by decide +kernel
theorem d1_39 : decode prog_27_method_11_code 39 = .ok (.dup, 1) := by decide +kernel
theorem d1_40 : decode prog_27_method_11_code 40 = .ok (.aconst_null, 1) := by decide +kernel
theorem d1_41 : decode prog_27_method_11_code 41 = .ok (.aconst_null, 1) := by decide +kernel
theorem d1_42 : decode prog_27_method_11_code 42 = .ok (.invokespecial 424, 3) := by decide +kernel
theorem d1_45 : decode prog_27_method_11_code 45 = .ok (.athrow, 1) := by decide +kernel
theorem d1_46 : decode prog_27_method_11_code 46 = .ok (.getstatic 389, 3) := by decide +kernel
theorem d1_49 : decode prog_27_method_11_code 49 = .ok (.goto 6, 3) := by decide +kernel
theorem d1_52 : decode prog_27_method_11_code 52 = .ok (.getstatic 427, 3) := by decide +kernel
theorem d1_55 : decode prog_27_method_11_code 55 = .ok (.areturn, 1) := by decide +kernel
theorem pn_4 : plainName "com/example/vestwright/vestwright/allocation/YearAllocation" = true := by first | (simp [plainName, overriddenIn]; done) | decide +kernel
theorem ef_rmc0 (m : MethodId) (x0 : Addr) : entryFrame m #[(.ref x0)] 1 = mkF m 0 #[.val (.ref x0)] [] := by first | (simp [entryFrame, mkF, argsToLocals, Value.category]; done) | rfl
set_option maxRecDepth 65536 in
set_option maxHeartbeats 40000000 in
theorem rmc0 (l : Launch) (Z : State) (a0 : Array Value) (hw : ∀ d ∈ tables_1, d.before a0 Z = true) (ws : List Jvm.Cond) (a1 wA r : Addr) (cA : Cell) (h0 : Heap) (n0 : Nat) (Z0 : n0 ≤ h0.size) (SA : Sta Z h0 "com/example/vestwright/vestwright/allocation/YearAllocation$1" "$SwitchMap$com$example$vestwright$vestwright$plan$Basis" "[I" (.ref wA)) (AA : Arr Z h0 wA cA .int) (hs : cA.slots.size = 2) (hat : cA.slots[0]? = some (.int 1)) (FO : Fld Z h0 a1 "java/lang/Enum" "ordinal" "I" (.int 0)) (E1 : Exa Z h0 a1 "com/example/vestwright/vestwright/plan/Basis") (SR : Sta Z h0 "com/example/vestwright/vestwright/census/Census$Amount" "COMPENSATION" "Lcom/example/vestwright/vestwright/census/Census$Amount;" (.ref r)) :
    MetFree l (⟨"com/example/vestwright/vestwright/allocation/YearAllocation", "column", "(Lcom/example/vestwright/vestwright/plan/Basis;)Lcom/example/vestwright/vestwright/census/Census$Amount;"⟩ : MethodName) (head1 (Jvm.Cond.code (⟨"com/example/vestwright/vestwright/allocation/YearAllocation", "column", "(Lcom/example/vestwright/vestwright/plan/Basis;)Lcom/example/vestwright/vestwright/census/Census$Amount;"⟩ : MethodName) prog_27_method_11_code 1 (some (.object "com/example/vestwright/vestwright/census/Census$Amount")) :: ws) ({ frames := 1, cells := 0, slots := 0, locals := 13 } : Room)) (fun a U => a = #[(.ref a1)] ∧ Z.Warmed39 U.vm ∧ U.heap = h0) (fun _ _ _ _ _ => True) (fun _ U o U' => ∃ v L, o = .returned v ∧ (Q1 r h0 n0) v U'.heap L ∧ FrameEnd U o U' L ({ frames := 1, cells := 0, slots := 0, locals := 13 } : Room).cells ({ frames := 1, cells := 0, slots := 0, locals := 13 } : Room).slots) := by
  refine MetFree.of_bodySF (plainFor_of_name pn_4) hisR ?_
  intro p e s m args below meth c s₁ Bd hml0 hP hK
  obtain ⟨rfl, hZ, hh⟩ := hP
  have hx := Bd.exec
  have hby := Bd.bytes
  have hlk : meth.locks = false := BodyLoose.notSynchronized Bd
  have hml : c.maxLocals = 1 := hml0
  have hown : s.vm.findClass "com/example/vestwright/vestwright/allocation/YearAllocation" = some m.cls := findClass_of_methodNamed Bd.named
  have hnm := (name_of_methodNamed Bd.named Bd.method).1
  have X0 : Stand p l e ({ frames := 1, cells := 0, slots := 0, locals := 13 } : Room) s m #[(.ref a1)] below meth c s₁ [] 0 0 := Stand.of_body Bd
  have e0 : s₁.heap = h0 := by rw [← hh, Bd.state]; rfl
  have N0 := Fr.nil n0
  show Goes p e below s (Q1 r h0 n0) ({ frames := 1, cells := 0, slots := 0, locals := 13 } : Room).cells ({ frames := 1, cells := 0, slots := 0, locals := 13 } : Room).slots (s₁.setTop (entryFrame m #[(.ref a1)] 1))
  refine Goes.by (fun t k => castTop (ef_rmc0 m a1) k) ?_
  show Goes p e below s _ _ _ (s₁.setTop (mkF m 0 #[.val (.ref a1)] []))
  obtain ⟨T1, X1, e1, st1⟩ := getS2 X0 hx hZ hown (host := "") (Or.inl (hw _ (List.mem_of_getElem? (i := 7) rfl))) Via.refl e0 SA (g := (mkF m 0 #[.val (.ref a1)] [])) rfl (hb hby d1_0)
  refine Goes.by (fun t k => st1 t k) ?_
  show Goes p e below s _ _ _ (T1.setTop (mkF m 3 #[.val (.ref a1)] [(.ref wA)]))
  refine Goes.by (fun t k => XS.aloadN X1.here hx rfl (hb hby d1_3) rfl rfl k) ?_
  show Goes p e below s _ _ _ (T1.setTop (mkF m 4 #[.val (.ref a1)] [(.ref a1), (.ref wA)]))
  obtain ⟨cq2, kq2, q2a, q2b, q2c⟩ := isOf hZ e1 (E1)
  obtain ⟨_, _, ⟨T2, L2, k2, n2⟩, -, X2, ⟨Lc2, hQ2, l2, y2, z2⟩, st2⟩ := X1.virtualBackUp hx (x := (⟨"com/example/vestwright/vestwright/plan/Basis", "ordinal", "()I"⟩ : MethodName)) (y := (⟨"java/lang/Enum", "ordinal", "()I"⟩ : MethodName)) (owner := "java/lang/Enum") hown (mvT hZ (hw _ (List.mem_of_getElem? (i := 10) rfl))) (mvT hZ (hw _ (List.mem_of_getElem? (i := 11) rfl))) (mvT hZ (hw _ (List.mem_of_getElem? (i := 12) rfl))) (by decide) (mvT hZ (hw _ (List.mem_of_getElem? (i := 14) rfl))) (mvT hZ (hw _ (List.mem_of_getElem? (i := 13) rfl))) (backOf (W := 1) (rm2 l Z a0 hw [] a1 0 h0 n0 Z0 FO) hZ (hw _ (List.mem_of_getElem? (i := 16) rfl)) (hw _ (List.mem_of_getElem? (i := 15) rfl)) (by decide) (by decide)) q2a q2c (g := (mkF m 4 #[.val (.ref a1)] [(.ref a1), (.ref wA)])) rfl (by rw [hml]; rfl) (Steps.refl _) (argsL := []) (rest := [(.ref wA)]) (lenOf pd_1 rfl) rfl (by show 2 * 0 + _ ≤ _; exact Nat.le_of_eq rfl) (hb hby d1_4) (fun _ _ => ⟨rfl, e1, (by decide : 0 + 0 ≤ _), (by decide : 0 + 0 ≤ _)⟩)
  dsimp only [Pt.U, Pt.locs, Pt.cells, Pt.slots] at X2 l2 y2 z2 st2 hQ2
  subst l2 y2 z2
  obtain ⟨rfl, N2q, hh2⟩ := hQ2
  have N2 := Fr.app N0 N2q
  refine Goes.by (fun t k => st2.trans k) ?_
  show Goes p e below s _ _ _ (T2.setTop (mkF m 7 #[.val (.ref a1)] [(.int (0 : Int32)), (.ref wA)]))
  refine Goes.by (fun t k => X2.iaload hx (j := 0) (v := .int 1) (by rw [hh2]; exact AA.1) (State.isArrayOf_alike hZ.alike AA.2.1) AA.2.2 (by rw [hs]; decide) hat (g := (mkF m 7 #[.val (.ref a1)] [(.int (0 : Int32)), (.ref wA)])) rfl rfl (hb hby d1_7) _ k) ?_
  show Goes p e below s _ _ _ (T2.setTop (mkF m 8 #[.val (.ref a1)] [(.int (1 : Int32))]))
  refine Goes.by (fun t k => X2.lookupswitchHit hx (g := (mkF m 8 #[.val (.ref a1)] [(.int (1 : Int32))])) rfl rfl (hb hby d1_8) (by decide) (a := 1) (off := 38) (by decide) (by show 0 ≤ ((8 : Nat) : Int) + 38; decide) _ k) ?_
  show Goes p e below s _ _ _ (T2.setTop (mkF m 46 #[.val (.ref a1)] []))
  obtain ⟨T3, X3, e3, st3⟩ := getS2 X2 hx hZ hown (host := "") (Or.inl (hw _ (List.mem_of_getElem? (i := 19) rfl))) Via.refl rfl (by rw [hh2]; exact SR) (g := (mkF m 46 #[.val (.ref a1)] [])) rfl (hb hby d1_46)
  refine Goes.by (fun t k => st3 t k) ?_
  show Goes p e below s _ _ _ (T3.setTop (mkF m 49 #[.val (.ref a1)] [(.ref r)]))
  refine Goes.by (fun t k => XS.goto X3.here hx rfl (pc0 := 49) (pc' := 55) rfl (hb hby d1_49) (by decide) (by decide) k) ?_
  show Goes p e below s _ _ _ (T3.setTop (mkF m 55 #[.val (.ref a1)] [(.ref r)]))
  exact Goes.retA X3 hx Bd.returns rfl rfl (hb hby d1_55) hlk (by rw [e3]; exact ⟨rfl, N2, hh2⟩) (by decide) (by decide)
theorem ef_rmc1 (m : MethodId) (x0 : Addr) : entryFrame m #[(.ref x0)] 1 = mkF m 0 #[.val (.ref x0)] [] := by first | (simp [entryFrame, mkF, argsToLocals, Value.category]; done) | rfl
set_option maxRecDepth 65536 in
set_option maxHeartbeats 40000000 in
theorem rmc1 (l : Launch) (Z : State) (a0 : Array Value) (hw : ∀ d ∈ tables_1, d.before a0 Z = true) (ws : List Jvm.Cond) (a1 wA r : Addr) (cA : Cell) (h0 : Heap) (n0 : Nat) (Z0 : n0 ≤ h0.size) (SA : Sta Z h0 "com/example/vestwright/vestwright/allocation/YearAllocation$1" "$SwitchMap$com$example$vestwright$vestwright$plan$Basis" "[I" (.ref wA)) (AA : Arr Z h0 wA cA .int) (hs : cA.slots.size = 2) (hat : cA.slots[1]? = some (.int 2)) (FO : Fld Z h0 a1 "java/lang/Enum" "ordinal" "I" (.int 1)) (E1 : Exa Z h0 a1 "com/example/vestwright/vestwright/plan/Basis") (SR : Sta Z h0 "com/example/vestwright/vestwright/census/Census$Amount" "WAGE_INVESTMENT" "Lcom/example/vestwright/vestwright/census/Census$Amount;" (.ref r)) :
    MetFree l (⟨"com/example/vestwright/vestwright/allocation/YearAllocation", "column", "(Lcom/example/vestwright/vestwright/plan/Basis;)Lcom/example/vestwright/vestwright/census/Census$Amount;"⟩ : MethodName) (head1 (Jvm.Cond.code (⟨"com/example/vestwright/vestwright/allocation/YearAllocation", "column", "(Lcom/example/vestwright/vestwright/plan/Basis;)Lcom/example/vestwright/vestwright/census/Census$Amount;"⟩ : MethodName) prog_27_method_11_code 1 (some (.object "com/example/vestwright/vestwright/census/Census$Amount")) :: ws) ({ frames := 1, cells := 0, slots := 0, locals := 13 } : Room)) (fun a U => a = #[(.ref a1)] ∧ Z.Warmed39 U.vm ∧ U.heap = h0) (fun _ _ _ _ _ => True) (fun _ U o U' => ∃ v L, o = .returned v ∧ (Q1 r h0 n0) v U'.heap L ∧ FrameEnd U o U' L ({ frames := 1, cells := 0, slots := 0, locals := 13 } : Room).cells ({ frames := 1, cells := 0, slots := 0, locals := 13 } : Room).slots) := by
  refine MetFree.of_bodySF (plainFor_of_name pn_4) hisR ?_
  intro p e s m args below meth c s₁ Bd hml0 hP hK
  obtain ⟨rfl, hZ, hh⟩ := hP
  have hx := Bd.exec
  have hby := Bd.bytes
  have hlk : meth.locks = false := BodyLoose.notSynchronized Bd
  have hml : c.maxLocals = 1 := hml0
  have hown : s.vm.findClass "com/example/vestwright/vestwright/allocation/YearAllocation" = some m.cls := findClass_of_methodNamed Bd.named
  have hnm := (name_of_methodNamed Bd.named Bd.method).1
  have X0 : Stand p l e ({ frames := 1, cells := 0, slots := 0, locals := 13 } : Room) s m #[(.ref a1)] below meth c s₁ [] 0 0 := Stand.of_body Bd
  have e0 : s₁.heap = h0 := by rw [← hh, Bd.state]; rfl
  have N0 := Fr.nil n0
  show Goes p e below s (Q1 r h0 n0) ({ frames := 1, cells := 0, slots := 0, locals := 13 } : Room).cells ({ frames := 1, cells := 0, slots := 0, locals := 13 } : Room).slots (s₁.setTop (entryFrame m #[(.ref a1)] 1))
  refine Goes.by (fun t k => castTop (ef_rmc1 m a1) k) ?_
  show Goes p e below s _ _ _ (s₁.setTop (mkF m 0 #[.val (.ref a1)] []))
  obtain ⟨T1, X1, e1, st1⟩ := getS2 X0 hx hZ hown (host := "") (Or.inl (hw _ (List.mem_of_getElem? (i := 7) rfl))) Via.refl e0 SA (g := (mkF m 0 #[.val (.ref a1)] [])) rfl (hb hby d1_0)
  refine Goes.by (fun t k => st1 t k) ?_
  show Goes p e below s _ _ _ (T1.setTop (mkF m 3 #[.val (.ref a1)] [(.ref wA)]))
  refine Goes.by (fun t k => XS.aloadN X1.here hx rfl (hb hby d1_3) rfl rfl k) ?_
  show Goes p e below s _ _ _ (T1.setTop (mkF m 4 #[.val (.ref a1)] [(.ref a1), (.ref wA)]))
  obtain ⟨cq2, kq2, q2a, q2b, q2c⟩ := isOf hZ e1 (E1)
  obtain ⟨_, _, ⟨T2, L2, k2, n2⟩, -, X2, ⟨Lc2, hQ2, l2, y2, z2⟩, st2⟩ := X1.virtualBackUp hx (x := (⟨"com/example/vestwright/vestwright/plan/Basis", "ordinal", "()I"⟩ : MethodName)) (y := (⟨"java/lang/Enum", "ordinal", "()I"⟩ : MethodName)) (owner := "java/lang/Enum") hown (mvT hZ (hw _ (List.mem_of_getElem? (i := 10) rfl))) (mvT hZ (hw _ (List.mem_of_getElem? (i := 11) rfl))) (mvT hZ (hw _ (List.mem_of_getElem? (i := 12) rfl))) (by decide) (mvT hZ (hw _ (List.mem_of_getElem? (i := 14) rfl))) (mvT hZ (hw _ (List.mem_of_getElem? (i := 13) rfl))) (backOf (W := 1) (rm2 l Z a0 hw [] a1 1 h0 n0 Z0 FO) hZ (hw _ (List.mem_of_getElem? (i := 16) rfl)) (hw _ (List.mem_of_getElem? (i := 15) rfl)) (by decide) (by decide)) q2a q2c (g := (mkF m 4 #[.val (.ref a1)] [(.ref a1), (.ref wA)])) rfl (by rw [hml]; rfl) (Steps.refl _) (argsL := []) (rest := [(.ref wA)]) (lenOf pd_1 rfl) rfl (by show 2 * 0 + _ ≤ _; exact Nat.le_of_eq rfl) (hb hby d1_4) (fun _ _ => ⟨rfl, e1, (by decide : 0 + 0 ≤ _), (by decide : 0 + 0 ≤ _)⟩)
  dsimp only [Pt.U, Pt.locs, Pt.cells, Pt.slots] at X2 l2 y2 z2 st2 hQ2
  subst l2 y2 z2
  obtain ⟨rfl, N2q, hh2⟩ := hQ2
  have N2 := Fr.app N0 N2q
  refine Goes.by (fun t k => st2.trans k) ?_
  show Goes p e below s _ _ _ (T2.setTop (mkF m 7 #[.val (.ref a1)] [(.int (1 : Int32)), (.ref wA)]))
  refine Goes.by (fun t k => X2.iaload hx (j := 1) (v := .int 2) (by rw [hh2]; exact AA.1) (State.isArrayOf_alike hZ.alike AA.2.1) AA.2.2 (by rw [hs]; decide) hat (g := (mkF m 7 #[.val (.ref a1)] [(.int (1 : Int32)), (.ref wA)])) rfl rfl (hb hby d1_7) _ k) ?_
  show Goes p e below s _ _ _ (T2.setTop (mkF m 8 #[.val (.ref a1)] [(.int (2 : Int32))]))
  refine Goes.by (fun t k => X2.lookupswitchHit hx (g := (mkF m 8 #[.val (.ref a1)] [(.int (2 : Int32))])) rfl rfl (hb hby d1_8) (by decide) (a := 2) (off := 44) (by decide) (by show 0 ≤ ((8 : Nat) : Int) + 44; decide) _ k) ?_
  show Goes p e below s _ _ _ (T2.setTop (mkF m 52 #[.val (.ref a1)] []))
  obtain ⟨T3, X3, e3, st3⟩ := getS2 X2 hx hZ hown (host := "") (Or.inl (hw _ (List.mem_of_getElem? (i := 54) rfl))) Via.refl rfl (by rw [hh2]; exact SR) (g := (mkF m 52 #[.val (.ref a1)] [])) rfl (hb hby d1_52)
  refine Goes.by (fun t k => st3 t k) ?_
  show Goes p e below s _ _ _ (T3.setTop (mkF m 55 #[.val (.ref a1)] [(.ref r)]))
  exact Goes.retA X3 hx Bd.returns rfl rfl (hb hby d1_55) hlk (by rw [e3]; exact ⟨rfl, N2, hh2⟩) (by decide) (by decide)
def Q0 (n0 : Nat) (v : Option Value) (h : Heap) (L : List Loc) : Prop := v = some (.int 1) ∧ Fr n0 L
def txC : List Int32 := [99, 111, 109, 112, 101, 110, 115, 97, 116, 105, 111, 110]
def fxC (i : Nat) : Int32 := txC.getD i 0
theorem own_txC : (∀ c ∈ ("compensation" : String).toList, c.toNat < 256) ∧ ("compensation" : String).toList.map (fun c => Value.int (Jvm.Lit.byteI c.toNat.toUInt16)) = txC.map Value.int := by decide +kernel
def txW : List Int32 := [119, 97, 103, 101, 95, 105, 110, 118, 101, 115, 116, 109, 101, 110, 116]
def fxW (i : Nat) : Int32 := txW.getD i 0
theorem own_txW : (∀ c ∈ ("wage_investment" : String).toList, c.toNat < 256) ∧ ("wage_investment" : String).toList.map (fun c => Value.int (Jvm.Lit.byteI c.toNat.toUInt16)) = txW.map Value.int := by decide +kernel
theorem pn_5 : plainName "com/example/vestwright/vestwright/allocation/YearAllocationColumnPinLaw" = true := by first | (simp [plainName, overriddenIn]; done) | decide +kernel
theorem ef_rm0 (m : MethodId) (x0 : Int32) : entryFrame m #[(.int x0)] maxLocals = mkF m 0 #[.val (.int x0), .unset, .unset, .unset] [] := by first | (simp [entryFrame, mkF, argsToLocals, Value.category, maxLocals]; done) | rfl
set_option maxRecDepth 65536 in
set_option maxHeartbeats 40000000 in
theorem rm0 (l : Launch) (Z : State) (a0 : Array Value) (hw : ∀ d ∈ tables_1, d.before a0 Z = true) (ws : List Jvm.Cond) (p0 z : Int32) (wA bC bW rC rW uC uW vC vW : Addr) (cA : Cell) (h0 : Heap) (n0 : Nat) (Z0 : n0 ≤ h0.size) (hn0 : n0 = h0.size) (O0 : Old Z n0 h0) (hcw : Jvm.Lit.compactW.before a0 Z = true) (wS : ∀ a ∈ Bundle.stringAtoms, a.before a0 Z = true) (SCSz : Sta Z Z.heap "java/lang/String" "COMPACT_STRINGS" "Z" (.int z)) (hz : ¬ z = 0) (SAz : Sta Z Z.heap "com/example/vestwright/vestwright/allocation/YearAllocation$1" "$SwitchMap$com$example$vestwright$vestwright$plan$Basis" "[I" (.ref wA)) (AA : Arr Z h0 wA cA .int) (hs : cA.slots.size = 2) (hatC : cA.slots[0]? = some (.int 1)) (SCz : Sta Z Z.heap "com/example/vestwright/vestwright/plan/Basis" "COMPENSATION" "Lcom/example/vestwright/vestwright/plan/Basis;" (.ref bC)) (FC : Fld Z h0 bC "java/lang/Enum" "ordinal" "I" (.int 0)) (EC : Exa Z h0 bC "com/example/vestwright/vestwright/plan/Basis") (RCz : Sta Z Z.heap "com/example/vestwright/vestwright/census/Census$Amount" "COMPENSATION" "Lcom/example/vestwright/vestwright/census/Census$Amount;" (.ref rC)) (GC : Exa Z h0 rC "com/example/vestwright/vestwright/census/Census$Amount") (HC : Fld Z h0 rC "com/example/vestwright/vestwright/census/Census$Amount" "header" "Ljava/lang/String;" (.ref uC)) (EHC : Exa Z h0 uC "java/lang/String") (CHC : Fld Z h0 uC "java/lang/String" "coder" "B" (.int 0)) (VHC : Fld Z h0 uC "java/lang/String" "value" "[B" (.ref vC)) (BHC : BA Z h0 vC 12 fxC) (hhC : Jvm.Lit.constHeld Z "com/example/vestwright/vestwright/allocation/YearAllocationColumnPinLaw" 41) (hatW : cA.slots[1]? = some (.int 2)) (SWz : Sta Z Z.heap "com/example/vestwright/vestwright/plan/Basis" "WAGE_INVESTMENT" "Lcom/example/vestwright/vestwright/plan/Basis;" (.ref bW)) (FW : Fld Z h0 bW "java/lang/Enum" "ordinal" "I" (.int 1)) (EW : Exa Z h0 bW "com/example/vestwright/vestwright/plan/Basis") (RWz : Sta Z Z.heap "com/example/vestwright/vestwright/census/Census$Amount" "WAGE_INVESTMENT" "Lcom/example/vestwright/vestwright/census/Census$Amount;" (.ref rW)) (GW : Exa Z h0 rW "com/example/vestwright/vestwright/census/Census$Amount") (HW : Fld Z h0 rW "com/example/vestwright/vestwright/census/Census$Amount" "header" "Ljava/lang/String;" (.ref uW)) (EHW : Exa Z h0 uW "java/lang/String") (CHW : Fld Z h0 uW "java/lang/String" "coder" "B" (.int 0)) (VHW : Fld Z h0 uW "java/lang/String" "value" "[B" (.ref vW)) (BHW : BA Z h0 vW 15 fxW) (hhW : Jvm.Lit.constHeld Z "com/example/vestwright/vestwright/allocation/YearAllocationColumnPinLaw" 31) :
    MetFree l x (head1 (Jvm.Cond.code x code maxLocals ret :: ws) room_1) (fun a U => a = #[(.int p0)] ∧ Z.Warmed39 U.vm ∧ U.heap = h0 ∧ IB Z U.vm []) (fun _ _ _ _ _ => True) (fun _ U o U' => ∃ v L, o = .returned v ∧ (Q0 n0) v U'.heap L ∧ ReturnedEndW U o U' L room_1.cells room_1.slots) := by
  refine MetFree.of_bodySF (plainFor_of_name pn_5) hisR ?_
  intro p e s m args below meth c s₁ Bd hml0 hP hK
  obtain ⟨rfl, hZ, hh, hIB⟩ := hP
  have hx := Bd.exec
  have hby := Bd.bytes
  have hlk : meth.locks = false := BodyLoose.notSynchronized Bd
  have hml : c.maxLocals = 4 := hml0
  have hown : s.vm.findClass "com/example/vestwright/vestwright/allocation/YearAllocationColumnPinLaw" = some m.cls := findClass_of_methodNamed Bd.named
  have hnm := (name_of_methodNamed Bd.named Bd.method).1
  have X0 : Stand p l e room_1 (s.setVm s.vm) m #[(.int p0)] below meth c s₁ [] 0 0 := Stand.of_body Bd
  have e0 : s₁.heap = h0 := by rw [← hh, Bd.state]; rfl
  have N0 := Fr.nil n0
  show GoesW p e below s (Q0 n0) room_1.cells room_1.slots (s₁.setTop (entryFrame m #[(.int p0)] maxLocals))
  refine GoesW.by (fun t k => castTop (ef_rm0 m p0) k) ?_
  have hS : s.Since s.vm 0 := (State.WarmedH.refl s).since 0
  have hk0 : 0 ≤ h0.size := Nat.zero_le _
  show GoesW p e below s _ _ _ (s₁.setTop (mkF m 0 #[.val (.int p0), .unset, .unset, .unset] []))
  refine GoesW.by (fun t k => XS.iloadN X0.here hx rfl (hb hby at_0) rfl k) ?_
  show GoesW p e below s _ _ _ (s₁.setTop (mkF m 1 #[.val (.int p0), .unset, .unset, .unset] [(.int p0)]))
  refine GoesW.by (fun t k => XS.iconst X0.here hx rfl (hb hby at_1) k) ?_
  show GoesW p e below s _ _ _ (s₁.setTop (mkF m 2 #[.val (.int p0), .unset, .unset, .unset] [(.int (1 : Int32)), (.int p0)]))
  refine GoesW.by (fun t k => XS.iand X0.here hx rfl (hb hby at_2) rfl k) ?_
  show GoesW p e below s _ _ _ (s₁.setTop (mkF m 3 #[.val (.int p0), .unset, .unset, .unset] [(.int (p0 &&& (1 : Int32)))]))
  by_cases hc : (p0 &&& (1 : Int32)) = (0 : Int32)
  · skip
    refine GoesW.by (fun t k => XS.ifYes X0.here hx rfl (pc0 := 3) (pc' := 10) rfl (hb hby at_3) rfl ((if0 _ _).trans (teq (hc)).1) (by decide) (by decide) k) ?_
    show GoesW p e below s _ _ _ (s₁.setTop (mkF m 10 #[.val (.int p0), .unset, .unset, .unset] []))
    have SCz' := SCz.ext O0.2
    have RCz' := RCz.ext O0.2
    have SAz' := SAz.ext O0.2
    have SCSz' := SCSz.ext O0.2
    refine GoesW.by (fun t k => XS.iconst X0.here hx rfl (hb hby at_10) k) ?_
    show GoesW p e below s _ _ _ (s₁.setTop (mkF m 11 #[.val (.int p0), .unset, .unset, .unset] [(.int (0 : Int32))]))
    refine GoesW.by (fun t k => XS.istoreN X0.here hx rfl (hb hby at_11) rfl (l' := #[.val (.int p0), .val (.int (0 : Int32)), .unset, .unset]) rfl k) ?_
    show GoesW p e below s _ _ _ (s₁.setTop (mkF m 12 #[.val (.int p0), .val (.int (0 : Int32)), .unset, .unset] []))
    refine GoesW.by (fun t k => XS.iloadN X0.here hx rfl (hb hby at_12) rfl k) ?_
    show GoesW p e below s _ _ _ (s₁.setTop (mkF m 13 #[.val (.int p0), .val (.int (0 : Int32)), .unset, .unset] [(.int (0 : Int32))]))
    refine GoesW.by (fun t k => XS.ifYes X0.here hx rfl (pc0 := 13) (pc' := 22) rfl (hb hby at_13) rfl ((if0 _ _).trans (teq (rfl)).1) (by decide) (by decide) k) ?_
    show GoesW p e below s _ _ _ (s₁.setTop (mkF m 22 #[.val (.int p0), .val (.int (0 : Int32)), .unset, .unset] []))
    obtain ⟨T1, X1, e1, st1⟩ := getS2 X0 hx hZ hown (host := "") (Or.inl (hw _ (List.mem_of_getElem? (i := 0) rfl))) Via.refl e0 SCz' (g := (mkF m 22 #[.val (.int p0), .val (.int (0 : Int32)), .unset, .unset] [])) rfl (hb hby at_22)
    refine GoesW.by (fun t k => st1 t k) ?_
    show GoesW p e below s _ _ _ (T1.setTop (mkF m 25 #[.val (.int p0), .val (.int (0 : Int32)), .unset, .unset] [(.ref bC)]))
    refine GoesW.by (fun t k => XS.astoreN X1.here hx rfl (hb hby at_25) rfl rfl (l' := #[.val (.int p0), .val (.int (0 : Int32)), .val (.ref bC), .unset]) rfl k) ?_
    show GoesW p e below s _ _ _ (T1.setTop (mkF m 26 #[.val (.int p0), .val (.int (0 : Int32)), .val (.ref bC), .unset] []))
    refine GoesW.by (fun t k => XS.aloadN X1.here hx rfl (hb hby at_26) rfl rfl k) ?_
    show GoesW p e below s _ _ _ (T1.setTop (mkF m 27 #[.val (.int p0), .val (.int (0 : Int32)), .val (.ref bC), .unset] [(.ref bC)]))
    obtain ⟨_, _, ⟨T2, L2, k2, n2⟩, -, X2, ⟨Lc2, hQ2, l2, y2, z2⟩, st2⟩ := Jvm.LawKit.callS X1 hx (y := (⟨"com/example/vestwright/vestwright/allocation/YearAllocation", "column", "(Lcom/example/vestwright/vestwright/plan/Basis;)Lcom/example/vestwright/vestwright/census/Census$Amount;"⟩ : MethodName)) hown (mvT hZ (hw _ (List.mem_of_getElem? (i := 3) rfl))) (mvT hZ (hw _ (List.mem_of_getElem? (i := 4) rfl))) (mvT hZ (hw _ (List.mem_of_getElem? (i := 5) rfl))) (mvT hZ (hw _ (List.mem_of_getElem? (i := 6) rfl))) (by decide) (backOf (W := 0) (rmc0 l Z a0 hw [] bC wA rC cA h0 n0 Z0 SAz' AA hs hatC FC EC RCz') hZ (hw _ (List.mem_of_getElem? (i := 6) rfl)) (hw _ (List.mem_of_getElem? (i := 5) rfl)) (by decide) (by decide)) (g := (mkF m 27 #[.val (.int p0), .val (.int (0 : Int32)), .val (.ref bC), .unset] [(.ref bC)])) rfl (by rw [hml]; rfl) (argsL := [(.ref bC)]) (rest := []) (lenOf pd_0 rfl) rfl (by show 2 * 0 + _ ≤ _; exact Nat.le_of_eq rfl) (hb hby at_27) (fun _ _ => ⟨rfl, e1, (by decide : 0 + 0 ≤ _), (by decide : 0 + 0 ≤ _)⟩)
    dsimp only [Pt.U, Pt.locs, Pt.cells, Pt.slots] at X2 l2 y2 z2 st2 hQ2
    subst l2 y2 z2
    obtain ⟨rfl, N2q, hh2⟩ := hQ2
    have N2 := Fr.app N0 N2q
    refine GoesW.by (fun t k => st2 _ k) ?_
    show GoesW p e below s _ _ _ (T2.setTop (mkF m 30 #[.val (.int p0), .val (.int (0 : Int32)), .val (.ref bC), .unset] [(.ref rC)]))
    have KK2 : Keep (h0) T2.heap [] := by rw [hh2]; exact Keep.refl _ _
    have OLD_KK2 := O0.keep KK2 all0
    have f1 := Nat.le_trans Z0 KK2.1
    have f2 := Nat.le_trans hk0 KK2.1
    have f3 := SCz.ext OLD_KK2.2
    have f4 := RCz.ext OLD_KK2.2
    have f5 := SAz.ext OLD_KK2.2
    have f6 := SCSz.ext OLD_KK2.2
    have f7 := GC.keep KK2
    have f8 := HC.keep KK2 nin0
    have f9 := EHC.keep KK2
    have f10 := CHC.keep KK2 nin0
    have f11 := VHC.keep KK2 nin0
    have f12 := BHC.keep KK2 nin0
    refine GoesW.by (fun t k => XS.astoreN X2.here hx rfl (hb hby at_30) rfl rfl (l' := #[.val (.int p0), .val (.int (0 : Int32)), .val (.ref bC), .val (.ref rC)]) rfl k) ?_
    show GoesW p e below s _ _ _ (T2.setTop (mkF m 31 #[.val (.int p0), .val (.int (0 : Int32)), .val (.ref bC), .val (.ref rC)] []))
    refine GoesW.by (fun t k => XS.aloadN X2.here hx rfl (hb hby at_31) rfl rfl k) ?_
    show GoesW p e below s _ _ _ (T2.setTop (mkF m 32 #[.val (.int p0), .val (.int (0 : Int32)), .val (.ref bC), .val (.ref rC)] [(.ref rC)]))
    refine GoesW.by (fun t k => XS.ifnonnullYes X2.here hx rfl (pc0 := 32) (pc' := 37) rfl (hb hby at_32) rfl (by decide) (by decide) k) ?_
    show GoesW p e below s _ _ _ (T2.setTop (mkF m 37 #[.val (.int p0), .val (.int (0 : Int32)), .val (.ref bC), .val (.ref rC)] []))
    refine GoesW.by (fun t k => XS.iloadN X2.here hx rfl (hb hby at_37) rfl k) ?_
    show GoesW p e below s _ _ _ (T2.setTop (mkF m 38 #[.val (.int p0), .val (.int (0 : Int32)), .val (.ref bC), .val (.ref rC)] [(.int (0 : Int32))]))
    refine GoesW.by (fun t k => XS.ifYes X2.here hx rfl (pc0 := 38) (pc' := 66) rfl (hb hby at_38) rfl ((if0 _ _).trans (teq (rfl)).1) (by decide) (by decide) k) ?_
    show GoesW p e below s _ _ _ (T2.setTop (mkF m 66 #[.val (.int p0), .val (.int (0 : Int32)), .val (.ref bC), .val (.ref rC)] []))
    refine GoesW.by (fun t k => XS.aloadN X2.here hx rfl (hb hby at_66) rfl rfl k) ?_
    show GoesW p e below s _ _ _ (T2.setTop (mkF m 67 #[.val (.int p0), .val (.int (0 : Int32)), .val (.ref bC), .val (.ref rC)] [(.ref rC)]))
    obtain ⟨T3, X3, e3, st3⟩ := getS2 X2 hx hZ hown (host := "") (Or.inl (hw _ (List.mem_of_getElem? (i := 22) rfl))) Via.refl rfl f4 (g := (mkF m 67 #[.val (.int p0), .val (.int (0 : Int32)), .val (.ref bC), .val (.ref rC)] [(.ref rC)])) rfl (hb hby at_67)
    refine GoesW.by (fun t k => st3 t k) ?_
    show GoesW p e below s _ _ _ (T3.setTop (mkF m 70 #[.val (.int p0), .val (.int (0 : Int32)), .val (.ref bC), .val (.ref rC)] [(.ref rC), (.ref rC)]))
    refine GoesW.by (fun t k => Jvm.RoadKit.acmp (g := (mkF m 70 #[.val (.int p0), .val (.int (0 : Int32)), .val (.ref bC), .val (.ref rC)] [(.ref rC), (.ref rC)])) X3 hx rfl rfl rfl (pc0 := 70) (pc' := 73) (same := true) rfl (hb hby at_70) rfl (decide_eq_true rfl) (by decide) (by decide) k) ?_
    show GoesW p e below s _ _ _ (T3.setTop (mkF m 73 #[.val (.int p0), .val (.int (0 : Int32)), .val (.ref bC), .val (.ref rC)] []))
    refine GoesW.by (fun t k => XS.aloadN X3.here hx rfl (hb hby at_73) rfl rfl k) ?_
    show GoesW p e below s _ _ _ (T3.setTop (mkF m 74 #[.val (.int p0), .val (.int (0 : Int32)), .val (.ref bC), .val (.ref rC)] [(.ref rC)]))
    obtain ⟨cq4, kq4, q4a, q4b, q4c⟩ := isOf hZ e3 (f7)
    obtain ⟨_, _, ⟨T4, L4, k4, n4⟩, -, X4, ⟨Lc4, hQ4, l4, y4, z4⟩, st4⟩ := X3.virtualBack hx (y := (⟨"com/example/vestwright/vestwright/census/Census$Amount", "header", "()Ljava/lang/String;"⟩ : MethodName)) (z := (⟨"com/example/vestwright/vestwright/census/Census$Amount", "header", "()Ljava/lang/String;"⟩ : MethodName)) hown (mvT hZ (hw _ (List.mem_of_getElem? (i := 23) rfl))) (mvT hZ (hw _ (List.mem_of_getElem? (i := 24) rfl))) (notFace_of_selects (args := #[]) (mvT hZ (hw _ (List.mem_of_getElem? (i := 26) rfl)))) (mvT hZ (hw _ (List.mem_of_getElem? (i := 26) rfl))) (mvT hZ (hw _ (List.mem_of_getElem? (i := 25) rfl))) (by decide) (backOf (W := 0) (rm3 l Z a0 hw [] rC uC T2.heap n0 f1 f8) hZ (hw _ (List.mem_of_getElem? (i := 27) rfl)) (hw _ (List.mem_of_getElem? (i := 20) rfl)) (by decide) (by decide)) q4a q4c (g := (mkF m 74 #[.val (.int p0), .val (.int (0 : Int32)), .val (.ref bC), .val (.ref rC)] [(.ref rC)])) rfl (by rw [hml]; rfl) (Steps.refl _) (argsL := []) (rest := []) (lenOf pd_2 rfl) rfl (by show 2 * 0 + _ ≤ _; exact Nat.le_of_eq rfl) (hb hby at_74) (fun _ _ => ⟨rfl, e3, (by decide : 0 + 0 ≤ _), (by decide : 0 + 0 ≤ _)⟩)
    dsimp only [Pt.U, Pt.locs, Pt.cells, Pt.slots] at X4 l4 y4 z4 st4 hQ4
    subst l4 y4 z4
    obtain ⟨rfl, N4q, hh4⟩ := hQ4
    have N4 := Fr.app N2 N4q
    refine GoesW.by (fun t k => st4.trans k) ?_
    show GoesW p e below s _ _ _ (T4.setTop (mkF m 77 #[.val (.int p0), .val (.int (0 : Int32)), .val (.ref bC), .val (.ref rC)] [(.ref uC)]))
    have KK4 : Keep (T2.heap) T4.heap [] := by rw [hh4]; exact Keep.refl _ _
    have OLD_KK4 := OLD_KK2.keep KK4 all0
    have f13 := Nat.le_trans f1 KK4.1
    have f14 := Nat.le_trans f2 KK4.1
    have f15 := SCz.ext OLD_KK4.2
    have f16 := RCz.ext OLD_KK4.2
    have f17 := SAz.ext OLD_KK4.2
    have f18 := SCSz.ext OLD_KK4.2
    have f19 := f7.keep KK4
    have f20 := f8.keep KK4 nin0
    have f21 := f9.keep KK4
    have f22 := f10.keep KK4 nin0
    have f23 := f11.keep KK4 nin0
    have f24 := f12.keep KK4 nin0
    obtain ⟨a5, T5, h5, k5, b5, kc5, X5, e5, E5, hS, hk5, hZ, hown, Ea5, Fc5, Fv5, Av5, -, -, hIB', st5⟩ := ldcSV X4 hx hZ hown (hw _ (List.mem_of_getElem? (i := 30) rfl)) wS rfl hS f14 (by rw [hh, ← hn0]; exact N4) (fun b cl q => by rw [hh]; exact O0.2.2 b cl q) hIB (by simp) hhC hcw (vs := (txC.map Value.int)) (z := 12) (own_txC) (by decide) (by decide) (g := (mkF m 77 #[.val (.int p0), .val (.int (0 : Int32)), .val (.ref bC), .val (.ref rC)] [(.ref uC)])) rfl (hb hby at_77) (n := 48) (by decide) (by decide) (by decide) (by decide)
    refine GoesW.by (fun t k => st5 t k) ?_
    show GoesW p e below s _ _ _ (T5.setTop (mkF m 79 #[.val (.int p0), .val (.int (0 : Int32)), .val (.ref bC), .val (.ref rC)] [(.ref a5), (.ref uC)]))
    have f25 := OLD_KK4.ext E5
    have f26 := Nat.le_trans f13 E5.1
    have f27 := Nat.le_trans f14 E5.1
    have f28 := f15.ext E5
    have f29 := f16.ext E5
    have f30 := f17.ext E5
    have f31 := f18.ext E5
    have f32 := f19.ext E5
    have f33 := f20.ext E5
    have f34 := f21.ext E5
    have f35 := f22.ext E5
    have f36 := f23.ext E5
    have f37 := f24.ext E5
    have BL : BA Z h5 b5 12 fxC := BA.of_arv Av5 (by decide) (by decide +kernel)
    obtain ⟨cq6, kq6, q6a, q6b, q6c⟩ := isOf hZ e5 (f34)
    obtain ⟨_, _, ⟨T6, L6, k6, n6⟩, -, X6, ⟨Lc6, hQ6, l6, y6, z6⟩, st6⟩ := X5.virtualBack hx (y := (⟨"java/lang/String", "equals", "(Ljava/lang/Object;)Z"⟩ : MethodName)) (z := (⟨"java/lang/String", "equals", "(Ljava/lang/Object;)Z"⟩ : MethodName)) hown (mvT hZ (hw _ (List.mem_of_getElem? (i := 38) rfl))) (mvT hZ (hw _ (List.mem_of_getElem? (i := 39) rfl))) (notFace_of_selects (args := #[]) (mvT hZ (hw _ (List.mem_of_getElem? (i := 41) rfl)))) (mvT hZ (hw _ (List.mem_of_getElem? (i := 41) rfl))) (mvT hZ (hw _ (List.mem_of_getElem? (i := 40) rfl))) (by decide) (backOf (W := 0) (rm4 l Z a0 hw [] uC a5 vC b5 12 fxC z h5 n0 f26 (by decide) f34 f35 f36 f37 Ea5 Fc5 Fv5 BL f31 hz) hZ (hw _ (List.mem_of_getElem? (i := 42) rfl)) (hw _ (List.mem_of_getElem? (i := 31) rfl)) (by decide) (by decide)) q6a q6c (g := (mkF m 79 #[.val (.int p0), .val (.int (0 : Int32)), .val (.ref bC), .val (.ref rC)] [(.ref a5), (.ref uC)])) rfl (by rw [hml]; rfl) (Steps.refl _) (argsL := [(.ref a5)]) (rest := []) (lenOf pd_3 rfl) rfl (by show 2 * 0 + _ ≤ _; exact Nat.le_of_eq rfl) (hb hby at_79) (fun _ _ => ⟨rfl, e5, (by decide : 2 + 0 ≤ _), (by decide : 52 + 0 ≤ _)⟩)
    dsimp only [Pt.U, Pt.locs, Pt.cells, Pt.slots] at X6 l6 y6 z6 st6 hQ6
    subst l6 y6 z6
    obtain ⟨rfl, N6q, hhe6⟩ := hQ6
    have N6 := Fr.app N4 N6q
    refine GoesW.by (fun t k => st6.trans k) ?_
    show GoesW p e below s _ _ _ (T6.setTop (mkF m 82 #[.val (.int p0), .val (.int (0 : Int32)), .val (.ref bC), .val (.ref rC)] [(.int (1 : Int32))]))
    have KK6 : Keep (h5) T6.heap [] := by rw [hhe6]; exact Keep.refl _ _
    have OLD_KK6 := f25.keep KK6 all0
    have f38 := Nat.le_trans f26 KK6.1
    have f39 := Nat.le_trans hk5 KK6.1
    have f40 := SCz.ext OLD_KK6.2
    have f41 := RCz.ext OLD_KK6.2
    have f42 := SAz.ext OLD_KK6.2
    have f43 := SCSz.ext OLD_KK6.2
    have f44 := f32.keep KK6
    have f45 := f33.keep KK6 nin0
    have f46 := f34.keep KK6
    have f47 := f35.keep KK6 nin0
    have f48 := f36.keep KK6 nin0
    have f49 := f37.keep KK6 nin0
    have f50 := Ea5.keep KK6
    have f51 := Fc5.keep KK6 nin0
    have f52 := Fv5.keep KK6 nin0
    have f53 := Av5.keep KK6 nin0
    refine GoesW.by (fun t k => XS.ifNo X6.here hx rfl (hb hby at_82) rfl ((if0 _ _).trans (feq (by decide)).1) k) ?_
    show GoesW p e below s _ _ _ (T6.setTop (mkF m 85 #[.val (.int p0), .val (.int (0 : Int32)), .val (.ref bC), .val (.ref rC)] []))
    refine GoesW.by (fun t k => XS.iconst X6.here hx rfl (hb hby at_85) k) ?_
    show GoesW p e below s _ _ _ (T6.setTop (mkF m 86 #[.val (.int p0), .val (.int (0 : Int32)), .val (.ref bC), .val (.ref rC)] [(.int (1 : Int32))]))
    refine GoesW.by (fun t k => XS.goto X6.here hx rfl (pc0 := 86) (pc' := 90) rfl (hb hby at_86) (by decide) (by decide) k) ?_
    show GoesW p e below s _ _ _ (T6.setTop (mkF m 90 #[.val (.int p0), .val (.int (0 : Int32)), .val (.ref bC), .val (.ref rC)] [(.int (1 : Int32))]))
    exact GoesW.retN X6 hS (by exact f39) hx Bd.returns rfl (hb hby at_90) hlk (by exact ⟨rfl, N6⟩) (by decide) (by decide)
  · skip
    refine GoesW.by (fun t k => XS.ifNo X0.here hx rfl (hb hby at_3) rfl ((if0 _ _).trans (feq (hc)).1) k) ?_
    show GoesW p e below s _ _ _ (s₁.setTop (mkF m 6 #[.val (.int p0), .unset, .unset, .unset] []))
    have SWz' := SWz.ext O0.2
    have RWz' := RWz.ext O0.2
    have SAz' := SAz.ext O0.2
    have SCSz' := SCSz.ext O0.2
    refine GoesW.by (fun t k => XS.iconst X0.here hx rfl (hb hby at_6) k) ?_
    show GoesW p e below s _ _ _ (s₁.setTop (mkF m 7 #[.val (.int p0), .unset, .unset, .unset] [(.int (1 : Int32))]))
    refine GoesW.by (fun t k => XS.goto X0.here hx rfl (pc0 := 7) (pc' := 11) rfl (hb hby at_7) (by decide) (by decide) k) ?_
    show GoesW p e below s _ _ _ (s₁.setTop (mkF m 11 #[.val (.int p0), .unset, .unset, .unset] [(.int (1 : Int32))]))
    refine GoesW.by (fun t k => XS.istoreN X0.here hx rfl (hb hby at_11) rfl (l' := #[.val (.int p0), .val (.int (1 : Int32)), .unset, .unset]) rfl k) ?_
    show GoesW p e below s _ _ _ (s₁.setTop (mkF m 12 #[.val (.int p0), .val (.int (1 : Int32)), .unset, .unset] []))
    refine GoesW.by (fun t k => XS.iloadN X0.here hx rfl (hb hby at_12) rfl k) ?_
    show GoesW p e below s _ _ _ (s₁.setTop (mkF m 13 #[.val (.int p0), .val (.int (1 : Int32)), .unset, .unset] [(.int (1 : Int32))]))
    refine GoesW.by (fun t k => XS.ifNo X0.here hx rfl (hb hby at_13) rfl ((if0 _ _).trans (feq (by decide)).1) k) ?_
    show GoesW p e below s _ _ _ (s₁.setTop (mkF m 16 #[.val (.int p0), .val (.int (1 : Int32)), .unset, .unset] []))
    obtain ⟨T7, X7, e7, st7⟩ := getS2 X0 hx hZ hown (host := "") (Or.inl (hw _ (List.mem_of_getElem? (i := 52) rfl))) Via.refl e0 SWz' (g := (mkF m 16 #[.val (.int p0), .val (.int (1 : Int32)), .unset, .unset] [])) rfl (hb hby at_16)
    refine GoesW.by (fun t k => st7 t k) ?_
    show GoesW p e below s _ _ _ (T7.setTop (mkF m 19 #[.val (.int p0), .val (.int (1 : Int32)), .unset, .unset] [(.ref bW)]))
    refine GoesW.by (fun t k => XS.goto X7.here hx rfl (pc0 := 19) (pc' := 25) rfl (hb hby at_19) (by decide) (by decide) k) ?_
    show GoesW p e below s _ _ _ (T7.setTop (mkF m 25 #[.val (.int p0), .val (.int (1 : Int32)), .unset, .unset] [(.ref bW)]))
    refine GoesW.by (fun t k => XS.astoreN X7.here hx rfl (hb hby at_25) rfl rfl (l' := #[.val (.int p0), .val (.int (1 : Int32)), .val (.ref bW), .unset]) rfl k) ?_
    show GoesW p e below s _ _ _ (T7.setTop (mkF m 26 #[.val (.int p0), .val (.int (1 : Int32)), .val (.ref bW), .unset] []))
    refine GoesW.by (fun t k => XS.aloadN X7.here hx rfl (hb hby at_26) rfl rfl k) ?_
    show GoesW p e below s _ _ _ (T7.setTop (mkF m 27 #[.val (.int p0), .val (.int (1 : Int32)), .val (.ref bW), .unset] [(.ref bW)]))
    obtain ⟨_, _, ⟨T8, L8, k8, n8⟩, -, X8, ⟨Lc8, hQ8, l8, y8, z8⟩, st8⟩ := Jvm.LawKit.callS X7 hx (y := (⟨"com/example/vestwright/vestwright/allocation/YearAllocation", "column", "(Lcom/example/vestwright/vestwright/plan/Basis;)Lcom/example/vestwright/vestwright/census/Census$Amount;"⟩ : MethodName)) hown (mvT hZ (hw _ (List.mem_of_getElem? (i := 3) rfl))) (mvT hZ (hw _ (List.mem_of_getElem? (i := 4) rfl))) (mvT hZ (hw _ (List.mem_of_getElem? (i := 5) rfl))) (mvT hZ (hw _ (List.mem_of_getElem? (i := 6) rfl))) (by decide) (backOf (W := 0) (rmc1 l Z a0 hw [] bW wA rW cA h0 n0 Z0 SAz' AA hs hatW FW EW RWz') hZ (hw _ (List.mem_of_getElem? (i := 6) rfl)) (hw _ (List.mem_of_getElem? (i := 5) rfl)) (by decide) (by decide)) (g := (mkF m 27 #[.val (.int p0), .val (.int (1 : Int32)), .val (.ref bW), .unset] [(.ref bW)])) rfl (by rw [hml]; rfl) (argsL := [(.ref bW)]) (rest := []) (lenOf pd_0 rfl) rfl (by show 2 * 0 + _ ≤ _; exact Nat.le_of_eq rfl) (hb hby at_27) (fun _ _ => ⟨rfl, e7, (by decide : 0 + 0 ≤ _), (by decide : 0 + 0 ≤ _)⟩)
    dsimp only [Pt.U, Pt.locs, Pt.cells, Pt.slots] at X8 l8 y8 z8 st8 hQ8
    subst l8 y8 z8
    obtain ⟨rfl, N8q, hh8⟩ := hQ8
    have N8 := Fr.app N0 N8q
    refine GoesW.by (fun t k => st8 _ k) ?_
    show GoesW p e below s _ _ _ (T8.setTop (mkF m 30 #[.val (.int p0), .val (.int (1 : Int32)), .val (.ref bW), .unset] [(.ref rW)]))
    have KK8 : Keep (h0) T8.heap [] := by rw [hh8]; exact Keep.refl _ _
    have OLD_KK8 := O0.keep KK8 all0
    have f54 := Nat.le_trans Z0 KK8.1
    have f55 := Nat.le_trans hk0 KK8.1
    have f56 := SWz.ext OLD_KK8.2
    have f57 := RWz.ext OLD_KK8.2
    have f58 := SAz.ext OLD_KK8.2
    have f59 := SCSz.ext OLD_KK8.2
    have f60 := GW.keep KK8
    have f61 := HW.keep KK8 nin0
    have f62 := EHW.keep KK8
    have f63 := CHW.keep KK8 nin0
    have f64 := VHW.keep KK8 nin0
    have f65 := BHW.keep KK8 nin0
    refine GoesW.by (fun t k => XS.astoreN X8.here hx rfl (hb hby at_30) rfl rfl (l' := #[.val (.int p0), .val (.int (1 : Int32)), .val (.ref bW), .val (.ref rW)]) rfl k) ?_
    show GoesW p e below s _ _ _ (T8.setTop (mkF m 31 #[.val (.int p0), .val (.int (1 : Int32)), .val (.ref bW), .val (.ref rW)] []))
    refine GoesW.by (fun t k => XS.aloadN X8.here hx rfl (hb hby at_31) rfl rfl k) ?_
    show GoesW p e below s _ _ _ (T8.setTop (mkF m 32 #[.val (.int p0), .val (.int (1 : Int32)), .val (.ref bW), .val (.ref rW)] [(.ref rW)]))
    refine GoesW.by (fun t k => XS.ifnonnullYes X8.here hx rfl (pc0 := 32) (pc' := 37) rfl (hb hby at_32) rfl (by decide) (by decide) k) ?_
    show GoesW p e below s _ _ _ (T8.setTop (mkF m 37 #[.val (.int p0), .val (.int (1 : Int32)), .val (.ref bW), .val (.ref rW)] []))
    refine GoesW.by (fun t k => XS.iloadN X8.here hx rfl (hb hby at_37) rfl k) ?_
    show GoesW p e below s _ _ _ (T8.setTop (mkF m 38 #[.val (.int p0), .val (.int (1 : Int32)), .val (.ref bW), .val (.ref rW)] [(.int (1 : Int32))]))
    refine GoesW.by (fun t k => XS.ifNo X8.here hx rfl (hb hby at_38) rfl ((if0 _ _).trans (feq (by decide)).1) k) ?_
    show GoesW p e below s _ _ _ (T8.setTop (mkF m 41 #[.val (.int p0), .val (.int (1 : Int32)), .val (.ref bW), .val (.ref rW)] []))
    refine GoesW.by (fun t k => XS.aloadN X8.here hx rfl (hb hby at_41) rfl rfl k) ?_
    show GoesW p e below s _ _ _ (T8.setTop (mkF m 42 #[.val (.int p0), .val (.int (1 : Int32)), .val (.ref bW), .val (.ref rW)] [(.ref rW)]))
    obtain ⟨T9, X9, e9, st9⟩ := getS2 X8 hx hZ hown (host := "") (Or.inl (hw _ (List.mem_of_getElem? (i := 56) rfl))) Via.refl rfl f57 (g := (mkF m 42 #[.val (.int p0), .val (.int (1 : Int32)), .val (.ref bW), .val (.ref rW)] [(.ref rW)])) rfl (hb hby at_42)
    refine GoesW.by (fun t k => st9 t k) ?_
    show GoesW p e below s _ _ _ (T9.setTop (mkF m 45 #[.val (.int p0), .val (.int (1 : Int32)), .val (.ref bW), .val (.ref rW)] [(.ref rW), (.ref rW)]))
    refine GoesW.by (fun t k => Jvm.RoadKit.acmp (g := (mkF m 45 #[.val (.int p0), .val (.int (1 : Int32)), .val (.ref bW), .val (.ref rW)] [(.ref rW), (.ref rW)])) X9 hx rfl rfl rfl (pc0 := 45) (pc' := 48) (same := true) rfl (hb hby at_45) rfl (decide_eq_true rfl) (by decide) (by decide) k) ?_
    show GoesW p e below s _ _ _ (T9.setTop (mkF m 48 #[.val (.int p0), .val (.int (1 : Int32)), .val (.ref bW), .val (.ref rW)] []))
    refine GoesW.by (fun t k => XS.aloadN X9.here hx rfl (hb hby at_48) rfl rfl k) ?_
    show GoesW p e below s _ _ _ (T9.setTop (mkF m 49 #[.val (.int p0), .val (.int (1 : Int32)), .val (.ref bW), .val (.ref rW)] [(.ref rW)]))
    obtain ⟨cq10, kq10, q10a, q10b, q10c⟩ := isOf hZ e9 (f60)
    obtain ⟨_, _, ⟨T10, L10, k10, n10⟩, -, X10, ⟨Lc10, hQ10, l10, y10, z10⟩, st10⟩ := X9.virtualBack hx (y := (⟨"com/example/vestwright/vestwright/census/Census$Amount", "header", "()Ljava/lang/String;"⟩ : MethodName)) (z := (⟨"com/example/vestwright/vestwright/census/Census$Amount", "header", "()Ljava/lang/String;"⟩ : MethodName)) hown (mvT hZ (hw _ (List.mem_of_getElem? (i := 23) rfl))) (mvT hZ (hw _ (List.mem_of_getElem? (i := 24) rfl))) (notFace_of_selects (args := #[]) (mvT hZ (hw _ (List.mem_of_getElem? (i := 26) rfl)))) (mvT hZ (hw _ (List.mem_of_getElem? (i := 26) rfl))) (mvT hZ (hw _ (List.mem_of_getElem? (i := 25) rfl))) (by decide) (backOf (W := 0) (rm3 l Z a0 hw [] rW uW T8.heap n0 f54 f61) hZ (hw _ (List.mem_of_getElem? (i := 27) rfl)) (hw _ (List.mem_of_getElem? (i := 20) rfl)) (by decide) (by decide)) q10a q10c (g := (mkF m 49 #[.val (.int p0), .val (.int (1 : Int32)), .val (.ref bW), .val (.ref rW)] [(.ref rW)])) rfl (by rw [hml]; rfl) (Steps.refl _) (argsL := []) (rest := []) (lenOf pd_2 rfl) rfl (by show 2 * 0 + _ ≤ _; exact Nat.le_of_eq rfl) (hb hby at_49) (fun _ _ => ⟨rfl, e9, (by decide : 0 + 0 ≤ _), (by decide : 0 + 0 ≤ _)⟩)
    dsimp only [Pt.U, Pt.locs, Pt.cells, Pt.slots] at X10 l10 y10 z10 st10 hQ10
    subst l10 y10 z10
    obtain ⟨rfl, N10q, hh10⟩ := hQ10
    have N10 := Fr.app N8 N10q
    refine GoesW.by (fun t k => st10.trans k) ?_
    show GoesW p e below s _ _ _ (T10.setTop (mkF m 52 #[.val (.int p0), .val (.int (1 : Int32)), .val (.ref bW), .val (.ref rW)] [(.ref uW)]))
    have KK10 : Keep (T8.heap) T10.heap [] := by rw [hh10]; exact Keep.refl _ _
    have OLD_KK10 := OLD_KK8.keep KK10 all0
    have f66 := Nat.le_trans f54 KK10.1
    have f67 := Nat.le_trans f55 KK10.1
    have f68 := SWz.ext OLD_KK10.2
    have f69 := RWz.ext OLD_KK10.2
    have f70 := SAz.ext OLD_KK10.2
    have f71 := SCSz.ext OLD_KK10.2
    have f72 := f60.keep KK10
    have f73 := f61.keep KK10 nin0
    have f74 := f62.keep KK10
    have f75 := f63.keep KK10 nin0
    have f76 := f64.keep KK10 nin0
    have f77 := f65.keep KK10 nin0
    obtain ⟨a11, T11, h11, k11, b11, kc11, X11, e11, E11, hS, hk11, hZ, hown, Ea11, Fc11, Fv11, Av11, -, -, hIB', st11⟩ := ldcSV X10 hx hZ hown (hw _ (List.mem_of_getElem? (i := 57) rfl)) wS rfl hS f67 (by rw [hh, ← hn0]; exact N10) (fun b cl q => by rw [hh]; exact O0.2.2 b cl q) hIB (by simp) hhW hcw (vs := (txW.map Value.int)) (z := 15) (own_txW) (by decide) (by decide) (g := (mkF m 52 #[.val (.int p0), .val (.int (1 : Int32)), .val (.ref bW), .val (.ref rW)] [(.ref uW)])) rfl (hb hby at_52) (n := 60) (by decide) (by decide) (by decide) (by decide)
    refine GoesW.by (fun t k => st11 t k) ?_
    show GoesW p e below s _ _ _ (T11.setTop (mkF m 54 #[.val (.int p0), .val (.int (1 : Int32)), .val (.ref bW), .val (.ref rW)] [(.ref a11), (.ref uW)]))
    have f78 := OLD_KK10.ext E11
    have f79 := Nat.le_trans f66 E11.1
    have f80 := Nat.le_trans f67 E11.1
    have f81 := f68.ext E11
    have f82 := f69.ext E11
    have f83 := f70.ext E11
    have f84 := f71.ext E11
    have f85 := f72.ext E11
    have f86 := f73.ext E11
    have f87 := f74.ext E11
    have f88 := f75.ext E11
    have f89 := f76.ext E11
    have f90 := f77.ext E11
    have BL : BA Z h11 b11 15 fxW := BA.of_arv Av11 (by decide) (by decide +kernel)
    obtain ⟨cq12, kq12, q12a, q12b, q12c⟩ := isOf hZ e11 (f87)
    obtain ⟨_, _, ⟨T12, L12, k12, n12⟩, -, X12, ⟨Lc12, hQ12, l12, y12, z12⟩, st12⟩ := X11.virtualBack hx (y := (⟨"java/lang/String", "equals", "(Ljava/lang/Object;)Z"⟩ : MethodName)) (z := (⟨"java/lang/String", "equals", "(Ljava/lang/Object;)Z"⟩ : MethodName)) hown (mvT hZ (hw _ (List.mem_of_getElem? (i := 38) rfl))) (mvT hZ (hw _ (List.mem_of_getElem? (i := 39) rfl))) (notFace_of_selects (args := #[]) (mvT hZ (hw _ (List.mem_of_getElem? (i := 41) rfl)))) (mvT hZ (hw _ (List.mem_of_getElem? (i := 41) rfl))) (mvT hZ (hw _ (List.mem_of_getElem? (i := 40) rfl))) (by decide) (backOf (W := 0) (rm4 l Z a0 hw [] uW a11 vW b11 15 fxW z h11 n0 f79 (by decide) f87 f88 f89 f90 Ea11 Fc11 Fv11 BL f84 hz) hZ (hw _ (List.mem_of_getElem? (i := 42) rfl)) (hw _ (List.mem_of_getElem? (i := 31) rfl)) (by decide) (by decide)) q12a q12c (g := (mkF m 54 #[.val (.int p0), .val (.int (1 : Int32)), .val (.ref bW), .val (.ref rW)] [(.ref a11), (.ref uW)])) rfl (by rw [hml]; rfl) (Steps.refl _) (argsL := [(.ref a11)]) (rest := []) (lenOf pd_3 rfl) rfl (by show 2 * 0 + _ ≤ _; exact Nat.le_of_eq rfl) (hb hby at_54) (fun _ _ => ⟨rfl, e11, (by decide : 2 + 0 ≤ _), (by decide : 64 + 0 ≤ _)⟩)
    dsimp only [Pt.U, Pt.locs, Pt.cells, Pt.slots] at X12 l12 y12 z12 st12 hQ12
    subst l12 y12 z12
    obtain ⟨rfl, N12q, hhe12⟩ := hQ12
    have N12 := Fr.app N10 N12q
    refine GoesW.by (fun t k => st12.trans k) ?_
    show GoesW p e below s _ _ _ (T12.setTop (mkF m 57 #[.val (.int p0), .val (.int (1 : Int32)), .val (.ref bW), .val (.ref rW)] [(.int (1 : Int32))]))
    have KK12 : Keep (h11) T12.heap [] := by rw [hhe12]; exact Keep.refl _ _
    have OLD_KK12 := f78.keep KK12 all0
    have f91 := Nat.le_trans f79 KK12.1
    have f92 := Nat.le_trans hk11 KK12.1
    have f93 := SWz.ext OLD_KK12.2
    have f94 := RWz.ext OLD_KK12.2
    have f95 := SAz.ext OLD_KK12.2
    have f96 := SCSz.ext OLD_KK12.2
    have f97 := f85.keep KK12
    have f98 := f86.keep KK12 nin0
    have f99 := f87.keep KK12
    have f100 := f88.keep KK12 nin0
    have f101 := f89.keep KK12 nin0
    have f102 := f90.keep KK12 nin0
    have f103 := Ea11.keep KK12
    have f104 := Fc11.keep KK12 nin0
    have f105 := Fv11.keep KK12 nin0
    have f106 := Av11.keep KK12 nin0
    refine GoesW.by (fun t k => XS.ifNo X12.here hx rfl (hb hby at_57) rfl ((if0 _ _).trans (feq (by decide)).1) k) ?_
    show GoesW p e below s _ _ _ (T12.setTop (mkF m 60 #[.val (.int p0), .val (.int (1 : Int32)), .val (.ref bW), .val (.ref rW)] []))
    refine GoesW.by (fun t k => XS.iconst X12.here hx rfl (hb hby at_60) k) ?_
    show GoesW p e below s _ _ _ (T12.setTop (mkF m 61 #[.val (.int p0), .val (.int (1 : Int32)), .val (.ref bW), .val (.ref rW)] [(.int (1 : Int32))]))
    refine GoesW.by (fun t k => XS.goto X12.here hx rfl (pc0 := 61) (pc' := 65) rfl (hb hby at_61) (by decide) (by decide) k) ?_
    show GoesW p e below s _ _ _ (T12.setTop (mkF m 65 #[.val (.int p0), .val (.int (1 : Int32)), .val (.ref bW), .val (.ref rW)] [(.int (1 : Int32))]))
    exact GoesW.retN X12 hS (by exact f92) hx Bd.returns rfl (hb hby at_65) hlk (by exact ⟨rfl, N12⟩) (by decide) (by decide)
set_option maxRecDepth 65536 in
set_option maxHeartbeats 40000000 in
theorem comes_1 {Post : Tables → Env → Array Value → State → Outcome → State → Prop} (hpost : ∀ tb e args s v u, (limb_1_1.after args s (.returned v) u = true ∧ limb_1_2.after args s (.returned v) u = true ∧ True) → ReturnedEndW s (.returned v) u (Jvm.fieldLocs frame_1_writes args s ++ Jvm.arrayLocs frame_1_arrays args s ++ Jvm.staticLocs frame_1_statics s) 8 2112 → Post tb e args s (.returned v) u) :
    ArmFor flags0 classFile x code maxLocals ret World_1 tables_1 room_1 Calls_1 rest_1 Pre_1 Post := by
  intro l hfl _ _ p e ha hc hk s m args below hf hA hF happ hP
  obtain ⟨hcalls, hrest, hpre⟩ := hP
  obtain ⟨-, -, -, hnamed, -, -, -, hat⟩ := (Spec.applies_iff hf).mp happ
  obtain ⟨hg, hn⟩ := and_e (Cond.before_iff.mp (show (Jvm.Cond.and given_1 narrow_1).before args s = true from hpre))
  obtain ⟨hcnt, hg⟩ := and_e hg
  have ga0 := hg
  obtain ⟨w0, rfl⟩ : ∃ w0 : Value, args = #[w0] := by
    have hs : args.size = 1 := by simpa [Cond.value, given_1] using hcnt
    obtain ⟨L⟩ := args
    match L, hs with
    | [w0], _ => exact ⟨w0, rfl⟩
  have hw := fun d (hd : d ∈ tables_1) => atoms_spec (ws := Jvm.Cond.code x code maxLocals ret :: tables_1) hat d (List.mem_cons_of_mem _ hd)
  obtain ⟨i0, ei0⟩ := is_v ga0
  obtain rfl : w0 = (.int i0) := Option.some.inj ei0
  obtain ⟨hsets, hown0⟩ := atoms_of _ (rest_1_c_eq ▸ (show rest_1_c.before _ s = true from hrest))
  obtain ⟨c0, hn⟩ := and_e hn
  obtain ⟨c1, hn⟩ := and_e hn
  obtain ⟨c2, hn⟩ := and_e hn
  obtain ⟨c3, hn⟩ := and_e hn
  obtain ⟨c4, hn⟩ := and_e hn
  obtain ⟨c5, hn⟩ := and_e hn
  obtain ⟨c6, hn⟩ := and_e hn
  obtain ⟨c7, hn⟩ := and_e hn
  obtain ⟨c8, hn⟩ := and_e hn
  obtain ⟨c9, hn⟩ := and_e hn
  obtain ⟨c10, hn⟩ := and_e hn
  obtain ⟨c11, hn⟩ := and_e hn
  obtain ⟨c12, hn⟩ := and_e hn
  obtain ⟨c13, hn⟩ := and_e hn
  obtain ⟨c14, hn⟩ := and_e hn
  obtain ⟨c15, hn⟩ := and_e hn
  obtain ⟨c16, hn⟩ := and_e hn
  obtain ⟨c17, hn⟩ := and_e hn
  obtain ⟨c18, hn⟩ := and_e hn
  obtain ⟨c19, hn⟩ := and_e hn
  obtain ⟨c20, hn⟩ := and_e hn
  obtain ⟨c21, hn⟩ := and_e hn
  obtain ⟨c22, hn⟩ := and_e hn
  obtain ⟨c23, hn⟩ := and_e hn
  obtain ⟨c24, hn⟩ := and_e hn
  obtain ⟨c25, hn⟩ := and_e hn
  obtain ⟨c26, hn⟩ := and_e hn
  obtain ⟨c27, hn⟩ := and_e hn
  obtain ⟨c28, hn⟩ := and_e hn
  obtain ⟨c29, hn⟩ := and_e hn
  obtain ⟨c30, hn⟩ := and_e hn
  obtain ⟨c31, hn⟩ := and_e hn
  obtain ⟨c32, hn⟩ := and_e hn
  obtain ⟨c33, hn⟩ := and_e hn
  obtain ⟨c34, hn⟩ := and_e hn
  obtain ⟨c35, hn⟩ := and_e hn
  obtain ⟨c36, hn⟩ := and_e hn
  obtain ⟨c37, hn⟩ := and_e hn
  obtain ⟨c38, hn⟩ := and_e hn
  obtain ⟨c39, hn⟩ := and_e hn
  obtain ⟨c40, hn⟩ := and_e hn
  obtain ⟨c41, hn⟩ := and_e hn
  obtain ⟨c42, hn⟩ := and_e hn
  obtain ⟨c43, hn⟩ := and_e hn
  have c44 := hn
  have hcwN := Cond.before_iff.mp (hsets _ (List.mem_of_getElem? (i := 2) rfl))
  obtain ⟨z, evz⟩ := is_v (Cond.before_iff.mp (hsets _ (List.mem_of_getElem? (i := 1) rfl)))
  have SCSz := Sta.start evz (Or.inl (hsets _ (List.mem_of_getElem? (i := 0) rfl)))
  have hz : ¬ z = 0 := gotF (P := z = 0) (by simp [Cond.value, evz, Term.int_eval]) (not_v hcwN)
  obtain ⟨wA, evA⟩ := arr_v c1
  obtain ⟨cA, AA⟩ := Arr.start evA c1
  have SAz := Sta.start evA (Or.inr ⟨(hw _ (List.mem_of_getElem? (i := 8) rfl)), (hw _ (List.mem_of_getElem? (i := 9) rfl))⟩)
  have hsz : cA.slots.size = 2 := own_sizeOf evA AA.1 (own_eqInt (t := .length (Jvm.Term.static "com/example/vestwright/vestwright/allocation/YearAllocation$1" "$SwitchMap$com$example$vestwright$vestwright$plan$Basis" "[I")) rfl c2) (by decide)
  obtain ⟨bC, evC⟩ := exa_v c0
  have EC := Exa.start evC c0
  have SCz := Sta.start evC (Or.inr ⟨(hw _ (List.mem_of_getElem? (i := 1) rfl)), (hw _ (List.mem_of_getElem? (i := 2) rfl))⟩)
  have FC := Fld.start (own_eqInt (t := .field (Jvm.Term.static "com/example/vestwright/vestwright/plan/Basis" "COMPENSATION" "Lcom/example/vestwright/vestwright/plan/Basis;") "java/lang/Enum" "ordinal" "I") (fld_at evC) c3)
  have hatC := own_elemOf (i := 0) evA AA.1 c4 (by decide)
  obtain ⟨rC, evrC⟩ := exa_v c5
  have GC := Exa.start evrC c5
  have RCz := Sta.start evrC (Or.inr ⟨(hw _ (List.mem_of_getElem? (i := 20) rfl)), (hw _ (List.mem_of_getElem? (i := 21) rfl))⟩)
  obtain ⟨uC, evuC⟩ := exa_v c6
  have EHC := Exa.start evuC c6
  have HC : Fld s s.heap rC "com/example/vestwright/vestwright/census/Census$Amount" "header" "Ljava/lang/String;" (.ref uC) := Fld.start ((fld_at evrC).symm.trans evuC)
  have CHC := Fld.start (own_eqInt (t := .field (.field (Jvm.Term.static "com/example/vestwright/vestwright/census/Census$Amount" "COMPENSATION" "Lcom/example/vestwright/vestwright/census/Census$Amount;") "com/example/vestwright/vestwright/census/Census$Amount" "header" "Ljava/lang/String;") "java/lang/String" "coder" "B") (fld_at evuC) c7)
  obtain ⟨vC, evvC⟩ := arr_v c8
  obtain ⟨clC, AVC⟩ := Arr.start evvC c8
  have VHC : Fld s s.heap uC "java/lang/String" "value" "[B" (.ref vC) := Fld.start ((fld_at evuC).symm.trans evvC)
  have szC : clC.slots.size = 12 := own_sizeOf evvC AVC.1 (own_eqInt (t := .length (.field (.field (Jvm.Term.static "com/example/vestwright/vestwright/census/Census$Amount" "COMPENSATION" "Lcom/example/vestwright/vestwright/census/Census$Amount;") "com/example/vestwright/vestwright/census/Census$Amount" "header" "Ljava/lang/String;") "java/lang/String" "value" "[B")) rfl c9) (by decide)
  have BHC : BA s s.heap vC 12 fxC := ⟨clC, AVC, szC, fun i hi => match i, hi with
    | 0, _ => own_elemOf (i := 0) evvC AVC.1 c18 (by decide)
    | 1, _ => own_elemOf (i := 1) evvC AVC.1 c19 (by decide)
    | 2, _ => own_elemOf (i := 2) evvC AVC.1 c20 (by decide)
    | 3, _ => own_elemOf (i := 3) evvC AVC.1 c21 (by decide)
    | 4, _ => own_elemOf (i := 4) evvC AVC.1 c22 (by decide)
    | 5, _ => own_elemOf (i := 5) evvC AVC.1 c23 (by decide)
    | 6, _ => own_elemOf (i := 6) evvC AVC.1 c24 (by decide)
    | 7, _ => own_elemOf (i := 7) evvC AVC.1 c25 (by decide)
    | 8, _ => own_elemOf (i := 8) evvC AVC.1 c26 (by decide)
    | 9, _ => own_elemOf (i := 9) evvC AVC.1 c27 (by decide)
    | 10, _ => own_elemOf (i := 10) evvC AVC.1 c28 (by decide)
    | 11, _ => own_elemOf (i := 11) evvC AVC.1 c29 (by decide)⟩
  obtain ⟨bW, evW⟩ := exa_v c10
  have EW := Exa.start evW c10
  have SWz := Sta.start evW (Or.inr ⟨(hw _ (List.mem_of_getElem? (i := 1) rfl)), (hw _ (List.mem_of_getElem? (i := 53) rfl))⟩)
  have FW := Fld.start (own_eqInt (t := .field (Jvm.Term.static "com/example/vestwright/vestwright/plan/Basis" "WAGE_INVESTMENT" "Lcom/example/vestwright/vestwright/plan/Basis;") "java/lang/Enum" "ordinal" "I") (fld_at evW) c11)
  have hatW := own_elemOf (i := 1) evA AA.1 c12 (by decide)
  obtain ⟨rW, evrW⟩ := exa_v c13
  have GW := Exa.start evrW c13
  have RWz := Sta.start evrW (Or.inr ⟨(hw _ (List.mem_of_getElem? (i := 20) rfl)), (hw _ (List.mem_of_getElem? (i := 55) rfl))⟩)
  obtain ⟨uW, evuW⟩ := exa_v c14
  have EHW := Exa.start evuW c14
  have HW : Fld s s.heap rW "com/example/vestwright/vestwright/census/Census$Amount" "header" "Ljava/lang/String;" (.ref uW) := Fld.start ((fld_at evrW).symm.trans evuW)
  have CHW := Fld.start (own_eqInt (t := .field (.field (Jvm.Term.static "com/example/vestwright/vestwright/census/Census$Amount" "WAGE_INVESTMENT" "Lcom/example/vestwright/vestwright/census/Census$Amount;") "com/example/vestwright/vestwright/census/Census$Amount" "header" "Ljava/lang/String;") "java/lang/String" "coder" "B") (fld_at evuW) c15)
  obtain ⟨vW, evvW⟩ := arr_v c16
  obtain ⟨clW, AVW⟩ := Arr.start evvW c16
  have VHW : Fld s s.heap uW "java/lang/String" "value" "[B" (.ref vW) := Fld.start ((fld_at evuW).symm.trans evvW)
  have szW : clW.slots.size = 15 := own_sizeOf evvW AVW.1 (own_eqInt (t := .length (.field (.field (Jvm.Term.static "com/example/vestwright/vestwright/census/Census$Amount" "WAGE_INVESTMENT" "Lcom/example/vestwright/vestwright/census/Census$Amount;") "com/example/vestwright/vestwright/census/Census$Amount" "header" "Ljava/lang/String;") "java/lang/String" "value" "[B")) rfl c17) (by decide)
  have BHW : BA s s.heap vW 15 fxW := ⟨clW, AVW, szW, fun i hi => match i, hi with
    | 0, _ => own_elemOf (i := 0) evvW AVW.1 c30 (by decide)
    | 1, _ => own_elemOf (i := 1) evvW AVW.1 c31 (by decide)
    | 2, _ => own_elemOf (i := 2) evvW AVW.1 c32 (by decide)
    | 3, _ => own_elemOf (i := 3) evvW AVW.1 c33 (by decide)
    | 4, _ => own_elemOf (i := 4) evvW AVW.1 c34 (by decide)
    | 5, _ => own_elemOf (i := 5) evvW AVW.1 c35 (by decide)
    | 6, _ => own_elemOf (i := 6) evvW AVW.1 c36 (by decide)
    | 7, _ => own_elemOf (i := 7) evvW AVW.1 c37 (by decide)
    | 8, _ => own_elemOf (i := 8) evvW AVW.1 c38 (by decide)
    | 9, _ => own_elemOf (i := 9) evvW AVW.1 c39 (by decide)
    | 10, _ => own_elemOf (i := 10) evvW AVW.1 c40 (by decide)
    | 11, _ => own_elemOf (i := 11) evvW AVW.1 c41 (by decide)
    | 12, _ => own_elemOf (i := 12) evvW AVW.1 c42 (by decide)
    | 13, _ => own_elemOf (i := 13) evvW AVW.1 c43 (by decide)
    | 14, _ => own_elemOf (i := 14) evvW AVW.1 c44 (by decide)⟩
  have wS : ∀ a ∈ Bundle.stringAtoms, a.before _ s = true := fun d hd => hw d (by simp only [Bundle.stringAtoms, List.mem_cons, List.not_mem_nil, or_false] at hd; rcases hd with rfl | rfl | rfl | rfl | rfl | rfl | rfl <;> first | exact List.mem_of_getElem? (i := 31) rfl | exact List.mem_of_getElem? (i := 32) rfl | exact List.mem_of_getElem? (i := 33) rfl | exact List.mem_of_getElem? (i := 34) rfl | exact List.mem_of_getElem? (i := 35) rfl | exact List.mem_of_getElem? (i := 36) rfl | exact List.mem_of_getElem? (i := 37) rfl)
  obtain ⟨n, o, h1, h2, h3, _, L, rfl, ⟨rfl, N⟩, hq⟩ := rm0 l s _ hw tables_1 i0 z wA bC bW rC rW uC uW vC vW cA s.heap s.heap.size (Nat.le_refl _) rfl (Old.start s) (hsets _ (List.mem_of_getElem? (i := 2) rfl)) wS SCSz hz SAz AA hsz hatC SCz FC EC RCz GC HC EHC CHC VHC BHC (hcalls.1 ("com/example/vestwright/vestwright/allocation/YearAllocationColumnPinLaw", 41) (by simp [consts_1])) hatW SWz FW EW RWz GW HW EHW CHW VHW BHW (hcalls.1 ("com/example/vestwright/vestwright/allocation/YearAllocationColumnPinLaw", 31) (by simp [consts_1])) p e ha hc hk s m _ below hf ((Spec.applies_iff_loose hf).mp happ).1 ⟨rfl, State.Warmed39.refl s, rfl, IB.start⟩ trivial
  refine ⟨n, _, h1, h2, h3, hpost _ _ _ _ _ _ ⟨Cond.after_iff.mpr rfl, Cond.after_iff.mpr (eq_i res_at (Term.int_eval (1)) rfl), trivial⟩ ⟨hq.1, hq.2.1, hq.2.2.1, (hq.2.2.2.sift fun y hy => Or.inr (N y hy)).mono (by decide) (by decide)⟩⟩
theorem main_1_1 : Claimed_1_1 := comes_1 fun _ _ _ _ _ _ h hF => ⟨h.1, hF⟩
theorem main_1_2 : Claimed_1_2 := comes_1 fun _ _ _ _ _ _ h hF => ⟨h.2.1, hF⟩
end Jvm.Pilot.@@N@@
namespace Jvm.Pilot.@@N@@
open Jvm Jvm.ClassFile Sem Op Lib Jvm.Free Jvm.Stand Jvm.Pilot.@@N@@.Jvm.D
/-! MADE BY PROGRAM (witnessworld.py) out of the Statement's table words and the real class files: 21 classes; the members and pool entries that the words name. The judged class is class 1, her method 1. -/
namespace start1
open Jvm.ClassFile
def u (s : String) : CpInfo := .utf8 (stringToUtf16 s)
/-- a pool by its gaps: so many unusable entries, then the entry; so many at the end -/
def gap : Nat → List CpInfo → List CpInfo
  | 0, r => r
  | n + 1, r => .unusable :: gap n r
def poolList (es : List (Nat × CpInfo)) (last : Nat) : List CpInfo := es.foldr (fun e r => gap e.1 (e.2 :: r)) (gap last [])
def pool (es : List (Nat × CpInfo)) (last : Nat) : Array CpInfo := ⟨poolList es last⟩
def fileOf (pool : Array CpInfo) (this : Nat) (attrs : Array Attribute := #[]) (ms : Array MethodInfo := #[]) (fl : Nat := 33) (sup : Nat := 0) (ifs : Array Nat := #[]) (fds : Array FieldInfo := #[]) : ClassFile where
  minorVersion := 0
  majorVersion := 65
  constantPool := pool
  accessFlags := fl
  thisClass := this
  superClass := sup
  interfaces := ifs
  fields := fds
  methods := ms
  attributes := attrs
def plain (name : String) (sup : Option ClassId) : Class where
  name := name
  kind := .ordinary
  loader := none
  accessFlags := 33
  super := sup
  interfaces := #[]
  cf := none
  fields := #[]
  methods := #[]
  instanceTypes := #[]
  staticTypes := #[]
  resolved := #[]
  callSites := []
  init := .initialized
  statics := none
  mirror := none

def pool0 : Array CpInfo := pool [(5, u "<init>"), (0, u "()V"), (1, .class_ 10), (1, u "java/lang/Object")] 113

def k0m0 : Method := { name := "<init>", desc := "()V", sig := { parameters := [], returnType := none }, accessFlags := 1, code := none }
/-- java/lang/Object -/
def k0 : Class := { plain "java/lang/Object" none with
  accessFlags := 33
  interfaces := #[]
  cf := some (fileOf pool0 8 #[] #[{ accessFlags := 1, nameIndex := 5, descriptorIndex := 6, attributes := #[] }] 33 0 #[] #[])
  fields := #[]
  methods := #[k0m0]
  instanceTypes := #[]
  staticTypes := #[]
  resolved := Array.replicate 124 none
  statics := none }

def pool1 : Array CpInfo := pool [(2, .class_ 4), (1, u "java/lang/Object"), (0, u "<init>"), (0, u "()V"), (0, .fieldref 8 9), (0, .class_ 10), (0, .nameAndType 11 12), (0, u "com/example/vestwright/vestwright/plan/Basis"), (0, u "WAGE_INVESTMENT"), (0, u "Lcom/example/vestwright/vestwright/plan/Basis;"), (0, .fieldref 8 14), (0, .nameAndType 15 12), (0, u "COMPENSATION"), (0, .methodref 17 18), (0, .class_ 19), (0, .nameAndType 20 21), (0, u "com/example/vestwright/vestwright/allocation/YearAllocation"), (0, u "column"), (0, u "(Lcom/example/vestwright/vestwright/plan/Basis;)Lcom/example/vestwright/vestwright/census/Census$Amount;"), (0, .fieldref 23 24), (0, .class_ 25), (0, .nameAndType 11 26), (0, u "com/example/vestwright/vestwright/census/Census$Amount"), (0, u "Lcom/example/vestwright/vestwright/census/Census$Amount;"), (0, .methodref 23 28), (0, .nameAndType 29 30), (0, u "header"), (0, u "()Ljava/lang/String;"), (0, .string 32), (0, u "wage_investment"), (0, .methodref 34 35), (0, .class_ 36), (0, .nameAndType 37 38), (0, u "java/lang/String"), (0, u "equals"), (0, u "(Ljava/lang/Object;)Z"), (0, .fieldref 23 40), (0, .nameAndType 15 26), (0, .string 42), (0, u "compensation"), (0, .class_ 44), (0, u "com/example/vestwright/vestwright/allocation/YearAllocationColumnPinLaw"), (2, u "law"), (0, u "(I)Z")] 7

def k1m0 : Method := { name := "<init>", desc := "()V", sig := { parameters := [], returnType := none }, accessFlags := 2, code := none }
def k1c1 : Code := { maxStack := 2, maxLocals := 4, code := code, exceptionTable := #[], attributes := #[] }
def k1m1 : Method := { name := "law", desc := "(I)Z", sig := { parameters := [.int], returnType := some .boolean }, accessFlags := 9, code := some k1c1 }
/-- com/example/vestwright/vestwright/allocation/YearAllocationColumnPinLaw -/
def k1 : Class := { plain "com/example/vestwright/vestwright/allocation/YearAllocationColumnPinLaw" (some 0) with
  accessFlags := 49
  interfaces := #[]
  cf := some (fileOf pool1 43 #[] #[{ accessFlags := 2, nameIndex := 5, descriptorIndex := 6, attributes := #[] }, { accessFlags := 9, nameIndex := 47, descriptorIndex := 48, attributes := #[] }] 49 2 #[] #[])
  fields := #[]
  methods := #[k1m0, k1m1]
  instanceTypes := #[]
  staticTypes := #[]
  resolved := Array.replicate 56 none
  statics := none }

def pool2 : Array CpInfo := pool [(1, .class_ 2), (0, u "java/lang/constant/Constable"), (0, .class_ 4), (0, u "java/lang/Object")] 6

/-- java/lang/constant/Constable -/
def k2 : Class := { plain "java/lang/constant/Constable" (some 0) with
  accessFlags := 1537
  interfaces := #[]
  cf := some (fileOf pool2 1 #[] #[] 1537 3 #[] #[])
  fields := #[]
  methods := #[]
  instanceTypes := #[]
  staticTypes := #[]
  resolved := Array.replicate 11 none
  statics := none }

def pool3 : Array CpInfo := pool [(1, .class_ 2), (0, u "java/lang/Comparable"), (0, .class_ 4), (0, u "java/lang/Object")] 7

/-- java/lang/Comparable -/
def k3 : Class := { plain "java/lang/Comparable" (some 0) with
  accessFlags := 1537
  interfaces := #[]
  cf := some (fileOf pool3 1 #[] #[] 1537 3 #[] #[])
  fields := #[]
  methods := #[]
  instanceTypes := #[]
  staticTypes := #[]
  resolved := Array.replicate 12 none
  statics := none }

def pool4 : Array CpInfo := pool [(1, .class_ 2), (0, u "java/io/Serializable"), (0, .class_ 4), (0, u "java/lang/Object")] 2

/-- java/io/Serializable -/
def k4 : Class := { plain "java/io/Serializable" (some 0) with
  accessFlags := 1537
  interfaces := #[]
  cf := some (fileOf pool4 1 #[] #[] 1537 3 #[] #[])
  fields := #[]
  methods := #[]
  instanceTypes := #[]
  staticTypes := #[]
  resolved := Array.replicate 7 none
  statics := none }

def pool5 : Array CpInfo := pool [(2, .class_ 4), (1, u "java/lang/Enum"), (0, u "name"), (0, u "Ljava/lang/String;"), (0, .fieldref 2 8), (0, .nameAndType 9 10), (0, u "ordinal"), (0, u "I"), (1, .class_ 14), (1, u "java/lang/Object"), (4, u "hash"), (86, .class_ 108), (1, u "java/lang/Enum$EnumDesc"), (2, .class_ 112), (0, u "java/lang/constant/Constable"), (0, .class_ 114), (0, u "java/lang/Comparable"), (0, .class_ 116), (0, u "java/io/Serializable"), (9, u "()I")] 77

def k5c0 : Code := { maxStack := 1, maxLocals := 1, code := jdk_37_method_2_code, exceptionTable := #[], attributes := #[] }
def k5m0 : Method := { name := "ordinal", desc := "()I", sig := { parameters := [], returnType := some .int }, accessFlags := 17, code := some k5c0 }
/-- java/lang/Enum -/
def k5 : Class := { plain "java/lang/Enum" (some 0) with
  accessFlags := 1057
  interfaces := #[2, 3, 4]
  cf := some (fileOf pool5 2 #[.nestMembers #[106]] #[{ accessFlags := 17, nameIndex := 9, descriptorIndex := 126, attributes := #[] }] 1057 12 #[111, 113, 115] #[{ accessFlags := 18, nameIndex := 5, descriptorIndex := 6, attributes := #[] }, { accessFlags := 18, nameIndex := 9, descriptorIndex := 10, attributes := #[] }, { accessFlags := 2, nameIndex := 19, descriptorIndex := 10, attributes := #[] }])
  fields := #[{ name := "name", type := (.object "java/lang/String"), accessFlags := 18, slot := 0, constantValue := 0 }, { name := "ordinal", type := .int, accessFlags := 18, slot := 1, constantValue := 0 }, { name := "hash", type := .int, accessFlags := 2, slot := 2, constantValue := 0 }]
  methods := #[k5m0]
  instanceTypes := #[(.object "java/lang/String"), .int, .int]
  staticTypes := #[]
  resolved := Array.replicate 204 none
  statics := none }

def pool6 : Array CpInfo := pool [(1, .class_ 2), (0, u "com/example/vestwright/vestwright/plan/Basis"), (2, u "COMPENSATION"), (0, u "Lcom/example/vestwright/vestwright/plan/Basis;"), (2, u "WAGE_INVESTMENT"), (2, u "$VALUES"), (0, u "[Lcom/example/vestwright/vestwright/plan/Basis;"), (6, .class_ 22), (1, u "java/lang/Enum")] 24

/-- com/example/vestwright/vestwright/plan/Basis -/
def k6 : Class := { plain "com/example/vestwright/vestwright/plan/Basis" (some 5) with
  accessFlags := 16433
  interfaces := #[]
  cf := some (fileOf pool6 1 #[] #[] 16433 20 #[] #[{ accessFlags := 16409, nameIndex := 5, descriptorIndex := 6, attributes := #[] }, { accessFlags := 16409, nameIndex := 9, descriptorIndex := 6, attributes := #[] }, { accessFlags := 4122, nameIndex := 12, descriptorIndex := 13, attributes := #[] }])
  fields := #[{ name := "COMPENSATION", type := (.object "com/example/vestwright/vestwright/plan/Basis"), accessFlags := 16409, slot := 0, constantValue := 0 }, { name := "WAGE_INVESTMENT", type := (.object "com/example/vestwright/vestwright/plan/Basis"), accessFlags := 16409, slot := 1, constantValue := 0 }, { name := "$VALUES", type := (.array (.object "com/example/vestwright/vestwright/plan/Basis")), accessFlags := 4122, slot := 2, constantValue := 0 }]
  methods := #[]
  instanceTypes := #[(.object "java/lang/String"), .int, .int]
  staticTypes := #[(.object "com/example/vestwright/vestwright/plan/Basis"), (.object "com/example/vestwright/vestwright/plan/Basis"), (.array (.object "com/example/vestwright/vestwright/plan/Basis"))]
  resolved := Array.replicate 47 none
  statics := some 0 }

def pool7 : Array CpInfo := pool [(2, .class_ 4), (1, u "java/lang/Object"), (9, .class_ 16), (1, u "com/example/vestwright/vestwright/allocation/YearAllocation"), (0, u "loans"), (0, u "Ljava/util/List;"), (2, u "groups"), (2, u "participants"), (2, u "contributions"), (2, u "programme"), (0, u "Ljava/util/Optional;"), (44, u "()I"), (44, .class_ 122), (0, u "com/example/vestwright/vestwright/allocation/YearAllocation$LoanRelease"), (125, .class_ 249), (0, u "com/example/vestwright/vestwright/allocation/YearAllocation$GroupShares"), (43, u "column"), (0, u "(Lcom/example/vestwright/vestwright/plan/Basis;)Lcom/example/vestwright/vestwright/census/Census$Amount;"), (1, .class_ 298), (1, u "com/example/vestwright/vestwright/census/Census$Amount"), (13, .class_ 313), (0, u "com/example/vestwright/vestwright/allocation/YearAllocation$GroupSplit"), (75, .fieldref 296 390), (0, .nameAndType 391 392), (0, u "COMPENSATION"), (0, u "Lcom/example/vestwright/vestwright/census/Census$Amount;"), (18, .fieldref 412 413), (0, .class_ 414), (0, .nameAndType 415 416), (0, u "com/example/vestwright/vestwright/allocation/YearAllocation$1"), (0, u "$SwitchMap$com$example$vestwright$vestwright$plan$Basis"), (0, u "[I"), (0, .methodref 418 419), (0, .class_ 420), (0, .nameAndType 421 76), (0, u "com/example/vestwright/vestwright/plan/Basis"), (0, u "ordinal"), (5, .fieldref 296 428), (0, .nameAndType 429 392), (0, u "WAGE_INVESTMENT"), (0, .class_ 431), (0, u "com/example/vestwright/vestwright/allocation/YearAllocation$ParticipantContribution"), (11, .class_ 444), (0, u "com/example/vestwright/vestwright/allocation/YearAllocation$ParticipantShares")] 127

def k7c0 : Code := { maxStack := 4, maxLocals := 1, code := prog_27_method_11_code, exceptionTable := #[], attributes := #[] }
def k7m0 : Method := { name := "column", desc := "(Lcom/example/vestwright/vestwright/plan/Basis;)Lcom/example/vestwright/vestwright/census/Census$Amount;", sig := { parameters := [(.object "com/example/vestwright/vestwright/plan/Basis")], returnType := some (.object "com/example/vestwright/vestwright/census/Census$Amount") }, accessFlags := 8, code := some k7c0 }
/-- com/example/vestwright/vestwright/allocation/YearAllocation -/
def k7 : Class := { plain "com/example/vestwright/vestwright/allocation/YearAllocation" (some 0) with
  accessFlags := 49
  interfaces := #[]
  cf := some (fileOf pool7 14 #[.nestMembers #[412, 312, 430, 443, 248, 121]] #[{ accessFlags := 8, nameIndex := 293, descriptorIndex := 294, attributes := #[] }] 49 2 #[] #[{ accessFlags := 18, nameIndex := 17, descriptorIndex := 18, attributes := #[] }, { accessFlags := 18, nameIndex := 21, descriptorIndex := 18, attributes := #[] }, { accessFlags := 18, nameIndex := 24, descriptorIndex := 18, attributes := #[] }, { accessFlags := 18, nameIndex := 27, descriptorIndex := 18, attributes := #[] }, { accessFlags := 18, nameIndex := 30, descriptorIndex := 31, attributes := #[] }])
  fields := #[{ name := "loans", type := (.object "java/util/List"), accessFlags := 18, slot := 0, constantValue := 0 }, { name := "groups", type := (.object "java/util/List"), accessFlags := 18, slot := 1, constantValue := 0 }, { name := "participants", type := (.object "java/util/List"), accessFlags := 18, slot := 2, constantValue := 0 }, { name := "contributions", type := (.object "java/util/List"), accessFlags := 18, slot := 3, constantValue := 0 }, { name := "programme", type := (.object "java/util/Optional"), accessFlags := 18, slot := 4, constantValue := 0 }]
  methods := #[k7m0]
  instanceTypes := #[(.object "java/util/List"), (.object "java/util/List"), (.object "java/util/List"), (.object "java/util/List"), (.object "java/util/Optional")]
  staticTypes := #[]
  resolved := Array.replicate 572 none
  statics := none }

def pool8 : Array CpInfo := pool [(8, .class_ 10), (1, u "com/example/vestwright/vestwright/allocation/YearAllocation$1"), (0, u "$SwitchMap$com$example$vestwright$vestwright$plan$Basis"), (0, u "[I"), (13, .class_ 27), (0, u "java/lang/Object"), (8, .class_ 37), (0, u "com/example/vestwright/vestwright/allocation/YearAllocation")] 2

/-- com/example/vestwright/vestwright/allocation/YearAllocation$1 -/
def k8 : Class := { plain "com/example/vestwright/vestwright/allocation/YearAllocation$1" (some 0) with
  accessFlags := 4128
  interfaces := #[]
  cf := some (fileOf pool8 8 #[.nestHost 36] #[] 4128 26 #[] #[{ accessFlags := 4120, nameIndex := 11, descriptorIndex := 12, attributes := #[] }])
  fields := #[{ name := "$SwitchMap$com$example$vestwright$vestwright$plan$Basis", type := (.array .int), accessFlags := 4120, slot := 0, constantValue := 0 }]
  methods := #[]
  instanceTypes := #[]
  staticTypes := #[(.array .int)]
  resolved := Array.replicate 40 none
  statics := some 1 }

def pool9 : Array CpInfo := pool [(1, .class_ 2), (0, u "com/example/vestwright/vestwright/census/Census$Amount"), (2, u "COMPENSATION"), (0, u "Lcom/example/vestwright/vestwright/census/Census$Amount;"), (2, u "WAGE_INVESTMENT"), (2, u "COMPENSATION_415"), (2, u "SUPPLEMENTAL_COMPENSATION"), (2, u "$VALUES"), (0, u "[Lcom/example/vestwright/vestwright/census/Census$Amount;"), (6, .class_ 28), (1, u "java/lang/Enum"), (6, .fieldref 1 36), (0, .nameAndType 37 38), (0, u "header"), (0, u "Ljava/lang/String;"), (26, u "()Ljava/lang/String;"), (6, .class_ 73), (0, u "com/example/vestwright/vestwright/census/Census")] 2

def k9c0 : Code := { maxStack := 1, maxLocals := 1, code := prog_36_method_4_code, exceptionTable := #[], attributes := #[] }
def k9m0 : Method := { name := "header", desc := "()Ljava/lang/String;", sig := { parameters := [], returnType := some (.object "java/lang/String") }, accessFlags := 1, code := some k9c0 }
/-- com/example/vestwright/vestwright/census/Census$Amount -/
def k9 : Class := { plain "com/example/vestwright/vestwright/census/Census$Amount" (some 5) with
  accessFlags := 16433
  interfaces := #[]
  cf := some (fileOf pool9 1 #[.nestHost 72] #[{ accessFlags := 1, nameIndex := 37, descriptorIndex := 65, attributes := #[] }] 16433 26 #[] #[{ accessFlags := 16409, nameIndex := 5, descriptorIndex := 6, attributes := #[] }, { accessFlags := 16409, nameIndex := 9, descriptorIndex := 6, attributes := #[] }, { accessFlags := 16409, nameIndex := 12, descriptorIndex := 6, attributes := #[] }, { accessFlags := 16409, nameIndex := 15, descriptorIndex := 6, attributes := #[] }, { accessFlags := 18, nameIndex := 37, descriptorIndex := 38, attributes := #[] }, { accessFlags := 4122, nameIndex := 18, descriptorIndex := 19, attributes := #[] }])
  fields := #[{ name := "COMPENSATION", type := (.object "com/example/vestwright/vestwright/census/Census$Amount"), accessFlags := 16409, slot := 0, constantValue := 0 }, { name := "WAGE_INVESTMENT", type := (.object "com/example/vestwright/vestwright/census/Census$Amount"), accessFlags := 16409, slot := 1, constantValue := 0 }, { name := "COMPENSATION_415", type := (.object "com/example/vestwright/vestwright/census/Census$Amount"), accessFlags := 16409, slot := 2, constantValue := 0 }, { name := "SUPPLEMENTAL_COMPENSATION", type := (.object "com/example/vestwright/vestwright/census/Census$Amount"), accessFlags := 16409, slot := 3, constantValue := 0 }, { name := "header", type := (.object "java/lang/String"), accessFlags := 18, slot := 3, constantValue := 0 }, { name := "$VALUES", type := (.array (.object "com/example/vestwright/vestwright/census/Census$Amount")), accessFlags := 4122, slot := 4, constantValue := 0 }]
  methods := #[k9m0]
  instanceTypes := #[(.object "java/lang/String"), .int, .int, (.object "java/lang/String")]
  staticTypes := #[(.object "com/example/vestwright/vestwright/census/Census$Amount"), (.object "com/example/vestwright/vestwright/census/Census$Amount"), (.object "com/example/vestwright/vestwright/census/Census$Amount"), (.object "com/example/vestwright/vestwright/census/Census$Amount"), (.array (.object "com/example/vestwright/vestwright/census/Census$Amount"))]
  resolved := Array.replicate 76 none
  statics := some 2 }

def pool10 : Array CpInfo := pool [(2, .class_ 4), (1, u "java/lang/CharSequence"), (42, .class_ 48), (0, u "java/lang/CharSequence$1CodePointIterator"), (10, .class_ 60), (0, u "java/lang/CharSequence$1CharIterator"), (5, .class_ 67), (0, u "java/lang/Object")] 63

/-- java/lang/CharSequence -/
def k10 : Class := { plain "java/lang/CharSequence" (some 0) with
  accessFlags := 1537
  interfaces := #[]
  cf := some (fileOf pool10 2 #[.nestMembers #[47, 59]] #[] 1537 66 #[] #[])
  fields := #[]
  methods := #[]
  instanceTypes := #[]
  staticTypes := #[]
  resolved := Array.replicate 131 none
  statics := none }

def pool11 : Array CpInfo := pool [(1, .class_ 2), (0, u "java/lang/constant/ConstantDesc"), (0, .class_ 4), (0, u "java/lang/Object")] 32

/-- java/lang/constant/ConstantDesc -/
def k11 : Class := { plain "java/lang/constant/ConstantDesc" (some 0) with
  accessFlags := 1537
  interfaces := #[]
  cf := some (fileOf pool11 1 #[] #[] 1537 3 #[] #[])
  fields := #[]
  methods := #[]
  instanceTypes := #[]
  staticTypes := #[]
  resolved := Array.replicate 37 none
  statics := none }

def pool12 : Array CpInfo := pool [(2, .class_ 4), (1, u "java/lang/Object"), (0, u "<init>"), (0, u "()V"), (2, .fieldref 10 11), (0, .class_ 12), (0, .nameAndType 13 14), (0, u "java/lang/String"), (0, u "value"), (0, u "[B"), (0, .fieldref 10 16), (0, .nameAndType 17 18), (0, u "coder"), (0, u "B"), (2, u "hash"), (0, u "I"), (2, u "hashIsZero"), (0, u "Z"), (11, .fieldref 10 39), (0, .nameAndType 40 26), (0, u "COMPACT_STRINGS"), (66, .class_ 109), (1, u "java/lang/StringLatin1"), (431, .methodref 107 542), (0, .nameAndType 543 544), (0, u "equals"), (0, u "([B[B)Z"), (28, u "(Ljava/lang/Object;)Z"), (1, .class_ 576), (0, u "java/lang/CharSequence"), (22, u "CASE_INSENSITIVE_ORDER"), (0, u "Ljava/util/Comparator;"), (500, u "serialPersistentFields"), (0, u "[Ljava/io/ObjectStreamField;"), (0, .class_ 1104), (0, u "java/lang/String$CaseInsensitiveComparator"), (1, .class_ 1107), (0, u "java/io/Serializable"), (0, .class_ 1109), (0, u "java/lang/Comparable"), (0, .class_ 1111), (0, u "java/lang/constant/Constable"), (0, .class_ 1113), (0, u "java/lang/constant/ConstantDesc"), (2, u "serialVersionUID"), (0, u "J"), (3, u "REPL"), (0, u "C"), (2, u "LATIN1"), (1, u "UTF16")] 323

def k12m0 : Method := { name := "<init>", desc := "()V", sig := { parameters := [], returnType := none }, accessFlags := 1, code := none }
def k12c1 : Code := { maxStack := 2, maxLocals := 3, code := jdk_42_method_66_code, exceptionTable := #[], attributes := #[] }
def k12m1 : Method := { name := "equals", desc := "(Ljava/lang/Object;)Z", sig := { parameters := [(.object "java/lang/Object")], returnType := some .boolean }, accessFlags := 1, code := some k12c1 }
/-- java/lang/String -/
def k12 : Class := { plain "java/lang/String" (some 0) with
  accessFlags := 49
  interfaces := #[4, 3, 10, 2, 11]
  cf := some (fileOf pool12 10 #[.nestMembers #[1103]] #[{ accessFlags := 1, nameIndex := 5, descriptorIndex := 6, attributes := #[] }, { accessFlags := 1, nameIndex := 543, descriptorIndex := 573, attributes := #[] }] 49 2 #[1106, 1108, 575, 1110, 1112] #[{ accessFlags := 18, nameIndex := 13, descriptorIndex := 14, attributes := #[] }, { accessFlags := 18, nameIndex := 17, descriptorIndex := 18, attributes := #[] }, { accessFlags := 2, nameIndex := 21, descriptorIndex := 22, attributes := #[] }, { accessFlags := 2, nameIndex := 25, descriptorIndex := 26, attributes := #[] }, { accessFlags := 26, nameIndex := 1116, descriptorIndex := 1117, attributes := #[] }, { accessFlags := 24, nameIndex := 40, descriptorIndex := 26, attributes := #[] }, { accessFlags := 26, nameIndex := 1101, descriptorIndex := 1102, attributes := #[] }, { accessFlags := 26, nameIndex := 1121, descriptorIndex := 1122, attributes := #[] }, { accessFlags := 25, nameIndex := 599, descriptorIndex := 600, attributes := #[] }, { accessFlags := 24, nameIndex := 1125, descriptorIndex := 18, attributes := #[] }, { accessFlags := 24, nameIndex := 1127, descriptorIndex := 18, attributes := #[] }])
  fields := #[{ name := "value", type := (.array .byte), accessFlags := 18, slot := 0, constantValue := 0 }, { name := "coder", type := .byte, accessFlags := 18, slot := 1, constantValue := 0 }, { name := "hash", type := .int, accessFlags := 2, slot := 2, constantValue := 0 }, { name := "hashIsZero", type := .boolean, accessFlags := 2, slot := 3, constantValue := 0 }, { name := "serialVersionUID", type := .long, accessFlags := 26, slot := 0, constantValue := 0 }, { name := "COMPACT_STRINGS", type := .boolean, accessFlags := 24, slot := 1, constantValue := 0 }, { name := "serialPersistentFields", type := (.array (.object "java/io/ObjectStreamField")), accessFlags := 26, slot := 2, constantValue := 0 }, { name := "REPL", type := .char, accessFlags := 26, slot := 3, constantValue := 0 }, { name := "CASE_INSENSITIVE_ORDER", type := (.object "java/util/Comparator"), accessFlags := 25, slot := 4, constantValue := 0 }, { name := "LATIN1", type := .byte, accessFlags := 24, slot := 5, constantValue := 0 }, { name := "UTF16", type := .byte, accessFlags := 24, slot := 6, constantValue := 0 }]
  methods := #[k12m0, k12m1]
  instanceTypes := #[(.array .byte), .byte, .int, .boolean]
  staticTypes := #[.long, .boolean, (.array (.object "java/io/ObjectStreamField")), .char, (.object "java/util/Comparator"), .byte, .byte]
  resolved := Array.replicate 1451 none
  statics := some 3 }

def pool13 : Array CpInfo := pool [(4, .class_ 6), (1, u "java/lang/Object"), (0, u "<init>"), (0, u "()V"), (5, .class_ 16), (1, u "java/lang/StringLatin1"), (104, u "$assertionsDisabled"), (0, u "Z"), (98, .class_ 223), (1, u "java/lang/StringLatin1$LinesSpliterator"), (57, u "equals"), (0, u "([B[B)Z"), (107, .class_ 391), (0, u "java/lang/StringLatin1$CharsSpliterator")] 3

def k13m0 : Method := { name := "<init>", desc := "()V", sig := { parameters := [], returnType := none }, accessFlags := 0, code := none }
def k13c1 : Code := { maxStack := 3, maxLocals := 3, code := jdk_43_method_13_code, exceptionTable := #[], attributes := #[] }
def k13m1 : Method := { name := "equals", desc := "([B[B)Z", sig := { parameters := [(.array .byte), (.array .byte)], returnType := some .boolean }, accessFlags := 9, code := some k13c1 }
/-- java/lang/StringLatin1 -/
def k13 : Class := { plain "java/lang/StringLatin1" (some 0) with
  accessFlags := 48
  interfaces := #[]
  cf := some (fileOf pool13 14 #[.nestMembers #[390, 221]] #[{ accessFlags := 0, nameIndex := 7, descriptorIndex := 8, attributes := #[] }, { accessFlags := 9, nameIndex := 281, descriptorIndex := 282, attributes := #[] }] 48 4 #[] #[{ accessFlags := 4120, nameIndex := 121, descriptorIndex := 122, attributes := #[] }])
  fields := #[{ name := "$assertionsDisabled", type := .boolean, accessFlags := 4120, slot := 0, constantValue := 0 }]
  methods := #[k13m0, k13m1]
  instanceTypes := #[]
  staticTypes := #[.boolean]
  resolved := Array.replicate 395 none
  statics := none }

def pool14 : Array CpInfo := pool [(2, .class_ 4), (1, u "java/lang/Object"), (0, u "<init>"), (0, u "()V"), (17, .class_ 26), (1, u "jdk/internal/util/Preconditions"), (28, .class_ 56), (0, u "jdk/internal/util/Preconditions$4"), (57, .class_ 115), (0, u "jdk/internal/util/Preconditions$1"), (7, u "SIOOBE_FORMATTER"), (0, u "Ljava/util/function/BiFunction;"), (0, .class_ 126), (0, u "jdk/internal/util/Preconditions$2"), (3, u "AIOOBE_FORMATTER"), (0, .class_ 132), (0, u "jdk/internal/util/Preconditions$3"), (3, u "IOOBE_FORMATTER")] 57

def k14m0 : Method := { name := "<init>", desc := "()V", sig := { parameters := [], returnType := none }, accessFlags := 1, code := none }
/-- jdk/internal/util/Preconditions -/
def k14 : Class := { plain "jdk/internal/util/Preconditions" (some 0) with
  accessFlags := 33
  interfaces := #[]
  cf := some (fileOf pool14 24 #[.nestMembers #[55, 131, 125, 114]] #[{ accessFlags := 1, nameIndex := 5, descriptorIndex := 6, attributes := #[] }] 33 2 #[] #[{ accessFlags := 25, nameIndex := 123, descriptorIndex := 124, attributes := #[] }, { accessFlags := 25, nameIndex := 130, descriptorIndex := 124, attributes := #[] }, { accessFlags := 25, nameIndex := 136, descriptorIndex := 124, attributes := #[] }])
  fields := #[{ name := "SIOOBE_FORMATTER", type := (.object "java/util/function/BiFunction"), accessFlags := 25, slot := 0, constantValue := 0 }, { name := "AIOOBE_FORMATTER", type := (.object "java/util/function/BiFunction"), accessFlags := 25, slot := 1, constantValue := 0 }, { name := "IOOBE_FORMATTER", type := (.object "java/util/function/BiFunction"), accessFlags := 25, slot := 2, constantValue := 0 }]
  methods := #[k14m0]
  instanceTypes := #[]
  staticTypes := #[(.object "java/util/function/BiFunction"), (.object "java/util/function/BiFunction"), (.object "java/util/function/BiFunction")]
  resolved := Array.replicate 194 none
  statics := some 4 }

def pool15 : Array CpInfo := pool [(9, u "<init>"), (6, .class_ 18), (1, u "java/lang/Object"), (0, u "()V"), (1, .class_ 23), (1, u "jdk/internal/util/ArraysSupport"), (0, u "LOG2_ARRAY_LONG_INDEX_SCALE"), (0, u "I"), (2, u "U"), (0, u "Ljdk/internal/misc/Unsafe;"), (8, u "BIG_ENDIAN"), (0, u "Z"), (8, u "LOG2_BYTE_BIT_SIZE"), (4, u "LOG2_ARRAY_INT_INDEX_SCALE"), (54, u "JLA"), (0, u "Ljdk/internal/access/JavaLangAccess;"), (11, u "LOG2_ARRAY_BOOLEAN_INDEX_SCALE"), (9, u "LOG2_ARRAY_BYTE_INDEX_SCALE"), (5, u "LOG2_ARRAY_CHAR_INDEX_SCALE"), (5, u "LOG2_ARRAY_SHORT_INDEX_SCALE"), (18, u "LOG2_ARRAY_FLOAT_INDEX_SCALE"), (24, u "LOG2_ARRAY_DOUBLE_INDEX_SCALE"), (89, u "T_BOOLEAN"), (2, u "T_CHAR"), (1, u "T_FLOAT"), (1, u "T_DOUBLE"), (1, u "T_BYTE"), (1, u "T_SHORT"), (1, u "T_INT"), (1, u "T_LONG"), (1, u "SOFT_MAX_ARRAY_LENGTH")] 83

def k15m0 : Method := { name := "<init>", desc := "()V", sig := { parameters := [], returnType := none }, accessFlags := 2, code := none }
/-- jdk/internal/util/ArraysSupport -/
def k15 : Class := { plain "jdk/internal/util/ArraysSupport" (some 0) with
  accessFlags := 33
  interfaces := #[]
  cf := some (fileOf pool15 21 #[] #[{ accessFlags := 2, nameIndex := 9, descriptorIndex := 19, attributes := #[] }] 33 16 #[] #[{ accessFlags := 24, nameIndex := 28, descriptorIndex := 29, attributes := #[] }, { accessFlags := 26, nameIndex := 38, descriptorIndex := 39, attributes := #[] }, { accessFlags := 25, nameIndex := 121, descriptorIndex := 25, attributes := #[] }, { accessFlags := 25, nameIndex := 131, descriptorIndex := 25, attributes := #[] }, { accessFlags := 25, nameIndex := 137, descriptorIndex := 25, attributes := #[] }, { accessFlags := 25, nameIndex := 143, descriptorIndex := 25, attributes := #[] }, { accessFlags := 25, nameIndex := 53, descriptorIndex := 25, attributes := #[] }, { accessFlags := 25, nameIndex := 24, descriptorIndex := 25, attributes := #[] }, { accessFlags := 25, nameIndex := 162, descriptorIndex := 25, attributes := #[] }, { accessFlags := 25, nameIndex := 187, descriptorIndex := 25, attributes := #[] }, { accessFlags := 26, nameIndex := 48, descriptorIndex := 25, attributes := #[] }, { accessFlags := 25, nameIndex := 277, descriptorIndex := 25, attributes := #[] }, { accessFlags := 25, nameIndex := 280, descriptorIndex := 25, attributes := #[] }, { accessFlags := 25, nameIndex := 282, descriptorIndex := 25, attributes := #[] }, { accessFlags := 25, nameIndex := 284, descriptorIndex := 25, attributes := #[] }, { accessFlags := 25, nameIndex := 286, descriptorIndex := 25, attributes := #[] }, { accessFlags := 25, nameIndex := 288, descriptorIndex := 25, attributes := #[] }, { accessFlags := 25, nameIndex := 290, descriptorIndex := 25, attributes := #[] }, { accessFlags := 25, nameIndex := 292, descriptorIndex := 25, attributes := #[] }, { accessFlags := 26, nameIndex := 108, descriptorIndex := 109, attributes := #[] }, { accessFlags := 25, nameIndex := 294, descriptorIndex := 25, attributes := #[] }])
  fields := #[{ name := "U", type := (.object "jdk/internal/misc/Unsafe"), accessFlags := 24, slot := 0, constantValue := 0 }, { name := "BIG_ENDIAN", type := .boolean, accessFlags := 26, slot := 1, constantValue := 0 }, { name := "LOG2_ARRAY_BOOLEAN_INDEX_SCALE", type := .int, accessFlags := 25, slot := 2, constantValue := 0 }, { name := "LOG2_ARRAY_BYTE_INDEX_SCALE", type := .int, accessFlags := 25, slot := 3, constantValue := 0 }, { name := "LOG2_ARRAY_CHAR_INDEX_SCALE", type := .int, accessFlags := 25, slot := 4, constantValue := 0 }, { name := "LOG2_ARRAY_SHORT_INDEX_SCALE", type := .int, accessFlags := 25, slot := 5, constantValue := 0 }, { name := "LOG2_ARRAY_INT_INDEX_SCALE", type := .int, accessFlags := 25, slot := 6, constantValue := 0 }, { name := "LOG2_ARRAY_LONG_INDEX_SCALE", type := .int, accessFlags := 25, slot := 7, constantValue := 0 }, { name := "LOG2_ARRAY_FLOAT_INDEX_SCALE", type := .int, accessFlags := 25, slot := 8, constantValue := 0 }, { name := "LOG2_ARRAY_DOUBLE_INDEX_SCALE", type := .int, accessFlags := 25, slot := 9, constantValue := 0 }, { name := "LOG2_BYTE_BIT_SIZE", type := .int, accessFlags := 26, slot := 10, constantValue := 0 }, { name := "T_BOOLEAN", type := .int, accessFlags := 25, slot := 11, constantValue := 0 }, { name := "T_CHAR", type := .int, accessFlags := 25, slot := 12, constantValue := 0 }, { name := "T_FLOAT", type := .int, accessFlags := 25, slot := 13, constantValue := 0 }, { name := "T_DOUBLE", type := .int, accessFlags := 25, slot := 14, constantValue := 0 }, { name := "T_BYTE", type := .int, accessFlags := 25, slot := 15, constantValue := 0 }, { name := "T_SHORT", type := .int, accessFlags := 25, slot := 16, constantValue := 0 }, { name := "T_INT", type := .int, accessFlags := 25, slot := 17, constantValue := 0 }, { name := "T_LONG", type := .int, accessFlags := 25, slot := 18, constantValue := 0 }, { name := "JLA", type := (.object "jdk/internal/access/JavaLangAccess"), accessFlags := 26, slot := 19, constantValue := 0 }, { name := "SOFT_MAX_ARRAY_LENGTH", type := .int, accessFlags := 25, slot := 20, constantValue := 0 }]
  methods := #[k15m0]
  instanceTypes := #[]
  staticTypes := #[(.object "jdk/internal/misc/Unsafe"), .boolean, .int, .int, .int, .int, .int, .int, .int, .int, .int, .int, .int, .int, .int, .int, .int, .int, .int, (.object "jdk/internal/access/JavaLangAccess"), .int]
  resolved := Array.replicate 378 none
  statics := none }

def pool16 : Array CpInfo := pool [(1, u "java/lang/Cloneable"), (0, .class_ 1), (0, u "java/lang/Object"), (0, .class_ 3)] 3

/-- java/lang/Cloneable -/
def k16 : Class := { plain "java/lang/Cloneable" (some 0) with
  accessFlags := 1537
  interfaces := #[]
  cf := some (fileOf pool16 2 #[] #[] 1537 4 #[] #[])
  fields := #[]
  methods := #[]
  instanceTypes := #[]
  staticTypes := #[]
  resolved := Array.replicate 8 none
  statics := none }

/-- the primitive byte -/
def k17 : Class := { plain "byte" none with kind := .primitive 'B', accessFlags := 0x411 }
/-- [B -/
def k18 : Class := { plain "[B" (some 0) with kind := .array 17 .byte, interfaces := #[16, 4], accessFlags := 1041 }

/-- the primitive int -/
def k19 : Class := { plain "int" none with kind := .primitive 'I', accessFlags := 0x411 }
/-- [I -/
def k20 : Class := { plain "[I" (some 0) with kind := .array 19 .int, interfaces := #[16, 4], accessFlags := 1041 }

def heap : Heap := #[{ cls := 6, slots := #[.ref 10, .ref 11, .null], vm := .statics 6 },
  { cls := 8, slots := #[.ref 5], vm := .statics 8 },
  { cls := 9, slots := #[.ref 12, .ref 13, .null, .null, .null], vm := .statics 9 },
  { cls := 12, slots := #[.long 0, .int 1, .null, .int 0, .null, .int 0, .int 0], vm := .statics 12 },
  { cls := 14, slots := #[.null, .null, .null], vm := .statics 14 },
  { cls := 20, slots := #[.int 1, .int 2], vm := .none },
  { cls := 18, slots := #[.int 99, .int 111, .int 109, .int 112, .int 101, .int 110, .int 115, .int 97, .int 116, .int 105, .int 111, .int 110], vm := .none },
  { cls := 18, slots := #[.int 119, .int 97, .int 103, .int 101, .int 95, .int 105, .int 110, .int 118, .int 101, .int 115, .int 116, .int 109, .int 101, .int 110, .int 116], vm := .none },
  { cls := 12, slots := #[.ref 6, .int 0, .int 0, .int 0], vm := .none },
  { cls := 12, slots := #[.ref 7, .int 0, .int 0, .int 0], vm := .none },
  { cls := 6, slots := #[.null, .int 0, .int 0], vm := .none },
  { cls := 6, slots := #[.null, .int 1, .int 0], vm := .none },
  { cls := 9, slots := #[.null, .int 0, .int 0, .ref 8], vm := .none },
  { cls := 9, slots := #[.null, .int 1, .int 0, .ref 9], vm := .none }]
def classes : Array Class := #[k0, k1, k2, k3, k4, k5, k6, k7, k8, k9, k10, k11, k12, k13, k14, k15, k16, k17, k18, k19, k20]
def interned : List (Array UInt16 × Addr) := []
def slotsUsed : Nat := 70
def theMethod : MethodId := ⟨1, 1⟩
def args0 : Array Value := #[.int 5]
def aboutOver (below : List Frame) : State where
  vm := { classes := classes, interned := interned.toArray }
  heap := heap
  slotsUsed := slotsUsed
  threads := #[{ frames := .invoking theMethod args0 :: below }]
def below0 : List Frame := [.native { method := ⟨0, 0⟩, args := #[] }]
def about1 : State := aboutOver below0
def p0 : Program := .bare "" "" ""
def e0 : Env := launch0.env 0 0 0
theorem w_frames : about1.frames = Frame.invoking theMethod args0 :: below0 := rfl
set_option maxRecDepth 65536 in
theorem w_args : argsFit about1.vm theMethod args0 = true := by decide +kernel
set_option maxRecDepth 65536 in
theorem w_heap : heapFits about1 = true := by decide +kernel
set_option maxRecDepth 65536 in
theorem w_runnable : about1.curStatus? = some .runnable := by decide +kernel
set_option maxRecDepth 65536 in
theorem w_alone : about1.alone = true := by decide +kernel
set_option maxRecDepth 65536 in
theorem w_named : about1.methodNamed? x = some theMethod := by decide +kernel
set_option maxRecDepth 65536 in
theorem w_hears : about1.hears theMethod below0 = true := by decide +kernel
set_option maxRecDepth 65536 in
theorem w_ripe : about1.ripe theMethod args0 below0 = true := by decide +kernel
theorem w_running : about1.status = .running := rfl
set_option maxRecDepth 65536 in
theorem w_room : about1.hasRoom e0.platform room_1 = true :=
  launch0.hasRoom_least _ room_1 (by decide +kernel) (by decide +kernel) (by decide +kernel) (by decide +kernel) (by decide +kernel) (by decide +kernel)
theorem allAtoms_all (ts : List Jvm.Cond) (a : Array Jvm.Value) (st : Jvm.State) : (allAtoms ts).before a st = ts.all (fun c => c.before a st) := by
  induction ts with
  | nil => rfl
  | cons c t ih =>
    show (Jvm.Cond.and c (allAtoms t)).before a st = _
    rw [Jvm.Cond.before_and, ih, List.all_cons]
def words1 : List Jvm.Cond := Jvm.Cond.code x code maxLocals ret :: tables_1
/-- a 'code' word, met by the world's own term for the bytes: nothing is compared byte by byte -/
theorem code_word {y : MethodName} {bytes : ByteArray} {mx : Nat} {rt : Option FieldType} {a : Array Value} {s : State} {m : MethodId} {meth : Method} {c : Code} (h1 : s.methodNamed? y = some m) (h2 : s.vm.method? m = some meth) (h3 : meth.code = some c) (h4 : c.code = bytes)
    (h5 : (c.maxLocals == mx && c.exceptionTable.isEmpty && decide (c.maxStack ≤ mostOperands) && decide (meth.sig.returnType = rt) && !meth.locks && decide (parseMethodDescriptor y.desc = some meth.sig)) = true) : (Jvm.Cond.code y bytes mx rt).before a s = true := by
  simp only [Bool.and_eq_true, beq_iff_eq, Bool.not_eq_true', decide_eq_true_eq] at h5
  obtain ⟨⟨⟨⟨⟨g1, g2⟩, g3⟩, g4⟩, g5⟩, g6⟩ := h5
  simp [Cond.before, Cond.holds, Cond.value, h1, h2, h3, h4, g1, g2, g3, g4, g5, g6]
def isCode : Jvm.Cond → Bool
  | .code _ _ _ _ => true
  | _ => false
theorem all_split {L : List Jvm.Cond} {P : Jvm.Cond → Bool} (h1 : L.all (fun c => isCode c || P c) = true) (h2 : ∀ c ∈ L.filter isCode, P c = true) : L.all P = true := by
  refine List.all_eq_true.mpr fun c hc => ?_
  have h := List.all_eq_true.mp h1 c hc
  rcases Bool.eq_false_or_eq_true (isCode c) with hi | hi
  · exact h2 c (List.mem_filter.mpr ⟨hc, hi⟩)
  · simpa [hi] using h
set_option maxRecDepth 65536 in
theorem w_c0 : (Jvm.Cond.code x code maxLocals ret).before args0 about1 = true := code_word (m := ⟨1, 1⟩) (meth := k1m1) (c := k1c1) (by decide +kernel) rfl rfl rfl (by decide +kernel)
set_option maxRecDepth 65536 in
theorem w_c1 : (Jvm.Cond.code ({ cls := "com/example/vestwright/vestwright/allocation/YearAllocation", name := "column", desc := "(Lcom/example/vestwright/vestwright/plan/Basis;)Lcom/example/vestwright/vestwright/census/Census$Amount;" } : Jvm.MethodName) prog_27_method_11_code (1 : Nat) (Option.some (Jvm.ClassFile.FieldType.object "com/example/vestwright/vestwright/census/Census$Amount"))).before args0 about1 = true := code_word (m := ⟨7, 0⟩) (meth := k7m0) (c := k7c0) (by decide +kernel) rfl rfl rfl (by decide +kernel)
set_option maxRecDepth 65536 in
theorem w_c2 : (Jvm.Cond.code ({ cls := "java/lang/Enum", name := "ordinal", desc := "()I" } : Jvm.MethodName) jdk_37_method_2_code (1 : Nat) (Option.some Jvm.ClassFile.FieldType.int)).before args0 about1 = true := code_word (m := ⟨5, 0⟩) (meth := k5m0) (c := k5c0) (by decide +kernel) rfl rfl rfl (by decide +kernel)
set_option maxRecDepth 65536 in
theorem w_c3 : (Jvm.Cond.code ({ cls := "com/example/vestwright/vestwright/census/Census$Amount", name := "header", desc := "()Ljava/lang/String;" } : Jvm.MethodName) prog_36_method_4_code (1 : Nat) (Option.some (Jvm.ClassFile.FieldType.object "java/lang/String"))).before args0 about1 = true := code_word (m := ⟨9, 0⟩) (meth := k9m0) (c := k9c0) (by decide +kernel) rfl rfl rfl (by decide +kernel)
set_option maxRecDepth 65536 in
theorem w_c4 : (Jvm.Cond.code ({ cls := "java/lang/String", name := "equals", desc := "(Ljava/lang/Object;)Z" } : Jvm.MethodName) jdk_42_method_66_code (3 : Nat) (Option.some Jvm.ClassFile.FieldType.boolean)).before args0 about1 = true := code_word (m := ⟨12, 1⟩) (meth := k12m1) (c := k12c1) (by decide +kernel) rfl rfl rfl (by decide +kernel)
set_option maxRecDepth 65536 in
theorem w_c5 : (Jvm.Cond.code ({ cls := "java/lang/StringLatin1", name := "equals", desc := "([B[B)Z" } : Jvm.MethodName) jdk_43_method_13_code (3 : Nat) (Option.some Jvm.ClassFile.FieldType.boolean)).before args0 about1 = true := code_word (m := ⟨13, 1⟩) (meth := k13m1) (c := k13c1) (by decide +kernel) rfl rfl rfl (by decide +kernel)
def codes1 : List Jvm.Cond := [Jvm.Cond.code x code maxLocals ret, Jvm.Cond.code ({ cls := "com/example/vestwright/vestwright/allocation/YearAllocation", name := "column", desc := "(Lcom/example/vestwright/vestwright/plan/Basis;)Lcom/example/vestwright/vestwright/census/Census$Amount;" } : Jvm.MethodName) prog_27_method_11_code (1 : Nat) (Option.some (Jvm.ClassFile.FieldType.object "com/example/vestwright/vestwright/census/Census$Amount")), Jvm.Cond.code ({ cls := "java/lang/Enum", name := "ordinal", desc := "()I" } : Jvm.MethodName) jdk_37_method_2_code (1 : Nat) (Option.some Jvm.ClassFile.FieldType.int), Jvm.Cond.code ({ cls := "com/example/vestwright/vestwright/census/Census$Amount", name := "header", desc := "()Ljava/lang/String;" } : Jvm.MethodName) prog_36_method_4_code (1 : Nat) (Option.some (Jvm.ClassFile.FieldType.object "java/lang/String")), Jvm.Cond.code ({ cls := "java/lang/String", name := "equals", desc := "(Ljava/lang/Object;)Z" } : Jvm.MethodName) jdk_42_method_66_code (3 : Nat) (Option.some Jvm.ClassFile.FieldType.boolean), Jvm.Cond.code ({ cls := "java/lang/StringLatin1", name := "equals", desc := "([B[B)Z" } : Jvm.MethodName) jdk_43_method_13_code (3 : Nat) (Option.some Jvm.ClassFile.FieldType.boolean)]
set_option maxRecDepth 65536 in
theorem codes_eq : words1.filter isCode = codes1 := rfl
theorem w_codes : ∀ c ∈ words1.filter isCode, c.before args0 about1 = true := by
  rw [codes_eq]
  intro c hc
  simp only [codes1, List.mem_cons, List.not_mem_nil, or_false] at hc
  rcases hc with rfl | rfl | rfl | rfl | rfl | rfl
  · exact w_c0
  · exact w_c1
  · exact w_c2
  · exact w_c3
  · exact w_c4
  · exact w_c5
set_option maxRecDepth 65536 in
theorem w_t1 : (words1.take 24).all (fun c => isCode c || c.before args0 about1) = true := by decide +kernel
set_option maxRecDepth 65536 in
theorem w_t2 : ((words1.drop 24).take 24).all (fun c => isCode c || c.before args0 about1) = true := by decide +kernel
set_option maxRecDepth 65536 in
theorem w_t3 : ((words1.drop 24).drop 24).all (fun c => isCode c || c.before args0 about1) = true := by decide +kernel
theorem w_tables : (allAtoms (Jvm.Cond.code x code maxLocals ret :: tables_1)).before args0 about1 = true := by
  rw [allAtoms_all]
  show words1.all (fun c => c.before args0 about1) = true
  refine all_split ?_ w_codes
  rw [← List.take_append_drop 24 words1, List.all_append, w_t1, ← List.take_append_drop 24 (words1.drop 24), List.all_append, w_t2, w_t3]
  rfl
set_option maxRecDepth 65536 in
theorem w_rest : rest_1_c.before args0 about1 = true := by decide +kernel
set_option maxRecDepth 65536 in
theorem w_case : (Jvm.Cond.and given_1 narrow_1).before args0 about1 = true := by decide +kernel
set_option maxRecDepth 65536 in
theorem w_consts : constsHeld consts_1 about1 := Jvm.Lit.constsHeldB_iff.mp (by decide +kernel)
theorem w_applies : (headSpec (Jvm.Cond.code x code maxLocals ret :: tables_1) room_1).applies x e0.platform about1 = true :=
  (Spec.applies_iff w_frames).mpr ⟨w_running, w_runnable, w_alone, w_named, w_hears, w_ripe, w_room, w_tables⟩
theorem atStart : AtStart classFile x code maxLocals ret World_1 tables_1 room_1 Calls_1 rest_1 Pre_1 launch0 p0 e0 about1 theMethod args0 below0 :=
  ⟨lists_1, trivial, launch0.admits_env _ _ _, launch0.least_env, fairChoices_fair.cas, fairChoices_fair.clock, w_frames, w_args, w_heap, w_applies, ⟨w_consts, trivial⟩, w_rest, w_case⟩
end start1
theorem witness_1 : WitnessClaimed_1 := ⟨start1.p0, start1.e0, start1.about1, start1.theMethod, start1.args0, start1.below0, start1.atStart⟩
end Jvm.Pilot.@@N@@
