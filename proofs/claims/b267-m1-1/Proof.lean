import JvmDerived
import JvmDerived.Pilot.@@N@@Statement
import JvmDerived.Pilot.@@N@@Code
set_option linter.unusedVariables false
set_option linter.unusedSimpArgs false
namespace Jvm.Pilot.@@N@@
open Jvm Jvm.ClassFile Sem Op Lib Jvm.Free Jvm.Stand Jvm.LawKit Jvm.RoadKit Bundle Jvm.Pilot.@@N@@.Jvm.D
/-! a run that ends as a contract says: forks and joins go by it -/
def Goes (p : Program) (e : Env) (below : List Frame) (s : State) (Q : Option Value → Heap → List Loc → Prop) (kc ks : Nat) (A : State) : Prop :=
  ∃ s₂ o, Steps p.tables e below A s₂ ∧ s₂.status = .running ∧ Ended s₂ below o ∧ ∃ v L, o = .returned v ∧ Q v s₂.heap L ∧ FrameEnd s o s₂ L kc ks
section Go
variable {p : Program} {l : Launch} {e : Env} {R : Room} {s : State} {m : MethodId} {args : Array Value} {below : List Frame} {meth : Method} {c : Code} {T : State} {locs : List Loc} {cells slots kc ks : Nat} {Q : Option Value → Heap → List Loc → Prop}
theorem Goes.by {A B : State} (h : ∀ t, Steps p.tables e below B t → Steps p.tables e below A t) (k : Goes p e below s Q kc ks B) : Goes p e below s Q kc ks A := by
  obtain ⟨s₂, o, h1, h2⟩ := k
  exact ⟨s₂, o, h _ h1, h2⟩
theorem Goes.out (X : Stand p l e R s m args below meth c T locs cells slots) (hx : p.tables.exec = Jvm.exec) {pc : Nat} {Ls : Array Slot} {w : Value} {t : FieldType} {i : Instr} {rest : List Value} (hret : meth.sig.returnType = some t) (hn : narrow t w = w)
    (hi : (i = .ireturn ∧ (t = .int ∨ t = .boolean ∨ t = .byte ∨ t = .char ∨ t = .short) ∧ ∃ z, w = .int z) ∨ (i = .lreturn ∧ t = .long ∧ ∃ z, w = .long z) ∨ (i = .dreturn ∧ t = .double ∧ ∃ z, w = .double z) ∨ (i = .freturn ∧ t = .float ∧ ∃ z, w = .float z) ∨ (i = .areturn ∧ t.isReference = true ∧ w.isRef = true))
    (hd : decode c.code pc = .ok (i, 1)) (hlk : meth.locks = false) (hQ : Q (some w) T.heap locs) (hc : cells ≤ kc) (hs : slots ≤ ks) : Goes p e below s Q kc ks (T.setTop (mkF m pc Ls (w :: rest))) := by
  obtain ⟨fs, hr, hrun, hended, hW, hsame⟩ := X.leave (v := some w) (fun h => by rw [hret] at h; cases h) hlk
  exact ⟨_, _, retOut X hx hret hn hi hd hr, hrun, hended, _, _, rfl, hQ, ⟨_, rfl⟩, hW, hsame.mono hc hs⟩
theorem Goes.retI (X : Stand p l e R s m args below meth c T locs cells slots) (hx : p.tables.exec = Jvm.exec) {pc : Nat} {Ls : Array Slot} {z : Int32} {rest : List Value} (hret : meth.sig.returnType = some .int) (hn : True) (hd : decode c.code pc = .ok (.ireturn, 1)) (hlk : meth.locks = false) (hQ : Q (some (.int z)) T.heap locs) (hc : cells ≤ kc) (hs : slots ≤ ks) :
    Goes p e below s Q kc ks (T.setTop (mkF m pc Ls (.int z :: rest))) := Goes.out X hx hret rfl (Or.inl ⟨rfl, Or.inl rfl, z, rfl⟩) hd hlk hQ hc hs
theorem Goes.retN (X : Stand p l e R s m args below meth c T locs cells slots) (hx : p.tables.exec = Jvm.exec) {pc : Nat} {Ls : Array Slot} {z : Int32} {rest : List Value} (hret : meth.sig.returnType = some .boolean) (hn : narrow .boolean (.int z) = .int z) (hd : decode c.code pc = .ok (.ireturn, 1)) (hlk : meth.locks = false) (hQ : Q (some (.int z)) T.heap locs) (hc : cells ≤ kc) (hs : slots ≤ ks) :
    Goes p e below s Q kc ks (T.setTop (mkF m pc Ls (.int z :: rest))) := Goes.out X hx hret hn (Or.inl ⟨rfl, Or.inr (Or.inl rfl), z, rfl⟩) hd hlk hQ hc hs
theorem Goes.retL (X : Stand p l e R s m args below meth c T locs cells slots) (hx : p.tables.exec = Jvm.exec) {pc : Nat} {Ls : Array Slot} {z : Int64} {rest : List Value} (hret : meth.sig.returnType = some .long) (hn : True) (hd : decode c.code pc = .ok (.lreturn, 1)) (hlk : meth.locks = false) (hQ : Q (some (.long z)) T.heap locs) (hc : cells ≤ kc) (hs : slots ≤ ks) :
    Goes p e below s Q kc ks (T.setTop (mkF m pc Ls (.long z :: rest))) := Goes.out X hx hret rfl (Or.inr (Or.inl ⟨rfl, rfl, z, rfl⟩)) hd hlk hQ hc hs
theorem Goes.retD (X : Stand p l e R s m args below meth c T locs cells slots) (hx : p.tables.exec = Jvm.exec) {pc : Nat} {Ls : Array Slot} {z : UInt64} {rest : List Value} (hret : meth.sig.returnType = some .double) (hn : True) (hd : decode c.code pc = .ok (.dreturn, 1)) (hlk : meth.locks = false) (hQ : Q (some (.double z)) T.heap locs) (hc : cells ≤ kc) (hs : slots ≤ ks) :
    Goes p e below s Q kc ks (T.setTop (mkF m pc Ls (.double z :: rest))) := Goes.out X hx hret rfl (Or.inr (Or.inr (Or.inl ⟨rfl, rfl, z, rfl⟩))) hd hlk hQ hc hs
theorem Goes.retA (X : Stand p l e R s m args below meth c T locs cells slots) (hx : p.tables.exec = Jvm.exec) {pc : Nat} {Ls : Array Slot} {w : Value} {t : FieldType} {rest : List Value} (hret : meth.sig.returnType = some t) (ht : t.isReference = true) (hw : w.isRef = true) (hd : decode c.code pc = .ok (.areturn, 1)) (hlk : meth.locks = false) (hQ : Q (some w) T.heap locs) (hc : cells ≤ kc) (hs : slots ≤ ks) :
    Goes p e below s Q kc ks (T.setTop (mkF m pc Ls (w :: rest))) := Goes.out X hx hret (by rcases ref_cases hw with rfl | ⟨a, rfl⟩ <;> cases t <;> first | rfl | (simp [FieldType.isReference] at ht)) (Or.inr (Or.inr (Or.inr (Or.inr ⟨rfl, ht, hw⟩)))) hd hlk hQ hc hs
theorem Goes.retV (X : Stand p l e R s m args below meth c T locs cells slots) (hx : p.tables.exec = Jvm.exec) {pc : Nat} {Ls : Array Slot} (hret : meth.sig.returnType = none) (hd : decode c.code pc = .ok (.return_, 1)) (hlk : meth.locks = false) (hQ : Q none T.heap locs) (hc : cells ≤ kc) (hs : slots ≤ ks) :
    Goes p e below s Q kc ks (T.setTop (mkF m pc Ls [])) := by
  obtain ⟨fs, hr, hrun, hended, hW, hsame⟩ := X.leave (v := none) (fun _ => rfl) hlk
  exact ⟨_, _, X.returnOut hx hret hd hr, hrun, hended, _, _, rfl, hQ, ⟨_, rfl⟩, hW, hsame.mono hc hs⟩
end Go
theorem pd_0 : parseMethodDescriptor "(II)I" = some ⟨[.int, .int], some .int⟩ := by decide +kernel
theorem pd_1 : parseMethodDescriptor "(I[I)[[I" = some ⟨[.int, (.array .int)], some (.array (.array .int))⟩ := by decide +kernel
theorem pd_2 : parseMethodDescriptor "([[IIIIIIII)Z" = some ⟨[(.array (.array .int)), .int, .int, .int, .int, .int, .int, .int], some .boolean⟩ := by decide +kernel
/-! int arrays by their length and a function; arrays of arrays likewise -/
def IA (Z : State) (h : Heap) (a : Addr) (n : Nat) (f : Nat → Int32) : Prop := ∃ c : Cell, Arr Z h a c .int ∧ c.slots.size = n ∧ ∀ i, i < n → c.slots[i]? = some (.int (f i))
def RA (Z : State) (h : Heap) (a : Addr) (k : ClassId) (n : Nat) (f : Nat → Value) : Prop := ∃ c : Cell, Arr Z h a c (.array .int) ∧ c.cls = k ∧ c.slots.size = n ∧ ∀ i, i < n → c.slots[i]? = some (f i)
section IAs
variable {Z : State} {h h' : Heap} {a b : Addr} {n : Nat} {f : Nat → Int32} {r : Nat → Value} {k : ClassId} {sl : Nat} {v : Value} {ws : List Addr}
theorem IA.lt (A : IA Z h a n f) : a < h.size := by obtain ⟨c, A, -⟩ := A; exact A.lt
theorem IA.ext (A : IA Z h a n f) (E : Ext h h') : IA Z h' a n f := by obtain ⟨c, A, q⟩ := A; exact ⟨c, A.ext E, q⟩
theorem IA.other (A : IA Z h b n f) (W : Wr h h' a sl v) (q : b ≠ a) : IA Z h' b n f := by obtain ⟨c, A, r⟩ := A; exact ⟨c, A.other W q, r⟩
theorem IA.keep (A : IA Z h a n f) (K : Keep h h' ws) (q : a ∉ ws) : IA Z h' a n f := by obtain ⟨c, A, r⟩ := A; exact ⟨c, ⟨K.2.1 a c A.1 q, A.2⟩, r⟩
theorem IA.congr {g : Nat → Int32} {m : Nat} (A : IA Z h a n f) (e : n = m) (q : ∀ i, i < n → f i = g i) : IA Z h a m g := by
  obtain ⟨c, A, S, H⟩ := A
  exact ⟨c, A, S.trans e, fun i hi => by rw [← q i (by omega)]; exact H i (by omega)⟩
theorem IA.set {i : Nat} {x : Int32} (A : IA Z h a n f) (W : Wr h h' a i (.int x)) : IA Z h' a n (fun j => if j = i then x else f j) := by
  obtain ⟨c, A, S, H⟩ := A
  refine ⟨c.setSlot i (.int x), A.same W, by rw [sz_set]; exact S, fun j hj => ?_⟩
  by_cases q : j = i
  · subst q; simp [Cell.setSlot, S, hj]
  · simp only [Cell.setSlot, if_neg q]
    rw [Array.getElem?_setIfInBounds_ne (Ne.symm q)]
    exact H j hj
theorem RA.lt (A : RA Z h a k n r) : a < h.size := by obtain ⟨c, A, -⟩ := A; exact A.lt
theorem RA.ext (A : RA Z h a k n r) (E : Ext h h') : RA Z h' a k n r := by obtain ⟨c, A, q⟩ := A; exact ⟨c, A.ext E, q⟩
theorem RA.other (A : RA Z h b k n r) (W : Wr h h' a sl v) (q : b ≠ a) : RA Z h' b k n r := by obtain ⟨c, A, r⟩ := A; exact ⟨c, A.other W q, r⟩
theorem RA.keep (A : RA Z h a k n r) (K : Keep h h' ws) (q : a ∉ ws) : RA Z h' a k n r := by obtain ⟨c, A, r⟩ := A; exact ⟨c, ⟨K.2.1 a c A.1 q, A.2⟩, r⟩
theorem RA.congr {g : Nat → Value} (A : RA Z h a k n r) (q : ∀ i, i < n → r i = g i) : RA Z h a k n g := by
  obtain ⟨c, A, C, S, H⟩ := A
  exact ⟨c, A, C, S, fun i hi => by rw [← q i hi]; exact H i hi⟩
theorem RA.set {i : Nat} (A : RA Z h a k n r) (W : Wr h h' a i v) : RA Z h' a k n (fun j => if j = i then v else r j) := by
  obtain ⟨c, A, C, S, H⟩ := A
  refine ⟨c.setSlot i v, A.same W, C, by rw [sz_set]; exact S, fun j hj => ?_⟩
  by_cases q : j = i
  · subst q; simp [Cell.setSlot, S, hj]
  · simp only [Cell.setSlot, if_neg q]
    rw [Array.getElem?_setIfInBounds_ne (Ne.symm q)]
    exact H j hj
theorem IA.neRA (A : IA Z h a n f) {n' : Nat} (B : RA Z h b k n' r) : a ≠ b := fun e => by
  subst e
  obtain ⟨c, A, -⟩ := A
  obtain ⟨c', B, -⟩ := B
  cases A.1.symm.trans B.1
  obtain ⟨-, k1, a1, comp, a2⟩ := A.2.1
  obtain ⟨-, k2, b1, comp', b2⟩ := B.2.1
  cases a1.symm.trans b1
  rw [a2] at b2; cases b2
end IAs
section IASteps
variable {p : Program} {l : Launch} {e : Env} {R : Room} {s : State} {m : MethodId} {args : Array Value} {below : List Frame} {meth : Method} {c : Code} {T : State} {locs : List Loc} {cells slots : Nat} {Z : State} {a0 : Array Value} {h : Heap} {a : Addr} {n : Nat} {f : Nat → Int32} {r : Nat → Value} {k : ClassId}
theorem own_in {i n : Nat} (hi : i < n) (hn : n < 2147483648) : ¬ (Int32.ofNat i < 0 ∨ n ≤ (Int32.ofNat i).toNatClampNeg) := within rfl hi hn
theorem own_cl {i n : Nat} (hi : i < n) (hn : n < 2147483648) : (Int32.ofNat i).toNatClampNeg = i := clamp_of rfl (by omega)
theorem own_iaload (X : Stand p l e R s m args below meth c T locs cells slots) (hx : p.tables.exec = Jvm.exec) (hZ : Z.Warmed39 s.vm) (eT : T.heap = h) (A : IA Z h a n f) {i : Nat} (hi : i < n) (hn : n < 2147483648) {g : JFrame} (hg : g.method = m) {rest : List Value} (hs : g.stack = .int (Int32.ofNat i) :: .ref a :: rest) (hd : decode c.code g.pc = .ok (.iaload, 1)) {target : State}
    (hr : Steps p.tables e below (T.setTop { g with pc := g.pc + 1, stack := .int (f i) :: rest }) target) : Steps p.tables e below (T.setTop g) target := by
  obtain ⟨cl, A, S, H⟩ := A
  exact X.iaload hx (j := Int32.ofNat i) (v := .int (f i)) (by rw [eT]; exact A.1) (State.isArrayOf_alike hZ.alike A.2.1) A.2.2 (by rw [S]; exact own_in hi hn) (by rw [own_cl hi hn]; exact H i hi) hg hs hd _ hr
theorem own_aaload (X : Stand p l e R s m args below meth c T locs cells slots) (hx : p.tables.exec = Jvm.exec) (hZ : Z.Warmed39 s.vm) (eT : T.heap = h) (A : RA Z h a k n r) {i : Nat} (hi : i < n) (hn : n < 2147483648) {g : JFrame} (hg : g.method = m) {rest : List Value} (hs : g.stack = .int (Int32.ofNat i) :: .ref a :: rest) (hd : decode c.code g.pc = .ok (.aaload, 1)) {v : Value} (hv : r i = v) {target : State}
    (hr : Steps p.tables e below (T.setTop { g with pc := g.pc + 1, stack := v :: rest }) target) : Steps p.tables e below (T.setTop g) target := by
  subst hv
  obtain ⟨cl, A, C, S, H⟩ := A
  exact X.aaload hx (j := Int32.ofNat i) (v := r i) (by rw [eT]; exact A.1) (State.isArrayOf_alike hZ.alike A.2.1) rfl A.2.2 (by rw [S]; exact own_in hi hn) (by rw [own_cl hi hn]; exact H i hi) hg hs hd _ hr
theorem own_len (X : Stand p l e R s m args below meth c T locs cells slots) (hx : p.tables.exec = Jvm.exec) (hZ : Z.Warmed39 s.vm) (eT : T.heap = h) (A : IA Z h a n f) {g : JFrame} (hg : g.method = m) {rest : List Value} (hs : g.stack = .ref a :: rest) (hd : decode c.code g.pc = .ok (.arraylength, 1)) {target : State}
    (hr : Steps p.tables e below (T.setTop { g with pc := g.pc + 1, stack := .int (Int32.ofNat n) :: rest }) target) : Steps p.tables e below (T.setTop g) target := by
  obtain ⟨cl, A, S, H⟩ := A
  refine X.arraylength hx (by rw [eT]; exact A.1) (State.isArrayOf_alike hZ.alike A.2.1) hg hs hd _ ?_
  rw [S]; exact hr
theorem own_lenR (X : Stand p l e R s m args below meth c T locs cells slots) (hx : p.tables.exec = Jvm.exec) (hZ : Z.Warmed39 s.vm) (eT : T.heap = h) (A : RA Z h a k n r) {g : JFrame} (hg : g.method = m) {rest : List Value} (hs : g.stack = .ref a :: rest) (hd : decode c.code g.pc = .ok (.arraylength, 1)) {target : State}
    (hr : Steps p.tables e below (T.setTop { g with pc := g.pc + 1, stack := .int (Int32.ofNat n) :: rest }) target) : Steps p.tables e below (T.setTop g) target := by
  obtain ⟨cl, A, C, S, H⟩ := A
  refine X.arraylength hx (by rw [eT]; exact A.1) (State.isArrayOf_alike hZ.alike A.2.1) hg hs hd _ ?_
  rw [S]; exact hr
theorem own_iastore (X : Stand p l e R s m args below meth c T locs cells slots) (hx : p.tables.exec = Jvm.exec) (hZ : Z.Warmed39 s.vm) (eT : T.heap = h) (A : IA Z h a n f) {i : Nat} (hi : i < n) (hn : n < 2147483648) {x : Int32} {g : JFrame} (hg : g.method = m) {rest : List Value} (hs : g.stack = .int x :: .int (Int32.ofNat i) :: .ref a :: rest) (hd : decode c.code g.pc = .ok (.iastore, 1)) :
    ∃ T' h', Stand p l e R s m args below meth c T' (locs ++ [⟨a, i⟩]) cells slots ∧ T'.heap = h' ∧ Wr h h' a i (.int x) ∧ IA Z h' a n (fun j => if j = i then x else f j) ∧ ∀ target, Steps p.tables e below (T'.setTop { g with pc := g.pc + 1, stack := rest }) target → Steps p.tables e below (T.setTop g) target := by
  have A0 := A
  obtain ⟨cl, A, S, H⟩ := A
  obtain ⟨T', h', X', e', W, st⟩ := stI X hx hZ eT A (j := Int32.ofNat i) (by rw [S]; exact own_in hi hn) hg hs hd
  rw [own_cl hi hn] at X' W
  exact ⟨T', h', X', e', W, A0.set W, st⟩
theorem own_aastore (X : Stand p l e R s m args below meth c T locs cells slots) (hx : p.tables.exec = Jvm.exec) (hZ : Z.Warmed39 s.vm) (eT : T.heap = h) (A : RA Z h a k n r) {C : String} (O : OvrA Z k .int C) {y : Addr} (I : Ins Z h y C true) {i : Nat} (hi : i < n) (hn : n < 2147483648) {g : JFrame} (hg : g.method = m) {rest : List Value} (hs : g.stack = .ref y :: .int (Int32.ofNat i) :: .ref a :: rest) (hd : decode c.code g.pc = .ok (.aastore, 1)) :
    ∃ T' h', Stand p l e R s m args below meth c T' (locs ++ [⟨a, i⟩]) cells slots ∧ T'.heap = h' ∧ Wr h h' a i (.ref y) ∧ RA Z h' a k n (fun j => if j = i then .ref y else r j) ∧ ∀ target, Steps p.tables e below (T'.setTop { g with pc := g.pc + 1, stack := rest }) target → Steps p.tables e below (T.setTop g) target := by
  have A0 := A
  obtain ⟨cl, A, C, S, H⟩ := A
  obtain ⟨T', h', X', e', W, st⟩ := stR X hx hZ eT A (j := Int32.ofNat i) (by rw [S]; exact own_in hi hn) rfl (Sto.ofVA A C O I) hg hs hd
  rw [own_cl hi hn] at X' W
  exact ⟨T', h', X', e', W, A0.set W, st⟩
theorem own_newI (X : Stand p l e R s m args below meth c T locs cells slots) (hx : p.tables.exec = Jvm.exec) (hZ : Z.Warmed39 s.vm) (w : (Cond.arrayClass .int).before a0 Z = true) (eT : T.heap = h) {g : JFrame} (hg : g.method = m) (hd : decode c.code g.pc = .ok (.newarray .int, 2)) {n : Nat} {rest : List Value} (hs : g.stack = .int (Int32.ofNat n) :: rest)
    (cap : Nat) (hcap : n ≤ cap) (hb : cap ≤ 1000) (hc : cells + 1 ≤ R.cells) (hl : slots + cap ≤ R.slots) :
    ∃ T' h', Stand p l e R s m args below meth c T' locs (cells + 1) (slots + cap) ∧ T'.heap = h' ∧ Ext h h' ∧ IA Z h' h.size n (fun _ => 0) ∧ Exa Z h' h.size "[I" ∧
      ∀ target, Steps p.tables e below (T'.setTop { g with pc := g.pc + 2, stack := .ref h.size :: rest }) target → Steps p.tables e below (T.setTop g) target := by
  have cl : (Int32.ofNat n).toNatClampNeg = n := clamp_of rfl (by omega)
  have nn : ¬ Int32.ofNat n < 0 := by
    have e1 := toInt_of (n := Int32.ofNat n) rfl (c := n) (by omega)
    rw [Int32.lt_iff_toInt_lt, e1]
    have e0 : (0 : Int32).toInt = 0 := by decide
    omega
  obtain ⟨T', h', cA, X', e', E, A, Ex, st⟩ := newPE X hx hZ (aty := .int) w eT hg hd hs nn (cap := cap) (by rw [cl]; exact hcap) (by omega) hc hl (ad := "[I") (by decide)
  refine ⟨T', h', X', e', E, ⟨_, A, by rw [sz_new]; exact cl, fun i hi => ?_⟩, Ex, st⟩
  simp [newA, cl, hi, newarray.typeOf, defaultValue]
theorem own_newR (X : Stand p l e R s m args below meth c T locs cells slots) (hx : p.tables.exec = Jvm.exec) (hZ : Z.Warmed39 s.vm) {own : String} {index : Nat} (hown : s.vm.findClass own = some m.cls) (w1 : (Cond.classLink own index "[I").before a0 Z = true) (w2 : (Cond.arrayOver (.array .int)).before a0 Z = true) (eT : T.heap = h) {g : JFrame} (hg : g.method = m) (hd : decode c.code g.pc = .ok (.anewarray index, 3)) {n : Nat} {rest : List Value} (hs : g.stack = .int (Int32.ofNat n) :: rest)
    (cap : Nat) (hcap : n ≤ cap) (hb : cap ≤ 1000) (hc : cells + 1 ≤ R.cells) (hl : slots + cap ≤ R.slots) :
    ∃ T' h' k, Stand p l e R s m args below meth c T' locs (cells + 1) (slots + cap) ∧ T'.heap = h' ∧ Ext h h' ∧ RA Z h' h.size k n (fun _ => .null) ∧ OvrA Z k .int "[I" ∧
      ∀ target, Steps p.tables e below (T'.setTop { g with pc := g.pc + 3, stack := .ref h.size :: rest }) target → Steps p.tables e below (T.setTop g) target := by
  have cl : (Int32.ofNat n).toNatClampNeg = n := clamp_of rfl (by omega)
  have nn : ¬ Int32.ofNat n < 0 := by
    have e1 := toInt_of (n := Int32.ofNat n) rfl (c := n) (by omega)
    rw [Int32.lt_iff_toInt_lt, e1]
    have e0 : (0 : Int32).toInt = 0 := by decide
    omega
  obtain ⟨T', h', cA, X', e', E, A, Ex, O, st⟩ := newRA X hx hZ hown (C := "[I") (ty := .int) (by decide) w1 w2 eT hg hd hs nn (cap := cap) (by rw [cl]; exact hcap) (by omega) hc hl rfl
  refine ⟨T', h', cA, X', e', E, ⟨_, A, rfl, by rw [sz_new]; exact cl, fun i hi => ?_⟩, O, st⟩
  simp [newA, cl, hi, defaultValue]
end IASteps

def cnt (es : Nat → Nat) : Nat → Nat → Nat
  | 0, _ => 0
  | i + 1, v => cnt es i v + (if es i = v then 1 else 0)
def rows (es : Nat → Nat) : Nat → Nat → Nat → Int32
  | 0, _, _ => 0
  | i + 1, v, k => if es i = v ∧ k = cnt es i v then Int32.ofNat i else rows es i v k
theorem cnt_le (es : Nat → Nat) (v : Nat) : ∀ i, cnt es i v ≤ i
  | 0 => Nat.le_refl _
  | i + 1 => by have := cnt_le es v i; simp only [cnt]; split <;> omega
theorem cnt_mono (es : Nat → Nat) (v : Nat) {i : Nat} : ∀ j, i ≤ j → cnt es i v ≤ cnt es j v
  | 0, h => by have : i = 0 := by omega
               subst this; exact Nat.le_refl _
  | j + 1, h => by
    by_cases q : i = j + 1
    · subst q; exact Nat.le_refl _
    · have := cnt_mono es v (i := i) j (by omega); simp only [cnt]; omega
theorem cnt_lt (es : Nat → Nat) {v i m : Nat} (h : i < m) (e : es i = v) : cnt es i v < cnt es m v := by
  have := cnt_mono es v (i := i + 1) m (by omega)
  simp only [cnt, e, if_true] at this
  omega
theorem cnt_step (es : Nat → Nat) (i v : Nat) : (if v = es i then Int32.ofNat (cnt es i (es i)) + 1 else Int32.ofNat (cnt es i v)) = Int32.ofNat (cnt es (i + 1) v) := by
  by_cases q : v = es i
  · subst q; simp only [cnt, if_true]; rw [inc_ofNat]
  · have q' : ¬ es i = v := fun e => q e.symm
    simp only [cnt, if_neg q, if_neg q', Nat.add_zero]
theorem rows_hit (es : Nat → Nat) (i k : Nat) : (if k = cnt es i (es i) then Int32.ofNat i else rows es i (es i) k) = rows es (i + 1) (es i) k := by
  simp only [rows, true_and]
theorem rows_miss (es : Nat → Nat) {i v : Nat} (h : ¬ es i = v) (k : Nat) : rows es i v k = rows es (i + 1) v k := by
  simp only [rows, h, false_and, if_false]
theorem cnt_miss (es : Nat → Nat) {i v : Nat} (h : ¬ es i = v) : cnt es (i + 1) v = cnt es i v := by simp only [cnt, if_neg h, Nat.add_zero]
theorem cnt_hit (es : Nat → Nat) {i v : Nat} (h : es i = v) : cnt es (i + 1) v = cnt es i v + 1 := by simp only [cnt, if_pos h]
theorem own_ltN {i m : Nat} (h : i < m) (hm : m < 2147483648) : Int32.ofNat i < Int32.ofNat m := by
  rw [Int32.lt_iff_toInt_lt, toInt_of (n := Int32.ofNat i) (c := i) rfl (by omega), toInt_of (n := Int32.ofNat m) (c := m) rfl (by omega)]; omega
theorem own_nltN {i m : Nat} (h : ¬ i < m) (hi : i < 2147483648) : ¬ Int32.ofNat i < Int32.ofNat m := by
  rw [Int32.lt_iff_toInt_lt, toInt_of (n := Int32.ofNat i) (c := i) rfl (by omega), toInt_of (n := Int32.ofNat m) (c := m) rfl (by omega)]; omega
theorem own_inj {i m : Nat} (hi : i < 2147483648) (hm : m < 2147483648) (h : Int32.ofNat i = Int32.ofNat m) : i = m := by
  have e := congrArg Int32.toInt h
  rw [toInt_of (n := Int32.ofNat i) (c := i) rfl (by omega), toInt_of (n := Int32.ofNat m) (c := m) rfl (by omega)] at e; omega
theorem own_ofN {x : Int32} {n : Nat} (h : x.toInt = (n : Int)) : x = Int32.ofNat n := by
  have r := rng32 x
  apply Int32.toInt_inj.mp
  rw [toInt_of (n := Int32.ofNat n) (c := n) rfl (by omega), h]
theorem own_mod5 (p : Int32) : ∃ N, N ≤ 4 ∧ (p &&& 2147483647) % 5 = Int32.ofNat N := by
  have a := c_mask p 2147483647 31 (by decide) (by decide)
  have q := (c_iremV (p &&& 2147483647) 5).1
  have o5 : (5 : Int32).toInt = 5 := by decide
  rw [o5] at q
  exact ⟨((p &&& 2147483647) % 5).toInt.toNat, by omega, own_ofN (by omega)⟩
theorem own_end (p : Int32) (N : Nat) (hN : N ≤ 4) : ∃ e, (if Int32.ofNat N = 0 then 0 else (p &&& 2147483647) % Int32.ofNat N) = Int32.ofNat e ∧ (0 < N → e < N) ∧ e ≤ 4 := by
  by_cases q : Int32.ofNat N = 0
  · rw [if_pos q]
    refine ⟨0, rfl, fun h => h, by omega⟩
  · rw [if_neg q]
    have hN0 : 0 < N := by
      rcases Nat.eq_zero_or_pos N with h | h
      · subst h; exact absurd rfl q
      · exact h
    have a := c_mask p 2147483647 31 (by decide) (by decide)
    have r := (c_iremV (p &&& 2147483647) (Int32.ofNat N)).1
    have o : (Int32.ofNat N).toInt = N := toInt_of rfl (by omega)
    rw [o] at r
    exact ⟨((p &&& 2147483647) % Int32.ofNat N).toInt.toNat, own_ofN (by omega), fun _ => by omega, by omega⟩
def esOf (e0 e1 e2 e3 : Nat) (i : Nat) : Nat := if i = 0 then e0 else if i = 1 then e1 else if i = 2 then e2 else e3
theorem own_dupx2 {p : Program} {l : Launch} {e : Env} {R : Room} {s : State} {m : MethodId} {args : Array Value} {below : List Frame} {meth : Method} {c : Code} {T : State} {locs : List Loc} {cells slots : Nat} (X : Stand p l e R s m args below meth c T locs cells slots) (hx : p.tables.exec = Jvm.exec) {pc : Nat} {Ls : Array Slot} {x y : Int32} {z : Addr} {rest : List Value} (hd : decode c.code pc = .ok (.dup_x2, 1)) {target : State}
    (hr : Steps p.tables e below (T.setTop (mkF m (pc + 1) Ls (.int x :: .int y :: .ref z :: .int x :: rest))) target) : Steps p.tables e below (T.setTop (mkF m pc Ls (.int x :: .int y :: .ref z :: rest))) target := by
  jvm_step X.here [X.here.top, hx, hd, Value.category]
  exact hr
def Q1 (r : Int32) (h0 : Heap) (n0 : Nat) (v : Option Value) (h : Heap) (L : List Loc) : Prop := v = some (.int r) ∧ Fr n0 L ∧ h = h0
theorem d1_0 : decode method_3_code 0 = .ok (.iload_n 1, 1) := by decide +kernel
theorem d1_1 : decode method_3_code 1 = .ok (.ifCond .ne 7, 3) := by decide +kernel
theorem d1_4 : decode method_3_code 4 = .ok (.iconst 0, 1) := by decide +kernel
theorem d1_5 : decode method_3_code 5 = .ok (.goto 9, 3) := by decide +kernel
theorem d1_8 : decode method_3_code 8 = .ok (.iload_n 0, 1) := by decide +kernel
theorem d1_9 : decode method_3_code 9 = .ok (.ldc 7, 2) := by decide +kernel
theorem d1_11 : decode method_3_code 11 = .ok (.iand, 1) := by decide +kernel
theorem d1_12 : decode method_3_code 12 = .ok (.iload_n 1, 1) := by decide +kernel
theorem d1_13 : decode method_3_code 13 = .ok (.irem, 1) := by decide +kernel
theorem d1_14 : decode method_3_code 14 = .ok (.ireturn, 1) := by decide +kernel
theorem pn_0 : plainName "com/example/roadstitch/roadstitch/core/ShortestPathsArcsByPinLaw" = true := by first | (simp [plainName, overriddenIn]; done) | decide +kernel
theorem ef_rm1 (m : MethodId) (x0 : Int32) (x1 : Int32) : entryFrame m #[(.int x0), (.int x1)] 2 = mkF m 0 #[.val (.int x0), .val (.int x1)] [] := by first | (simp [entryFrame, mkF, argsToLocals, Value.category]; done) | rfl
set_option maxRecDepth 65536 in
set_option maxHeartbeats 40000000 in
theorem rm1 (l : Launch) (Z : State) (a0 : Array Value) (hw : ∀ d ∈ tables_1, d.before a0 Z = true) (ws : List Jvm.Cond) (p1 p2 r : Int32) (h0 : Heap) (n0 : Nat) (Z0 : n0 ≤ h0.size) (hr : (if p2 = 0 then 0 else (p1 &&& 2147483647) % p2) = r) :
    MetFree l (⟨"com/example/roadstitch/roadstitch/core/ShortestPathsArcsByPinLaw", "end", "(II)I"⟩ : MethodName) (head1 (Jvm.Cond.code (⟨"com/example/roadstitch/roadstitch/core/ShortestPathsArcsByPinLaw", "end", "(II)I"⟩ : MethodName) method_3_code 2 (some .int) :: ws) ({ frames := 0, cells := 0, slots := 0, locals := 0 } : Room)) (fun a U => a = #[(.int p1), (.int p2)] ∧ Z.Warmed39 U.vm ∧ U.heap = h0) (fun _ _ _ _ _ => True) (fun _ U o U' => ∃ v L, o = .returned v ∧ (Q1 r h0 n0) v U'.heap L ∧ FrameEnd U o U' L ({ frames := 0, cells := 0, slots := 0, locals := 0 } : Room).cells ({ frames := 0, cells := 0, slots := 0, locals := 0 } : Room).slots) := by
  refine MetFree.of_bodySF (plainFor_of_name pn_0) hisR ?_
  intro p e s m args below meth c s₁ Bd hml0 hP hK
  obtain ⟨rfl, hZ, hh⟩ := hP
  have hx := Bd.exec
  have hby := Bd.bytes
  have hlk : meth.locks = false := BodyLoose.notSynchronized Bd
  have hml : c.maxLocals = 2 := hml0
  have hown : s.vm.findClass "com/example/roadstitch/roadstitch/core/ShortestPathsArcsByPinLaw" = some m.cls := findClass_of_methodNamed Bd.named
  have hnm := (name_of_methodNamed Bd.named Bd.method).1
  have X0 : Stand p l e ({ frames := 0, cells := 0, slots := 0, locals := 0 } : Room) s m #[(.int p1), (.int p2)] below meth c s₁ [] 0 0 := Stand.of_body Bd
  have e0 : s₁.heap = h0 := by rw [← hh, Bd.state]; rfl
  have N0 := Fr.nil n0
  show Goes p e below s (Q1 r h0 n0) ({ frames := 0, cells := 0, slots := 0, locals := 0 } : Room).cells ({ frames := 0, cells := 0, slots := 0, locals := 0 } : Room).slots (s₁.setTop (entryFrame m #[(.int p1), (.int p2)] 2))
  refine Goes.by (fun t k => castTop (ef_rm1 m p1 p2) k) ?_
  show Goes p e below s _ _ _ (s₁.setTop (mkF m 0 #[.val (.int p1), .val (.int p2)] []))
  refine Goes.by (fun t k => XS.iloadN X0.here hx rfl (hb hby d1_0) rfl k) ?_
  show Goes p e below s _ _ _ (s₁.setTop (mkF m 1 #[.val (.int p1), .val (.int p2)] [(.int p2)]))
  by_cases hc : p2 = (0 : Int32)
  · skip
    refine Goes.by (fun t k => XS.ifNo X0.here hx rfl (hb hby d1_1) rfl ((if0 _ _).trans (teq (hc)).2) k) ?_
    show Goes p e below s _ _ _ (s₁.setTop (mkF m 4 #[.val (.int p1), .val (.int p2)] []))
    rw [if_pos hc] at hr
    refine Goes.by (fun t k => XS.iconst X0.here hx rfl (hb hby d1_4) k) ?_
    show Goes p e below s _ _ _ (s₁.setTop (mkF m 5 #[.val (.int p1), .val (.int p2)] [(.int (0 : Int32))]))
    refine Goes.by (fun t k => XS.goto X0.here hx rfl (pc0 := 5) (pc' := 14) rfl (hb hby d1_5) (by decide) (by decide) k) ?_
    show Goes p e below s _ _ _ (s₁.setTop (mkF m 14 #[.val (.int p1), .val (.int p2)] [(.int (0 : Int32))]))
    subst hr
    exact Goes.retI X0 hx Bd.returns trivial (hb hby d1_14) hlk (by rw [e0]; exact ⟨rfl, N0, rfl⟩) (by decide) (by decide)
  · skip
    refine Goes.by (fun t k => XS.ifYes X0.here hx rfl (pc0 := 1) (pc' := 8) rfl (hb hby d1_1) rfl ((if0 _ _).trans (feq (hc)).2) (by decide) (by decide) k) ?_
    show Goes p e below s _ _ _ (s₁.setTop (mkF m 8 #[.val (.int p1), .val (.int p2)] []))
    rw [if_neg hc] at hr
    refine Goes.by (fun t k => XS.iloadN X0.here hx rfl (hb hby d1_8) rfl k) ?_
    show Goes p e below s _ _ _ (s₁.setTop (mkF m 9 #[.val (.int p1), .val (.int p2)] [(.int p1)]))
    refine Goes.by (fun t k => X0.ldcInt hx hown (mvT hZ (hw _ (List.mem_of_getElem? (i := 0) rfl))) (g := (mkF m 9 #[.val (.int p1), .val (.int p2)] [(.int p1)])) rfl (hb hby d1_9) _ k) ?_
    show Goes p e below s _ _ _ (s₁.setTop (mkF m 11 #[.val (.int p1), .val (.int p2)] [(.int (2147483647 : Int32)), (.int p1)]))
    refine Goes.by (fun t k => XS.iand X0.here hx rfl (hb hby d1_11) rfl k) ?_
    show Goes p e below s _ _ _ (s₁.setTop (mkF m 12 #[.val (.int p1), .val (.int p2)] [(.int (p1 &&& (2147483647 : Int32)))]))
    refine Goes.by (fun t k => XS.iloadN X0.here hx rfl (hb hby d1_12) rfl k) ?_
    show Goes p e below s _ _ _ (s₁.setTop (mkF m 13 #[.val (.int p1), .val (.int p2)] [(.int p2), (.int (p1 &&& (2147483647 : Int32)))]))
    refine Goes.by (fun t k => Jvm.RoadKit.iremM X0 hx rfl (hb hby d1_13) rfl (hc) k) ?_
    show Goes p e below s _ _ _ (s₁.setTop (mkF m 14 #[.val (.int p1), .val (.int p2)] [(.int ((p1 &&& (2147483647 : Int32)) % p2))]))
    subst hr
    exact Goes.retI X0 hx Bd.returns trivial (hb hby d1_14) hlk (by rw [e0]; exact ⟨rfl, N0, rfl⟩) (by decide) (by decide)
def Q2 (Z : State) (N M : Nat) (es : Nat → Nat) (h0 : Heap) (n0 : Nat) (v : Option Value) (h : Heap) (L : List Loc) : Prop := ∃ (r : Addr) (k : ClassId) (ad : Nat → Addr), v = some (.ref r) ∧ Fr n0 L ∧ Keep h0 h [] ∧ RA Z h r k N (fun i => .ref (ad i)) ∧ ∀ i, i < N → IA Z h (ad i) (cnt es M i) (rows es M i)
theorem own_os6 {a b c d e f : Value} {s6 : Slot} {v : Int32} (h : One s6) : storeLocals #[.val a, .val b, .val c, .val d, .val e, .val f, s6] 6 (.int v) = some #[.val a, .val b, .val c, .val d, .val e, .val f, .val (.int v)] := by
  rcases h with rfl | ⟨w, rfl, hw⟩
  · rfl
  · cases w <;> first | rfl | (simp [Value.category] at hw)
theorem d2_0 : decode prog_81_method_9_code 0 = .ok (.iload_n 0, 1) := by decide +kernel
theorem d2_1 : decode prog_81_method_9_code 1 = .ok (.newarray .int, 2) := by decide +kernel
theorem d2_3 : decode prog_81_method_9_code 3 = .ok (.astore_n 2, 1) := by decide +kernel
theorem d2_4 : decode prog_81_method_9_code 4 = .ok (.aload_n 1, 1) := by decide +kernel
theorem d2_5 : decode prog_81_method_9_code 5 = .ok (.astore_n 3, 1) := by decide +kernel
theorem d2_6 : decode prog_81_method_9_code 6 = .ok (.aload_n 3, 1) := by decide +kernel
theorem d2_7 : decode prog_81_method_9_code 7 = .ok (.arraylength, 1) := by decide +kernel
theorem d2_8 : decode prog_81_method_9_code 8 = .ok (.istore 4, 2) := by decide +kernel
theorem d2_10 : decode prog_81_method_9_code 10 = .ok (.iconst 0, 1) := by decide +kernel
theorem d2_11 : decode prog_81_method_9_code 11 = .ok (.istore 5, 2) := by decide +kernel
theorem d2_13 : decode prog_81_method_9_code 13 = .ok (.iload 5, 2) := by decide +kernel
theorem d2_15 : decode prog_81_method_9_code 15 = .ok (.iload 4, 2) := by decide +kernel
theorem d2_17 : decode prog_81_method_9_code 17 = .ok (.if_icmp .ge 23, 3) := by decide +kernel
theorem d2_20 : decode prog_81_method_9_code 20 = .ok (.aload_n 3, 1) := by decide +kernel
theorem d2_21 : decode prog_81_method_9_code 21 = .ok (.iload 5, 2) := by decide +kernel
theorem d2_23 : decode prog_81_method_9_code 23 = .ok (.iaload, 1) := by decide +kernel
theorem d2_24 : decode prog_81_method_9_code 24 = .ok (.istore 6, 2) := by decide +kernel
theorem d2_26 : decode prog_81_method_9_code 26 = .ok (.aload_n 2, 1) := by decide +kernel
theorem d2_27 : decode prog_81_method_9_code 27 = .ok (.iload 6, 2) := by decide +kernel
theorem d2_29 : decode prog_81_method_9_code 29 = .ok (.dup2, 1) := by decide +kernel
theorem d2_30 : decode prog_81_method_9_code 30 = .ok (.iaload, 1) := by decide +kernel
theorem d2_31 : decode prog_81_method_9_code 31 = .ok (.iconst 1, 1) := by decide +kernel
theorem d2_32 : decode prog_81_method_9_code 32 = .ok (.iadd, 1) := by decide +kernel
theorem d2_33 : decode prog_81_method_9_code 33 = .ok (.iastore, 1) := by decide +kernel
theorem d2_34 : decode prog_81_method_9_code 34 = .ok (.iinc 5 1, 3) := by decide +kernel
theorem d2_37 : decode prog_81_method_9_code 37 = .ok (.goto (-24), 3) := by decide +kernel
theorem d2_40 : decode prog_81_method_9_code 40 = .ok (.iload_n 0, 1) := by decide +kernel
theorem d2_41 : decode prog_81_method_9_code 41 = .ok (.anewarray 224, 3) := by decide +kernel
theorem d2_44 : decode prog_81_method_9_code 44 = .ok (.astore_n 3, 1) := by decide +kernel
theorem d2_45 : decode prog_81_method_9_code 45 = .ok (.iconst 0, 1) := by decide +kernel
theorem d2_46 : decode prog_81_method_9_code 46 = .ok (.istore 4, 2) := by decide +kernel
theorem d2_48 : decode prog_81_method_9_code 48 = .ok (.iload 4, 2) := by decide +kernel
theorem d2_50 : decode prog_81_method_9_code 50 = .ok (.iload_n 0, 1) := by decide +kernel
theorem d2_51 : decode prog_81_method_9_code 51 = .ok (.if_icmp .ge 19, 3) := by decide +kernel
theorem d2_54 : decode prog_81_method_9_code 54 = .ok (.aload_n 3, 1) := by decide +kernel
theorem d2_55 : decode prog_81_method_9_code 55 = .ok (.iload 4, 2) := by decide +kernel
theorem d2_57 : decode prog_81_method_9_code 57 = .ok (.aload_n 2, 1) := by decide +kernel
theorem d2_58 : decode prog_81_method_9_code 58 = .ok (.iload 4, 2) := by decide +kernel
theorem d2_60 : decode prog_81_method_9_code 60 = .ok (.iaload, 1) := by decide +kernel
theorem d2_61 : decode prog_81_method_9_code 61 = .ok (.newarray .int, 2) := by decide +kernel
theorem d2_63 : decode prog_81_method_9_code 63 = .ok (.aastore, 1) := by decide +kernel
theorem d2_64 : decode prog_81_method_9_code 64 = .ok (.iinc 4 1, 3) := by decide +kernel
theorem d2_67 : decode prog_81_method_9_code 67 = .ok (.goto (-19), 3) := by decide +kernel
theorem d2_70 : decode prog_81_method_9_code 70 = .ok (.iload_n 0, 1) := by decide +kernel
theorem d2_71 : decode prog_81_method_9_code 71 = .ok (.newarray .int, 2) := by decide +kernel
theorem d2_73 : decode prog_81_method_9_code 73 = .ok (.astore 4, 2) := by decide +kernel
theorem d2_75 : decode prog_81_method_9_code 75 = .ok (.iconst 0, 1) := by decide +kernel
theorem d2_76 : decode prog_81_method_9_code 76 = .ok (.istore 5, 2) := by decide +kernel
theorem d2_78 : decode prog_81_method_9_code 78 = .ok (.iload 5, 2) := by decide +kernel
theorem d2_80 : decode prog_81_method_9_code 80 = .ok (.aload_n 1, 1) := by decide +kernel
theorem d2_81 : decode prog_81_method_9_code 81 = .ok (.arraylength, 1) := by decide +kernel
theorem d2_82 : decode prog_81_method_9_code 82 = .ok (.if_icmp .ge 30, 3) := by decide +kernel
theorem d2_85 : decode prog_81_method_9_code 85 = .ok (.aload_n 3, 1) := by decide +kernel
theorem d2_86 : decode prog_81_method_9_code 86 = .ok (.aload_n 1, 1) := by decide +kernel
theorem d2_87 : decode prog_81_method_9_code 87 = .ok (.iload 5, 2) := by decide +kernel
theorem d2_89 : decode prog_81_method_9_code 89 = .ok (.iaload, 1) := by decide +kernel
theorem d2_90 : decode prog_81_method_9_code 90 = .ok (.aaload, 1) := by decide +kernel
theorem d2_91 : decode prog_81_method_9_code 91 = .ok (.aload 4, 2) := by decide +kernel
theorem d2_93 : decode prog_81_method_9_code 93 = .ok (.aload_n 1, 1) := by decide +kernel
theorem d2_94 : decode prog_81_method_9_code 94 = .ok (.iload 5, 2) := by decide +kernel
theorem d2_96 : decode prog_81_method_9_code 96 = .ok (.iaload, 1) := by decide +kernel
theorem d2_97 : decode prog_81_method_9_code 97 = .ok (.dup2, 1) := by decide +kernel
theorem d2_98 : decode prog_81_method_9_code 98 = .ok (.iaload, 1) := by decide +kernel
theorem d2_99 : decode prog_81_method_9_code 99 = .ok (.dup_x2, 1) := by decide +kernel
theorem d2_100 : decode prog_81_method_9_code 100 = .ok (.iconst 1, 1) := by decide +kernel
theorem d2_101 : decode prog_81_method_9_code 101 = .ok (.iadd, 1) := by decide +kernel
theorem d2_102 : decode prog_81_method_9_code 102 = .ok (.iastore, 1) := by decide +kernel
theorem d2_103 : decode prog_81_method_9_code 103 = .ok (.iload 5, 2) := by decide +kernel
theorem d2_105 : decode prog_81_method_9_code 105 = .ok (.iastore, 1) := by decide +kernel
theorem d2_106 : decode prog_81_method_9_code 106 = .ok (.iinc 5 1, 3) := by decide +kernel
theorem d2_109 : decode prog_81_method_9_code 109 = .ok (.goto (-31), 3) := by decide +kernel
theorem d2_112 : decode prog_81_method_9_code 112 = .ok (.aload_n 3, 1) := by decide +kernel
theorem d2_113 : decode prog_81_method_9_code 113 = .ok (.areturn, 1) := by decide +kernel
theorem pn_1 : plainName "com/example/roadstitch/roadstitch/core/ShortestPaths" = true := by first | (simp [plainName, overriddenIn]; done) | decide +kernel
theorem ef_rm2 (m : MethodId) (x0 : Int32) (x1 : Addr) : entryFrame m #[(.int x0), (.ref x1)] 7 = mkF m 0 #[.val (.int x0), .val (.ref x1), .unset, .unset, .unset, .unset, .unset] [] := by first | (simp [entryFrame, mkF, argsToLocals, Value.category]; done) | rfl
set_option maxRecDepth 65536 in
set_option maxHeartbeats 40000000 in
theorem rm2 (l : Launch) (Z : State) (a0 : Array Value) (hw : ∀ d ∈ tables_1, d.before a0 Z = true) (ws : List Jvm.Cond) (a1 : Addr) (N M : Nat) (es : Nat → Nat) (h0 : Heap) (n0 : Nat) (Z0 : n0 ≤ h0.size) (hN : N ≤ 4) (hM : M ≤ 4) (hes : ∀ i, i < M → es i < N) (A1 : IA Z h0 a1 M (fun i => Int32.ofNat (es i))) :
    MetFree l (⟨"com/example/roadstitch/roadstitch/core/ShortestPaths", "arcsBy", "(I[I)[[I"⟩ : MethodName) (head1 (Jvm.Cond.code (⟨"com/example/roadstitch/roadstitch/core/ShortestPaths", "arcsBy", "(I[I)[[I"⟩ : MethodName) prog_81_method_9_code 7 (some (.array (.array .int))) :: ws) ({ frames := 0, cells := 7, slots := 28, locals := 0 } : Room)) (fun a U => a = #[(.int (Int32.ofNat N)), (.ref a1)] ∧ Z.Warmed39 U.vm ∧ U.heap = h0) (fun _ _ _ _ _ => True) (fun _ U o U' => ∃ v L, o = .returned v ∧ (Q2 Z N M es h0 n0) v U'.heap L ∧ FrameEnd U o U' L ({ frames := 0, cells := 7, slots := 28, locals := 0 } : Room).cells ({ frames := 0, cells := 7, slots := 28, locals := 0 } : Room).slots) := by
  refine MetFree.of_bodySF (plainFor_of_name pn_1) hisR ?_
  intro p e s m args below meth c s₁ Bd hml0 hP hK
  obtain ⟨rfl, hZ, hh⟩ := hP
  have hx := Bd.exec
  have hby := Bd.bytes
  have hlk : meth.locks = false := BodyLoose.notSynchronized Bd
  have hml : c.maxLocals = 7 := hml0
  have hown : s.vm.findClass "com/example/roadstitch/roadstitch/core/ShortestPaths" = some m.cls := findClass_of_methodNamed Bd.named
  have hnm := (name_of_methodNamed Bd.named Bd.method).1
  have X0 : Stand p l e ({ frames := 0, cells := 7, slots := 28, locals := 0 } : Room) s m #[(.int (Int32.ofNat N)), (.ref a1)] below meth c s₁ [] 0 0 := Stand.of_body Bd
  have e0 : s₁.heap = h0 := by rw [← hh, Bd.state]; rfl
  have N0 := Fr.nil n0
  show Goes p e below s (Q2 Z N M es h0 n0) ({ frames := 0, cells := 7, slots := 28, locals := 0 } : Room).cells ({ frames := 0, cells := 7, slots := 28, locals := 0 } : Room).slots (s₁.setTop (entryFrame m #[(.int (Int32.ofNat N)), (.ref a1)] 7))
  refine Goes.by (fun t k => castTop (ef_rm2 m (Int32.ofNat N) a1) k) ?_
  show Goes p e below s _ _ _ (s₁.setTop (mkF m 0 #[.val (.int (Int32.ofNat N)), .val (.ref a1), .unset, .unset, .unset, .unset, .unset] []))
  refine Goes.by (fun t k => XS.iloadN X0.here hx rfl (hb hby d2_0) rfl k) ?_
  show Goes p e below s _ _ _ (s₁.setTop (mkF m 1 #[.val (.int (Int32.ofNat N)), .val (.ref a1), .unset, .unset, .unset, .unset, .unset] [(.int (Int32.ofNat N))]))
  obtain ⟨T1, h1, X1, e1, E1, I1, Ex1, st1⟩ := own_newI X0 hx hZ (hw _ (List.mem_of_getElem? (i := 5) rfl)) e0 (g := (mkF m 1 #[.val (.int (Int32.ofNat N)), .val (.ref a1), .unset, .unset, .unset, .unset, .unset] [(.int (Int32.ofNat N))])) rfl (hb hby d2_1) rfl 4 (n := N) (by omega) (by omega) (by decide) (by decide)
  obtain ⟨cb, g_cb⟩ : ∃ z, z = h0.size := ⟨_, rfl⟩
  rw [← g_cb] at I1 Ex1 st1
  refine Goes.by (fun t k => st1 t k) ?_
  show Goes p e below s _ _ _ (T1.setTop (mkF m 3 #[.val (.int (Int32.ofNat N)), .val (.ref a1), .unset, .unset, .unset, .unset, .unset] [(.ref cb)]))
  have A1c := A1.ext E1
  have K1 := (Keep.refl h0 []).ext E1
  have ne1 : a1 ≠ cb := Nat.ne_of_lt (Nat.lt_of_lt_of_le A1.lt (Nat.le_of_eq g_cb.symm))
  have gcb : n0 ≤ cb := Nat.le_trans Z0 (Nat.le_of_eq g_cb.symm)
  have scb : h0.size ≤ cb := Nat.le_of_eq g_cb.symm
  refine Goes.by (fun t k => XS.astoreN X1.here hx rfl (hb hby d2_3) rfl rfl (l' := #[.val (.int (Int32.ofNat N)), .val (.ref a1), .val (.ref cb), .unset, .unset, .unset, .unset]) rfl k) ?_
  show Goes p e below s _ _ _ (T1.setTop (mkF m 4 #[.val (.int (Int32.ofNat N)), .val (.ref a1), .val (.ref cb), .unset, .unset, .unset, .unset] []))
  refine Goes.by (fun t k => XS.aloadN X1.here hx rfl (hb hby d2_4) rfl rfl k) ?_
  show Goes p e below s _ _ _ (T1.setTop (mkF m 5 #[.val (.int (Int32.ofNat N)), .val (.ref a1), .val (.ref cb), .unset, .unset, .unset, .unset] [(.ref a1)]))
  refine Goes.by (fun t k => XS.astoreN X1.here hx rfl (hb hby d2_5) rfl rfl (l' := #[.val (.int (Int32.ofNat N)), .val (.ref a1), .val (.ref cb), .val (.ref a1), .unset, .unset, .unset]) rfl k) ?_
  show Goes p e below s _ _ _ (T1.setTop (mkF m 6 #[.val (.int (Int32.ofNat N)), .val (.ref a1), .val (.ref cb), .val (.ref a1), .unset, .unset, .unset] []))
  refine Goes.by (fun t k => XS.aloadN X1.here hx rfl (hb hby d2_6) rfl rfl k) ?_
  show Goes p e below s _ _ _ (T1.setTop (mkF m 7 #[.val (.int (Int32.ofNat N)), .val (.ref a1), .val (.ref cb), .val (.ref a1), .unset, .unset, .unset] [(.ref a1)]))
  refine Goes.by (fun t k => own_len X1 hx hZ e1 (A1c) (g := (mkF m 7 #[.val (.int (Int32.ofNat N)), .val (.ref a1), .val (.ref cb), .val (.ref a1), .unset, .unset, .unset] [(.ref a1)])) rfl rfl (hb hby d2_7) k) ?_
  show Goes p e below s _ _ _ (T1.setTop (mkF m 8 #[.val (.int (Int32.ofNat N)), .val (.ref a1), .val (.ref cb), .val (.ref a1), .unset, .unset, .unset] [(.int (Int32.ofNat M))]))
  refine Goes.by (fun t k => XS.istore X1.here hx rfl (hb hby d2_8) rfl (l' := #[.val (.int (Int32.ofNat N)), .val (.ref a1), .val (.ref cb), .val (.ref a1), .val (.int (Int32.ofNat M)), .unset, .unset]) rfl k) ?_
  show Goes p e below s _ _ _ (T1.setTop (mkF m 10 #[.val (.int (Int32.ofNat N)), .val (.ref a1), .val (.ref cb), .val (.ref a1), .val (.int (Int32.ofNat M)), .unset, .unset] []))
  refine Goes.by (fun t k => XS.iconst X1.here hx rfl (hb hby d2_10) k) ?_
  show Goes p e below s _ _ _ (T1.setTop (mkF m 11 #[.val (.int (Int32.ofNat N)), .val (.ref a1), .val (.ref cb), .val (.ref a1), .val (.int (Int32.ofNat M)), .unset, .unset] [(.int (0 : Int32))]))
  refine Goes.by (fun t k => XS.istore X1.here hx rfl (hb hby d2_11) rfl (l' := #[.val (.int (Int32.ofNat N)), .val (.ref a1), .val (.ref cb), .val (.ref a1), .val (.int (Int32.ofNat M)), .val (.int (0 : Int32)), .unset]) rfl k) ?_
  show Goes p e below s _ _ _ (T1.setTop (mkF m 13 #[.val (.int (Int32.ofNat N)), .val (.ref a1), .val (.ref cb), .val (.ref a1), .val (.int (Int32.ofNat M)), .val (.int (0 : Int32)), .unset] []))
  show Goes p e below s _ _ _ (T1.setTop (mkF m 13 #[.val (.int (Int32.ofNat N)), .val (.ref a1), .val (.ref cb), .val (.ref a1), .val (.int (Int32.ofNat M)), .val (.int (Int32.ofNat 0)), .unset] []))
  have L1 : ∀ (k i : Nat) (s6 : Slot) (T : State) (locs : List Loc) (h : Heap), i + k = M → One s6 → Stand p l e ({ frames := 0, cells := 7, slots := 28, locals := 0 } : Room) s m #[(.int (Int32.ofNat N)), (.ref a1)] below meth c T locs (0 + 1) (0 + 4) → T.heap = h → Fr n0 locs → Keep h0 h [] → IA Z h a1 M (fun i => Int32.ofNat (es i)) → IA Z h cb N (fun v => Int32.ofNat (cnt es i v)) → Goes p e below s (Q2 Z N M es h0 n0) ({ frames := 0, cells := 7, slots := 28, locals := 0 } : Room).cells ({ frames := 0, cells := 7, slots := 28, locals := 0 } : Room).slots (T.setTop (mkF m 13 #[.val (.int (Int32.ofNat N)), .val (.ref a1), .val (.ref cb), .val (.ref a1), .val (.int (Int32.ofNat M)), .val (.int (Int32.ofNat i)), s6] [])) := by
    intro k
    induction k with
    | succ k ih =>
      intro i s6 T locs h hik h6 X eT NN K A1 B1
      show Goes p e below s _ _ _ (T.setTop (mkF m 13 #[.val (.int (Int32.ofNat N)), .val (.ref a1), .val (.ref cb), .val (.ref a1), .val (.int (Int32.ofNat M)), .val (.int (Int32.ofNat i)), s6] []))
      refine Goes.by (fun t k => XS.iload X.here hx rfl (hb hby d2_13) rfl k) ?_
      show Goes p e below s _ _ _ (T.setTop (mkF m 15 #[.val (.int (Int32.ofNat N)), .val (.ref a1), .val (.ref cb), .val (.ref a1), .val (.int (Int32.ofNat M)), .val (.int (Int32.ofNat i)), s6] [(.int (Int32.ofNat i))]))
      refine Goes.by (fun t k => XS.iload X.here hx rfl (hb hby d2_15) rfl k) ?_
      show Goes p e below s _ _ _ (T.setTop (mkF m 17 #[.val (.int (Int32.ofNat N)), .val (.ref a1), .val (.ref cb), .val (.ref a1), .val (.int (Int32.ofNat M)), .val (.int (Int32.ofNat i)), s6] [(.int (Int32.ofNat M)), (.int (Int32.ofNat i))]))
      refine Goes.by (fun t k => XS.icmpNo X.here hx rfl (hb hby d2_17) rfl (tlt (own_ltN (by omega) (by omega))).2.1 k) ?_
      show Goes p e below s _ _ _ (T.setTop (mkF m 20 #[.val (.int (Int32.ofNat N)), .val (.ref a1), .val (.ref cb), .val (.ref a1), .val (.int (Int32.ofNat M)), .val (.int (Int32.ofNat i)), s6] []))
      refine Goes.by (fun t k => XS.aloadN X.here hx rfl (hb hby d2_20) rfl rfl k) ?_
      show Goes p e below s _ _ _ (T.setTop (mkF m 21 #[.val (.int (Int32.ofNat N)), .val (.ref a1), .val (.ref cb), .val (.ref a1), .val (.int (Int32.ofNat M)), .val (.int (Int32.ofNat i)), s6] [(.ref a1)]))
      refine Goes.by (fun t k => XS.iload X.here hx rfl (hb hby d2_21) rfl k) ?_
      show Goes p e below s _ _ _ (T.setTop (mkF m 23 #[.val (.int (Int32.ofNat N)), .val (.ref a1), .val (.ref cb), .val (.ref a1), .val (.int (Int32.ofNat M)), .val (.int (Int32.ofNat i)), s6] [(.int (Int32.ofNat i)), (.ref a1)]))
      refine Goes.by (fun t k => own_iaload X hx hZ eT (A1) (i := i) (by omega) (by omega) (g := (mkF m 23 #[.val (.int (Int32.ofNat N)), .val (.ref a1), .val (.ref cb), .val (.ref a1), .val (.int (Int32.ofNat M)), .val (.int (Int32.ofNat i)), s6] [(.int (Int32.ofNat i)), (.ref a1)])) rfl rfl (hb hby d2_23) k) ?_
      show Goes p e below s _ _ _ (T.setTop (mkF m 24 #[.val (.int (Int32.ofNat N)), .val (.ref a1), .val (.ref cb), .val (.ref a1), .val (.int (Int32.ofNat M)), .val (.int (Int32.ofNat i)), s6] [(.int (Int32.ofNat (es i)))]))
      have hei := hes i (by omega)
      refine Goes.by (fun t k => XS.istore X.here hx rfl (hb hby d2_24) rfl (l' := #[.val (.int (Int32.ofNat N)), .val (.ref a1), .val (.ref cb), .val (.ref a1), .val (.int (Int32.ofNat M)), .val (.int (Int32.ofNat i)), .val (.int (Int32.ofNat (es i)))]) (own_os6 h6) k) ?_
      show Goes p e below s _ _ _ (T.setTop (mkF m 26 #[.val (.int (Int32.ofNat N)), .val (.ref a1), .val (.ref cb), .val (.ref a1), .val (.int (Int32.ofNat M)), .val (.int (Int32.ofNat i)), .val (.int (Int32.ofNat (es i)))] []))
      refine Goes.by (fun t k => XS.aloadN X.here hx rfl (hb hby d2_26) rfl rfl k) ?_
      show Goes p e below s _ _ _ (T.setTop (mkF m 27 #[.val (.int (Int32.ofNat N)), .val (.ref a1), .val (.ref cb), .val (.ref a1), .val (.int (Int32.ofNat M)), .val (.int (Int32.ofNat i)), .val (.int (Int32.ofNat (es i)))] [(.ref cb)]))
      refine Goes.by (fun t k => XS.iload X.here hx rfl (hb hby d2_27) rfl k) ?_
      show Goes p e below s _ _ _ (T.setTop (mkF m 29 #[.val (.int (Int32.ofNat N)), .val (.ref a1), .val (.ref cb), .val (.ref a1), .val (.int (Int32.ofNat M)), .val (.int (Int32.ofNat i)), .val (.int (Int32.ofNat (es i)))] [(.int (Int32.ofNat (es i))), (.ref cb)]))
      refine Goes.by (fun t k => XT.dup2 X.here hx rfl (hb hby d2_29) rfl rfl rfl k) ?_
      show Goes p e below s _ _ _ (T.setTop (mkF m 30 #[.val (.int (Int32.ofNat N)), .val (.ref a1), .val (.ref cb), .val (.ref a1), .val (.int (Int32.ofNat M)), .val (.int (Int32.ofNat i)), .val (.int (Int32.ofNat (es i)))] [(.int (Int32.ofNat (es i))), (.ref cb), (.int (Int32.ofNat (es i))), (.ref cb)]))
      refine Goes.by (fun t k => own_iaload X hx hZ eT (B1) (i := es i) (hei) (by omega) (g := (mkF m 30 #[.val (.int (Int32.ofNat N)), .val (.ref a1), .val (.ref cb), .val (.ref a1), .val (.int (Int32.ofNat M)), .val (.int (Int32.ofNat i)), .val (.int (Int32.ofNat (es i)))] [(.int (Int32.ofNat (es i))), (.ref cb), (.int (Int32.ofNat (es i))), (.ref cb)])) rfl rfl (hb hby d2_30) k) ?_
      show Goes p e below s _ _ _ (T.setTop (mkF m 31 #[.val (.int (Int32.ofNat N)), .val (.ref a1), .val (.ref cb), .val (.ref a1), .val (.int (Int32.ofNat M)), .val (.int (Int32.ofNat i)), .val (.int (Int32.ofNat (es i)))] [(.int (Int32.ofNat (cnt es i (es i)))), (.int (Int32.ofNat (es i))), (.ref cb)]))
      refine Goes.by (fun t k => XS.iconst X.here hx rfl (hb hby d2_31) k) ?_
      show Goes p e below s _ _ _ (T.setTop (mkF m 32 #[.val (.int (Int32.ofNat N)), .val (.ref a1), .val (.ref cb), .val (.ref a1), .val (.int (Int32.ofNat M)), .val (.int (Int32.ofNat i)), .val (.int (Int32.ofNat (es i)))] [(.int (1 : Int32)), (.int (Int32.ofNat (cnt es i (es i)))), (.int (Int32.ofNat (es i))), (.ref cb)]))
      refine Goes.by (fun t k => XS.iadd X.here hx rfl (hb hby d2_32) rfl k) ?_
      show Goes p e below s _ _ _ (T.setTop (mkF m 33 #[.val (.int (Int32.ofNat N)), .val (.ref a1), .val (.ref cb), .val (.ref a1), .val (.int (Int32.ofNat M)), .val (.int (Int32.ofNat i)), .val (.int (Int32.ofNat (es i)))] [(.int ((Int32.ofNat (cnt es i (es i))) + (1 : Int32))), (.int (Int32.ofNat (es i))), (.ref cb)]))
      obtain ⟨T2, h2, X2, e2, W2, I2, st2⟩ := own_iastore X hx hZ eT (B1) (i := es i) (hei) (by omega) (g := (mkF m 33 #[.val (.int (Int32.ofNat N)), .val (.ref a1), .val (.ref cb), .val (.ref a1), .val (.int (Int32.ofNat M)), .val (.int (Int32.ofNat i)), .val (.int (Int32.ofNat (es i)))] [(.int ((Int32.ofNat (cnt es i (es i))) + (1 : Int32))), (.int (Int32.ofNat (es i))), (.ref cb)])) rfl rfl (hb hby d2_33)
      refine Goes.by (fun t k => st2 t k) ?_
      show Goes p e below s _ _ _ (T2.setTop (mkF m 34 #[.val (.int (Int32.ofNat N)), .val (.ref a1), .val (.ref cb), .val (.ref a1), .val (.int (Int32.ofNat M)), .val (.int (Int32.ofNat i)), .val (.int (Int32.ofNat (es i)))] []))
      have N2 := Fr.snoc X2 NN (gcb)
      refine Goes.by (fun t k => XS.iinc X2.here hx rfl (hb hby d2_34) rfl (l' := #[.val (.int (Int32.ofNat N)), .val (.ref a1), .val (.ref cb), .val (.ref a1), .val (.int (Int32.ofNat M)), .val (.int ((Int32.ofNat i) + (1 : Int32))), .val (.int (Int32.ofNat (es i)))]) rfl k) ?_
      show Goes p e below s _ _ _ (T2.setTop (mkF m 37 #[.val (.int (Int32.ofNat N)), .val (.ref a1), .val (.ref cb), .val (.ref a1), .val (.int (Int32.ofNat M)), .val (.int ((Int32.ofNat i) + (1 : Int32))), .val (.int (Int32.ofNat (es i)))] []))
      refine Goes.by (fun t k => XS.goto X2.here hx rfl (pc0 := 37) (pc' := 13) rfl (hb hby d2_37) (by decide) (by decide) k) ?_
      show Goes p e below s _ _ _ (T2.setTop (mkF m 13 #[.val (.int (Int32.ofNat N)), .val (.ref a1), .val (.ref cb), .val (.ref a1), .val (.int (Int32.ofNat M)), .val (.int ((Int32.ofNat i) + (1 : Int32))), .val (.int (Int32.ofNat (es i)))] []))
      rw [← inc_ofNat]
      exact ih (i + 1) _ _ _ _ (by omega) (One.val rfl) X2 e2 N2 (K.wr W2 (Or.inr scb)) (A1.other W2 ne1) (I2.congr rfl fun v _ => cnt_step es i v)
    | zero =>
      intro i s6 T locs h hik h6 X eT NN K A1 B1
      obtain rfl : i = M := by omega
      show Goes p e below s _ _ _ (T.setTop (mkF m 13 #[.val (.int (Int32.ofNat N)), .val (.ref a1), .val (.ref cb), .val (.ref a1), .val (.int (Int32.ofNat i)), .val (.int (Int32.ofNat i)), s6] []))
      refine Goes.by (fun t k => XS.iload X.here hx rfl (hb hby d2_13) rfl k) ?_
      show Goes p e below s _ _ _ (T.setTop (mkF m 15 #[.val (.int (Int32.ofNat N)), .val (.ref a1), .val (.ref cb), .val (.ref a1), .val (.int (Int32.ofNat i)), .val (.int (Int32.ofNat i)), s6] [(.int (Int32.ofNat i))]))
      refine Goes.by (fun t k => XS.iload X.here hx rfl (hb hby d2_15) rfl k) ?_
      show Goes p e below s _ _ _ (T.setTop (mkF m 17 #[.val (.int (Int32.ofNat N)), .val (.ref a1), .val (.ref cb), .val (.ref a1), .val (.int (Int32.ofNat i)), .val (.int (Int32.ofNat i)), s6] [(.int (Int32.ofNat i)), (.int (Int32.ofNat i))]))
      refine Goes.by (fun t k => XS.icmpYes X.here hx rfl (pc0 := 17) (pc' := 40) rfl (hb hby d2_17) rfl (flt (own_nltN (by omega) (by omega))).2.1 (by decide) (by decide) k) ?_
      show Goes p e below s _ _ _ (T.setTop (mkF m 40 #[.val (.int (Int32.ofNat N)), .val (.ref a1), .val (.ref cb), .val (.ref a1), .val (.int (Int32.ofNat i)), .val (.int (Int32.ofNat i)), s6] []))
      refine Goes.by (fun t k => XS.iloadN X.here hx rfl (hb hby d2_40) rfl k) ?_
      show Goes p e below s _ _ _ (T.setTop (mkF m 41 #[.val (.int (Int32.ofNat N)), .val (.ref a1), .val (.ref cb), .val (.ref a1), .val (.int (Int32.ofNat i)), .val (.int (Int32.ofNat i)), s6] [(.int (Int32.ofNat N))]))
      obtain ⟨T3, h3, kA, X3, e3, E3, R3, OA, st3⟩ := own_newR X hx hZ hown (hw _ (List.mem_of_getElem? (i := 10) rfl)) (hw _ (List.mem_of_getElem? (i := 11) rfl)) eT (g := (mkF m 41 #[.val (.int (Int32.ofNat N)), .val (.ref a1), .val (.ref cb), .val (.ref a1), .val (.int (Int32.ofNat i)), .val (.int (Int32.ofNat i)), s6] [(.int (Int32.ofNat N))])) rfl (hb hby d2_41) rfl 4 (n := N) (by omega) (by omega) (by decide) (by decide)
      obtain ⟨ab, g_ab⟩ : ∃ z, z = h.size := ⟨_, rfl⟩
      rw [← g_ab] at R3 st3
      refine Goes.by (fun t k => st3 t k) ?_
      show Goes p e below s _ _ _ (T3.setTop (mkF m 44 #[.val (.int (Int32.ofNat N)), .val (.ref a1), .val (.ref cb), .val (.ref a1), .val (.int (Int32.ofNat i)), .val (.int (Int32.ofNat i)), s6] [(.ref ab)]))
      have sab : h0.size ≤ ab := Nat.le_trans K.1 (Nat.le_of_eq g_ab.symm)
      have gab : n0 ≤ ab := Nat.le_trans Z0 sab
      have A2 := A1.ext E3
      have B2 := B1.ext E3
      have K2 := K.ext E3
      obtain ⟨B0, hB0⟩ : ∃ z, z = h3.size := ⟨_, rfl⟩
      have ltA : a1 < B0 := hB0 ▸ A2.lt
      have ltB : cb < B0 := hB0 ▸ B2.lt
      have ltR : ab < B0 := hB0 ▸ R3.lt
      refine Goes.by (fun t k => XS.astoreN X3.here hx rfl (hb hby d2_44) rfl rfl (l' := #[.val (.int (Int32.ofNat N)), .val (.ref a1), .val (.ref cb), .val (.ref ab), .val (.int (Int32.ofNat i)), .val (.int (Int32.ofNat i)), s6]) rfl k) ?_
      show Goes p e below s _ _ _ (T3.setTop (mkF m 45 #[.val (.int (Int32.ofNat N)), .val (.ref a1), .val (.ref cb), .val (.ref ab), .val (.int (Int32.ofNat i)), .val (.int (Int32.ofNat i)), s6] []))
      refine Goes.by (fun t k => XS.iconst X3.here hx rfl (hb hby d2_45) k) ?_
      show Goes p e below s _ _ _ (T3.setTop (mkF m 46 #[.val (.int (Int32.ofNat N)), .val (.ref a1), .val (.ref cb), .val (.ref ab), .val (.int (Int32.ofNat i)), .val (.int (Int32.ofNat i)), s6] [(.int (0 : Int32))]))
      refine Goes.by (fun t k => XS.istore X3.here hx rfl (hb hby d2_46) rfl (l' := #[.val (.int (Int32.ofNat N)), .val (.ref a1), .val (.ref cb), .val (.ref ab), .val (.int (0 : Int32)), .val (.int (Int32.ofNat i)), s6]) rfl k) ?_
      show Goes p e below s _ _ _ (T3.setTop (mkF m 48 #[.val (.int (Int32.ofNat N)), .val (.ref a1), .val (.ref cb), .val (.ref ab), .val (.int (0 : Int32)), .val (.int (Int32.ofNat i)), s6] []))
      show Goes p e below s _ _ _ (T3.setTop (mkF m 48 #[.val (.int (Int32.ofNat N)), .val (.ref a1), .val (.ref cb), .val (.ref ab), .val (.int (Int32.ofNat 0)), .val (.int (Int32.ofNat i)), s6] []))
      have ltAB : a1 < ab := Nat.lt_of_lt_of_le A1.lt (Nat.le_of_eq g_ab.symm)
      have ne2 : cb ≠ ab := Nat.ne_of_lt (Nat.lt_of_lt_of_le B1.lt (Nat.le_of_eq g_ab.symm))
      have hB0' : h0.size ≤ B0 := hB0 ▸ K2.1
      have L2 : ∀ (k v : Nat) (T : State) (locs : List Loc) (h : Heap) (ad : Nat → Addr), v + k = N → Stand p l e ({ frames := 0, cells := 7, slots := 28, locals := 0 } : Room) s m #[(.int (Int32.ofNat N)), (.ref a1)] below meth c T locs (2 + v) (8 + 4 * v) → T.heap = h → Fr n0 locs → Keep h0 h [] → IA Z h a1 i (fun i => Int32.ofNat (es i)) → IA Z h cb N (fun v => Int32.ofNat (cnt es i v)) → RA Z h ab kA N (fun j => if j < v then .ref (ad j) else .null) → (∀ j, j < v → IA Z h (ad j) (cnt es i j) (fun _ => 0)) → (∀ j, j < v → B0 ≤ ad j) → (∀ u w, u < v → w < v → ad u = ad w → u = w) → B0 ≤ h.size → Goes p e below s (Q2 Z N i es h0 n0) ({ frames := 0, cells := 7, slots := 28, locals := 0 } : Room).cells ({ frames := 0, cells := 7, slots := 28, locals := 0 } : Room).slots (T.setTop (mkF m 48 #[.val (.int (Int32.ofNat N)), .val (.ref a1), .val (.ref cb), .val (.ref ab), .val (.int (Int32.ofNat v)), .val (.int (Int32.ofNat i)), s6] [])) := by
        intro k
        induction k with
        | succ k ih =>
          intro v T locs h ad hvk X eT NN K A1 B1 RR IR lo inj hsz
          show Goes p e below s _ _ _ (T.setTop (mkF m 48 #[.val (.int (Int32.ofNat N)), .val (.ref a1), .val (.ref cb), .val (.ref ab), .val (.int (Int32.ofNat v)), .val (.int (Int32.ofNat i)), s6] []))
          refine Goes.by (fun t k => XS.iload X.here hx rfl (hb hby d2_48) rfl k) ?_
          show Goes p e below s _ _ _ (T.setTop (mkF m 50 #[.val (.int (Int32.ofNat N)), .val (.ref a1), .val (.ref cb), .val (.ref ab), .val (.int (Int32.ofNat v)), .val (.int (Int32.ofNat i)), s6] [(.int (Int32.ofNat v))]))
          refine Goes.by (fun t k => XS.iloadN X.here hx rfl (hb hby d2_50) rfl k) ?_
          show Goes p e below s _ _ _ (T.setTop (mkF m 51 #[.val (.int (Int32.ofNat N)), .val (.ref a1), .val (.ref cb), .val (.ref ab), .val (.int (Int32.ofNat v)), .val (.int (Int32.ofNat i)), s6] [(.int (Int32.ofNat N)), (.int (Int32.ofNat v))]))
          refine Goes.by (fun t k => XS.icmpNo X.here hx rfl (hb hby d2_51) rfl (tlt (own_ltN (by omega) (by omega))).2.1 k) ?_
          show Goes p e below s _ _ _ (T.setTop (mkF m 54 #[.val (.int (Int32.ofNat N)), .val (.ref a1), .val (.ref cb), .val (.ref ab), .val (.int (Int32.ofNat v)), .val (.int (Int32.ofNat i)), s6] []))
          refine Goes.by (fun t k => XS.aloadN X.here hx rfl (hb hby d2_54) rfl rfl k) ?_
          show Goes p e below s _ _ _ (T.setTop (mkF m 55 #[.val (.int (Int32.ofNat N)), .val (.ref a1), .val (.ref cb), .val (.ref ab), .val (.int (Int32.ofNat v)), .val (.int (Int32.ofNat i)), s6] [(.ref ab)]))
          refine Goes.by (fun t k => XS.iload X.here hx rfl (hb hby d2_55) rfl k) ?_
          show Goes p e below s _ _ _ (T.setTop (mkF m 57 #[.val (.int (Int32.ofNat N)), .val (.ref a1), .val (.ref cb), .val (.ref ab), .val (.int (Int32.ofNat v)), .val (.int (Int32.ofNat i)), s6] [(.int (Int32.ofNat v)), (.ref ab)]))
          refine Goes.by (fun t k => XS.aloadN X.here hx rfl (hb hby d2_57) rfl rfl k) ?_
          show Goes p e below s _ _ _ (T.setTop (mkF m 58 #[.val (.int (Int32.ofNat N)), .val (.ref a1), .val (.ref cb), .val (.ref ab), .val (.int (Int32.ofNat v)), .val (.int (Int32.ofNat i)), s6] [(.ref cb), (.int (Int32.ofNat v)), (.ref ab)]))
          refine Goes.by (fun t k => XS.iload X.here hx rfl (hb hby d2_58) rfl k) ?_
          show Goes p e below s _ _ _ (T.setTop (mkF m 60 #[.val (.int (Int32.ofNat N)), .val (.ref a1), .val (.ref cb), .val (.ref ab), .val (.int (Int32.ofNat v)), .val (.int (Int32.ofNat i)), s6] [(.int (Int32.ofNat v)), (.ref cb), (.int (Int32.ofNat v)), (.ref ab)]))
          have hcv : cnt es i v ≤ 4 := Nat.le_trans (cnt_le es v i) (by omega)
          refine Goes.by (fun t k => own_iaload X hx hZ eT (B1) (i := v) (by omega) (by omega) (g := (mkF m 60 #[.val (.int (Int32.ofNat N)), .val (.ref a1), .val (.ref cb), .val (.ref ab), .val (.int (Int32.ofNat v)), .val (.int (Int32.ofNat i)), s6] [(.int (Int32.ofNat v)), (.ref cb), (.int (Int32.ofNat v)), (.ref ab)])) rfl rfl (hb hby d2_60) k) ?_
          show Goes p e below s _ _ _ (T.setTop (mkF m 61 #[.val (.int (Int32.ofNat N)), .val (.ref a1), .val (.ref cb), .val (.ref ab), .val (.int (Int32.ofNat v)), .val (.int (Int32.ofNat i)), s6] [(.int (Int32.ofNat (cnt es i v))), (.int (Int32.ofNat v)), (.ref ab)]))
          obtain ⟨T4, h4, X4, e4, E4, I4, Ex4, st4⟩ := own_newI X hx hZ (hw _ (List.mem_of_getElem? (i := 5) rfl)) eT (g := (mkF m 61 #[.val (.int (Int32.ofNat N)), .val (.ref a1), .val (.ref cb), .val (.ref ab), .val (.int (Int32.ofNat v)), .val (.int (Int32.ofNat i)), s6] [(.int (Int32.ofNat (cnt es i v))), (.int (Int32.ofNat v)), (.ref ab)])) rfl (hb hby d2_61) rfl 4 (n := (cnt es i v)) (hcv) (by omega) (by show 2 + v + 1 ≤ 7; omega) (by show 8 + 4 * v + 4 ≤ 28; omega)
          obtain ⟨rb, g_rb⟩ : ∃ z, z = h.size := ⟨_, rfl⟩
          rw [← g_rb] at I4 Ex4 st4
          refine Goes.by (fun t k => st4 t k) ?_
          show Goes p e below s _ _ _ (T4.setTop (mkF m 63 #[.val (.int (Int32.ofNat N)), .val (.ref a1), .val (.ref cb), .val (.ref ab), .val (.int (Int32.ofNat v)), .val (.int (Int32.ofNat i)), s6] [(.ref rb), (.int (Int32.ofNat v)), (.ref ab)]))
          obtain ⟨T5, h5, X5, e5, W5, R5, st5⟩ := own_aastore X4 hx hZ e4 (RR.ext E4) OA (Ins.self Ex4) (i := v) (by omega) (by omega) (g := (mkF m 63 #[.val (.int (Int32.ofNat N)), .val (.ref a1), .val (.ref cb), .val (.ref ab), .val (.int (Int32.ofNat v)), .val (.int (Int32.ofNat i)), s6] [(.ref rb), (.int (Int32.ofNat v)), (.ref ab)])) rfl rfl (hb hby d2_63)
          refine Goes.by (fun t k => st5 t k) ?_
          show Goes p e below s _ _ _ (T5.setTop (mkF m 64 #[.val (.int (Int32.ofNat N)), .val (.ref a1), .val (.ref cb), .val (.ref ab), .val (.int (Int32.ofNat v)), .val (.int (Int32.ofNat i)), s6] []))
          have N5 := Fr.snoc X5 NN (gab)
          refine Goes.by (fun t k => XS.iinc X5.here hx rfl (hb hby d2_64) rfl (l' := #[.val (.int (Int32.ofNat N)), .val (.ref a1), .val (.ref cb), .val (.ref ab), .val (.int ((Int32.ofNat v) + (1 : Int32))), .val (.int (Int32.ofNat i)), s6]) rfl k) ?_
          show Goes p e below s _ _ _ (T5.setTop (mkF m 67 #[.val (.int (Int32.ofNat N)), .val (.ref a1), .val (.ref cb), .val (.ref ab), .val (.int ((Int32.ofNat v) + (1 : Int32))), .val (.int (Int32.ofNat i)), s6] []))
          refine Goes.by (fun t k => XS.goto X5.here hx rfl (pc0 := 67) (pc' := 48) rfl (hb hby d2_67) (by decide) (by decide) k) ?_
          show Goes p e below s _ _ _ (T5.setTop (mkF m 48 #[.val (.int (Int32.ofNat N)), .val (.ref a1), .val (.ref cb), .val (.ref ab), .val (.int ((Int32.ofNat v) + (1 : Int32))), .val (.int (Int32.ofNat i)), s6] []))
          rw [← inc_ofNat]
          have hX : Stand p l e ({ frames := 0, cells := 7, slots := 28, locals := 0 } : Room) s m #[(.int (Int32.ofNat N)), (.ref a1)] below meth c T5 _ (2 + (v + 1)) (8 + 4 * (v + 1)) := X5
          have nab : rb ≠ ab := (I4).neRA (RR.ext E4)
          refine ih (v + 1) _ _ _ (fun j => if j = v then rb else ad j) (by omega) hX e5 N5 ((K.ext E4).wr W5 (Or.inr sab)) ((A1.ext E4).other W5 (Nat.ne_of_lt ?_)) ((B1.ext E4).other W5 ?_) (R5.congr fun j _ => ?_) (fun j hj => ?_) (fun j hj => ?_) (fun u w hu hw he => ?_) (Nat.le_trans hsz ?_)
          · exact ltAB
          · exact ne2
          · by_cases q : j = v
            · simp [q]
            · have q2 : (j < v + 1) = (j < v) := by simp; omega
              simp [q, q2]
          · by_cases q : j = v
            · subst q; rw [if_pos rfl]; exact I4.other W5 nab
            · rw [if_neg q]; exact ((IR j (by omega)).ext E4).other W5 (((IR j (by omega)).ext E4).neRA (RR.ext E4))
          · by_cases q : j = v
            · simp only [q, if_true]; rw [g_rb]; exact hsz
            · simp only [q, if_false]; exact lo j (by omega)
          · have fr : ∀ j, j < v → ad j ≠ rb := fun j hj => Nat.ne_of_lt (g_rb ▸ (IR j hj).lt)
            by_cases q : u = v
            · by_cases q' : w = v
              · omega
              · simp only [q, if_true, q', if_false] at he; exact absurd he.symm (fr w (by omega))
            · by_cases q' : w = v
              · simp only [q, if_false, q', if_true] at he; exact absurd he (fr u (by omega))
              · simp only [q, q', if_false] at he; exact inj u w (by omega) (by omega) he
          · exact Nat.le_trans E4.1 (Keep.of_wr W5).1
        | zero =>
          intro v T locs h ad hvk X eT NN K A1 B1 RR IR lo inj hsz
          obtain rfl : v = N := by omega
          show Goes p e below s _ _ _ (T.setTop (mkF m 48 #[.val (.int (Int32.ofNat v)), .val (.ref a1), .val (.ref cb), .val (.ref ab), .val (.int (Int32.ofNat v)), .val (.int (Int32.ofNat i)), s6] []))
          refine Goes.by (fun t k => XS.iload X.here hx rfl (hb hby d2_48) rfl k) ?_
          show Goes p e below s _ _ _ (T.setTop (mkF m 50 #[.val (.int (Int32.ofNat v)), .val (.ref a1), .val (.ref cb), .val (.ref ab), .val (.int (Int32.ofNat v)), .val (.int (Int32.ofNat i)), s6] [(.int (Int32.ofNat v))]))
          refine Goes.by (fun t k => XS.iloadN X.here hx rfl (hb hby d2_50) rfl k) ?_
          show Goes p e below s _ _ _ (T.setTop (mkF m 51 #[.val (.int (Int32.ofNat v)), .val (.ref a1), .val (.ref cb), .val (.ref ab), .val (.int (Int32.ofNat v)), .val (.int (Int32.ofNat i)), s6] [(.int (Int32.ofNat v)), (.int (Int32.ofNat v))]))
          refine Goes.by (fun t k => XS.icmpYes X.here hx rfl (pc0 := 51) (pc' := 70) rfl (hb hby d2_51) rfl (flt (own_nltN (by omega) (by omega))).2.1 (by decide) (by decide) k) ?_
          show Goes p e below s _ _ _ (T.setTop (mkF m 70 #[.val (.int (Int32.ofNat v)), .val (.ref a1), .val (.ref cb), .val (.ref ab), .val (.int (Int32.ofNat v)), .val (.int (Int32.ofNat i)), s6] []))
          refine Goes.by (fun t k => XS.iloadN X.here hx rfl (hb hby d2_70) rfl k) ?_
          show Goes p e below s _ _ _ (T.setTop (mkF m 71 #[.val (.int (Int32.ofNat v)), .val (.ref a1), .val (.ref cb), .val (.ref ab), .val (.int (Int32.ofNat v)), .val (.int (Int32.ofNat i)), s6] [(.int (Int32.ofNat v))]))
          obtain ⟨T6, h6, X6, e6, E6, I6, Ex6, st6⟩ := own_newI X hx hZ (hw _ (List.mem_of_getElem? (i := 5) rfl)) eT (g := (mkF m 71 #[.val (.int (Int32.ofNat v)), .val (.ref a1), .val (.ref cb), .val (.ref ab), .val (.int (Int32.ofNat v)), .val (.int (Int32.ofNat i)), s6] [(.int (Int32.ofNat v))])) rfl (hb hby d2_71) rfl 4 (n := v) (by omega) (by omega) (by show 2 + v + 1 ≤ 7; omega) (by show 8 + 4 * v + 4 ≤ 28; omega)
          obtain ⟨fb, g_fb⟩ : ∃ z, z = h.size := ⟨_, rfl⟩
          rw [← g_fb] at I6 Ex6 st6
          refine Goes.by (fun t k => st6 t k) ?_
          show Goes p e below s _ _ _ (T6.setTop (mkF m 73 #[.val (.int (Int32.ofNat v)), .val (.ref a1), .val (.ref cb), .val (.ref ab), .val (.int (Int32.ofNat v)), .val (.int (Int32.ofNat i)), s6] [(.ref fb)]))
          refine Goes.by (fun t k => XS.astore X6.here hx rfl (hb hby d2_73) rfl rfl (l' := #[.val (.int (Int32.ofNat v)), .val (.ref a1), .val (.ref cb), .val (.ref ab), .val (.ref fb), .val (.int (Int32.ofNat i)), s6]) rfl k) ?_
          show Goes p e below s _ _ _ (T6.setTop (mkF m 75 #[.val (.int (Int32.ofNat v)), .val (.ref a1), .val (.ref cb), .val (.ref ab), .val (.ref fb), .val (.int (Int32.ofNat i)), s6] []))
          refine Goes.by (fun t k => XS.iconst X6.here hx rfl (hb hby d2_75) k) ?_
          show Goes p e below s _ _ _ (T6.setTop (mkF m 76 #[.val (.int (Int32.ofNat v)), .val (.ref a1), .val (.ref cb), .val (.ref ab), .val (.ref fb), .val (.int (Int32.ofNat i)), s6] [(.int (0 : Int32))]))
          refine Goes.by (fun t k => XS.istore X6.here hx rfl (hb hby d2_76) rfl (l' := #[.val (.int (Int32.ofNat v)), .val (.ref a1), .val (.ref cb), .val (.ref ab), .val (.ref fb), .val (.int (0 : Int32)), s6]) rfl k) ?_
          show Goes p e below s _ _ _ (T6.setTop (mkF m 78 #[.val (.int (Int32.ofNat v)), .val (.ref a1), .val (.ref cb), .val (.ref ab), .val (.ref fb), .val (.int (0 : Int32)), s6] []))
          show Goes p e below s _ _ _ (T6.setTop (mkF m 78 #[.val (.int (Int32.ofNat v)), .val (.ref a1), .val (.ref cb), .val (.ref ab), .val (.ref fb), .val (.int (Int32.ofNat 0)), s6] []))
          have sfb : h0.size ≤ fb := Nat.le_trans K.1 (Nat.le_of_eq g_fb.symm)
          have gfb : n0 ≤ fb := Nat.le_trans Z0 sfb
          have RR' : RA Z h ab kA v (fun j => .ref (ad j)) := RR.congr fun j hj => by rw [if_pos hj]
          have nfa : a1 ≠ fb := Nat.ne_of_lt (g_fb ▸ A1.lt)
          have nfr : ∀ j, j < v → ad j ≠ fb := fun j hj => Nat.ne_of_lt (g_fb ▸ (IR j hj).lt)
          have naj : ∀ j, j < v → a1 ≠ ad j := fun j hj => Nat.ne_of_lt (Nat.lt_of_lt_of_le ltA (lo j hj))
          have saj : ∀ j, j < v → h0.size ≤ ad j := fun j hj => Nat.le_trans hB0' (lo j hj)
          have L3 : ∀ (k d : Nat) (T : State) (locs : List Loc) (h : Heap), d + k = i → Stand p l e ({ frames := 0, cells := 7, slots := 28, locals := 0 } : Room) s m #[(.int (Int32.ofNat v)), (.ref a1)] below meth c T locs (2 + v + 1) (8 + 4 * v + 4) → T.heap = h → Fr n0 locs → Keep h0 h [] → IA Z h a1 i (fun i => Int32.ofNat (es i)) → IA Z h fb v (fun u => Int32.ofNat (cnt es d u)) → RA Z h ab kA v (fun j => .ref (ad j)) → (∀ j, j < v → IA Z h (ad j) (cnt es i j) (rows es d j)) → Goes p e below s (Q2 Z v i es h0 n0) ({ frames := 0, cells := 7, slots := 28, locals := 0 } : Room).cells ({ frames := 0, cells := 7, slots := 28, locals := 0 } : Room).slots (T.setTop (mkF m 78 #[.val (.int (Int32.ofNat v)), .val (.ref a1), .val (.ref cb), .val (.ref ab), .val (.ref fb), .val (.int (Int32.ofNat d)), s6] [])) := by
            intro k
            induction k with
            | succ k ih =>
              intro d T locs h hdk X eT NN K A1 F1 RR IR
              show Goes p e below s _ _ _ (T.setTop (mkF m 78 #[.val (.int (Int32.ofNat v)), .val (.ref a1), .val (.ref cb), .val (.ref ab), .val (.ref fb), .val (.int (Int32.ofNat d)), s6] []))
              refine Goes.by (fun t k => XS.iload X.here hx rfl (hb hby d2_78) rfl k) ?_
              show Goes p e below s _ _ _ (T.setTop (mkF m 80 #[.val (.int (Int32.ofNat v)), .val (.ref a1), .val (.ref cb), .val (.ref ab), .val (.ref fb), .val (.int (Int32.ofNat d)), s6] [(.int (Int32.ofNat d))]))
              refine Goes.by (fun t k => XS.aloadN X.here hx rfl (hb hby d2_80) rfl rfl k) ?_
              show Goes p e below s _ _ _ (T.setTop (mkF m 81 #[.val (.int (Int32.ofNat v)), .val (.ref a1), .val (.ref cb), .val (.ref ab), .val (.ref fb), .val (.int (Int32.ofNat d)), s6] [(.ref a1), (.int (Int32.ofNat d))]))
              refine Goes.by (fun t k => own_len X hx hZ eT (A1) (g := (mkF m 81 #[.val (.int (Int32.ofNat v)), .val (.ref a1), .val (.ref cb), .val (.ref ab), .val (.ref fb), .val (.int (Int32.ofNat d)), s6] [(.ref a1), (.int (Int32.ofNat d))])) rfl rfl (hb hby d2_81) k) ?_
              show Goes p e below s _ _ _ (T.setTop (mkF m 82 #[.val (.int (Int32.ofNat v)), .val (.ref a1), .val (.ref cb), .val (.ref ab), .val (.ref fb), .val (.int (Int32.ofNat d)), s6] [(.int (Int32.ofNat i)), (.int (Int32.ofNat d))]))
              refine Goes.by (fun t k => XS.icmpNo X.here hx rfl (hb hby d2_82) rfl (tlt (own_ltN (by omega) (by omega))).2.1 k) ?_
              show Goes p e below s _ _ _ (T.setTop (mkF m 85 #[.val (.int (Int32.ofNat v)), .val (.ref a1), .val (.ref cb), .val (.ref ab), .val (.ref fb), .val (.int (Int32.ofNat d)), s6] []))
              have hed := hes d (by omega)
              refine Goes.by (fun t k => XS.aloadN X.here hx rfl (hb hby d2_85) rfl rfl k) ?_
              show Goes p e below s _ _ _ (T.setTop (mkF m 86 #[.val (.int (Int32.ofNat v)), .val (.ref a1), .val (.ref cb), .val (.ref ab), .val (.ref fb), .val (.int (Int32.ofNat d)), s6] [(.ref ab)]))
              refine Goes.by (fun t k => XS.aloadN X.here hx rfl (hb hby d2_86) rfl rfl k) ?_
              show Goes p e below s _ _ _ (T.setTop (mkF m 87 #[.val (.int (Int32.ofNat v)), .val (.ref a1), .val (.ref cb), .val (.ref ab), .val (.ref fb), .val (.int (Int32.ofNat d)), s6] [(.ref a1), (.ref ab)]))
              refine Goes.by (fun t k => XS.iload X.here hx rfl (hb hby d2_87) rfl k) ?_
              show Goes p e below s _ _ _ (T.setTop (mkF m 89 #[.val (.int (Int32.ofNat v)), .val (.ref a1), .val (.ref cb), .val (.ref ab), .val (.ref fb), .val (.int (Int32.ofNat d)), s6] [(.int (Int32.ofNat d)), (.ref a1), (.ref ab)]))
              refine Goes.by (fun t k => own_iaload X hx hZ eT (A1) (i := d) (by omega) (by omega) (g := (mkF m 89 #[.val (.int (Int32.ofNat v)), .val (.ref a1), .val (.ref cb), .val (.ref ab), .val (.ref fb), .val (.int (Int32.ofNat d)), s6] [(.int (Int32.ofNat d)), (.ref a1), (.ref ab)])) rfl rfl (hb hby d2_89) k) ?_
              show Goes p e below s _ _ _ (T.setTop (mkF m 90 #[.val (.int (Int32.ofNat v)), .val (.ref a1), .val (.ref cb), .val (.ref ab), .val (.ref fb), .val (.int (Int32.ofNat d)), s6] [(.int (Int32.ofNat (es d))), (.ref ab)]))
              refine Goes.by (fun t k => own_aaload X hx hZ eT RR (i := es d) hed (by omega) (g := (mkF m 90 #[.val (.int (Int32.ofNat v)), .val (.ref a1), .val (.ref cb), .val (.ref ab), .val (.ref fb), .val (.int (Int32.ofNat d)), s6] [(.int (Int32.ofNat (es d))), (.ref ab)])) rfl rfl (hb hby d2_90) rfl k) ?_
              show Goes p e below s _ _ _ (T.setTop (mkF m 91 #[.val (.int (Int32.ofNat v)), .val (.ref a1), .val (.ref cb), .val (.ref ab), .val (.ref fb), .val (.int (Int32.ofNat d)), s6] [(.ref (ad (es d)))]))
              refine Goes.by (fun t k => XS.aload X.here hx rfl (hb hby d2_91) rfl rfl k) ?_
              show Goes p e below s _ _ _ (T.setTop (mkF m 93 #[.val (.int (Int32.ofNat v)), .val (.ref a1), .val (.ref cb), .val (.ref ab), .val (.ref fb), .val (.int (Int32.ofNat d)), s6] [(.ref fb), (.ref (ad (es d)))]))
              refine Goes.by (fun t k => XS.aloadN X.here hx rfl (hb hby d2_93) rfl rfl k) ?_
              show Goes p e below s _ _ _ (T.setTop (mkF m 94 #[.val (.int (Int32.ofNat v)), .val (.ref a1), .val (.ref cb), .val (.ref ab), .val (.ref fb), .val (.int (Int32.ofNat d)), s6] [(.ref a1), (.ref fb), (.ref (ad (es d)))]))
              refine Goes.by (fun t k => XS.iload X.here hx rfl (hb hby d2_94) rfl k) ?_
              show Goes p e below s _ _ _ (T.setTop (mkF m 96 #[.val (.int (Int32.ofNat v)), .val (.ref a1), .val (.ref cb), .val (.ref ab), .val (.ref fb), .val (.int (Int32.ofNat d)), s6] [(.int (Int32.ofNat d)), (.ref a1), (.ref fb), (.ref (ad (es d)))]))
              refine Goes.by (fun t k => own_iaload X hx hZ eT (A1) (i := d) (by omega) (by omega) (g := (mkF m 96 #[.val (.int (Int32.ofNat v)), .val (.ref a1), .val (.ref cb), .val (.ref ab), .val (.ref fb), .val (.int (Int32.ofNat d)), s6] [(.int (Int32.ofNat d)), (.ref a1), (.ref fb), (.ref (ad (es d)))])) rfl rfl (hb hby d2_96) k) ?_
              show Goes p e below s _ _ _ (T.setTop (mkF m 97 #[.val (.int (Int32.ofNat v)), .val (.ref a1), .val (.ref cb), .val (.ref ab), .val (.ref fb), .val (.int (Int32.ofNat d)), s6] [(.int (Int32.ofNat (es d))), (.ref fb), (.ref (ad (es d)))]))
              refine Goes.by (fun t k => XT.dup2 X.here hx rfl (hb hby d2_97) rfl rfl rfl k) ?_
              show Goes p e below s _ _ _ (T.setTop (mkF m 98 #[.val (.int (Int32.ofNat v)), .val (.ref a1), .val (.ref cb), .val (.ref ab), .val (.ref fb), .val (.int (Int32.ofNat d)), s6] [(.int (Int32.ofNat (es d))), (.ref fb), (.int (Int32.ofNat (es d))), (.ref fb), (.ref (ad (es d)))]))
              refine Goes.by (fun t k => own_iaload X hx hZ eT (F1) (i := es d) (hed) (by omega) (g := (mkF m 98 #[.val (.int (Int32.ofNat v)), .val (.ref a1), .val (.ref cb), .val (.ref ab), .val (.ref fb), .val (.int (Int32.ofNat d)), s6] [(.int (Int32.ofNat (es d))), (.ref fb), (.int (Int32.ofNat (es d))), (.ref fb), (.ref (ad (es d)))])) rfl rfl (hb hby d2_98) k) ?_
              show Goes p e below s _ _ _ (T.setTop (mkF m 99 #[.val (.int (Int32.ofNat v)), .val (.ref a1), .val (.ref cb), .val (.ref ab), .val (.ref fb), .val (.int (Int32.ofNat d)), s6] [(.int (Int32.ofNat (cnt es d (es d)))), (.int (Int32.ofNat (es d))), (.ref fb), (.ref (ad (es d)))]))
              refine Goes.by (fun t k => own_dupx2 X hx (hb hby d2_99) k) ?_
              show Goes p e below s _ _ _ (T.setTop (mkF m 100 #[.val (.int (Int32.ofNat v)), .val (.ref a1), .val (.ref cb), .val (.ref ab), .val (.ref fb), .val (.int (Int32.ofNat d)), s6] [(.int (Int32.ofNat (cnt es d (es d)))), (.int (Int32.ofNat (es d))), (.ref fb), (.int (Int32.ofNat (cnt es d (es d)))), (.ref (ad (es d)))]))
              refine Goes.by (fun t k => XS.iconst X.here hx rfl (hb hby d2_100) k) ?_
              show Goes p e below s _ _ _ (T.setTop (mkF m 101 #[.val (.int (Int32.ofNat v)), .val (.ref a1), .val (.ref cb), .val (.ref ab), .val (.ref fb), .val (.int (Int32.ofNat d)), s6] [(.int (1 : Int32)), (.int (Int32.ofNat (cnt es d (es d)))), (.int (Int32.ofNat (es d))), (.ref fb), (.int (Int32.ofNat (cnt es d (es d)))), (.ref (ad (es d)))]))
              refine Goes.by (fun t k => XS.iadd X.here hx rfl (hb hby d2_101) rfl k) ?_
              show Goes p e below s _ _ _ (T.setTop (mkF m 102 #[.val (.int (Int32.ofNat v)), .val (.ref a1), .val (.ref cb), .val (.ref ab), .val (.ref fb), .val (.int (Int32.ofNat d)), s6] [(.int ((Int32.ofNat (cnt es d (es d))) + (1 : Int32))), (.int (Int32.ofNat (es d))), (.ref fb), (.int (Int32.ofNat (cnt es d (es d)))), (.ref (ad (es d)))]))
              obtain ⟨T7, h7, X7, e7, W7, I7, st7⟩ := own_iastore X hx hZ eT (F1) (i := es d) (hed) (by omega) (g := (mkF m 102 #[.val (.int (Int32.ofNat v)), .val (.ref a1), .val (.ref cb), .val (.ref ab), .val (.ref fb), .val (.int (Int32.ofNat d)), s6] [(.int ((Int32.ofNat (cnt es d (es d))) + (1 : Int32))), (.int (Int32.ofNat (es d))), (.ref fb), (.int (Int32.ofNat (cnt es d (es d)))), (.ref (ad (es d)))])) rfl rfl (hb hby d2_102)
              refine Goes.by (fun t k => st7 t k) ?_
              show Goes p e below s _ _ _ (T7.setTop (mkF m 103 #[.val (.int (Int32.ofNat v)), .val (.ref a1), .val (.ref cb), .val (.ref ab), .val (.ref fb), .val (.int (Int32.ofNat d)), s6] [(.int (Int32.ofNat (cnt es d (es d)))), (.ref (ad (es d)))]))
              have N7 := Fr.snoc X7 NN (gfb)
              refine Goes.by (fun t k => XS.iload X7.here hx rfl (hb hby d2_103) rfl k) ?_
              show Goes p e below s _ _ _ (T7.setTop (mkF m 105 #[.val (.int (Int32.ofNat v)), .val (.ref a1), .val (.ref cb), .val (.ref ab), .val (.ref fb), .val (.int (Int32.ofNat d)), s6] [(.int (Int32.ofNat d)), (.int (Int32.ofNat (cnt es d (es d)))), (.ref (ad (es d)))]))
              have hlt := cnt_lt es (v := es d) (i := d) (m := i) (by omega) rfl
              have hc4 := cnt_le es (es d) i
              have nra : ad (es d) ≠ ab := (IR _ hed).neRA RR
              have nfab : fb ≠ ab := F1.neRA RR
              obtain ⟨T8, h8, X8, e8, W8, I8, st8⟩ := own_iastore X7 hx hZ e7 ((IR _ hed).other W7 (nfr _ hed)) (i := cnt es d (es d)) (hlt) (by omega) (g := (mkF m 105 #[.val (.int (Int32.ofNat v)), .val (.ref a1), .val (.ref cb), .val (.ref ab), .val (.ref fb), .val (.int (Int32.ofNat d)), s6] [(.int (Int32.ofNat d)), (.int (Int32.ofNat (cnt es d (es d)))), (.ref (ad (es d)))])) rfl rfl (hb hby d2_105)
              refine Goes.by (fun t k => st8 t k) ?_
              show Goes p e below s _ _ _ (T8.setTop (mkF m 106 #[.val (.int (Int32.ofNat v)), .val (.ref a1), .val (.ref cb), .val (.ref ab), .val (.ref fb), .val (.int (Int32.ofNat d)), s6] []))
              have N8 := Fr.snoc X8 N7 (Nat.le_trans Z0 (saj _ hed))
              refine Goes.by (fun t k => XS.iinc X8.here hx rfl (hb hby d2_106) rfl (l' := #[.val (.int (Int32.ofNat v)), .val (.ref a1), .val (.ref cb), .val (.ref ab), .val (.ref fb), .val (.int ((Int32.ofNat d) + (1 : Int32))), s6]) rfl k) ?_
              show Goes p e below s _ _ _ (T8.setTop (mkF m 109 #[.val (.int (Int32.ofNat v)), .val (.ref a1), .val (.ref cb), .val (.ref ab), .val (.ref fb), .val (.int ((Int32.ofNat d) + (1 : Int32))), s6] []))
              refine Goes.by (fun t k => XS.goto X8.here hx rfl (pc0 := 109) (pc' := 78) rfl (hb hby d2_109) (by decide) (by decide) k) ?_
              show Goes p e below s _ _ _ (T8.setTop (mkF m 78 #[.val (.int (Int32.ofNat v)), .val (.ref a1), .val (.ref cb), .val (.ref ab), .val (.ref fb), .val (.int ((Int32.ofNat d) + (1 : Int32))), s6] []))
              rw [← inc_ofNat]
              refine ih (d + 1) _ _ _ (by omega) X8 e8 N8 ((K.wr W7 (Or.inr sfb)).wr W8 (Or.inr (saj _ hed))) ((A1.other W7 nfa).other W8 (naj _ hed)) ((I7.other W8 (Ne.symm (nfr _ hed))).congr rfl fun u _ => cnt_step es d u) ((RR.other W7 (Ne.symm nfab)).other W8 (Ne.symm nra)) (fun j hj => ?_)
              by_cases q : es d = j
              · subst q; exact I8.congr rfl fun k _ => rows_hit es d k
              · exact (((IR j hj).other W7 (nfr j hj)).other W8 (fun z => q (inj j (es d) hj hed z).symm)).congr rfl fun k _ => rows_miss es q k
            | zero =>
              intro d T locs h hdk X eT NN K A1 F1 RR IR
              obtain rfl : d = i := by omega
              show Goes p e below s _ _ _ (T.setTop (mkF m 78 #[.val (.int (Int32.ofNat v)), .val (.ref a1), .val (.ref cb), .val (.ref ab), .val (.ref fb), .val (.int (Int32.ofNat d)), s6] []))
              refine Goes.by (fun t k => XS.iload X.here hx rfl (hb hby d2_78) rfl k) ?_
              show Goes p e below s _ _ _ (T.setTop (mkF m 80 #[.val (.int (Int32.ofNat v)), .val (.ref a1), .val (.ref cb), .val (.ref ab), .val (.ref fb), .val (.int (Int32.ofNat d)), s6] [(.int (Int32.ofNat d))]))
              refine Goes.by (fun t k => XS.aloadN X.here hx rfl (hb hby d2_80) rfl rfl k) ?_
              show Goes p e below s _ _ _ (T.setTop (mkF m 81 #[.val (.int (Int32.ofNat v)), .val (.ref a1), .val (.ref cb), .val (.ref ab), .val (.ref fb), .val (.int (Int32.ofNat d)), s6] [(.ref a1), (.int (Int32.ofNat d))]))
              refine Goes.by (fun t k => own_len X hx hZ eT (A1) (g := (mkF m 81 #[.val (.int (Int32.ofNat v)), .val (.ref a1), .val (.ref cb), .val (.ref ab), .val (.ref fb), .val (.int (Int32.ofNat d)), s6] [(.ref a1), (.int (Int32.ofNat d))])) rfl rfl (hb hby d2_81) k) ?_
              show Goes p e below s _ _ _ (T.setTop (mkF m 82 #[.val (.int (Int32.ofNat v)), .val (.ref a1), .val (.ref cb), .val (.ref ab), .val (.ref fb), .val (.int (Int32.ofNat d)), s6] [(.int (Int32.ofNat d)), (.int (Int32.ofNat d))]))
              refine Goes.by (fun t k => XS.icmpYes X.here hx rfl (pc0 := 82) (pc' := 112) rfl (hb hby d2_82) rfl (flt (own_nltN (by omega) (by omega))).2.1 (by decide) (by decide) k) ?_
              show Goes p e below s _ _ _ (T.setTop (mkF m 112 #[.val (.int (Int32.ofNat v)), .val (.ref a1), .val (.ref cb), .val (.ref ab), .val (.ref fb), .val (.int (Int32.ofNat d)), s6] []))
              refine Goes.by (fun t k => XS.aloadN X.here hx rfl (hb hby d2_112) rfl rfl k) ?_
              show Goes p e below s _ _ _ (T.setTop (mkF m 113 #[.val (.int (Int32.ofNat v)), .val (.ref a1), .val (.ref cb), .val (.ref ab), .val (.ref fb), .val (.int (Int32.ofNat d)), s6] [(.ref ab)]))
              exact Goes.retA X hx Bd.returns rfl rfl (hb hby d2_113) hlk (by rw [eT]; exact ⟨ab, kA, ad, rfl, NN, K, RR, IR⟩) (by show 2 + v + 1 ≤ 7; omega) (by show 8 + 4 * v + 4 ≤ 28; omega)
          exact L3 i 0 _ _ _ (by omega) X6 e6 NN (K.ext E6) (A1.ext E6) (I6.congr rfl fun u _ => rfl) (RR'.ext E6) (fun j hj => ((IR j hj).ext E6).congr rfl fun k _ => rfl)
      have hX : Stand p l e ({ frames := 0, cells := 7, slots := 28, locals := 0 } : Room) s m #[(.int (Int32.ofNat N)), (.ref a1)] below meth c T3 _ (2 + 0) (8 + 4 * 0) := X3
      exact L2 N 0 _ _ _ (fun _ => 0) (by omega) hX e3 NN K2 A2 B2 (R3.congr fun j _ => by simp) (fun j hj => absurd hj (by omega)) (fun j hj => absurd hj (by omega)) (fun u w hu _ _ => absurd hu (by omega)) (Nat.le_of_eq hB0)
  exact L1 M 0 _ _ _ _ (by omega) One.u X1 e1 N0 K1 A1c (I1.congr rfl fun v _ => rfl)
theorem own_ltR {i m : Nat} (h : Int32.ofNat i < Int32.ofNat m) (hi : i < 2147483648) (hm : m < 2147483648) : i < m := by
  rw [Int32.lt_iff_toInt_lt, toInt_of (n := Int32.ofNat i) (c := i) rfl (by omega), toInt_of (n := Int32.ofNat m) (c := m) rfl (by omega)] at h; omega
def Q3 (h0 : Heap) (n0 : Nat) (v : Option Value) (h : Heap) (L : List Loc) : Prop := v = some (.int 1) ∧ Fr n0 L ∧ Keep h0 h []
theorem d3_0 : decode method_4_code 0 = .ok (.iload_n 1, 1) := by decide +kernel
theorem d3_1 : decode method_4_code 1 = .ok (.iload_n 2, 1) := by decide +kernel
theorem d3_2 : decode method_4_code 2 = .ok (.if_icmp .lt 5, 3) := by decide +kernel
theorem d3_5 : decode method_4_code 5 = .ok (.iconst 1, 1) := by decide +kernel
theorem d3_6 : decode method_4_code 6 = .ok (.ireturn, 1) := by decide +kernel
theorem d3_7 : decode method_4_code 7 = .ok (.aload_n 0, 1) := by decide +kernel
theorem d3_8 : decode method_4_code 8 = .ok (.iload_n 1, 1) := by decide +kernel
theorem d3_9 : decode method_4_code 9 = .ok (.aaload, 1) := by decide +kernel
theorem d3_10 : decode method_4_code 10 = .ok (.astore 8, 2) := by decide +kernel
theorem d3_12 : decode method_4_code 12 = .ok (.aload 8, 2) := by decide +kernel
theorem d3_14 : decode method_4_code 14 = .ok (.ifnonnull 5, 3) := by decide +kernel
theorem d3_17 : decode method_4_code 17 = .ok (.iconst 0, 1) := by decide +kernel
theorem d3_18 : decode method_4_code 18 = .ok (.ireturn, 1) := by decide +kernel
theorem d3_19 : decode method_4_code 19 = .ok (.iconst 4, 1) := by decide +kernel
theorem d3_20 : decode method_4_code 20 = .ok (.newarray .int, 2) := by decide +kernel
theorem d3_22 : decode method_4_code 22 = .ok (.astore 9, 2) := by decide +kernel
theorem d3_24 : decode method_4_code 24 = .ok (.iconst 0, 1) := by decide +kernel
theorem d3_25 : decode method_4_code 25 = .ok (.istore 10, 2) := by decide +kernel
theorem d3_27 : decode method_4_code 27 = .ok (.iload_n 3, 1) := by decide +kernel
theorem d3_28 : decode method_4_code 28 = .ok (.ifCond .le 18, 3) := by decide +kernel
theorem d3_31 : decode method_4_code 31 = .ok (.iload 4, 2) := by decide +kernel
theorem d3_33 : decode method_4_code 33 = .ok (.iload_n 1, 1) := by decide +kernel
theorem d3_34 : decode method_4_code 34 = .ok (.if_icmp .ne 12, 3) := by decide +kernel
theorem d3_37 : decode method_4_code 37 = .ok (.aload 9, 2) := by decide +kernel
theorem d3_39 : decode method_4_code 39 = .ok (.iload 10, 2) := by decide +kernel
theorem d3_41 : decode method_4_code 41 = .ok (.iconst 0, 1) := by decide +kernel
theorem d3_42 : decode method_4_code 42 = .ok (.iastore, 1) := by decide +kernel
theorem d3_43 : decode method_4_code 43 = .ok (.iinc 10 1, 3) := by decide +kernel
theorem d3_46 : decode method_4_code 46 = .ok (.iload_n 3, 1) := by decide +kernel
theorem d3_47 : decode method_4_code 47 = .ok (.iconst 1, 1) := by decide +kernel
theorem d3_48 : decode method_4_code 48 = .ok (.if_icmp .le 18, 3) := by decide +kernel
theorem d3_51 : decode method_4_code 51 = .ok (.iload 5, 2) := by decide +kernel
theorem d3_53 : decode method_4_code 53 = .ok (.iload_n 1, 1) := by decide +kernel
theorem d3_54 : decode method_4_code 54 = .ok (.if_icmp .ne 12, 3) := by decide +kernel
theorem d3_57 : decode method_4_code 57 = .ok (.aload 9, 2) := by decide +kernel
theorem d3_59 : decode method_4_code 59 = .ok (.iload 10, 2) := by decide +kernel
theorem d3_61 : decode method_4_code 61 = .ok (.iconst 1, 1) := by decide +kernel
theorem d3_62 : decode method_4_code 62 = .ok (.iastore, 1) := by decide +kernel
theorem d3_63 : decode method_4_code 63 = .ok (.iinc 10 1, 3) := by decide +kernel
theorem d3_66 : decode method_4_code 66 = .ok (.iload_n 3, 1) := by decide +kernel
theorem d3_67 : decode method_4_code 67 = .ok (.iconst 2, 1) := by decide +kernel
theorem d3_68 : decode method_4_code 68 = .ok (.if_icmp .le 18, 3) := by decide +kernel
theorem d3_71 : decode method_4_code 71 = .ok (.iload 6, 2) := by decide +kernel
theorem d3_73 : decode method_4_code 73 = .ok (.iload_n 1, 1) := by decide +kernel
theorem d3_74 : decode method_4_code 74 = .ok (.if_icmp .ne 12, 3) := by decide +kernel
theorem d3_77 : decode method_4_code 77 = .ok (.aload 9, 2) := by decide +kernel
theorem d3_79 : decode method_4_code 79 = .ok (.iload 10, 2) := by decide +kernel
theorem d3_81 : decode method_4_code 81 = .ok (.iconst 2, 1) := by decide +kernel
theorem d3_82 : decode method_4_code 82 = .ok (.iastore, 1) := by decide +kernel
theorem d3_83 : decode method_4_code 83 = .ok (.iinc 10 1, 3) := by decide +kernel
theorem d3_86 : decode method_4_code 86 = .ok (.iload_n 3, 1) := by decide +kernel
theorem d3_87 : decode method_4_code 87 = .ok (.iconst 3, 1) := by decide +kernel
theorem d3_88 : decode method_4_code 88 = .ok (.if_icmp .le 18, 3) := by decide +kernel
theorem d3_91 : decode method_4_code 91 = .ok (.iload 7, 2) := by decide +kernel
theorem d3_93 : decode method_4_code 93 = .ok (.iload_n 1, 1) := by decide +kernel
theorem d3_94 : decode method_4_code 94 = .ok (.if_icmp .ne 12, 3) := by decide +kernel
theorem d3_97 : decode method_4_code 97 = .ok (.aload 9, 2) := by decide +kernel
theorem d3_99 : decode method_4_code 99 = .ok (.iload 10, 2) := by decide +kernel
theorem d3_101 : decode method_4_code 101 = .ok (.iconst 3, 1) := by decide +kernel
theorem d3_102 : decode method_4_code 102 = .ok (.iastore, 1) := by decide +kernel
theorem d3_103 : decode method_4_code 103 = .ok (.iinc 10 1, 3) := by decide +kernel
theorem d3_106 : decode method_4_code 106 = .ok (.aload 8, 2) := by decide +kernel
theorem d3_108 : decode method_4_code 108 = .ok (.arraylength, 1) := by decide +kernel
theorem d3_109 : decode method_4_code 109 = .ok (.iload 10, 2) := by decide +kernel
theorem d3_111 : decode method_4_code 111 = .ok (.if_icmp .eq 5, 3) := by decide +kernel
theorem d3_114 : decode method_4_code 114 = .ok (.iconst 0, 1) := by decide +kernel
theorem d3_115 : decode method_4_code 115 = .ok (.ireturn, 1) := by decide +kernel
theorem d3_116 : decode method_4_code 116 = .ok (.iload 10, 2) := by decide +kernel
theorem d3_118 : decode method_4_code 118 = .ok (.iconst 1, 1) := by decide +kernel
theorem d3_119 : decode method_4_code 119 = .ok (.if_icmp .lt 14, 3) := by decide +kernel
theorem d3_122 : decode method_4_code 122 = .ok (.aload 8, 2) := by decide +kernel
theorem d3_124 : decode method_4_code 124 = .ok (.iconst 0, 1) := by decide +kernel
theorem d3_125 : decode method_4_code 125 = .ok (.iaload, 1) := by decide +kernel
theorem d3_126 : decode method_4_code 126 = .ok (.aload 9, 2) := by decide +kernel
theorem d3_128 : decode method_4_code 128 = .ok (.iconst 0, 1) := by decide +kernel
theorem d3_129 : decode method_4_code 129 = .ok (.iaload, 1) := by decide +kernel
theorem d3_130 : decode method_4_code 130 = .ok (.if_icmp .ne 58, 3) := by decide +kernel
theorem d3_133 : decode method_4_code 133 = .ok (.iload 10, 2) := by decide +kernel
theorem d3_135 : decode method_4_code 135 = .ok (.iconst 2, 1) := by decide +kernel
theorem d3_136 : decode method_4_code 136 = .ok (.if_icmp .lt 14, 3) := by decide +kernel
theorem d3_139 : decode method_4_code 139 = .ok (.aload 8, 2) := by decide +kernel
theorem d3_141 : decode method_4_code 141 = .ok (.iconst 1, 1) := by decide +kernel
theorem d3_142 : decode method_4_code 142 = .ok (.iaload, 1) := by decide +kernel
theorem d3_143 : decode method_4_code 143 = .ok (.aload 9, 2) := by decide +kernel
theorem d3_145 : decode method_4_code 145 = .ok (.iconst 1, 1) := by decide +kernel
theorem d3_146 : decode method_4_code 146 = .ok (.iaload, 1) := by decide +kernel
theorem d3_147 : decode method_4_code 147 = .ok (.if_icmp .ne 41, 3) := by decide +kernel
theorem d3_150 : decode method_4_code 150 = .ok (.iload 10, 2) := by decide +kernel
theorem d3_152 : decode method_4_code 152 = .ok (.iconst 3, 1) := by decide +kernel
theorem d3_153 : decode method_4_code 153 = .ok (.if_icmp .lt 14, 3) := by decide +kernel
theorem d3_156 : decode method_4_code 156 = .ok (.aload 8, 2) := by decide +kernel
theorem d3_158 : decode method_4_code 158 = .ok (.iconst 2, 1) := by decide +kernel
theorem d3_159 : decode method_4_code 159 = .ok (.iaload, 1) := by decide +kernel
theorem d3_160 : decode method_4_code 160 = .ok (.aload 9, 2) := by decide +kernel
theorem d3_162 : decode method_4_code 162 = .ok (.iconst 2, 1) := by decide +kernel
theorem d3_163 : decode method_4_code 163 = .ok (.iaload, 1) := by decide +kernel
theorem d3_164 : decode method_4_code 164 = .ok (.if_icmp .ne 24, 3) := by decide +kernel
theorem d3_167 : decode method_4_code 167 = .ok (.iload 10, 2) := by decide +kernel
theorem d3_169 : decode method_4_code 169 = .ok (.iconst 4, 1) := by decide +kernel
theorem d3_170 : decode method_4_code 170 = .ok (.if_icmp .lt 14, 3) := by decide +kernel
theorem d3_173 : decode method_4_code 173 = .ok (.aload 8, 2) := by decide +kernel
theorem d3_175 : decode method_4_code 175 = .ok (.iconst 3, 1) := by decide +kernel
theorem d3_176 : decode method_4_code 176 = .ok (.iaload, 1) := by decide +kernel
theorem d3_177 : decode method_4_code 177 = .ok (.aload 9, 2) := by decide +kernel
theorem d3_179 : decode method_4_code 179 = .ok (.iconst 3, 1) := by decide +kernel
theorem d3_180 : decode method_4_code 180 = .ok (.iaload, 1) := by decide +kernel
theorem d3_181 : decode method_4_code 181 = .ok (.if_icmp .ne 7, 3) := by decide +kernel
theorem d3_184 : decode method_4_code 184 = .ok (.iconst 1, 1) := by decide +kernel
theorem d3_185 : decode method_4_code 185 = .ok (.goto 4, 3) := by decide +kernel
theorem d3_188 : decode method_4_code 188 = .ok (.iconst 0, 1) := by decide +kernel
theorem d3_189 : decode method_4_code 189 = .ok (.ireturn, 1) := by decide +kernel
theorem ef_rm3 (m : MethodId) (x0 : Addr) (x1 : Int32) (x2 : Int32) (x3 : Int32) (x4 : Int32) (x5 : Int32) (x6 : Int32) (x7 : Int32) : entryFrame m #[(.ref x0), (.int x1), (.int x2), (.int x3), (.int x4), (.int x5), (.int x6), (.int x7)] 11 = mkF m 0 #[.val (.ref x0), .val (.int x1), .val (.int x2), .val (.int x3), .val (.int x4), .val (.int x5), .val (.int x6), .val (.int x7), .unset, .unset, .unset] [] := by first | (simp [entryFrame, mkF, argsToLocals, Value.category]; done) | rfl
set_option maxRecDepth 65536 in
set_option maxHeartbeats 40000000 in
theorem rm3 (l : Launch) (Z : State) (a0 : Array Value) (hw : ∀ d ∈ tables_1, d.before a0 Z = true) (ws : List Jvm.Cond) (a1 : Addr) (V N M : Nat) (r0 r1 r2 r3 : Int32) (es : Nat → Nat) (kA : ClassId) (ad : Nat → Addr) (h0 : Heap) (n0 : Nat) (Z0 : n0 ≤ h0.size) (hV : V ≤ 3) (hN : N ≤ 4) (hM : M ≤ 4) (hes : ∀ i, i < M → es i < N) (RR : RA Z h0 a1 kA N (fun i => .ref (ad i))) (IR : ∀ i, i < N → IA Z h0 (ad i) (cnt es M i) (rows es M i)) (h_0 : r0 = Int32.ofNat (es 0)) (h_1 : r1 = Int32.ofNat (es 1)) (h_2 : r2 = Int32.ofNat (es 2)) (h_3 : r3 = Int32.ofNat (es 3)) (hle : ∀ i, es i ≤ 4) :
    MetFree l (⟨"com/example/roadstitch/roadstitch/core/ShortestPathsArcsByPinLaw", "row", "([[IIIIIIII)Z"⟩ : MethodName) (head1 (Jvm.Cond.code (⟨"com/example/roadstitch/roadstitch/core/ShortestPathsArcsByPinLaw", "row", "([[IIIIIIII)Z"⟩ : MethodName) method_4_code 11 (some .boolean) :: ws) ({ frames := 0, cells := 1, slots := 4, locals := 0 } : Room)) (fun a U => a = #[(.ref a1), (.int (Int32.ofNat V)), (.int (Int32.ofNat N)), (.int (Int32.ofNat M)), (.int r0), (.int r1), (.int r2), (.int r3)] ∧ Z.Warmed39 U.vm ∧ U.heap = h0) (fun _ _ _ _ _ => True) (fun _ U o U' => ∃ v L, o = .returned v ∧ (Q3 h0 n0) v U'.heap L ∧ FrameEnd U o U' L ({ frames := 0, cells := 1, slots := 4, locals := 0 } : Room).cells ({ frames := 0, cells := 1, slots := 4, locals := 0 } : Room).slots) := by
  refine MetFree.of_bodySF (plainFor_of_name pn_0) hisR ?_
  intro p e s m args below meth c s₁ Bd hml0 hP hK
  obtain ⟨rfl, hZ, hh⟩ := hP
  have hx := Bd.exec
  have hby := Bd.bytes
  have hlk : meth.locks = false := BodyLoose.notSynchronized Bd
  have hml : c.maxLocals = 11 := hml0
  have hown : s.vm.findClass "com/example/roadstitch/roadstitch/core/ShortestPathsArcsByPinLaw" = some m.cls := findClass_of_methodNamed Bd.named
  have hnm := (name_of_methodNamed Bd.named Bd.method).1
  have X0 : Stand p l e ({ frames := 0, cells := 1, slots := 4, locals := 0 } : Room) s m #[(.ref a1), (.int (Int32.ofNat V)), (.int (Int32.ofNat N)), (.int (Int32.ofNat M)), (.int r0), (.int r1), (.int r2), (.int r3)] below meth c s₁ [] 0 0 := Stand.of_body Bd
  have e0 : s₁.heap = h0 := by rw [← hh, Bd.state]; rfl
  have N0 := Fr.nil n0
  show Goes p e below s (Q3 h0 n0) ({ frames := 0, cells := 1, slots := 4, locals := 0 } : Room).cells ({ frames := 0, cells := 1, slots := 4, locals := 0 } : Room).slots (s₁.setTop (entryFrame m #[(.ref a1), (.int (Int32.ofNat V)), (.int (Int32.ofNat N)), (.int (Int32.ofNat M)), (.int r0), (.int r1), (.int r2), (.int r3)] 11))
  refine Goes.by (fun t k => castTop (ef_rm3 m a1 (Int32.ofNat V) (Int32.ofNat N) (Int32.ofNat M) r0 r1 r2 r3) k) ?_
  show Goes p e below s _ _ _ (s₁.setTop (mkF m 0 #[.val (.ref a1), .val (.int (Int32.ofNat V)), .val (.int (Int32.ofNat N)), .val (.int (Int32.ofNat M)), .val (.int r0), .val (.int r1), .val (.int r2), .val (.int r3), .unset, .unset, .unset] []))
  refine Goes.by (fun t k => XS.iloadN X0.here hx rfl (hb hby d3_0) rfl k) ?_
  show Goes p e below s _ _ _ (s₁.setTop (mkF m 1 #[.val (.ref a1), .val (.int (Int32.ofNat V)), .val (.int (Int32.ofNat N)), .val (.int (Int32.ofNat M)), .val (.int r0), .val (.int r1), .val (.int r2), .val (.int r3), .unset, .unset, .unset] [(.int (Int32.ofNat V))]))
  refine Goes.by (fun t k => XS.iloadN X0.here hx rfl (hb hby d3_1) rfl k) ?_
  show Goes p e below s _ _ _ (s₁.setTop (mkF m 2 #[.val (.ref a1), .val (.int (Int32.ofNat V)), .val (.int (Int32.ofNat N)), .val (.int (Int32.ofNat M)), .val (.int r0), .val (.int r1), .val (.int r2), .val (.int r3), .unset, .unset, .unset] [(.int (Int32.ofNat N)), (.int (Int32.ofNat V))]))
  by_cases hVN : V < N
  rotate_left
  · skip
    refine Goes.by (fun t k => XS.icmpNo X0.here hx rfl (hb hby d3_2) rfl (flt (own_nltN hVN (by omega))).1 k) ?_
    show Goes p e below s _ _ _ (s₁.setTop (mkF m 5 #[.val (.ref a1), .val (.int (Int32.ofNat V)), .val (.int (Int32.ofNat N)), .val (.int (Int32.ofNat M)), .val (.int r0), .val (.int r1), .val (.int r2), .val (.int r3), .unset, .unset, .unset] []))
    refine Goes.by (fun t k => XS.iconst X0.here hx rfl (hb hby d3_5) k) ?_
    show Goes p e below s _ _ _ (s₁.setTop (mkF m 6 #[.val (.ref a1), .val (.int (Int32.ofNat V)), .val (.int (Int32.ofNat N)), .val (.int (Int32.ofNat M)), .val (.int r0), .val (.int r1), .val (.int r2), .val (.int r3), .unset, .unset, .unset] [(.int (1 : Int32))]))
    exact Goes.retN X0 hx Bd.returns rfl (hb hby d3_6) hlk (by rw [e0]; exact ⟨rfl, N0, Keep.refl _ _⟩) (by decide) (by decide)
  · skip
    refine Goes.by (fun t k => XS.icmpYes X0.here hx rfl (pc0 := 2) (pc' := 7) rfl (hb hby d3_2) rfl (tlt (own_ltN hVN (by omega))).1 (by decide) (by decide) k) ?_
    show Goes p e below s _ _ _ (s₁.setTop (mkF m 7 #[.val (.ref a1), .val (.int (Int32.ofNat V)), .val (.int (Int32.ofNat N)), .val (.int (Int32.ofNat M)), .val (.int r0), .val (.int r1), .val (.int r2), .val (.int r3), .unset, .unset, .unset] []))
    refine Goes.by (fun t k => XS.aloadN X0.here hx rfl (hb hby d3_7) rfl rfl k) ?_
    show Goes p e below s _ _ _ (s₁.setTop (mkF m 8 #[.val (.ref a1), .val (.int (Int32.ofNat V)), .val (.int (Int32.ofNat N)), .val (.int (Int32.ofNat M)), .val (.int r0), .val (.int r1), .val (.int r2), .val (.int r3), .unset, .unset, .unset] [(.ref a1)]))
    refine Goes.by (fun t k => XS.iloadN X0.here hx rfl (hb hby d3_8) rfl k) ?_
    show Goes p e below s _ _ _ (s₁.setTop (mkF m 9 #[.val (.ref a1), .val (.int (Int32.ofNat V)), .val (.int (Int32.ofNat N)), .val (.int (Int32.ofNat M)), .val (.int r0), .val (.int r1), .val (.int r2), .val (.int r3), .unset, .unset, .unset] [(.int (Int32.ofNat V)), (.ref a1)]))
    refine Goes.by (fun t k => own_aaload X0 hx hZ e0 RR (i := V) hVN (by omega) (g := (mkF m 9 #[.val (.ref a1), .val (.int (Int32.ofNat V)), .val (.int (Int32.ofNat N)), .val (.int (Int32.ofNat M)), .val (.int r0), .val (.int r1), .val (.int r2), .val (.int r3), .unset, .unset, .unset] [(.int (Int32.ofNat V)), (.ref a1)])) rfl rfl (hb hby d3_9) rfl k) ?_
    show Goes p e below s _ _ _ (s₁.setTop (mkF m 10 #[.val (.ref a1), .val (.int (Int32.ofNat V)), .val (.int (Int32.ofNat N)), .val (.int (Int32.ofNat M)), .val (.int r0), .val (.int r1), .val (.int r2), .val (.int r3), .unset, .unset, .unset] [(.ref (ad V))]))
    refine Goes.by (fun t k => XS.astore X0.here hx rfl (hb hby d3_10) rfl rfl (l' := #[.val (.ref a1), .val (.int (Int32.ofNat V)), .val (.int (Int32.ofNat N)), .val (.int (Int32.ofNat M)), .val (.int r0), .val (.int r1), .val (.int r2), .val (.int r3), .val (.ref (ad V)), .unset, .unset]) rfl k) ?_
    show Goes p e below s _ _ _ (s₁.setTop (mkF m 12 #[.val (.ref a1), .val (.int (Int32.ofNat V)), .val (.int (Int32.ofNat N)), .val (.int (Int32.ofNat M)), .val (.int r0), .val (.int r1), .val (.int r2), .val (.int r3), .val (.ref (ad V)), .unset, .unset] []))
    refine Goes.by (fun t k => XS.aload X0.here hx rfl (hb hby d3_12) rfl rfl k) ?_
    show Goes p e below s _ _ _ (s₁.setTop (mkF m 14 #[.val (.ref a1), .val (.int (Int32.ofNat V)), .val (.int (Int32.ofNat N)), .val (.int (Int32.ofNat M)), .val (.int r0), .val (.int r1), .val (.int r2), .val (.int r3), .val (.ref (ad V)), .unset, .unset] [(.ref (ad V))]))
    refine Goes.by (fun t k => XS.ifnonnullYes X0.here hx rfl (pc0 := 14) (pc' := 19) rfl (hb hby d3_14) rfl (by decide) (by decide) k) ?_
    show Goes p e below s _ _ _ (s₁.setTop (mkF m 19 #[.val (.ref a1), .val (.int (Int32.ofNat V)), .val (.int (Int32.ofNat N)), .val (.int (Int32.ofNat M)), .val (.int r0), .val (.int r1), .val (.int r2), .val (.int r3), .val (.ref (ad V)), .unset, .unset] []))
    refine Goes.by (fun t k => XS.iconst X0.here hx rfl (hb hby d3_19) k) ?_
    show Goes p e below s _ _ _ (s₁.setTop (mkF m 20 #[.val (.ref a1), .val (.int (Int32.ofNat V)), .val (.int (Int32.ofNat N)), .val (.int (Int32.ofNat M)), .val (.int r0), .val (.int r1), .val (.int r2), .val (.int r3), .val (.ref (ad V)), .unset, .unset] [(.int (4 : Int32))]))
    show Goes p e below s _ _ _ (s₁.setTop (mkF m 20 #[.val (.ref a1), .val (.int (Int32.ofNat V)), .val (.int (Int32.ofNat N)), .val (.int (Int32.ofNat M)), .val (.int r0), .val (.int r1), .val (.int r2), .val (.int r3), .val (.ref (ad V)), .unset, .unset] [(.int (Int32.ofNat 4))]))
    obtain ⟨T1, h1, X1, e1, E1, I1, Ex1, st1⟩ := own_newI X0 hx hZ (hw _ (List.mem_of_getElem? (i := 5) rfl)) e0 (g := (mkF m 20 #[.val (.ref a1), .val (.int (Int32.ofNat V)), .val (.int (Int32.ofNat N)), .val (.int (Int32.ofNat M)), .val (.int r0), .val (.int r1), .val (.int r2), .val (.int r3), .val (.ref (ad V)), .unset, .unset] [(.int (Int32.ofNat 4))])) rfl (hb hby d3_20) rfl 4 (n := 4) (by omega) (by omega) (by decide) (by decide)
    obtain ⟨eb, g_eb⟩ : ∃ z, z = h0.size := ⟨_, rfl⟩
    rw [← g_eb] at I1 Ex1 st1
    refine Goes.by (fun t k => st1 t k) ?_
    show Goes p e below s _ _ _ (T1.setTop (mkF m 22 #[.val (.ref a1), .val (.int (Int32.ofNat V)), .val (.int (Int32.ofNat N)), .val (.int (Int32.ofNat M)), .val (.int r0), .val (.int r1), .val (.int r2), .val (.int r3), .val (.ref (ad V)), .unset, .unset] [(.ref eb)]))
    refine Goes.by (fun t k => XS.astore X1.here hx rfl (hb hby d3_22) rfl rfl (l' := #[.val (.ref a1), .val (.int (Int32.ofNat V)), .val (.int (Int32.ofNat N)), .val (.int (Int32.ofNat M)), .val (.int r0), .val (.int r1), .val (.int r2), .val (.int r3), .val (.ref (ad V)), .val (.ref eb), .unset]) rfl k) ?_
    show Goes p e below s _ _ _ (T1.setTop (mkF m 24 #[.val (.ref a1), .val (.int (Int32.ofNat V)), .val (.int (Int32.ofNat N)), .val (.int (Int32.ofNat M)), .val (.int r0), .val (.int r1), .val (.int r2), .val (.int r3), .val (.ref (ad V)), .val (.ref eb), .unset] []))
    refine Goes.by (fun t k => XS.iconst X1.here hx rfl (hb hby d3_24) k) ?_
    show Goes p e below s _ _ _ (T1.setTop (mkF m 25 #[.val (.ref a1), .val (.int (Int32.ofNat V)), .val (.int (Int32.ofNat N)), .val (.int (Int32.ofNat M)), .val (.int r0), .val (.int r1), .val (.int r2), .val (.int r3), .val (.ref (ad V)), .val (.ref eb), .unset] [(.int (0 : Int32))]))
    refine Goes.by (fun t k => XS.istore X1.here hx rfl (hb hby d3_25) rfl (l' := #[.val (.ref a1), .val (.int (Int32.ofNat V)), .val (.int (Int32.ofNat N)), .val (.int (Int32.ofNat M)), .val (.int r0), .val (.int r1), .val (.int r2), .val (.int r3), .val (.ref (ad V)), .val (.ref eb), .val (.int (0 : Int32))]) rfl k) ?_
    show Goes p e below s _ _ _ (T1.setTop (mkF m 27 #[.val (.ref a1), .val (.int (Int32.ofNat V)), .val (.int (Int32.ofNat N)), .val (.int (Int32.ofNat M)), .val (.int r0), .val (.int r1), .val (.int r2), .val (.int r3), .val (.ref (ad V)), .val (.ref eb), .val (.int (0 : Int32))] []))
    show Goes p e below s _ _ _ (T1.setTop (mkF m 27 #[.val (.ref a1), .val (.int (Int32.ofNat V)), .val (.int (Int32.ofNat N)), .val (.int (Int32.ofNat M)), .val (.int r0), .val (.int r1), .val (.int r2), .val (.int r3), .val (.ref (ad V)), .val (.ref eb), .val (.int (Int32.ofNat 0))] []))
    have seb : h0.size ≤ eb := Nat.le_of_eq g_eb.symm
    have geb : n0 ≤ eb := Nat.le_trans Z0 seb
    have nge : ad V ≠ eb := Nat.ne_of_lt (g_eb ▸ (IR V hVN).lt)
    have IV := (IR V hVN).ext E1
    have K1 := (Keep.refl h0 []).ext E1
    obtain ⟨cM, hcM⟩ : ∃ z, z = cnt es M V := ⟨_, rfl⟩
    have cM4 : cM ≤ 4 := by rw [hcM]; exact Nat.le_trans (cnt_le es V M) hM
    rw [← hcM] at IV
    have J106 : ∀ (T : State) (locs : List Loc) (h : Heap), Stand p l e ({ frames := 0, cells := 1, slots := 4, locals := 0 } : Room) s m #[(.ref a1), (.int (Int32.ofNat V)), (.int (Int32.ofNat N)), (.int (Int32.ofNat M)), (.int r0), (.int r1), (.int r2), (.int r3)] below meth c T locs (0 + 1) (0 + 4) → T.heap = h → Fr n0 locs → Keep h0 h [] → IA Z h (ad V) cM (rows es M V) → IA Z h eb 4 (rows es M V) → Goes p e below s (Q3 h0 n0) ({ frames := 0, cells := 1, slots := 4, locals := 0 } : Room).cells ({ frames := 0, cells := 1, slots := 4, locals := 0 } : Room).slots (T.setTop (mkF m 106 #[.val (.ref a1), .val (.int (Int32.ofNat V)), .val (.int (Int32.ofNat N)), .val (.int (Int32.ofNat M)), .val (.int r0), .val (.int r1), .val (.int r2), .val (.int r3), .val (.ref (ad V)), .val (.ref eb), .val (.int (Int32.ofNat cM))] [])) := by
      intro T locs h X eT NN K IV B
      show Goes p e below s _ _ _ (T.setTop (mkF m 106 #[.val (.ref a1), .val (.int (Int32.ofNat V)), .val (.int (Int32.ofNat N)), .val (.int (Int32.ofNat M)), .val (.int r0), .val (.int r1), .val (.int r2), .val (.int r3), .val (.ref (ad V)), .val (.ref eb), .val (.int (Int32.ofNat cM))] []))
      refine Goes.by (fun t k => XS.aload X.here hx rfl (hb hby d3_106) rfl rfl k) ?_
      show Goes p e below s _ _ _ (T.setTop (mkF m 108 #[.val (.ref a1), .val (.int (Int32.ofNat V)), .val (.int (Int32.ofNat N)), .val (.int (Int32.ofNat M)), .val (.int r0), .val (.int r1), .val (.int r2), .val (.int r3), .val (.ref (ad V)), .val (.ref eb), .val (.int (Int32.ofNat cM))] [(.ref (ad V))]))
      refine Goes.by (fun t k => own_len X hx hZ eT (IV) (g := (mkF m 108 #[.val (.ref a1), .val (.int (Int32.ofNat V)), .val (.int (Int32.ofNat N)), .val (.int (Int32.ofNat M)), .val (.int r0), .val (.int r1), .val (.int r2), .val (.int r3), .val (.ref (ad V)), .val (.ref eb), .val (.int (Int32.ofNat cM))] [(.ref (ad V))])) rfl rfl (hb hby d3_108) k) ?_
      show Goes p e below s _ _ _ (T.setTop (mkF m 109 #[.val (.ref a1), .val (.int (Int32.ofNat V)), .val (.int (Int32.ofNat N)), .val (.int (Int32.ofNat M)), .val (.int r0), .val (.int r1), .val (.int r2), .val (.int r3), .val (.ref (ad V)), .val (.ref eb), .val (.int (Int32.ofNat cM))] [(.int (Int32.ofNat cM))]))
      refine Goes.by (fun t k => XS.iload X.here hx rfl (hb hby d3_109) rfl k) ?_
      show Goes p e below s _ _ _ (T.setTop (mkF m 111 #[.val (.ref a1), .val (.int (Int32.ofNat V)), .val (.int (Int32.ofNat N)), .val (.int (Int32.ofNat M)), .val (.int r0), .val (.int r1), .val (.int r2), .val (.int r3), .val (.ref (ad V)), .val (.ref eb), .val (.int (Int32.ofNat cM))] [(.int (Int32.ofNat cM)), (.int (Int32.ofNat cM))]))
      refine Goes.by (fun t k => XS.icmpYes X.here hx rfl (pc0 := 111) (pc' := 116) rfl (hb hby d3_111) rfl (teq (rfl)).1 (by decide) (by decide) k) ?_
      show Goes p e below s _ _ _ (T.setTop (mkF m 116 #[.val (.ref a1), .val (.int (Int32.ofNat V)), .val (.int (Int32.ofNat N)), .val (.int (Int32.ofNat M)), .val (.int r0), .val (.int r1), .val (.int r2), .val (.int r3), .val (.ref (ad V)), .val (.ref eb), .val (.int (Int32.ofNat cM))] []))
      have J184 : Goes p e below s (Q3 h0 n0) ({ frames := 0, cells := 1, slots := 4, locals := 0 } : Room).cells ({ frames := 0, cells := 1, slots := 4, locals := 0 } : Room).slots (T.setTop (mkF m 184 #[.val (.ref a1), .val (.int (Int32.ofNat V)), .val (.int (Int32.ofNat N)), .val (.int (Int32.ofNat M)), .val (.int r0), .val (.int r1), .val (.int r2), .val (.int r3), .val (.ref (ad V)), .val (.ref eb), .val (.int (Int32.ofNat cM))] [])) := by
        show Goes p e below s _ _ _ (T.setTop (mkF m 184 #[.val (.ref a1), .val (.int (Int32.ofNat V)), .val (.int (Int32.ofNat N)), .val (.int (Int32.ofNat M)), .val (.int r0), .val (.int r1), .val (.int r2), .val (.int r3), .val (.ref (ad V)), .val (.ref eb), .val (.int (Int32.ofNat cM))] []))
        refine Goes.by (fun t k => XS.iconst X.here hx rfl (hb hby d3_184) k) ?_
        show Goes p e below s _ _ _ (T.setTop (mkF m 185 #[.val (.ref a1), .val (.int (Int32.ofNat V)), .val (.int (Int32.ofNat N)), .val (.int (Int32.ofNat M)), .val (.int r0), .val (.int r1), .val (.int r2), .val (.int r3), .val (.ref (ad V)), .val (.ref eb), .val (.int (Int32.ofNat cM))] [(.int (1 : Int32))]))
        refine Goes.by (fun t k => XS.goto X.here hx rfl (pc0 := 185) (pc' := 189) rfl (hb hby d3_185) (by decide) (by decide) k) ?_
        show Goes p e below s _ _ _ (T.setTop (mkF m 189 #[.val (.ref a1), .val (.int (Int32.ofNat V)), .val (.int (Int32.ofNat N)), .val (.int (Int32.ofNat M)), .val (.int r0), .val (.int r1), .val (.int r2), .val (.int r3), .val (.ref (ad V)), .val (.ref eb), .val (.int (Int32.ofNat cM))] [(.int (1 : Int32))]))
        exact Goes.retN X hx Bd.returns rfl (hb hby d3_189) hlk (by rw [eT]; exact ⟨rfl, NN, K⟩) (by decide) (by decide)
      have J167 : Goes p e below s (Q3 h0 n0) ({ frames := 0, cells := 1, slots := 4, locals := 0 } : Room).cells ({ frames := 0, cells := 1, slots := 4, locals := 0 } : Room).slots (T.setTop (mkF m 167 #[.val (.ref a1), .val (.int (Int32.ofNat V)), .val (.int (Int32.ofNat N)), .val (.int (Int32.ofNat M)), .val (.int r0), .val (.int r1), .val (.int r2), .val (.int r3), .val (.ref (ad V)), .val (.ref eb), .val (.int (Int32.ofNat cM))] [])) := by
        show Goes p e below s _ _ _ (T.setTop (mkF m 167 #[.val (.ref a1), .val (.int (Int32.ofNat V)), .val (.int (Int32.ofNat N)), .val (.int (Int32.ofNat M)), .val (.int r0), .val (.int r1), .val (.int r2), .val (.int r3), .val (.ref (ad V)), .val (.ref eb), .val (.int (Int32.ofNat cM))] []))
        refine Goes.by (fun t k => XS.iload X.here hx rfl (hb hby d3_167) rfl k) ?_
        show Goes p e below s _ _ _ (T.setTop (mkF m 169 #[.val (.ref a1), .val (.int (Int32.ofNat V)), .val (.int (Int32.ofNat N)), .val (.int (Int32.ofNat M)), .val (.int r0), .val (.int r1), .val (.int r2), .val (.int r3), .val (.ref (ad V)), .val (.ref eb), .val (.int (Int32.ofNat cM))] [(.int (Int32.ofNat cM))]))
        refine Goes.by (fun t k => XS.iconst X.here hx rfl (hb hby d3_169) k) ?_
        show Goes p e below s _ _ _ (T.setTop (mkF m 170 #[.val (.ref a1), .val (.int (Int32.ofNat V)), .val (.int (Int32.ofNat N)), .val (.int (Int32.ofNat M)), .val (.int r0), .val (.int r1), .val (.int r2), .val (.int r3), .val (.ref (ad V)), .val (.ref eb), .val (.int (Int32.ofNat cM))] [(.int (4 : Int32)), (.int (Int32.ofNat cM))]))
        by_cases hq : cM < 4
        · skip
          show Goes p e below s _ _ _ (T.setTop (mkF m 170 #[.val (.ref a1), .val (.int (Int32.ofNat V)), .val (.int (Int32.ofNat N)), .val (.int (Int32.ofNat M)), .val (.int r0), .val (.int r1), .val (.int r2), .val (.int r3), .val (.ref (ad V)), .val (.ref eb), .val (.int (Int32.ofNat cM))] [(.int (Int32.ofNat 4)), (.int (Int32.ofNat cM))]))
          refine Goes.by (fun t k => XS.icmpYes X.here hx rfl (pc0 := 170) (pc' := 184) rfl (hb hby d3_170) rfl (tlt (own_ltN hq (by omega))).1 (by decide) (by decide) k) ?_
          show Goes p e below s _ _ _ (T.setTop (mkF m 184 #[.val (.ref a1), .val (.int (Int32.ofNat V)), .val (.int (Int32.ofNat N)), .val (.int (Int32.ofNat M)), .val (.int r0), .val (.int r1), .val (.int r2), .val (.int r3), .val (.ref (ad V)), .val (.ref eb), .val (.int (Int32.ofNat cM))] []))
          exact J184
        · skip
          show Goes p e below s _ _ _ (T.setTop (mkF m 170 #[.val (.ref a1), .val (.int (Int32.ofNat V)), .val (.int (Int32.ofNat N)), .val (.int (Int32.ofNat M)), .val (.int r0), .val (.int r1), .val (.int r2), .val (.int r3), .val (.ref (ad V)), .val (.ref eb), .val (.int (Int32.ofNat cM))] [(.int (Int32.ofNat 4)), (.int (Int32.ofNat cM))]))
          refine Goes.by (fun t k => XS.icmpNo X.here hx rfl (hb hby d3_170) rfl (flt (own_nltN hq (by omega))).1 k) ?_
          show Goes p e below s _ _ _ (T.setTop (mkF m 173 #[.val (.ref a1), .val (.int (Int32.ofNat V)), .val (.int (Int32.ofNat N)), .val (.int (Int32.ofNat M)), .val (.int r0), .val (.int r1), .val (.int r2), .val (.int r3), .val (.ref (ad V)), .val (.ref eb), .val (.int (Int32.ofNat cM))] []))
          refine Goes.by (fun t k => XS.aload X.here hx rfl (hb hby d3_173) rfl rfl k) ?_
          show Goes p e below s _ _ _ (T.setTop (mkF m 175 #[.val (.ref a1), .val (.int (Int32.ofNat V)), .val (.int (Int32.ofNat N)), .val (.int (Int32.ofNat M)), .val (.int r0), .val (.int r1), .val (.int r2), .val (.int r3), .val (.ref (ad V)), .val (.ref eb), .val (.int (Int32.ofNat cM))] [(.ref (ad V))]))
          refine Goes.by (fun t k => XS.iconst X.here hx rfl (hb hby d3_175) k) ?_
          show Goes p e below s _ _ _ (T.setTop (mkF m 176 #[.val (.ref a1), .val (.int (Int32.ofNat V)), .val (.int (Int32.ofNat N)), .val (.int (Int32.ofNat M)), .val (.int r0), .val (.int r1), .val (.int r2), .val (.int r3), .val (.ref (ad V)), .val (.ref eb), .val (.int (Int32.ofNat cM))] [(.int (3 : Int32)), (.ref (ad V))]))
          show Goes p e below s _ _ _ (T.setTop (mkF m 176 #[.val (.ref a1), .val (.int (Int32.ofNat V)), .val (.int (Int32.ofNat N)), .val (.int (Int32.ofNat M)), .val (.int r0), .val (.int r1), .val (.int r2), .val (.int r3), .val (.ref (ad V)), .val (.ref eb), .val (.int (Int32.ofNat cM))] [(.int (Int32.ofNat 3)), (.ref (ad V))]))
          refine Goes.by (fun t k => own_iaload X hx hZ eT (IV) (i := 3) (by omega) (by omega) (g := (mkF m 176 #[.val (.ref a1), .val (.int (Int32.ofNat V)), .val (.int (Int32.ofNat N)), .val (.int (Int32.ofNat M)), .val (.int r0), .val (.int r1), .val (.int r2), .val (.int r3), .val (.ref (ad V)), .val (.ref eb), .val (.int (Int32.ofNat cM))] [(.int (Int32.ofNat 3)), (.ref (ad V))])) rfl rfl (hb hby d3_176) k) ?_
          show Goes p e below s _ _ _ (T.setTop (mkF m 177 #[.val (.ref a1), .val (.int (Int32.ofNat V)), .val (.int (Int32.ofNat N)), .val (.int (Int32.ofNat M)), .val (.int r0), .val (.int r1), .val (.int r2), .val (.int r3), .val (.ref (ad V)), .val (.ref eb), .val (.int (Int32.ofNat cM))] [(.int (rows es M V 3))]))
          refine Goes.by (fun t k => XS.aload X.here hx rfl (hb hby d3_177) rfl rfl k) ?_
          show Goes p e below s _ _ _ (T.setTop (mkF m 179 #[.val (.ref a1), .val (.int (Int32.ofNat V)), .val (.int (Int32.ofNat N)), .val (.int (Int32.ofNat M)), .val (.int r0), .val (.int r1), .val (.int r2), .val (.int r3), .val (.ref (ad V)), .val (.ref eb), .val (.int (Int32.ofNat cM))] [(.ref eb), (.int (rows es M V 3))]))
          refine Goes.by (fun t k => XS.iconst X.here hx rfl (hb hby d3_179) k) ?_
          show Goes p e below s _ _ _ (T.setTop (mkF m 180 #[.val (.ref a1), .val (.int (Int32.ofNat V)), .val (.int (Int32.ofNat N)), .val (.int (Int32.ofNat M)), .val (.int r0), .val (.int r1), .val (.int r2), .val (.int r3), .val (.ref (ad V)), .val (.ref eb), .val (.int (Int32.ofNat cM))] [(.int (3 : Int32)), (.ref eb), (.int (rows es M V 3))]))
          show Goes p e below s _ _ _ (T.setTop (mkF m 180 #[.val (.ref a1), .val (.int (Int32.ofNat V)), .val (.int (Int32.ofNat N)), .val (.int (Int32.ofNat M)), .val (.int r0), .val (.int r1), .val (.int r2), .val (.int r3), .val (.ref (ad V)), .val (.ref eb), .val (.int (Int32.ofNat cM))] [(.int (Int32.ofNat 3)), (.ref eb), (.int (rows es M V 3))]))
          refine Goes.by (fun t k => own_iaload X hx hZ eT (B) (i := 3) (by omega) (by omega) (g := (mkF m 180 #[.val (.ref a1), .val (.int (Int32.ofNat V)), .val (.int (Int32.ofNat N)), .val (.int (Int32.ofNat M)), .val (.int r0), .val (.int r1), .val (.int r2), .val (.int r3), .val (.ref (ad V)), .val (.ref eb), .val (.int (Int32.ofNat cM))] [(.int (Int32.ofNat 3)), (.ref eb), (.int (rows es M V 3))])) rfl rfl (hb hby d3_180) k) ?_
          show Goes p e below s _ _ _ (T.setTop (mkF m 181 #[.val (.ref a1), .val (.int (Int32.ofNat V)), .val (.int (Int32.ofNat N)), .val (.int (Int32.ofNat M)), .val (.int r0), .val (.int r1), .val (.int r2), .val (.int r3), .val (.ref (ad V)), .val (.ref eb), .val (.int (Int32.ofNat cM))] [(.int (rows es M V 3)), (.int (rows es M V 3))]))
          refine Goes.by (fun t k => XS.icmpNo X.here hx rfl (hb hby d3_181) rfl (teq (rfl)).2 k) ?_
          show Goes p e below s _ _ _ (T.setTop (mkF m 184 #[.val (.ref a1), .val (.int (Int32.ofNat V)), .val (.int (Int32.ofNat N)), .val (.int (Int32.ofNat M)), .val (.int r0), .val (.int r1), .val (.int r2), .val (.int r3), .val (.ref (ad V)), .val (.ref eb), .val (.int (Int32.ofNat cM))] []))
          exact J184
      have J150 : Goes p e below s (Q3 h0 n0) ({ frames := 0, cells := 1, slots := 4, locals := 0 } : Room).cells ({ frames := 0, cells := 1, slots := 4, locals := 0 } : Room).slots (T.setTop (mkF m 150 #[.val (.ref a1), .val (.int (Int32.ofNat V)), .val (.int (Int32.ofNat N)), .val (.int (Int32.ofNat M)), .val (.int r0), .val (.int r1), .val (.int r2), .val (.int r3), .val (.ref (ad V)), .val (.ref eb), .val (.int (Int32.ofNat cM))] [])) := by
        show Goes p e below s _ _ _ (T.setTop (mkF m 150 #[.val (.ref a1), .val (.int (Int32.ofNat V)), .val (.int (Int32.ofNat N)), .val (.int (Int32.ofNat M)), .val (.int r0), .val (.int r1), .val (.int r2), .val (.int r3), .val (.ref (ad V)), .val (.ref eb), .val (.int (Int32.ofNat cM))] []))
        refine Goes.by (fun t k => XS.iload X.here hx rfl (hb hby d3_150) rfl k) ?_
        show Goes p e below s _ _ _ (T.setTop (mkF m 152 #[.val (.ref a1), .val (.int (Int32.ofNat V)), .val (.int (Int32.ofNat N)), .val (.int (Int32.ofNat M)), .val (.int r0), .val (.int r1), .val (.int r2), .val (.int r3), .val (.ref (ad V)), .val (.ref eb), .val (.int (Int32.ofNat cM))] [(.int (Int32.ofNat cM))]))
        refine Goes.by (fun t k => XS.iconst X.here hx rfl (hb hby d3_152) k) ?_
        show Goes p e below s _ _ _ (T.setTop (mkF m 153 #[.val (.ref a1), .val (.int (Int32.ofNat V)), .val (.int (Int32.ofNat N)), .val (.int (Int32.ofNat M)), .val (.int r0), .val (.int r1), .val (.int r2), .val (.int r3), .val (.ref (ad V)), .val (.ref eb), .val (.int (Int32.ofNat cM))] [(.int (3 : Int32)), (.int (Int32.ofNat cM))]))
        by_cases hq : cM < 3
        · skip
          show Goes p e below s _ _ _ (T.setTop (mkF m 153 #[.val (.ref a1), .val (.int (Int32.ofNat V)), .val (.int (Int32.ofNat N)), .val (.int (Int32.ofNat M)), .val (.int r0), .val (.int r1), .val (.int r2), .val (.int r3), .val (.ref (ad V)), .val (.ref eb), .val (.int (Int32.ofNat cM))] [(.int (Int32.ofNat 3)), (.int (Int32.ofNat cM))]))
          refine Goes.by (fun t k => XS.icmpYes X.here hx rfl (pc0 := 153) (pc' := 167) rfl (hb hby d3_153) rfl (tlt (own_ltN hq (by omega))).1 (by decide) (by decide) k) ?_
          show Goes p e below s _ _ _ (T.setTop (mkF m 167 #[.val (.ref a1), .val (.int (Int32.ofNat V)), .val (.int (Int32.ofNat N)), .val (.int (Int32.ofNat M)), .val (.int r0), .val (.int r1), .val (.int r2), .val (.int r3), .val (.ref (ad V)), .val (.ref eb), .val (.int (Int32.ofNat cM))] []))
          exact J167
        · skip
          show Goes p e below s _ _ _ (T.setTop (mkF m 153 #[.val (.ref a1), .val (.int (Int32.ofNat V)), .val (.int (Int32.ofNat N)), .val (.int (Int32.ofNat M)), .val (.int r0), .val (.int r1), .val (.int r2), .val (.int r3), .val (.ref (ad V)), .val (.ref eb), .val (.int (Int32.ofNat cM))] [(.int (Int32.ofNat 3)), (.int (Int32.ofNat cM))]))
          refine Goes.by (fun t k => XS.icmpNo X.here hx rfl (hb hby d3_153) rfl (flt (own_nltN hq (by omega))).1 k) ?_
          show Goes p e below s _ _ _ (T.setTop (mkF m 156 #[.val (.ref a1), .val (.int (Int32.ofNat V)), .val (.int (Int32.ofNat N)), .val (.int (Int32.ofNat M)), .val (.int r0), .val (.int r1), .val (.int r2), .val (.int r3), .val (.ref (ad V)), .val (.ref eb), .val (.int (Int32.ofNat cM))] []))
          refine Goes.by (fun t k => XS.aload X.here hx rfl (hb hby d3_156) rfl rfl k) ?_
          show Goes p e below s _ _ _ (T.setTop (mkF m 158 #[.val (.ref a1), .val (.int (Int32.ofNat V)), .val (.int (Int32.ofNat N)), .val (.int (Int32.ofNat M)), .val (.int r0), .val (.int r1), .val (.int r2), .val (.int r3), .val (.ref (ad V)), .val (.ref eb), .val (.int (Int32.ofNat cM))] [(.ref (ad V))]))
          refine Goes.by (fun t k => XS.iconst X.here hx rfl (hb hby d3_158) k) ?_
          show Goes p e below s _ _ _ (T.setTop (mkF m 159 #[.val (.ref a1), .val (.int (Int32.ofNat V)), .val (.int (Int32.ofNat N)), .val (.int (Int32.ofNat M)), .val (.int r0), .val (.int r1), .val (.int r2), .val (.int r3), .val (.ref (ad V)), .val (.ref eb), .val (.int (Int32.ofNat cM))] [(.int (2 : Int32)), (.ref (ad V))]))
          show Goes p e below s _ _ _ (T.setTop (mkF m 159 #[.val (.ref a1), .val (.int (Int32.ofNat V)), .val (.int (Int32.ofNat N)), .val (.int (Int32.ofNat M)), .val (.int r0), .val (.int r1), .val (.int r2), .val (.int r3), .val (.ref (ad V)), .val (.ref eb), .val (.int (Int32.ofNat cM))] [(.int (Int32.ofNat 2)), (.ref (ad V))]))
          refine Goes.by (fun t k => own_iaload X hx hZ eT (IV) (i := 2) (by omega) (by omega) (g := (mkF m 159 #[.val (.ref a1), .val (.int (Int32.ofNat V)), .val (.int (Int32.ofNat N)), .val (.int (Int32.ofNat M)), .val (.int r0), .val (.int r1), .val (.int r2), .val (.int r3), .val (.ref (ad V)), .val (.ref eb), .val (.int (Int32.ofNat cM))] [(.int (Int32.ofNat 2)), (.ref (ad V))])) rfl rfl (hb hby d3_159) k) ?_
          show Goes p e below s _ _ _ (T.setTop (mkF m 160 #[.val (.ref a1), .val (.int (Int32.ofNat V)), .val (.int (Int32.ofNat N)), .val (.int (Int32.ofNat M)), .val (.int r0), .val (.int r1), .val (.int r2), .val (.int r3), .val (.ref (ad V)), .val (.ref eb), .val (.int (Int32.ofNat cM))] [(.int (rows es M V 2))]))
          refine Goes.by (fun t k => XS.aload X.here hx rfl (hb hby d3_160) rfl rfl k) ?_
          show Goes p e below s _ _ _ (T.setTop (mkF m 162 #[.val (.ref a1), .val (.int (Int32.ofNat V)), .val (.int (Int32.ofNat N)), .val (.int (Int32.ofNat M)), .val (.int r0), .val (.int r1), .val (.int r2), .val (.int r3), .val (.ref (ad V)), .val (.ref eb), .val (.int (Int32.ofNat cM))] [(.ref eb), (.int (rows es M V 2))]))
          refine Goes.by (fun t k => XS.iconst X.here hx rfl (hb hby d3_162) k) ?_
          show Goes p e below s _ _ _ (T.setTop (mkF m 163 #[.val (.ref a1), .val (.int (Int32.ofNat V)), .val (.int (Int32.ofNat N)), .val (.int (Int32.ofNat M)), .val (.int r0), .val (.int r1), .val (.int r2), .val (.int r3), .val (.ref (ad V)), .val (.ref eb), .val (.int (Int32.ofNat cM))] [(.int (2 : Int32)), (.ref eb), (.int (rows es M V 2))]))
          show Goes p e below s _ _ _ (T.setTop (mkF m 163 #[.val (.ref a1), .val (.int (Int32.ofNat V)), .val (.int (Int32.ofNat N)), .val (.int (Int32.ofNat M)), .val (.int r0), .val (.int r1), .val (.int r2), .val (.int r3), .val (.ref (ad V)), .val (.ref eb), .val (.int (Int32.ofNat cM))] [(.int (Int32.ofNat 2)), (.ref eb), (.int (rows es M V 2))]))
          refine Goes.by (fun t k => own_iaload X hx hZ eT (B) (i := 2) (by omega) (by omega) (g := (mkF m 163 #[.val (.ref a1), .val (.int (Int32.ofNat V)), .val (.int (Int32.ofNat N)), .val (.int (Int32.ofNat M)), .val (.int r0), .val (.int r1), .val (.int r2), .val (.int r3), .val (.ref (ad V)), .val (.ref eb), .val (.int (Int32.ofNat cM))] [(.int (Int32.ofNat 2)), (.ref eb), (.int (rows es M V 2))])) rfl rfl (hb hby d3_163) k) ?_
          show Goes p e below s _ _ _ (T.setTop (mkF m 164 #[.val (.ref a1), .val (.int (Int32.ofNat V)), .val (.int (Int32.ofNat N)), .val (.int (Int32.ofNat M)), .val (.int r0), .val (.int r1), .val (.int r2), .val (.int r3), .val (.ref (ad V)), .val (.ref eb), .val (.int (Int32.ofNat cM))] [(.int (rows es M V 2)), (.int (rows es M V 2))]))
          refine Goes.by (fun t k => XS.icmpNo X.here hx rfl (hb hby d3_164) rfl (teq (rfl)).2 k) ?_
          show Goes p e below s _ _ _ (T.setTop (mkF m 167 #[.val (.ref a1), .val (.int (Int32.ofNat V)), .val (.int (Int32.ofNat N)), .val (.int (Int32.ofNat M)), .val (.int r0), .val (.int r1), .val (.int r2), .val (.int r3), .val (.ref (ad V)), .val (.ref eb), .val (.int (Int32.ofNat cM))] []))
          exact J167
      have J133 : Goes p e below s (Q3 h0 n0) ({ frames := 0, cells := 1, slots := 4, locals := 0 } : Room).cells ({ frames := 0, cells := 1, slots := 4, locals := 0 } : Room).slots (T.setTop (mkF m 133 #[.val (.ref a1), .val (.int (Int32.ofNat V)), .val (.int (Int32.ofNat N)), .val (.int (Int32.ofNat M)), .val (.int r0), .val (.int r1), .val (.int r2), .val (.int r3), .val (.ref (ad V)), .val (.ref eb), .val (.int (Int32.ofNat cM))] [])) := by
        show Goes p e below s _ _ _ (T.setTop (mkF m 133 #[.val (.ref a1), .val (.int (Int32.ofNat V)), .val (.int (Int32.ofNat N)), .val (.int (Int32.ofNat M)), .val (.int r0), .val (.int r1), .val (.int r2), .val (.int r3), .val (.ref (ad V)), .val (.ref eb), .val (.int (Int32.ofNat cM))] []))
        refine Goes.by (fun t k => XS.iload X.here hx rfl (hb hby d3_133) rfl k) ?_
        show Goes p e below s _ _ _ (T.setTop (mkF m 135 #[.val (.ref a1), .val (.int (Int32.ofNat V)), .val (.int (Int32.ofNat N)), .val (.int (Int32.ofNat M)), .val (.int r0), .val (.int r1), .val (.int r2), .val (.int r3), .val (.ref (ad V)), .val (.ref eb), .val (.int (Int32.ofNat cM))] [(.int (Int32.ofNat cM))]))
        refine Goes.by (fun t k => XS.iconst X.here hx rfl (hb hby d3_135) k) ?_
        show Goes p e below s _ _ _ (T.setTop (mkF m 136 #[.val (.ref a1), .val (.int (Int32.ofNat V)), .val (.int (Int32.ofNat N)), .val (.int (Int32.ofNat M)), .val (.int r0), .val (.int r1), .val (.int r2), .val (.int r3), .val (.ref (ad V)), .val (.ref eb), .val (.int (Int32.ofNat cM))] [(.int (2 : Int32)), (.int (Int32.ofNat cM))]))
        by_cases hq : cM < 2
        · skip
          show Goes p e below s _ _ _ (T.setTop (mkF m 136 #[.val (.ref a1), .val (.int (Int32.ofNat V)), .val (.int (Int32.ofNat N)), .val (.int (Int32.ofNat M)), .val (.int r0), .val (.int r1), .val (.int r2), .val (.int r3), .val (.ref (ad V)), .val (.ref eb), .val (.int (Int32.ofNat cM))] [(.int (Int32.ofNat 2)), (.int (Int32.ofNat cM))]))
          refine Goes.by (fun t k => XS.icmpYes X.here hx rfl (pc0 := 136) (pc' := 150) rfl (hb hby d3_136) rfl (tlt (own_ltN hq (by omega))).1 (by decide) (by decide) k) ?_
          show Goes p e below s _ _ _ (T.setTop (mkF m 150 #[.val (.ref a1), .val (.int (Int32.ofNat V)), .val (.int (Int32.ofNat N)), .val (.int (Int32.ofNat M)), .val (.int r0), .val (.int r1), .val (.int r2), .val (.int r3), .val (.ref (ad V)), .val (.ref eb), .val (.int (Int32.ofNat cM))] []))
          exact J150
        · skip
          show Goes p e below s _ _ _ (T.setTop (mkF m 136 #[.val (.ref a1), .val (.int (Int32.ofNat V)), .val (.int (Int32.ofNat N)), .val (.int (Int32.ofNat M)), .val (.int r0), .val (.int r1), .val (.int r2), .val (.int r3), .val (.ref (ad V)), .val (.ref eb), .val (.int (Int32.ofNat cM))] [(.int (Int32.ofNat 2)), (.int (Int32.ofNat cM))]))
          refine Goes.by (fun t k => XS.icmpNo X.here hx rfl (hb hby d3_136) rfl (flt (own_nltN hq (by omega))).1 k) ?_
          show Goes p e below s _ _ _ (T.setTop (mkF m 139 #[.val (.ref a1), .val (.int (Int32.ofNat V)), .val (.int (Int32.ofNat N)), .val (.int (Int32.ofNat M)), .val (.int r0), .val (.int r1), .val (.int r2), .val (.int r3), .val (.ref (ad V)), .val (.ref eb), .val (.int (Int32.ofNat cM))] []))
          refine Goes.by (fun t k => XS.aload X.here hx rfl (hb hby d3_139) rfl rfl k) ?_
          show Goes p e below s _ _ _ (T.setTop (mkF m 141 #[.val (.ref a1), .val (.int (Int32.ofNat V)), .val (.int (Int32.ofNat N)), .val (.int (Int32.ofNat M)), .val (.int r0), .val (.int r1), .val (.int r2), .val (.int r3), .val (.ref (ad V)), .val (.ref eb), .val (.int (Int32.ofNat cM))] [(.ref (ad V))]))
          refine Goes.by (fun t k => XS.iconst X.here hx rfl (hb hby d3_141) k) ?_
          show Goes p e below s _ _ _ (T.setTop (mkF m 142 #[.val (.ref a1), .val (.int (Int32.ofNat V)), .val (.int (Int32.ofNat N)), .val (.int (Int32.ofNat M)), .val (.int r0), .val (.int r1), .val (.int r2), .val (.int r3), .val (.ref (ad V)), .val (.ref eb), .val (.int (Int32.ofNat cM))] [(.int (1 : Int32)), (.ref (ad V))]))
          show Goes p e below s _ _ _ (T.setTop (mkF m 142 #[.val (.ref a1), .val (.int (Int32.ofNat V)), .val (.int (Int32.ofNat N)), .val (.int (Int32.ofNat M)), .val (.int r0), .val (.int r1), .val (.int r2), .val (.int r3), .val (.ref (ad V)), .val (.ref eb), .val (.int (Int32.ofNat cM))] [(.int (Int32.ofNat 1)), (.ref (ad V))]))
          refine Goes.by (fun t k => own_iaload X hx hZ eT (IV) (i := 1) (by omega) (by omega) (g := (mkF m 142 #[.val (.ref a1), .val (.int (Int32.ofNat V)), .val (.int (Int32.ofNat N)), .val (.int (Int32.ofNat M)), .val (.int r0), .val (.int r1), .val (.int r2), .val (.int r3), .val (.ref (ad V)), .val (.ref eb), .val (.int (Int32.ofNat cM))] [(.int (Int32.ofNat 1)), (.ref (ad V))])) rfl rfl (hb hby d3_142) k) ?_
          show Goes p e below s _ _ _ (T.setTop (mkF m 143 #[.val (.ref a1), .val (.int (Int32.ofNat V)), .val (.int (Int32.ofNat N)), .val (.int (Int32.ofNat M)), .val (.int r0), .val (.int r1), .val (.int r2), .val (.int r3), .val (.ref (ad V)), .val (.ref eb), .val (.int (Int32.ofNat cM))] [(.int (rows es M V 1))]))
          refine Goes.by (fun t k => XS.aload X.here hx rfl (hb hby d3_143) rfl rfl k) ?_
          show Goes p e below s _ _ _ (T.setTop (mkF m 145 #[.val (.ref a1), .val (.int (Int32.ofNat V)), .val (.int (Int32.ofNat N)), .val (.int (Int32.ofNat M)), .val (.int r0), .val (.int r1), .val (.int r2), .val (.int r3), .val (.ref (ad V)), .val (.ref eb), .val (.int (Int32.ofNat cM))] [(.ref eb), (.int (rows es M V 1))]))
          refine Goes.by (fun t k => XS.iconst X.here hx rfl (hb hby d3_145) k) ?_
          show Goes p e below s _ _ _ (T.setTop (mkF m 146 #[.val (.ref a1), .val (.int (Int32.ofNat V)), .val (.int (Int32.ofNat N)), .val (.int (Int32.ofNat M)), .val (.int r0), .val (.int r1), .val (.int r2), .val (.int r3), .val (.ref (ad V)), .val (.ref eb), .val (.int (Int32.ofNat cM))] [(.int (1 : Int32)), (.ref eb), (.int (rows es M V 1))]))
          show Goes p e below s _ _ _ (T.setTop (mkF m 146 #[.val (.ref a1), .val (.int (Int32.ofNat V)), .val (.int (Int32.ofNat N)), .val (.int (Int32.ofNat M)), .val (.int r0), .val (.int r1), .val (.int r2), .val (.int r3), .val (.ref (ad V)), .val (.ref eb), .val (.int (Int32.ofNat cM))] [(.int (Int32.ofNat 1)), (.ref eb), (.int (rows es M V 1))]))
          refine Goes.by (fun t k => own_iaload X hx hZ eT (B) (i := 1) (by omega) (by omega) (g := (mkF m 146 #[.val (.ref a1), .val (.int (Int32.ofNat V)), .val (.int (Int32.ofNat N)), .val (.int (Int32.ofNat M)), .val (.int r0), .val (.int r1), .val (.int r2), .val (.int r3), .val (.ref (ad V)), .val (.ref eb), .val (.int (Int32.ofNat cM))] [(.int (Int32.ofNat 1)), (.ref eb), (.int (rows es M V 1))])) rfl rfl (hb hby d3_146) k) ?_
          show Goes p e below s _ _ _ (T.setTop (mkF m 147 #[.val (.ref a1), .val (.int (Int32.ofNat V)), .val (.int (Int32.ofNat N)), .val (.int (Int32.ofNat M)), .val (.int r0), .val (.int r1), .val (.int r2), .val (.int r3), .val (.ref (ad V)), .val (.ref eb), .val (.int (Int32.ofNat cM))] [(.int (rows es M V 1)), (.int (rows es M V 1))]))
          refine Goes.by (fun t k => XS.icmpNo X.here hx rfl (hb hby d3_147) rfl (teq (rfl)).2 k) ?_
          show Goes p e below s _ _ _ (T.setTop (mkF m 150 #[.val (.ref a1), .val (.int (Int32.ofNat V)), .val (.int (Int32.ofNat N)), .val (.int (Int32.ofNat M)), .val (.int r0), .val (.int r1), .val (.int r2), .val (.int r3), .val (.ref (ad V)), .val (.ref eb), .val (.int (Int32.ofNat cM))] []))
          exact J150
      refine Goes.by (fun t k => XS.iload X.here hx rfl (hb hby d3_116) rfl k) ?_
      show Goes p e below s _ _ _ (T.setTop (mkF m 118 #[.val (.ref a1), .val (.int (Int32.ofNat V)), .val (.int (Int32.ofNat N)), .val (.int (Int32.ofNat M)), .val (.int r0), .val (.int r1), .val (.int r2), .val (.int r3), .val (.ref (ad V)), .val (.ref eb), .val (.int (Int32.ofNat cM))] [(.int (Int32.ofNat cM))]))
      refine Goes.by (fun t k => XS.iconst X.here hx rfl (hb hby d3_118) k) ?_
      show Goes p e below s _ _ _ (T.setTop (mkF m 119 #[.val (.ref a1), .val (.int (Int32.ofNat V)), .val (.int (Int32.ofNat N)), .val (.int (Int32.ofNat M)), .val (.int r0), .val (.int r1), .val (.int r2), .val (.int r3), .val (.ref (ad V)), .val (.ref eb), .val (.int (Int32.ofNat cM))] [(.int (1 : Int32)), (.int (Int32.ofNat cM))]))
      by_cases hq : cM < 1
      · skip
        show Goes p e below s _ _ _ (T.setTop (mkF m 119 #[.val (.ref a1), .val (.int (Int32.ofNat V)), .val (.int (Int32.ofNat N)), .val (.int (Int32.ofNat M)), .val (.int r0), .val (.int r1), .val (.int r2), .val (.int r3), .val (.ref (ad V)), .val (.ref eb), .val (.int (Int32.ofNat cM))] [(.int (Int32.ofNat 1)), (.int (Int32.ofNat cM))]))
        refine Goes.by (fun t k => XS.icmpYes X.here hx rfl (pc0 := 119) (pc' := 133) rfl (hb hby d3_119) rfl (tlt (own_ltN hq (by omega))).1 (by decide) (by decide) k) ?_
        show Goes p e below s _ _ _ (T.setTop (mkF m 133 #[.val (.ref a1), .val (.int (Int32.ofNat V)), .val (.int (Int32.ofNat N)), .val (.int (Int32.ofNat M)), .val (.int r0), .val (.int r1), .val (.int r2), .val (.int r3), .val (.ref (ad V)), .val (.ref eb), .val (.int (Int32.ofNat cM))] []))
        exact J133
      · skip
        show Goes p e below s _ _ _ (T.setTop (mkF m 119 #[.val (.ref a1), .val (.int (Int32.ofNat V)), .val (.int (Int32.ofNat N)), .val (.int (Int32.ofNat M)), .val (.int r0), .val (.int r1), .val (.int r2), .val (.int r3), .val (.ref (ad V)), .val (.ref eb), .val (.int (Int32.ofNat cM))] [(.int (Int32.ofNat 1)), (.int (Int32.ofNat cM))]))
        refine Goes.by (fun t k => XS.icmpNo X.here hx rfl (hb hby d3_119) rfl (flt (own_nltN hq (by omega))).1 k) ?_
        show Goes p e below s _ _ _ (T.setTop (mkF m 122 #[.val (.ref a1), .val (.int (Int32.ofNat V)), .val (.int (Int32.ofNat N)), .val (.int (Int32.ofNat M)), .val (.int r0), .val (.int r1), .val (.int r2), .val (.int r3), .val (.ref (ad V)), .val (.ref eb), .val (.int (Int32.ofNat cM))] []))
        refine Goes.by (fun t k => XS.aload X.here hx rfl (hb hby d3_122) rfl rfl k) ?_
        show Goes p e below s _ _ _ (T.setTop (mkF m 124 #[.val (.ref a1), .val (.int (Int32.ofNat V)), .val (.int (Int32.ofNat N)), .val (.int (Int32.ofNat M)), .val (.int r0), .val (.int r1), .val (.int r2), .val (.int r3), .val (.ref (ad V)), .val (.ref eb), .val (.int (Int32.ofNat cM))] [(.ref (ad V))]))
        refine Goes.by (fun t k => XS.iconst X.here hx rfl (hb hby d3_124) k) ?_
        show Goes p e below s _ _ _ (T.setTop (mkF m 125 #[.val (.ref a1), .val (.int (Int32.ofNat V)), .val (.int (Int32.ofNat N)), .val (.int (Int32.ofNat M)), .val (.int r0), .val (.int r1), .val (.int r2), .val (.int r3), .val (.ref (ad V)), .val (.ref eb), .val (.int (Int32.ofNat cM))] [(.int (0 : Int32)), (.ref (ad V))]))
        show Goes p e below s _ _ _ (T.setTop (mkF m 125 #[.val (.ref a1), .val (.int (Int32.ofNat V)), .val (.int (Int32.ofNat N)), .val (.int (Int32.ofNat M)), .val (.int r0), .val (.int r1), .val (.int r2), .val (.int r3), .val (.ref (ad V)), .val (.ref eb), .val (.int (Int32.ofNat cM))] [(.int (Int32.ofNat 0)), (.ref (ad V))]))
        refine Goes.by (fun t k => own_iaload X hx hZ eT (IV) (i := 0) (by omega) (by omega) (g := (mkF m 125 #[.val (.ref a1), .val (.int (Int32.ofNat V)), .val (.int (Int32.ofNat N)), .val (.int (Int32.ofNat M)), .val (.int r0), .val (.int r1), .val (.int r2), .val (.int r3), .val (.ref (ad V)), .val (.ref eb), .val (.int (Int32.ofNat cM))] [(.int (Int32.ofNat 0)), (.ref (ad V))])) rfl rfl (hb hby d3_125) k) ?_
        show Goes p e below s _ _ _ (T.setTop (mkF m 126 #[.val (.ref a1), .val (.int (Int32.ofNat V)), .val (.int (Int32.ofNat N)), .val (.int (Int32.ofNat M)), .val (.int r0), .val (.int r1), .val (.int r2), .val (.int r3), .val (.ref (ad V)), .val (.ref eb), .val (.int (Int32.ofNat cM))] [(.int (rows es M V 0))]))
        refine Goes.by (fun t k => XS.aload X.here hx rfl (hb hby d3_126) rfl rfl k) ?_
        show Goes p e below s _ _ _ (T.setTop (mkF m 128 #[.val (.ref a1), .val (.int (Int32.ofNat V)), .val (.int (Int32.ofNat N)), .val (.int (Int32.ofNat M)), .val (.int r0), .val (.int r1), .val (.int r2), .val (.int r3), .val (.ref (ad V)), .val (.ref eb), .val (.int (Int32.ofNat cM))] [(.ref eb), (.int (rows es M V 0))]))
        refine Goes.by (fun t k => XS.iconst X.here hx rfl (hb hby d3_128) k) ?_
        show Goes p e below s _ _ _ (T.setTop (mkF m 129 #[.val (.ref a1), .val (.int (Int32.ofNat V)), .val (.int (Int32.ofNat N)), .val (.int (Int32.ofNat M)), .val (.int r0), .val (.int r1), .val (.int r2), .val (.int r3), .val (.ref (ad V)), .val (.ref eb), .val (.int (Int32.ofNat cM))] [(.int (0 : Int32)), (.ref eb), (.int (rows es M V 0))]))
        show Goes p e below s _ _ _ (T.setTop (mkF m 129 #[.val (.ref a1), .val (.int (Int32.ofNat V)), .val (.int (Int32.ofNat N)), .val (.int (Int32.ofNat M)), .val (.int r0), .val (.int r1), .val (.int r2), .val (.int r3), .val (.ref (ad V)), .val (.ref eb), .val (.int (Int32.ofNat cM))] [(.int (Int32.ofNat 0)), (.ref eb), (.int (rows es M V 0))]))
        refine Goes.by (fun t k => own_iaload X hx hZ eT (B) (i := 0) (by omega) (by omega) (g := (mkF m 129 #[.val (.ref a1), .val (.int (Int32.ofNat V)), .val (.int (Int32.ofNat N)), .val (.int (Int32.ofNat M)), .val (.int r0), .val (.int r1), .val (.int r2), .val (.int r3), .val (.ref (ad V)), .val (.ref eb), .val (.int (Int32.ofNat cM))] [(.int (Int32.ofNat 0)), (.ref eb), (.int (rows es M V 0))])) rfl rfl (hb hby d3_129) k) ?_
        show Goes p e below s _ _ _ (T.setTop (mkF m 130 #[.val (.ref a1), .val (.int (Int32.ofNat V)), .val (.int (Int32.ofNat N)), .val (.int (Int32.ofNat M)), .val (.int r0), .val (.int r1), .val (.int r2), .val (.int r3), .val (.ref (ad V)), .val (.ref eb), .val (.int (Int32.ofNat cM))] [(.int (rows es M V 0)), (.int (rows es M V 0))]))
        refine Goes.by (fun t k => XS.icmpNo X.here hx rfl (hb hby d3_130) rfl (teq (rfl)).2 k) ?_
        show Goes p e below s _ _ _ (T.setTop (mkF m 133 #[.val (.ref a1), .val (.int (Int32.ofNat V)), .val (.int (Int32.ofNat N)), .val (.int (Int32.ofNat M)), .val (.int r0), .val (.int r1), .val (.int r2), .val (.int r3), .val (.ref (ad V)), .val (.ref eb), .val (.int (Int32.ofNat cM))] []))
        exact J133
    have m4 : min 4 M = M := by omega
    have J106' := J106
    have J106m : ∀ (T : State) (locs : List Loc) (h : Heap), Stand p l e ({ frames := 0, cells := 1, slots := 4, locals := 0 } : Room) s m #[(.ref a1), (.int (Int32.ofNat V)), (.int (Int32.ofNat N)), (.int (Int32.ofNat M)), (.int r0), (.int r1), (.int r2), (.int r3)] below meth c T locs (0 + 1) (0 + 4) → T.heap = h → Fr n0 locs → Keep h0 h [] → IA Z h (ad V) cM (rows es M V) → IA Z h eb 4 (rows es (min 4 M) V) → Goes p e below s (Q3 h0 n0) ({ frames := 0, cells := 1, slots := 4, locals := 0 } : Room).cells ({ frames := 0, cells := 1, slots := 4, locals := 0 } : Room).slots (T.setTop (mkF m 106 #[.val (.ref a1), .val (.int (Int32.ofNat V)), .val (.int (Int32.ofNat N)), .val (.int (Int32.ofNat M)), .val (.int r0), .val (.int r1), .val (.int r2), .val (.int r3), .val (.ref (ad V)), .val (.ref eb), .val (.int (Int32.ofNat (cnt es (min 4 M) V)))] [])) := by
      intro T locs h X eT NN K IV B
      show Goes p e below s _ _ _ (T.setTop (mkF m 106 #[.val (.ref a1), .val (.int (Int32.ofNat V)), .val (.int (Int32.ofNat N)), .val (.int (Int32.ofNat M)), .val (.int r0), .val (.int r1), .val (.int r2), .val (.int r3), .val (.ref (ad V)), .val (.ref eb), .val (.int (Int32.ofNat (cnt es (min 4 M) V)))] []))
      have e4 : cnt es (min 4 M) V = cM := by rw [hcM, show min 4 M = M by omega]
      have e5 : rows es (min 4 M) V = rows es M V := by rw [show min 4 M = M by omega]
      rw [e4]
      rw [e5] at B
      exact J106 _ _ _ X eT NN K IV B
    have J86 : ∀ (T : State) (locs : List Loc) (h : Heap), Stand p l e ({ frames := 0, cells := 1, slots := 4, locals := 0 } : Room) s m #[(.ref a1), (.int (Int32.ofNat V)), (.int (Int32.ofNat N)), (.int (Int32.ofNat M)), (.int r0), (.int r1), (.int r2), (.int r3)] below meth c T locs (0 + 1) (0 + 4) → T.heap = h → Fr n0 locs → Keep h0 h [] → IA Z h (ad V) cM (rows es M V) → IA Z h eb 4 (rows es (min 3 M) V) → Goes p e below s (Q3 h0 n0) ({ frames := 0, cells := 1, slots := 4, locals := 0 } : Room).cells ({ frames := 0, cells := 1, slots := 4, locals := 0 } : Room).slots (T.setTop (mkF m 86 #[.val (.ref a1), .val (.int (Int32.ofNat V)), .val (.int (Int32.ofNat N)), .val (.int (Int32.ofNat M)), .val (.int r0), .val (.int r1), .val (.int r2), .val (.int r3), .val (.ref (ad V)), .val (.ref eb), .val (.int (Int32.ofNat (cnt es (min 3 M) V)))] [])) := by
      intro T locs h X eT NN K IV B
      show Goes p e below s _ _ _ (T.setTop (mkF m 86 #[.val (.ref a1), .val (.int (Int32.ofNat V)), .val (.int (Int32.ofNat N)), .val (.int (Int32.ofNat M)), .val (.int r0), .val (.int r1), .val (.int r2), .val (.int r3), .val (.ref (ad V)), .val (.ref eb), .val (.int (Int32.ofNat (cnt es (min 3 M) V)))] []))
      refine Goes.by (fun t k => XS.iloadN X.here hx rfl (hb hby d3_86) rfl k) ?_
      show Goes p e below s _ _ _ (T.setTop (mkF m 87 #[.val (.ref a1), .val (.int (Int32.ofNat V)), .val (.int (Int32.ofNat N)), .val (.int (Int32.ofNat M)), .val (.int r0), .val (.int r1), .val (.int r2), .val (.int r3), .val (.ref (ad V)), .val (.ref eb), .val (.int (Int32.ofNat (cnt es (min 3 M) V)))] [(.int (Int32.ofNat M))]))
      refine Goes.by (fun t k => XS.iconst X.here hx rfl (hb hby d3_87) k) ?_
      show Goes p e below s _ _ _ (T.setTop (mkF m 88 #[.val (.ref a1), .val (.int (Int32.ofNat V)), .val (.int (Int32.ofNat N)), .val (.int (Int32.ofNat M)), .val (.int r0), .val (.int r1), .val (.int r2), .val (.int r3), .val (.ref (ad V)), .val (.ref eb), .val (.int (Int32.ofNat (cnt es (min 3 M) V)))] [(.int (3 : Int32)), (.int (Int32.ofNat M))]))
      by_cases hm : 3 < M
      · skip
        show Goes p e below s _ _ _ (T.setTop (mkF m 88 #[.val (.ref a1), .val (.int (Int32.ofNat V)), .val (.int (Int32.ofNat N)), .val (.int (Int32.ofNat M)), .val (.int r0), .val (.int r1), .val (.int r2), .val (.int r3), .val (.ref (ad V)), .val (.ref eb), .val (.int (Int32.ofNat (cnt es (min 3 M) V)))] [(.int (Int32.ofNat 3)), (.int (Int32.ofNat M))]))
        have mi : min 3 M = 3 := by omega
        have mi1 : min 4 M = 4 := by omega
        refine Goes.by (fun t k => XS.icmpNo X.here hx rfl (hb hby d3_88) rfl (tlt (own_ltN (i := 3) hm (by omega))).2.2.2 k) ?_
        show Goes p e below s _ _ _ (T.setTop (mkF m 91 #[.val (.ref a1), .val (.int (Int32.ofNat V)), .val (.int (Int32.ofNat N)), .val (.int (Int32.ofNat M)), .val (.int r0), .val (.int r1), .val (.int r2), .val (.int r3), .val (.ref (ad V)), .val (.ref eb), .val (.int (Int32.ofNat (cnt es (min 3 M) V)))] []))
        refine Goes.by (fun t k => XS.iload X.here hx rfl (hb hby d3_91) rfl k) ?_
        show Goes p e below s _ _ _ (T.setTop (mkF m 93 #[.val (.ref a1), .val (.int (Int32.ofNat V)), .val (.int (Int32.ofNat N)), .val (.int (Int32.ofNat M)), .val (.int r0), .val (.int r1), .val (.int r2), .val (.int r3), .val (.ref (ad V)), .val (.ref eb), .val (.int (Int32.ofNat (cnt es (min 3 M) V)))] [(.int r3)]))
        refine Goes.by (fun t k => XS.iloadN X.here hx rfl (hb hby d3_93) rfl k) ?_
        show Goes p e below s _ _ _ (T.setTop (mkF m 94 #[.val (.ref a1), .val (.int (Int32.ofNat V)), .val (.int (Int32.ofNat N)), .val (.int (Int32.ofNat M)), .val (.int r0), .val (.int r1), .val (.int r2), .val (.int r3), .val (.ref (ad V)), .val (.ref eb), .val (.int (Int32.ofNat (cnt es (min 3 M) V)))] [(.int (Int32.ofNat V)), (.int r3)]))
        by_cases he : es 3 = V
        · skip
          refine Goes.by (fun t k => XS.icmpNo X.here hx rfl (hb hby d3_94) rfl (teq (by rw [h_3, he])).2 k) ?_
          show Goes p e below s _ _ _ (T.setTop (mkF m 97 #[.val (.ref a1), .val (.int (Int32.ofNat V)), .val (.int (Int32.ofNat N)), .val (.int (Int32.ofNat M)), .val (.int r0), .val (.int r1), .val (.int r2), .val (.int r3), .val (.ref (ad V)), .val (.ref eb), .val (.int (Int32.ofNat (cnt es (min 3 M) V)))] []))
          refine Goes.by (fun t k => XS.aload X.here hx rfl (hb hby d3_97) rfl rfl k) ?_
          show Goes p e below s _ _ _ (T.setTop (mkF m 99 #[.val (.ref a1), .val (.int (Int32.ofNat V)), .val (.int (Int32.ofNat N)), .val (.int (Int32.ofNat M)), .val (.int r0), .val (.int r1), .val (.int r2), .val (.int r3), .val (.ref (ad V)), .val (.ref eb), .val (.int (Int32.ofNat (cnt es (min 3 M) V)))] [(.ref eb)]))
          refine Goes.by (fun t k => XS.iload X.here hx rfl (hb hby d3_99) rfl k) ?_
          show Goes p e below s _ _ _ (T.setTop (mkF m 101 #[.val (.ref a1), .val (.int (Int32.ofNat V)), .val (.int (Int32.ofNat N)), .val (.int (Int32.ofNat M)), .val (.int r0), .val (.int r1), .val (.int r2), .val (.int r3), .val (.ref (ad V)), .val (.ref eb), .val (.int (Int32.ofNat (cnt es (min 3 M) V)))] [(.int (Int32.ofNat (cnt es (min 3 M) V))), (.ref eb)]))
          refine Goes.by (fun t k => XS.iconst X.here hx rfl (hb hby d3_101) k) ?_
          show Goes p e below s _ _ _ (T.setTop (mkF m 102 #[.val (.ref a1), .val (.int (Int32.ofNat V)), .val (.int (Int32.ofNat N)), .val (.int (Int32.ofNat M)), .val (.int r0), .val (.int r1), .val (.int r2), .val (.int r3), .val (.ref (ad V)), .val (.ref eb), .val (.int (Int32.ofNat (cnt es (min 3 M) V)))] [(.int (3 : Int32)), (.int (Int32.ofNat (cnt es (min 3 M) V))), (.ref eb)]))
          have hk4 : cnt es 3 V < 4 := Nat.lt_of_le_of_lt (cnt_le es V 3) (by omega)
          rw [mi]
          show Goes p e below s _ _ _ (T.setTop (mkF m 102 #[.val (.ref a1), .val (.int (Int32.ofNat V)), .val (.int (Int32.ofNat N)), .val (.int (Int32.ofNat M)), .val (.int r0), .val (.int r1), .val (.int r2), .val (.int r3), .val (.ref (ad V)), .val (.ref eb), .val (.int (Int32.ofNat (cnt es 3 V)))] [(.int (Int32.ofNat 3)), (.int (Int32.ofNat (cnt es 3 V))), (.ref eb)]))
          have B' : IA Z h eb 4 (rows es 3 V) := by rw [← mi]; exact B
          obtain ⟨T2, h2, X2, e2, W2, I2, st2⟩ := own_iastore X hx hZ eT (B') (i := cnt es 3 V) (hk4) (by omega) (g := (mkF m 102 #[.val (.ref a1), .val (.int (Int32.ofNat V)), .val (.int (Int32.ofNat N)), .val (.int (Int32.ofNat M)), .val (.int r0), .val (.int r1), .val (.int r2), .val (.int r3), .val (.ref (ad V)), .val (.ref eb), .val (.int (Int32.ofNat (cnt es 3 V)))] [(.int (Int32.ofNat 3)), (.int (Int32.ofNat (cnt es 3 V))), (.ref eb)])) rfl rfl (hb hby d3_102)
          refine Goes.by (fun t k => st2 t k) ?_
          show Goes p e below s _ _ _ (T2.setTop (mkF m 103 #[.val (.ref a1), .val (.int (Int32.ofNat V)), .val (.int (Int32.ofNat N)), .val (.int (Int32.ofNat M)), .val (.int r0), .val (.int r1), .val (.int r2), .val (.int r3), .val (.ref (ad V)), .val (.ref eb), .val (.int (Int32.ofNat (cnt es 3 V)))] []))
          have N2 := Fr.snoc X2 NN (geb)
          refine Goes.by (fun t k => XS.iinc X2.here hx rfl (hb hby d3_103) rfl (l' := #[.val (.ref a1), .val (.int (Int32.ofNat V)), .val (.int (Int32.ofNat N)), .val (.int (Int32.ofNat M)), .val (.int r0), .val (.int r1), .val (.int r2), .val (.int r3), .val (.ref (ad V)), .val (.ref eb), .val (.int ((Int32.ofNat (cnt es 3 V)) + (1 : Int32)))]) rfl k) ?_
          show Goes p e below s _ _ _ (T2.setTop (mkF m 106 #[.val (.ref a1), .val (.int (Int32.ofNat V)), .val (.int (Int32.ofNat N)), .val (.int (Int32.ofNat M)), .val (.int r0), .val (.int r1), .val (.int r2), .val (.int r3), .val (.ref (ad V)), .val (.ref eb), .val (.int ((Int32.ofNat (cnt es 3 V)) + (1 : Int32)))] []))
          rw [← inc_ofNat, ← cnt_hit es he]
          show Goes p e below s _ _ _ (T2.setTop (mkF m 106 #[.val (.ref a1), .val (.int (Int32.ofNat V)), .val (.int (Int32.ofNat N)), .val (.int (Int32.ofNat M)), .val (.int r0), .val (.int r1), .val (.int r2), .val (.int r3), .val (.ref (ad V)), .val (.ref eb), .val (.int (Int32.ofNat (cnt es 4 V)))] []))
          have B2 : IA Z h2 eb 4 (rows es 4 V) := by subst he; exact I2.congr rfl fun k _ => rows_hit es 3 k
          have e10 : Int32.ofNat (cnt es 4 V) = Int32.ofNat (cnt es (min 4 M) V) := by rw [mi1]
          rw [e10]
          exact J106m _ _ _ X2 e2 N2 (K.wr W2 (Or.inr seb)) (IV.other W2 nge) (by rw [mi1]; exact B2)
        · skip
          refine Goes.by (fun t k => XS.icmpYes X.here hx rfl (pc0 := 94) (pc' := 106) rfl (hb hby d3_94) rfl (feq (fun z => he (own_inj (Nat.lt_of_le_of_lt (hle 3) (by omega)) (by omega) (h_3.symm.trans z)))).2 (by decide) (by decide) k) ?_
          show Goes p e below s _ _ _ (T.setTop (mkF m 106 #[.val (.ref a1), .val (.int (Int32.ofNat V)), .val (.int (Int32.ofNat N)), .val (.int (Int32.ofNat M)), .val (.int r0), .val (.int r1), .val (.int r2), .val (.int r3), .val (.ref (ad V)), .val (.ref eb), .val (.int (Int32.ofNat (cnt es (min 3 M) V)))] []))
          have e10 : cnt es (min 4 M) V = cnt es (min 3 M) V := by rw [mi1, mi, cnt_miss es he]
          have e11 : rows es (min 4 M) V = rows es (min 3 M) V := by rw [mi1, mi]; exact (funext fun k => rows_miss es he k).symm
          rw [← e10]
          exact J106m _ _ _ X eT NN K IV (by rw [e11]; exact B)
      · skip
        show Goes p e below s _ _ _ (T.setTop (mkF m 88 #[.val (.ref a1), .val (.int (Int32.ofNat V)), .val (.int (Int32.ofNat N)), .val (.int (Int32.ofNat M)), .val (.int r0), .val (.int r1), .val (.int r2), .val (.int r3), .val (.ref (ad V)), .val (.ref eb), .val (.int (Int32.ofNat (cnt es (min 3 M) V)))] [(.int (Int32.ofNat 3)), (.int (Int32.ofNat M))]))
        have mi : min 3 M = M := by omega
        have mi1 : min 4 M = M := by omega
        refine Goes.by (fun t k => XS.icmpYes X.here hx rfl (pc0 := 88) (pc' := 106) rfl (hb hby d3_88) rfl (flt (fun z => hm (own_ltR z (by omega) (by omega)))).2.2.2 (by decide) (by decide) k) ?_
        show Goes p e below s _ _ _ (T.setTop (mkF m 106 #[.val (.ref a1), .val (.int (Int32.ofNat V)), .val (.int (Int32.ofNat N)), .val (.int (Int32.ofNat M)), .val (.int r0), .val (.int r1), .val (.int r2), .val (.int r3), .val (.ref (ad V)), .val (.ref eb), .val (.int (Int32.ofNat (cnt es (min 3 M) V)))] []))
        have e10 : cnt es (min 4 M) V = cnt es (min 3 M) V := by rw [mi1, mi]
        have e11 : rows es (min 4 M) V = rows es (min 3 M) V := by rw [mi1, mi]
        rw [← e10]
        exact J106m _ _ _ X eT NN K IV (by rw [e11]; exact B)
    have J66 : ∀ (T : State) (locs : List Loc) (h : Heap), Stand p l e ({ frames := 0, cells := 1, slots := 4, locals := 0 } : Room) s m #[(.ref a1), (.int (Int32.ofNat V)), (.int (Int32.ofNat N)), (.int (Int32.ofNat M)), (.int r0), (.int r1), (.int r2), (.int r3)] below meth c T locs (0 + 1) (0 + 4) → T.heap = h → Fr n0 locs → Keep h0 h [] → IA Z h (ad V) cM (rows es M V) → IA Z h eb 4 (rows es (min 2 M) V) → Goes p e below s (Q3 h0 n0) ({ frames := 0, cells := 1, slots := 4, locals := 0 } : Room).cells ({ frames := 0, cells := 1, slots := 4, locals := 0 } : Room).slots (T.setTop (mkF m 66 #[.val (.ref a1), .val (.int (Int32.ofNat V)), .val (.int (Int32.ofNat N)), .val (.int (Int32.ofNat M)), .val (.int r0), .val (.int r1), .val (.int r2), .val (.int r3), .val (.ref (ad V)), .val (.ref eb), .val (.int (Int32.ofNat (cnt es (min 2 M) V)))] [])) := by
      intro T locs h X eT NN K IV B
      show Goes p e below s _ _ _ (T.setTop (mkF m 66 #[.val (.ref a1), .val (.int (Int32.ofNat V)), .val (.int (Int32.ofNat N)), .val (.int (Int32.ofNat M)), .val (.int r0), .val (.int r1), .val (.int r2), .val (.int r3), .val (.ref (ad V)), .val (.ref eb), .val (.int (Int32.ofNat (cnt es (min 2 M) V)))] []))
      refine Goes.by (fun t k => XS.iloadN X.here hx rfl (hb hby d3_66) rfl k) ?_
      show Goes p e below s _ _ _ (T.setTop (mkF m 67 #[.val (.ref a1), .val (.int (Int32.ofNat V)), .val (.int (Int32.ofNat N)), .val (.int (Int32.ofNat M)), .val (.int r0), .val (.int r1), .val (.int r2), .val (.int r3), .val (.ref (ad V)), .val (.ref eb), .val (.int (Int32.ofNat (cnt es (min 2 M) V)))] [(.int (Int32.ofNat M))]))
      refine Goes.by (fun t k => XS.iconst X.here hx rfl (hb hby d3_67) k) ?_
      show Goes p e below s _ _ _ (T.setTop (mkF m 68 #[.val (.ref a1), .val (.int (Int32.ofNat V)), .val (.int (Int32.ofNat N)), .val (.int (Int32.ofNat M)), .val (.int r0), .val (.int r1), .val (.int r2), .val (.int r3), .val (.ref (ad V)), .val (.ref eb), .val (.int (Int32.ofNat (cnt es (min 2 M) V)))] [(.int (2 : Int32)), (.int (Int32.ofNat M))]))
      by_cases hm : 2 < M
      · skip
        show Goes p e below s _ _ _ (T.setTop (mkF m 68 #[.val (.ref a1), .val (.int (Int32.ofNat V)), .val (.int (Int32.ofNat N)), .val (.int (Int32.ofNat M)), .val (.int r0), .val (.int r1), .val (.int r2), .val (.int r3), .val (.ref (ad V)), .val (.ref eb), .val (.int (Int32.ofNat (cnt es (min 2 M) V)))] [(.int (Int32.ofNat 2)), (.int (Int32.ofNat M))]))
        have mi : min 2 M = 2 := by omega
        have mi1 : min 3 M = 3 := by omega
        refine Goes.by (fun t k => XS.icmpNo X.here hx rfl (hb hby d3_68) rfl (tlt (own_ltN (i := 2) hm (by omega))).2.2.2 k) ?_
        show Goes p e below s _ _ _ (T.setTop (mkF m 71 #[.val (.ref a1), .val (.int (Int32.ofNat V)), .val (.int (Int32.ofNat N)), .val (.int (Int32.ofNat M)), .val (.int r0), .val (.int r1), .val (.int r2), .val (.int r3), .val (.ref (ad V)), .val (.ref eb), .val (.int (Int32.ofNat (cnt es (min 2 M) V)))] []))
        refine Goes.by (fun t k => XS.iload X.here hx rfl (hb hby d3_71) rfl k) ?_
        show Goes p e below s _ _ _ (T.setTop (mkF m 73 #[.val (.ref a1), .val (.int (Int32.ofNat V)), .val (.int (Int32.ofNat N)), .val (.int (Int32.ofNat M)), .val (.int r0), .val (.int r1), .val (.int r2), .val (.int r3), .val (.ref (ad V)), .val (.ref eb), .val (.int (Int32.ofNat (cnt es (min 2 M) V)))] [(.int r2)]))
        refine Goes.by (fun t k => XS.iloadN X.here hx rfl (hb hby d3_73) rfl k) ?_
        show Goes p e below s _ _ _ (T.setTop (mkF m 74 #[.val (.ref a1), .val (.int (Int32.ofNat V)), .val (.int (Int32.ofNat N)), .val (.int (Int32.ofNat M)), .val (.int r0), .val (.int r1), .val (.int r2), .val (.int r3), .val (.ref (ad V)), .val (.ref eb), .val (.int (Int32.ofNat (cnt es (min 2 M) V)))] [(.int (Int32.ofNat V)), (.int r2)]))
        by_cases he : es 2 = V
        · skip
          refine Goes.by (fun t k => XS.icmpNo X.here hx rfl (hb hby d3_74) rfl (teq (by rw [h_2, he])).2 k) ?_
          show Goes p e below s _ _ _ (T.setTop (mkF m 77 #[.val (.ref a1), .val (.int (Int32.ofNat V)), .val (.int (Int32.ofNat N)), .val (.int (Int32.ofNat M)), .val (.int r0), .val (.int r1), .val (.int r2), .val (.int r3), .val (.ref (ad V)), .val (.ref eb), .val (.int (Int32.ofNat (cnt es (min 2 M) V)))] []))
          refine Goes.by (fun t k => XS.aload X.here hx rfl (hb hby d3_77) rfl rfl k) ?_
          show Goes p e below s _ _ _ (T.setTop (mkF m 79 #[.val (.ref a1), .val (.int (Int32.ofNat V)), .val (.int (Int32.ofNat N)), .val (.int (Int32.ofNat M)), .val (.int r0), .val (.int r1), .val (.int r2), .val (.int r3), .val (.ref (ad V)), .val (.ref eb), .val (.int (Int32.ofNat (cnt es (min 2 M) V)))] [(.ref eb)]))
          refine Goes.by (fun t k => XS.iload X.here hx rfl (hb hby d3_79) rfl k) ?_
          show Goes p e below s _ _ _ (T.setTop (mkF m 81 #[.val (.ref a1), .val (.int (Int32.ofNat V)), .val (.int (Int32.ofNat N)), .val (.int (Int32.ofNat M)), .val (.int r0), .val (.int r1), .val (.int r2), .val (.int r3), .val (.ref (ad V)), .val (.ref eb), .val (.int (Int32.ofNat (cnt es (min 2 M) V)))] [(.int (Int32.ofNat (cnt es (min 2 M) V))), (.ref eb)]))
          refine Goes.by (fun t k => XS.iconst X.here hx rfl (hb hby d3_81) k) ?_
          show Goes p e below s _ _ _ (T.setTop (mkF m 82 #[.val (.ref a1), .val (.int (Int32.ofNat V)), .val (.int (Int32.ofNat N)), .val (.int (Int32.ofNat M)), .val (.int r0), .val (.int r1), .val (.int r2), .val (.int r3), .val (.ref (ad V)), .val (.ref eb), .val (.int (Int32.ofNat (cnt es (min 2 M) V)))] [(.int (2 : Int32)), (.int (Int32.ofNat (cnt es (min 2 M) V))), (.ref eb)]))
          have hk4 : cnt es 2 V < 4 := Nat.lt_of_le_of_lt (cnt_le es V 2) (by omega)
          rw [mi]
          show Goes p e below s _ _ _ (T.setTop (mkF m 82 #[.val (.ref a1), .val (.int (Int32.ofNat V)), .val (.int (Int32.ofNat N)), .val (.int (Int32.ofNat M)), .val (.int r0), .val (.int r1), .val (.int r2), .val (.int r3), .val (.ref (ad V)), .val (.ref eb), .val (.int (Int32.ofNat (cnt es 2 V)))] [(.int (Int32.ofNat 2)), (.int (Int32.ofNat (cnt es 2 V))), (.ref eb)]))
          have B' : IA Z h eb 4 (rows es 2 V) := by rw [← mi]; exact B
          obtain ⟨T3, h3, X3, e3, W3, I3, st3⟩ := own_iastore X hx hZ eT (B') (i := cnt es 2 V) (hk4) (by omega) (g := (mkF m 82 #[.val (.ref a1), .val (.int (Int32.ofNat V)), .val (.int (Int32.ofNat N)), .val (.int (Int32.ofNat M)), .val (.int r0), .val (.int r1), .val (.int r2), .val (.int r3), .val (.ref (ad V)), .val (.ref eb), .val (.int (Int32.ofNat (cnt es 2 V)))] [(.int (Int32.ofNat 2)), (.int (Int32.ofNat (cnt es 2 V))), (.ref eb)])) rfl rfl (hb hby d3_82)
          refine Goes.by (fun t k => st3 t k) ?_
          show Goes p e below s _ _ _ (T3.setTop (mkF m 83 #[.val (.ref a1), .val (.int (Int32.ofNat V)), .val (.int (Int32.ofNat N)), .val (.int (Int32.ofNat M)), .val (.int r0), .val (.int r1), .val (.int r2), .val (.int r3), .val (.ref (ad V)), .val (.ref eb), .val (.int (Int32.ofNat (cnt es 2 V)))] []))
          have N3 := Fr.snoc X3 NN (geb)
          refine Goes.by (fun t k => XS.iinc X3.here hx rfl (hb hby d3_83) rfl (l' := #[.val (.ref a1), .val (.int (Int32.ofNat V)), .val (.int (Int32.ofNat N)), .val (.int (Int32.ofNat M)), .val (.int r0), .val (.int r1), .val (.int r2), .val (.int r3), .val (.ref (ad V)), .val (.ref eb), .val (.int ((Int32.ofNat (cnt es 2 V)) + (1 : Int32)))]) rfl k) ?_
          show Goes p e below s _ _ _ (T3.setTop (mkF m 86 #[.val (.ref a1), .val (.int (Int32.ofNat V)), .val (.int (Int32.ofNat N)), .val (.int (Int32.ofNat M)), .val (.int r0), .val (.int r1), .val (.int r2), .val (.int r3), .val (.ref (ad V)), .val (.ref eb), .val (.int ((Int32.ofNat (cnt es 2 V)) + (1 : Int32)))] []))
          rw [← inc_ofNat, ← cnt_hit es he]
          show Goes p e below s _ _ _ (T3.setTop (mkF m 86 #[.val (.ref a1), .val (.int (Int32.ofNat V)), .val (.int (Int32.ofNat N)), .val (.int (Int32.ofNat M)), .val (.int r0), .val (.int r1), .val (.int r2), .val (.int r3), .val (.ref (ad V)), .val (.ref eb), .val (.int (Int32.ofNat (cnt es 3 V)))] []))
          have B2 : IA Z h3 eb 4 (rows es 3 V) := by subst he; exact I3.congr rfl fun k _ => rows_hit es 2 k
          have e10 : Int32.ofNat (cnt es 3 V) = Int32.ofNat (cnt es (min 3 M) V) := by rw [mi1]
          rw [e10]
          exact J86 _ _ _ X3 e3 N3 (K.wr W3 (Or.inr seb)) (IV.other W3 nge) (by rw [mi1]; exact B2)
        · skip
          refine Goes.by (fun t k => XS.icmpYes X.here hx rfl (pc0 := 74) (pc' := 86) rfl (hb hby d3_74) rfl (feq (fun z => he (own_inj (Nat.lt_of_le_of_lt (hle 2) (by omega)) (by omega) (h_2.symm.trans z)))).2 (by decide) (by decide) k) ?_
          show Goes p e below s _ _ _ (T.setTop (mkF m 86 #[.val (.ref a1), .val (.int (Int32.ofNat V)), .val (.int (Int32.ofNat N)), .val (.int (Int32.ofNat M)), .val (.int r0), .val (.int r1), .val (.int r2), .val (.int r3), .val (.ref (ad V)), .val (.ref eb), .val (.int (Int32.ofNat (cnt es (min 2 M) V)))] []))
          have e10 : cnt es (min 3 M) V = cnt es (min 2 M) V := by rw [mi1, mi, cnt_miss es he]
          have e11 : rows es (min 3 M) V = rows es (min 2 M) V := by rw [mi1, mi]; exact (funext fun k => rows_miss es he k).symm
          rw [← e10]
          exact J86 _ _ _ X eT NN K IV (by rw [e11]; exact B)
      · skip
        show Goes p e below s _ _ _ (T.setTop (mkF m 68 #[.val (.ref a1), .val (.int (Int32.ofNat V)), .val (.int (Int32.ofNat N)), .val (.int (Int32.ofNat M)), .val (.int r0), .val (.int r1), .val (.int r2), .val (.int r3), .val (.ref (ad V)), .val (.ref eb), .val (.int (Int32.ofNat (cnt es (min 2 M) V)))] [(.int (Int32.ofNat 2)), (.int (Int32.ofNat M))]))
        have mi : min 2 M = M := by omega
        have mi1 : min 3 M = M := by omega
        refine Goes.by (fun t k => XS.icmpYes X.here hx rfl (pc0 := 68) (pc' := 86) rfl (hb hby d3_68) rfl (flt (fun z => hm (own_ltR z (by omega) (by omega)))).2.2.2 (by decide) (by decide) k) ?_
        show Goes p e below s _ _ _ (T.setTop (mkF m 86 #[.val (.ref a1), .val (.int (Int32.ofNat V)), .val (.int (Int32.ofNat N)), .val (.int (Int32.ofNat M)), .val (.int r0), .val (.int r1), .val (.int r2), .val (.int r3), .val (.ref (ad V)), .val (.ref eb), .val (.int (Int32.ofNat (cnt es (min 2 M) V)))] []))
        have e10 : cnt es (min 3 M) V = cnt es (min 2 M) V := by rw [mi1, mi]
        have e11 : rows es (min 3 M) V = rows es (min 2 M) V := by rw [mi1, mi]
        rw [← e10]
        exact J86 _ _ _ X eT NN K IV (by rw [e11]; exact B)
    have J46 : ∀ (T : State) (locs : List Loc) (h : Heap), Stand p l e ({ frames := 0, cells := 1, slots := 4, locals := 0 } : Room) s m #[(.ref a1), (.int (Int32.ofNat V)), (.int (Int32.ofNat N)), (.int (Int32.ofNat M)), (.int r0), (.int r1), (.int r2), (.int r3)] below meth c T locs (0 + 1) (0 + 4) → T.heap = h → Fr n0 locs → Keep h0 h [] → IA Z h (ad V) cM (rows es M V) → IA Z h eb 4 (rows es (min 1 M) V) → Goes p e below s (Q3 h0 n0) ({ frames := 0, cells := 1, slots := 4, locals := 0 } : Room).cells ({ frames := 0, cells := 1, slots := 4, locals := 0 } : Room).slots (T.setTop (mkF m 46 #[.val (.ref a1), .val (.int (Int32.ofNat V)), .val (.int (Int32.ofNat N)), .val (.int (Int32.ofNat M)), .val (.int r0), .val (.int r1), .val (.int r2), .val (.int r3), .val (.ref (ad V)), .val (.ref eb), .val (.int (Int32.ofNat (cnt es (min 1 M) V)))] [])) := by
      intro T locs h X eT NN K IV B
      show Goes p e below s _ _ _ (T.setTop (mkF m 46 #[.val (.ref a1), .val (.int (Int32.ofNat V)), .val (.int (Int32.ofNat N)), .val (.int (Int32.ofNat M)), .val (.int r0), .val (.int r1), .val (.int r2), .val (.int r3), .val (.ref (ad V)), .val (.ref eb), .val (.int (Int32.ofNat (cnt es (min 1 M) V)))] []))
      refine Goes.by (fun t k => XS.iloadN X.here hx rfl (hb hby d3_46) rfl k) ?_
      show Goes p e below s _ _ _ (T.setTop (mkF m 47 #[.val (.ref a1), .val (.int (Int32.ofNat V)), .val (.int (Int32.ofNat N)), .val (.int (Int32.ofNat M)), .val (.int r0), .val (.int r1), .val (.int r2), .val (.int r3), .val (.ref (ad V)), .val (.ref eb), .val (.int (Int32.ofNat (cnt es (min 1 M) V)))] [(.int (Int32.ofNat M))]))
      refine Goes.by (fun t k => XS.iconst X.here hx rfl (hb hby d3_47) k) ?_
      show Goes p e below s _ _ _ (T.setTop (mkF m 48 #[.val (.ref a1), .val (.int (Int32.ofNat V)), .val (.int (Int32.ofNat N)), .val (.int (Int32.ofNat M)), .val (.int r0), .val (.int r1), .val (.int r2), .val (.int r3), .val (.ref (ad V)), .val (.ref eb), .val (.int (Int32.ofNat (cnt es (min 1 M) V)))] [(.int (1 : Int32)), (.int (Int32.ofNat M))]))
      by_cases hm : 1 < M
      · skip
        show Goes p e below s _ _ _ (T.setTop (mkF m 48 #[.val (.ref a1), .val (.int (Int32.ofNat V)), .val (.int (Int32.ofNat N)), .val (.int (Int32.ofNat M)), .val (.int r0), .val (.int r1), .val (.int r2), .val (.int r3), .val (.ref (ad V)), .val (.ref eb), .val (.int (Int32.ofNat (cnt es (min 1 M) V)))] [(.int (Int32.ofNat 1)), (.int (Int32.ofNat M))]))
        have mi : min 1 M = 1 := by omega
        have mi1 : min 2 M = 2 := by omega
        refine Goes.by (fun t k => XS.icmpNo X.here hx rfl (hb hby d3_48) rfl (tlt (own_ltN (i := 1) hm (by omega))).2.2.2 k) ?_
        show Goes p e below s _ _ _ (T.setTop (mkF m 51 #[.val (.ref a1), .val (.int (Int32.ofNat V)), .val (.int (Int32.ofNat N)), .val (.int (Int32.ofNat M)), .val (.int r0), .val (.int r1), .val (.int r2), .val (.int r3), .val (.ref (ad V)), .val (.ref eb), .val (.int (Int32.ofNat (cnt es (min 1 M) V)))] []))
        refine Goes.by (fun t k => XS.iload X.here hx rfl (hb hby d3_51) rfl k) ?_
        show Goes p e below s _ _ _ (T.setTop (mkF m 53 #[.val (.ref a1), .val (.int (Int32.ofNat V)), .val (.int (Int32.ofNat N)), .val (.int (Int32.ofNat M)), .val (.int r0), .val (.int r1), .val (.int r2), .val (.int r3), .val (.ref (ad V)), .val (.ref eb), .val (.int (Int32.ofNat (cnt es (min 1 M) V)))] [(.int r1)]))
        refine Goes.by (fun t k => XS.iloadN X.here hx rfl (hb hby d3_53) rfl k) ?_
        show Goes p e below s _ _ _ (T.setTop (mkF m 54 #[.val (.ref a1), .val (.int (Int32.ofNat V)), .val (.int (Int32.ofNat N)), .val (.int (Int32.ofNat M)), .val (.int r0), .val (.int r1), .val (.int r2), .val (.int r3), .val (.ref (ad V)), .val (.ref eb), .val (.int (Int32.ofNat (cnt es (min 1 M) V)))] [(.int (Int32.ofNat V)), (.int r1)]))
        by_cases he : es 1 = V
        · skip
          refine Goes.by (fun t k => XS.icmpNo X.here hx rfl (hb hby d3_54) rfl (teq (by rw [h_1, he])).2 k) ?_
          show Goes p e below s _ _ _ (T.setTop (mkF m 57 #[.val (.ref a1), .val (.int (Int32.ofNat V)), .val (.int (Int32.ofNat N)), .val (.int (Int32.ofNat M)), .val (.int r0), .val (.int r1), .val (.int r2), .val (.int r3), .val (.ref (ad V)), .val (.ref eb), .val (.int (Int32.ofNat (cnt es (min 1 M) V)))] []))
          refine Goes.by (fun t k => XS.aload X.here hx rfl (hb hby d3_57) rfl rfl k) ?_
          show Goes p e below s _ _ _ (T.setTop (mkF m 59 #[.val (.ref a1), .val (.int (Int32.ofNat V)), .val (.int (Int32.ofNat N)), .val (.int (Int32.ofNat M)), .val (.int r0), .val (.int r1), .val (.int r2), .val (.int r3), .val (.ref (ad V)), .val (.ref eb), .val (.int (Int32.ofNat (cnt es (min 1 M) V)))] [(.ref eb)]))
          refine Goes.by (fun t k => XS.iload X.here hx rfl (hb hby d3_59) rfl k) ?_
          show Goes p e below s _ _ _ (T.setTop (mkF m 61 #[.val (.ref a1), .val (.int (Int32.ofNat V)), .val (.int (Int32.ofNat N)), .val (.int (Int32.ofNat M)), .val (.int r0), .val (.int r1), .val (.int r2), .val (.int r3), .val (.ref (ad V)), .val (.ref eb), .val (.int (Int32.ofNat (cnt es (min 1 M) V)))] [(.int (Int32.ofNat (cnt es (min 1 M) V))), (.ref eb)]))
          refine Goes.by (fun t k => XS.iconst X.here hx rfl (hb hby d3_61) k) ?_
          show Goes p e below s _ _ _ (T.setTop (mkF m 62 #[.val (.ref a1), .val (.int (Int32.ofNat V)), .val (.int (Int32.ofNat N)), .val (.int (Int32.ofNat M)), .val (.int r0), .val (.int r1), .val (.int r2), .val (.int r3), .val (.ref (ad V)), .val (.ref eb), .val (.int (Int32.ofNat (cnt es (min 1 M) V)))] [(.int (1 : Int32)), (.int (Int32.ofNat (cnt es (min 1 M) V))), (.ref eb)]))
          have hk4 : cnt es 1 V < 4 := Nat.lt_of_le_of_lt (cnt_le es V 1) (by omega)
          rw [mi]
          show Goes p e below s _ _ _ (T.setTop (mkF m 62 #[.val (.ref a1), .val (.int (Int32.ofNat V)), .val (.int (Int32.ofNat N)), .val (.int (Int32.ofNat M)), .val (.int r0), .val (.int r1), .val (.int r2), .val (.int r3), .val (.ref (ad V)), .val (.ref eb), .val (.int (Int32.ofNat (cnt es 1 V)))] [(.int (Int32.ofNat 1)), (.int (Int32.ofNat (cnt es 1 V))), (.ref eb)]))
          have B' : IA Z h eb 4 (rows es 1 V) := by rw [← mi]; exact B
          obtain ⟨T4, h4, X4, e4, W4, I4, st4⟩ := own_iastore X hx hZ eT (B') (i := cnt es 1 V) (hk4) (by omega) (g := (mkF m 62 #[.val (.ref a1), .val (.int (Int32.ofNat V)), .val (.int (Int32.ofNat N)), .val (.int (Int32.ofNat M)), .val (.int r0), .val (.int r1), .val (.int r2), .val (.int r3), .val (.ref (ad V)), .val (.ref eb), .val (.int (Int32.ofNat (cnt es 1 V)))] [(.int (Int32.ofNat 1)), (.int (Int32.ofNat (cnt es 1 V))), (.ref eb)])) rfl rfl (hb hby d3_62)
          refine Goes.by (fun t k => st4 t k) ?_
          show Goes p e below s _ _ _ (T4.setTop (mkF m 63 #[.val (.ref a1), .val (.int (Int32.ofNat V)), .val (.int (Int32.ofNat N)), .val (.int (Int32.ofNat M)), .val (.int r0), .val (.int r1), .val (.int r2), .val (.int r3), .val (.ref (ad V)), .val (.ref eb), .val (.int (Int32.ofNat (cnt es 1 V)))] []))
          have N4 := Fr.snoc X4 NN (geb)
          refine Goes.by (fun t k => XS.iinc X4.here hx rfl (hb hby d3_63) rfl (l' := #[.val (.ref a1), .val (.int (Int32.ofNat V)), .val (.int (Int32.ofNat N)), .val (.int (Int32.ofNat M)), .val (.int r0), .val (.int r1), .val (.int r2), .val (.int r3), .val (.ref (ad V)), .val (.ref eb), .val (.int ((Int32.ofNat (cnt es 1 V)) + (1 : Int32)))]) rfl k) ?_
          show Goes p e below s _ _ _ (T4.setTop (mkF m 66 #[.val (.ref a1), .val (.int (Int32.ofNat V)), .val (.int (Int32.ofNat N)), .val (.int (Int32.ofNat M)), .val (.int r0), .val (.int r1), .val (.int r2), .val (.int r3), .val (.ref (ad V)), .val (.ref eb), .val (.int ((Int32.ofNat (cnt es 1 V)) + (1 : Int32)))] []))
          rw [← inc_ofNat, ← cnt_hit es he]
          show Goes p e below s _ _ _ (T4.setTop (mkF m 66 #[.val (.ref a1), .val (.int (Int32.ofNat V)), .val (.int (Int32.ofNat N)), .val (.int (Int32.ofNat M)), .val (.int r0), .val (.int r1), .val (.int r2), .val (.int r3), .val (.ref (ad V)), .val (.ref eb), .val (.int (Int32.ofNat (cnt es 2 V)))] []))
          have B2 : IA Z h4 eb 4 (rows es 2 V) := by subst he; exact I4.congr rfl fun k _ => rows_hit es 1 k
          have e10 : Int32.ofNat (cnt es 2 V) = Int32.ofNat (cnt es (min 2 M) V) := by rw [mi1]
          rw [e10]
          exact J66 _ _ _ X4 e4 N4 (K.wr W4 (Or.inr seb)) (IV.other W4 nge) (by rw [mi1]; exact B2)
        · skip
          refine Goes.by (fun t k => XS.icmpYes X.here hx rfl (pc0 := 54) (pc' := 66) rfl (hb hby d3_54) rfl (feq (fun z => he (own_inj (Nat.lt_of_le_of_lt (hle 1) (by omega)) (by omega) (h_1.symm.trans z)))).2 (by decide) (by decide) k) ?_
          show Goes p e below s _ _ _ (T.setTop (mkF m 66 #[.val (.ref a1), .val (.int (Int32.ofNat V)), .val (.int (Int32.ofNat N)), .val (.int (Int32.ofNat M)), .val (.int r0), .val (.int r1), .val (.int r2), .val (.int r3), .val (.ref (ad V)), .val (.ref eb), .val (.int (Int32.ofNat (cnt es (min 1 M) V)))] []))
          have e10 : cnt es (min 2 M) V = cnt es (min 1 M) V := by rw [mi1, mi, cnt_miss es he]
          have e11 : rows es (min 2 M) V = rows es (min 1 M) V := by rw [mi1, mi]; exact (funext fun k => rows_miss es he k).symm
          rw [← e10]
          exact J66 _ _ _ X eT NN K IV (by rw [e11]; exact B)
      · skip
        show Goes p e below s _ _ _ (T.setTop (mkF m 48 #[.val (.ref a1), .val (.int (Int32.ofNat V)), .val (.int (Int32.ofNat N)), .val (.int (Int32.ofNat M)), .val (.int r0), .val (.int r1), .val (.int r2), .val (.int r3), .val (.ref (ad V)), .val (.ref eb), .val (.int (Int32.ofNat (cnt es (min 1 M) V)))] [(.int (Int32.ofNat 1)), (.int (Int32.ofNat M))]))
        have mi : min 1 M = M := by omega
        have mi1 : min 2 M = M := by omega
        refine Goes.by (fun t k => XS.icmpYes X.here hx rfl (pc0 := 48) (pc' := 66) rfl (hb hby d3_48) rfl (flt (fun z => hm (own_ltR z (by omega) (by omega)))).2.2.2 (by decide) (by decide) k) ?_
        show Goes p e below s _ _ _ (T.setTop (mkF m 66 #[.val (.ref a1), .val (.int (Int32.ofNat V)), .val (.int (Int32.ofNat N)), .val (.int (Int32.ofNat M)), .val (.int r0), .val (.int r1), .val (.int r2), .val (.int r3), .val (.ref (ad V)), .val (.ref eb), .val (.int (Int32.ofNat (cnt es (min 1 M) V)))] []))
        have e10 : cnt es (min 2 M) V = cnt es (min 1 M) V := by rw [mi1, mi]
        have e11 : rows es (min 2 M) V = rows es (min 1 M) V := by rw [mi1, mi]
        rw [← e10]
        exact J66 _ _ _ X eT NN K IV (by rw [e11]; exact B)
    have B27 : IA Z h1 eb 4 (rows es (min 0 M) V) := by rw [Nat.zero_min]; exact I1.congr rfl fun k _ => rfl
    have z0 : Int32.ofNat 0 = Int32.ofNat (cnt es (min 0 M) V) := by rw [Nat.zero_min]; rfl
    rw [z0]
    show Goes p e below s _ _ _ (T1.setTop (mkF m 27 #[.val (.ref a1), .val (.int (Int32.ofNat V)), .val (.int (Int32.ofNat N)), .val (.int (Int32.ofNat M)), .val (.int r0), .val (.int r1), .val (.int r2), .val (.int r3), .val (.ref (ad V)), .val (.ref eb), .val (.int (Int32.ofNat (cnt es (min 0 M) V)))] []))
    refine Goes.by (fun t k => XS.iloadN X1.here hx rfl (hb hby d3_27) rfl k) ?_
    show Goes p e below s _ _ _ (T1.setTop (mkF m 28 #[.val (.ref a1), .val (.int (Int32.ofNat V)), .val (.int (Int32.ofNat N)), .val (.int (Int32.ofNat M)), .val (.int r0), .val (.int r1), .val (.int r2), .val (.int r3), .val (.ref (ad V)), .val (.ref eb), .val (.int (Int32.ofNat (cnt es (min 0 M) V)))] [(.int (Int32.ofNat M))]))
    by_cases hm : 0 < M
    · skip
      have mi : min 0 M = 0 := by omega
      have mi1 : min 1 M = 1 := by omega
      refine Goes.by (fun t k => XS.ifNo X1.here hx rfl (hb hby d3_28) rfl ((if0 _ _).trans (tlt (own_ltN (i := 0) hm (by omega))).2.2.2) k) ?_
      show Goes p e below s _ _ _ (T1.setTop (mkF m 31 #[.val (.ref a1), .val (.int (Int32.ofNat V)), .val (.int (Int32.ofNat N)), .val (.int (Int32.ofNat M)), .val (.int r0), .val (.int r1), .val (.int r2), .val (.int r3), .val (.ref (ad V)), .val (.ref eb), .val (.int (Int32.ofNat (cnt es (min 0 M) V)))] []))
      refine Goes.by (fun t k => XS.iload X1.here hx rfl (hb hby d3_31) rfl k) ?_
      show Goes p e below s _ _ _ (T1.setTop (mkF m 33 #[.val (.ref a1), .val (.int (Int32.ofNat V)), .val (.int (Int32.ofNat N)), .val (.int (Int32.ofNat M)), .val (.int r0), .val (.int r1), .val (.int r2), .val (.int r3), .val (.ref (ad V)), .val (.ref eb), .val (.int (Int32.ofNat (cnt es (min 0 M) V)))] [(.int r0)]))
      refine Goes.by (fun t k => XS.iloadN X1.here hx rfl (hb hby d3_33) rfl k) ?_
      show Goes p e below s _ _ _ (T1.setTop (mkF m 34 #[.val (.ref a1), .val (.int (Int32.ofNat V)), .val (.int (Int32.ofNat N)), .val (.int (Int32.ofNat M)), .val (.int r0), .val (.int r1), .val (.int r2), .val (.int r3), .val (.ref (ad V)), .val (.ref eb), .val (.int (Int32.ofNat (cnt es (min 0 M) V)))] [(.int (Int32.ofNat V)), (.int r0)]))
      by_cases he : es 0 = V
      · skip
        refine Goes.by (fun t k => XS.icmpNo X1.here hx rfl (hb hby d3_34) rfl (teq (by rw [h_0, he])).2 k) ?_
        show Goes p e below s _ _ _ (T1.setTop (mkF m 37 #[.val (.ref a1), .val (.int (Int32.ofNat V)), .val (.int (Int32.ofNat N)), .val (.int (Int32.ofNat M)), .val (.int r0), .val (.int r1), .val (.int r2), .val (.int r3), .val (.ref (ad V)), .val (.ref eb), .val (.int (Int32.ofNat (cnt es (min 0 M) V)))] []))
        refine Goes.by (fun t k => XS.aload X1.here hx rfl (hb hby d3_37) rfl rfl k) ?_
        show Goes p e below s _ _ _ (T1.setTop (mkF m 39 #[.val (.ref a1), .val (.int (Int32.ofNat V)), .val (.int (Int32.ofNat N)), .val (.int (Int32.ofNat M)), .val (.int r0), .val (.int r1), .val (.int r2), .val (.int r3), .val (.ref (ad V)), .val (.ref eb), .val (.int (Int32.ofNat (cnt es (min 0 M) V)))] [(.ref eb)]))
        refine Goes.by (fun t k => XS.iload X1.here hx rfl (hb hby d3_39) rfl k) ?_
        show Goes p e below s _ _ _ (T1.setTop (mkF m 41 #[.val (.ref a1), .val (.int (Int32.ofNat V)), .val (.int (Int32.ofNat N)), .val (.int (Int32.ofNat M)), .val (.int r0), .val (.int r1), .val (.int r2), .val (.int r3), .val (.ref (ad V)), .val (.ref eb), .val (.int (Int32.ofNat (cnt es (min 0 M) V)))] [(.int (Int32.ofNat (cnt es (min 0 M) V))), (.ref eb)]))
        refine Goes.by (fun t k => XS.iconst X1.here hx rfl (hb hby d3_41) k) ?_
        show Goes p e below s _ _ _ (T1.setTop (mkF m 42 #[.val (.ref a1), .val (.int (Int32.ofNat V)), .val (.int (Int32.ofNat N)), .val (.int (Int32.ofNat M)), .val (.int r0), .val (.int r1), .val (.int r2), .val (.int r3), .val (.ref (ad V)), .val (.ref eb), .val (.int (Int32.ofNat (cnt es (min 0 M) V)))] [(.int (0 : Int32)), (.int (Int32.ofNat (cnt es (min 0 M) V))), (.ref eb)]))
        have hk4 : cnt es 0 V < 4 := Nat.lt_of_le_of_lt (cnt_le es V 0) (by omega)
        rw [mi]
        show Goes p e below s _ _ _ (T1.setTop (mkF m 42 #[.val (.ref a1), .val (.int (Int32.ofNat V)), .val (.int (Int32.ofNat N)), .val (.int (Int32.ofNat M)), .val (.int r0), .val (.int r1), .val (.int r2), .val (.int r3), .val (.ref (ad V)), .val (.ref eb), .val (.int (Int32.ofNat (cnt es 0 V)))] [(.int (Int32.ofNat 0)), (.int (Int32.ofNat (cnt es 0 V))), (.ref eb)]))
        have B' : IA Z h1 eb 4 (rows es 0 V) := B27
        obtain ⟨T5, h5, X5, e5, W5, I5, st5⟩ := own_iastore X1 hx hZ e1 (B') (i := cnt es 0 V) (hk4) (by omega) (g := (mkF m 42 #[.val (.ref a1), .val (.int (Int32.ofNat V)), .val (.int (Int32.ofNat N)), .val (.int (Int32.ofNat M)), .val (.int r0), .val (.int r1), .val (.int r2), .val (.int r3), .val (.ref (ad V)), .val (.ref eb), .val (.int (Int32.ofNat (cnt es 0 V)))] [(.int (Int32.ofNat 0)), (.int (Int32.ofNat (cnt es 0 V))), (.ref eb)])) rfl rfl (hb hby d3_42)
        refine Goes.by (fun t k => st5 t k) ?_
        show Goes p e below s _ _ _ (T5.setTop (mkF m 43 #[.val (.ref a1), .val (.int (Int32.ofNat V)), .val (.int (Int32.ofNat N)), .val (.int (Int32.ofNat M)), .val (.int r0), .val (.int r1), .val (.int r2), .val (.int r3), .val (.ref (ad V)), .val (.ref eb), .val (.int (Int32.ofNat (cnt es 0 V)))] []))
        have N5 := Fr.snoc X5 N0 (geb)
        refine Goes.by (fun t k => XS.iinc X5.here hx rfl (hb hby d3_43) rfl (l' := #[.val (.ref a1), .val (.int (Int32.ofNat V)), .val (.int (Int32.ofNat N)), .val (.int (Int32.ofNat M)), .val (.int r0), .val (.int r1), .val (.int r2), .val (.int r3), .val (.ref (ad V)), .val (.ref eb), .val (.int ((Int32.ofNat (cnt es 0 V)) + (1 : Int32)))]) rfl k) ?_
        show Goes p e below s _ _ _ (T5.setTop (mkF m 46 #[.val (.ref a1), .val (.int (Int32.ofNat V)), .val (.int (Int32.ofNat N)), .val (.int (Int32.ofNat M)), .val (.int r0), .val (.int r1), .val (.int r2), .val (.int r3), .val (.ref (ad V)), .val (.ref eb), .val (.int ((Int32.ofNat (cnt es 0 V)) + (1 : Int32)))] []))
        rw [← inc_ofNat, ← cnt_hit es he]
        show Goes p e below s _ _ _ (T5.setTop (mkF m 46 #[.val (.ref a1), .val (.int (Int32.ofNat V)), .val (.int (Int32.ofNat N)), .val (.int (Int32.ofNat M)), .val (.int r0), .val (.int r1), .val (.int r2), .val (.int r3), .val (.ref (ad V)), .val (.ref eb), .val (.int (Int32.ofNat (cnt es 1 V)))] []))
        have B2 : IA Z h5 eb 4 (rows es 1 V) := by subst he; exact I5.congr rfl fun k _ => rows_hit es 0 k
        have e10 : Int32.ofNat (cnt es 1 V) = Int32.ofNat (cnt es (min 1 M) V) := by rw [mi1]
        rw [e10]
        exact J46 _ _ _ X5 e5 N5 (K1.wr W5 (Or.inr seb)) (IV.other W5 nge) (by rw [mi1]; exact B2)
      · skip
        refine Goes.by (fun t k => XS.icmpYes X1.here hx rfl (pc0 := 34) (pc' := 46) rfl (hb hby d3_34) rfl (feq (fun z => he (own_inj (Nat.lt_of_le_of_lt (hle 0) (by omega)) (by omega) (h_0.symm.trans z)))).2 (by decide) (by decide) k) ?_
        show Goes p e below s _ _ _ (T1.setTop (mkF m 46 #[.val (.ref a1), .val (.int (Int32.ofNat V)), .val (.int (Int32.ofNat N)), .val (.int (Int32.ofNat M)), .val (.int r0), .val (.int r1), .val (.int r2), .val (.int r3), .val (.ref (ad V)), .val (.ref eb), .val (.int (Int32.ofNat (cnt es (min 0 M) V)))] []))
        have e10 : cnt es (min 1 M) V = cnt es (min 0 M) V := by rw [mi1, mi, cnt_miss es he]
        have e11 : rows es (min 1 M) V = rows es (min 0 M) V := by rw [mi1, mi]; exact (funext fun k => rows_miss es he k).symm
        rw [← e10]
        exact J46 _ _ _ X1 e1 N0 K1 IV (by rw [e11]; exact B27)
    · skip
      have mi : min 0 M = M := by omega
      have mi1 : min 1 M = M := by omega
      refine Goes.by (fun t k => XS.ifYes X1.here hx rfl (pc0 := 28) (pc' := 46) rfl (hb hby d3_28) rfl ((if0 _ _).trans (flt (fun z => hm (own_ltR z (by omega) (by omega)))).2.2.2) (by decide) (by decide) k) ?_
      show Goes p e below s _ _ _ (T1.setTop (mkF m 46 #[.val (.ref a1), .val (.int (Int32.ofNat V)), .val (.int (Int32.ofNat N)), .val (.int (Int32.ofNat M)), .val (.int r0), .val (.int r1), .val (.int r2), .val (.int r3), .val (.ref (ad V)), .val (.ref eb), .val (.int (Int32.ofNat (cnt es (min 0 M) V)))] []))
      have e10 : cnt es (min 1 M) V = cnt es (min 0 M) V := by rw [mi1, mi]
      have e11 : rows es (min 1 M) V = rows es (min 0 M) V := by rw [mi1, mi]
      rw [← e10]
      exact J46 _ _ _ X1 e1 N0 K1 IV (by rw [e11]; exact B27)
def Q0 (n0 : Nat) (v : Option Value) (h : Heap) (L : List Loc) : Prop := v = some (.int 1) ∧ Fr n0 L
theorem ef_rm0 (m : MethodId) (x0 : Int32) (x1 : Int32) (x2 : Int32) (x3 : Int32) (x4 : Int32) (x5 : Int32) : entryFrame m #[(.int x0), (.int x1), (.int x2), (.int x3), (.int x4), (.int x5)] maxLocals = mkF m 0 #[.val (.int x0), .val (.int x1), .val (.int x2), .val (.int x3), .val (.int x4), .val (.int x5), .unset, .unset, .unset, .unset, .unset, .unset, .unset, .unset] [] := by first | (simp [entryFrame, mkF, argsToLocals, Value.category, maxLocals]; done) | rfl
set_option maxRecDepth 65536 in
set_option maxHeartbeats 40000000 in
theorem rm0 (l : Launch) (Z : State) (a0 : Array Value) (hw : ∀ d ∈ tables_1, d.before a0 Z = true) (ws : List Jvm.Cond) (p0 p1 p2 p3 p4 p5 : Int32) (h0 : Heap) (n0 : Nat) (Z0 : n0 ≤ h0.size)  :
    MetFree l x (head1 (Jvm.Cond.code x code maxLocals ret :: ws) room_1) (fun a U => a = #[(.int p0), (.int p1), (.int p2), (.int p3), (.int p4), (.int p5)] ∧ Z.Warmed39 U.vm ∧ U.heap = h0) (fun _ _ _ _ _ => True) (fun _ U o U' => ∃ v L, o = .returned v ∧ (Q0 n0) v U'.heap L ∧ FrameEnd U o U' L room_1.cells room_1.slots) := by
  refine MetFree.of_bodySF (plainFor_of_name pn_0) hisR ?_
  intro p e s m args below meth c s₁ Bd hml0 hP hK
  obtain ⟨rfl, hZ, hh⟩ := hP
  have hx := Bd.exec
  have hby := Bd.bytes
  have hlk : meth.locks = false := BodyLoose.notSynchronized Bd
  have hml : c.maxLocals = 14 := hml0
  have hown : s.vm.findClass "com/example/roadstitch/roadstitch/core/ShortestPathsArcsByPinLaw" = some m.cls := findClass_of_methodNamed Bd.named
  have hnm := (name_of_methodNamed Bd.named Bd.method).1
  have X0 : Stand p l e room_1 s m #[(.int p0), (.int p1), (.int p2), (.int p3), (.int p4), (.int p5)] below meth c s₁ [] 0 0 := Stand.of_body Bd
  have e0 : s₁.heap = h0 := by rw [← hh, Bd.state]; rfl
  have N0 := Fr.nil n0
  show Goes p e below s (Q0 n0) room_1.cells room_1.slots (s₁.setTop (entryFrame m #[(.int p0), (.int p1), (.int p2), (.int p3), (.int p4), (.int p5)] maxLocals))
  refine Goes.by (fun t k => castTop (ef_rm0 m p0 p1 p2 p3 p4 p5) k) ?_
  show Goes p e below s _ _ _ (s₁.setTop (mkF m 0 #[.val (.int p0), .val (.int p1), .val (.int p2), .val (.int p3), .val (.int p4), .val (.int p5), .unset, .unset, .unset, .unset, .unset, .unset, .unset, .unset] []))
  refine Goes.by (fun t k => XS.iloadN X0.here hx rfl (hb hby at_0) rfl k) ?_
  show Goes p e below s _ _ _ (s₁.setTop (mkF m 1 #[.val (.int p0), .val (.int p1), .val (.int p2), .val (.int p3), .val (.int p4), .val (.int p5), .unset, .unset, .unset, .unset, .unset, .unset, .unset, .unset] [(.int p0)]))
  refine Goes.by (fun t k => X0.ldcInt hx hown (mvT hZ (hw _ (List.mem_of_getElem? (i := 0) rfl))) (g := (mkF m 1 #[.val (.int p0), .val (.int p1), .val (.int p2), .val (.int p3), .val (.int p4), .val (.int p5), .unset, .unset, .unset, .unset, .unset, .unset, .unset, .unset] [(.int p0)])) rfl (hb hby at_1) _ k) ?_
  show Goes p e below s _ _ _ (s₁.setTop (mkF m 3 #[.val (.int p0), .val (.int p1), .val (.int p2), .val (.int p3), .val (.int p4), .val (.int p5), .unset, .unset, .unset, .unset, .unset, .unset, .unset, .unset] [(.int (2147483647 : Int32)), (.int p0)]))
  refine Goes.by (fun t k => XS.iand X0.here hx rfl (hb hby at_3) rfl k) ?_
  show Goes p e below s _ _ _ (s₁.setTop (mkF m 4 #[.val (.int p0), .val (.int p1), .val (.int p2), .val (.int p3), .val (.int p4), .val (.int p5), .unset, .unset, .unset, .unset, .unset, .unset, .unset, .unset] [(.int (p0 &&& (2147483647 : Int32)))]))
  refine Goes.by (fun t k => XS.iconst X0.here hx rfl (hb hby at_4) k) ?_
  show Goes p e below s _ _ _ (s₁.setTop (mkF m 5 #[.val (.int p0), .val (.int p1), .val (.int p2), .val (.int p3), .val (.int p4), .val (.int p5), .unset, .unset, .unset, .unset, .unset, .unset, .unset, .unset] [(.int (5 : Int32)), (.int (p0 &&& (2147483647 : Int32)))]))
  refine Goes.by (fun t k => Jvm.RoadKit.iremM X0 hx rfl (hb hby at_5) rfl (by decide) k) ?_
  show Goes p e below s _ _ _ (s₁.setTop (mkF m 6 #[.val (.int p0), .val (.int p1), .val (.int p2), .val (.int p3), .val (.int p4), .val (.int p5), .unset, .unset, .unset, .unset, .unset, .unset, .unset, .unset] [(.int ((p0 &&& (2147483647 : Int32)) % (5 : Int32)))]))
  obtain ⟨N, hN, eN⟩ := own_mod5 p0
  rw [eN]
  show Goes p e below s _ _ _ (s₁.setTop (mkF m 6 #[.val (.int p0), .val (.int p1), .val (.int p2), .val (.int p3), .val (.int p4), .val (.int p5), .unset, .unset, .unset, .unset, .unset, .unset, .unset, .unset] [(.int (Int32.ofNat N))]))
  refine Goes.by (fun t k => XS.istore X0.here hx rfl (hb hby at_6) rfl (l' := #[.val (.int p0), .val (.int p1), .val (.int p2), .val (.int p3), .val (.int p4), .val (.int p5), .val (.int (Int32.ofNat N)), .unset, .unset, .unset, .unset, .unset, .unset, .unset]) rfl k) ?_
  show Goes p e below s _ _ _ (s₁.setTop (mkF m 8 #[.val (.int p0), .val (.int p1), .val (.int p2), .val (.int p3), .val (.int p4), .val (.int p5), .val (.int (Int32.ofNat N)), .unset, .unset, .unset, .unset, .unset, .unset, .unset] []))
  refine Goes.by (fun t k => XS.iload X0.here hx rfl (hb hby at_8) rfl k) ?_
  show Goes p e below s _ _ _ (s₁.setTop (mkF m 10 #[.val (.int p0), .val (.int p1), .val (.int p2), .val (.int p3), .val (.int p4), .val (.int p5), .val (.int (Int32.ofNat N)), .unset, .unset, .unset, .unset, .unset, .unset, .unset] [(.int (Int32.ofNat N))]))
  have J25 : ∀ M : Nat, M ≤ 4 → (N = 0 → M = 0) → Goes p e below s (Q0 n0) room_1.cells room_1.slots (s₁.setTop (mkF m 25 #[.val (.int p0), .val (.int p1), .val (.int p2), .val (.int p3), .val (.int p4), .val (.int p5), .val (.int (Int32.ofNat N)), .val (.int (Int32.ofNat M)), .unset, .unset, .unset, .unset, .unset, .unset] [])) := by
    intro M hM hNM
    refine Goes.by (fun t k => XS.iloadN X0.here hx rfl (hb hby at_25) rfl k) ?_
    show Goes p e below s _ _ _ (s₁.setTop (mkF m 26 #[.val (.int p0), .val (.int p1), .val (.int p2), .val (.int p3), .val (.int p4), .val (.int p5), .val (.int (Int32.ofNat N)), .val (.int (Int32.ofNat M)), .unset, .unset, .unset, .unset, .unset, .unset] [(.int p2)]))
    refine Goes.by (fun t k => XS.iload X0.here hx rfl (hb hby at_26) rfl k) ?_
    show Goes p e below s _ _ _ (s₁.setTop (mkF m 28 #[.val (.int p0), .val (.int p1), .val (.int p2), .val (.int p3), .val (.int p4), .val (.int p5), .val (.int (Int32.ofNat N)), .val (.int (Int32.ofNat M)), .unset, .unset, .unset, .unset, .unset, .unset] [(.int (Int32.ofNat N)), (.int p2)]))
    obtain ⟨e_0, er0, eb0, el0⟩ := own_end p2 N hN
    obtain ⟨_, _, ⟨T1, L1, k1, n1⟩, -, X1, ⟨Lc1, hQ1, l1, y1, z1⟩, st1⟩ := Jvm.LawKit.callS X0 hx (y := (⟨"com/example/roadstitch/roadstitch/core/ShortestPathsArcsByPinLaw", "end", "(II)I"⟩ : MethodName)) hown (mvT hZ (hw _ (List.mem_of_getElem? (i := 1) rfl))) (mvT hZ (hw _ (List.mem_of_getElem? (i := 2) rfl))) (mvT hZ (hw _ (List.mem_of_getElem? (i := 3) rfl))) (mvT hZ (hw _ (List.mem_of_getElem? (i := 4) rfl))) (by decide) (backOf (W := 0) (rm1 l Z a0 hw [] p2 (Int32.ofNat N) (Int32.ofNat e_0) _ n0 Z0 er0) hZ (hw _ (List.mem_of_getElem? (i := 4) rfl)) (hw _ (List.mem_of_getElem? (i := 3) rfl)) (by decide) (by decide)) (g := (mkF m 28 #[.val (.int p0), .val (.int p1), .val (.int p2), .val (.int p3), .val (.int p4), .val (.int p5), .val (.int (Int32.ofNat N)), .val (.int (Int32.ofNat M)), .unset, .unset, .unset, .unset, .unset, .unset] [(.int (Int32.ofNat N)), (.int p2)])) rfl (by rw [hml]; rfl) (argsL := [(.int p2), (.int (Int32.ofNat N))]) (rest := []) (lenOf pd_0 rfl) rfl (by show 2 * 0 + _ ≤ _; exact Nat.le_of_eq rfl) (hb hby at_28) (fun _ _ => ⟨rfl, e0, (by decide : 0 + 0 ≤ _), (by decide : 0 + 0 ≤ _)⟩)
    dsimp only [Pt.U, Pt.locs, Pt.cells, Pt.slots] at X1 l1 y1 z1 st1 hQ1
    subst l1 y1 z1
    obtain ⟨rfl, N1q, hh1⟩ := hQ1
    have N1 := Fr.app N0 N1q
    refine Goes.by (fun t k => st1 _ k) ?_
    show Goes p e below s _ _ _ (T1.setTop (mkF m 31 #[.val (.int p0), .val (.int p1), .val (.int p2), .val (.int p3), .val (.int p4), .val (.int p5), .val (.int (Int32.ofNat N)), .val (.int (Int32.ofNat M)), .unset, .unset, .unset, .unset, .unset, .unset] [(.int (Int32.ofNat e_0))]))
    have Zn0 : n0 ≤ T1.heap.size := by rw [hh1]; exact Z0
    refine Goes.by (fun t k => XS.istore X1.here hx rfl (hb hby at_31) rfl (l' := #[.val (.int p0), .val (.int p1), .val (.int p2), .val (.int p3), .val (.int p4), .val (.int p5), .val (.int (Int32.ofNat N)), .val (.int (Int32.ofNat M)), .val (.int (Int32.ofNat e_0)), .unset, .unset, .unset, .unset, .unset]) rfl k) ?_
    show Goes p e below s _ _ _ (T1.setTop (mkF m 33 #[.val (.int p0), .val (.int p1), .val (.int p2), .val (.int p3), .val (.int p4), .val (.int p5), .val (.int (Int32.ofNat N)), .val (.int (Int32.ofNat M)), .val (.int (Int32.ofNat e_0)), .unset, .unset, .unset, .unset, .unset] []))
    refine Goes.by (fun t k => XS.iloadN X1.here hx rfl (hb hby at_33) rfl k) ?_
    show Goes p e below s _ _ _ (T1.setTop (mkF m 34 #[.val (.int p0), .val (.int p1), .val (.int p2), .val (.int p3), .val (.int p4), .val (.int p5), .val (.int (Int32.ofNat N)), .val (.int (Int32.ofNat M)), .val (.int (Int32.ofNat e_0)), .unset, .unset, .unset, .unset, .unset] [(.int p3)]))
    refine Goes.by (fun t k => XS.iload X1.here hx rfl (hb hby at_34) rfl k) ?_
    show Goes p e below s _ _ _ (T1.setTop (mkF m 36 #[.val (.int p0), .val (.int p1), .val (.int p2), .val (.int p3), .val (.int p4), .val (.int p5), .val (.int (Int32.ofNat N)), .val (.int (Int32.ofNat M)), .val (.int (Int32.ofNat e_0)), .unset, .unset, .unset, .unset, .unset] [(.int (Int32.ofNat N)), (.int p3)]))
    obtain ⟨e_1, er1, eb1, el1⟩ := own_end p3 N hN
    obtain ⟨_, _, ⟨T2, L2, k2, n2⟩, -, X2, ⟨Lc2, hQ2, l2, y2, z2⟩, st2⟩ := Jvm.LawKit.callS X1 hx (y := (⟨"com/example/roadstitch/roadstitch/core/ShortestPathsArcsByPinLaw", "end", "(II)I"⟩ : MethodName)) hown (mvT hZ (hw _ (List.mem_of_getElem? (i := 1) rfl))) (mvT hZ (hw _ (List.mem_of_getElem? (i := 2) rfl))) (mvT hZ (hw _ (List.mem_of_getElem? (i := 3) rfl))) (mvT hZ (hw _ (List.mem_of_getElem? (i := 4) rfl))) (by decide) (backOf (W := 0) (rm1 l Z a0 hw [] p3 (Int32.ofNat N) (Int32.ofNat e_1) _ n0 Zn0 er1) hZ (hw _ (List.mem_of_getElem? (i := 4) rfl)) (hw _ (List.mem_of_getElem? (i := 3) rfl)) (by decide) (by decide)) (g := (mkF m 36 #[.val (.int p0), .val (.int p1), .val (.int p2), .val (.int p3), .val (.int p4), .val (.int p5), .val (.int (Int32.ofNat N)), .val (.int (Int32.ofNat M)), .val (.int (Int32.ofNat e_0)), .unset, .unset, .unset, .unset, .unset] [(.int (Int32.ofNat N)), (.int p3)])) rfl (by rw [hml]; rfl) (argsL := [(.int p3), (.int (Int32.ofNat N))]) (rest := []) (lenOf pd_0 rfl) rfl (by show 2 * 0 + _ ≤ _; exact Nat.le_of_eq rfl) (hb hby at_36) (fun _ _ => ⟨rfl, rfl, (by decide : 0 + 0 ≤ _), (by decide : 0 + 0 ≤ _)⟩)
    dsimp only [Pt.U, Pt.locs, Pt.cells, Pt.slots] at X2 l2 y2 z2 st2 hQ2
    subst l2 y2 z2
    obtain ⟨rfl, N2q, hh2⟩ := hQ2
    have N2 := Fr.app N1 N2q
    refine Goes.by (fun t k => st2 _ k) ?_
    show Goes p e below s _ _ _ (T2.setTop (mkF m 39 #[.val (.int p0), .val (.int p1), .val (.int p2), .val (.int p3), .val (.int p4), .val (.int p5), .val (.int (Int32.ofNat N)), .val (.int (Int32.ofNat M)), .val (.int (Int32.ofNat e_0)), .unset, .unset, .unset, .unset, .unset] [(.int (Int32.ofNat e_1))]))
    have Zn1 : n0 ≤ T2.heap.size := by rw [hh2]; exact Zn0
    refine Goes.by (fun t k => XS.istore X2.here hx rfl (hb hby at_39) rfl (l' := #[.val (.int p0), .val (.int p1), .val (.int p2), .val (.int p3), .val (.int p4), .val (.int p5), .val (.int (Int32.ofNat N)), .val (.int (Int32.ofNat M)), .val (.int (Int32.ofNat e_0)), .val (.int (Int32.ofNat e_1)), .unset, .unset, .unset, .unset]) rfl k) ?_
    show Goes p e below s _ _ _ (T2.setTop (mkF m 41 #[.val (.int p0), .val (.int p1), .val (.int p2), .val (.int p3), .val (.int p4), .val (.int p5), .val (.int (Int32.ofNat N)), .val (.int (Int32.ofNat M)), .val (.int (Int32.ofNat e_0)), .val (.int (Int32.ofNat e_1)), .unset, .unset, .unset, .unset] []))
    refine Goes.by (fun t k => XS.iload X2.here hx rfl (hb hby at_41) rfl k) ?_
    show Goes p e below s _ _ _ (T2.setTop (mkF m 43 #[.val (.int p0), .val (.int p1), .val (.int p2), .val (.int p3), .val (.int p4), .val (.int p5), .val (.int (Int32.ofNat N)), .val (.int (Int32.ofNat M)), .val (.int (Int32.ofNat e_0)), .val (.int (Int32.ofNat e_1)), .unset, .unset, .unset, .unset] [(.int p4)]))
    refine Goes.by (fun t k => XS.iload X2.here hx rfl (hb hby at_43) rfl k) ?_
    show Goes p e below s _ _ _ (T2.setTop (mkF m 45 #[.val (.int p0), .val (.int p1), .val (.int p2), .val (.int p3), .val (.int p4), .val (.int p5), .val (.int (Int32.ofNat N)), .val (.int (Int32.ofNat M)), .val (.int (Int32.ofNat e_0)), .val (.int (Int32.ofNat e_1)), .unset, .unset, .unset, .unset] [(.int (Int32.ofNat N)), (.int p4)]))
    obtain ⟨e_2, er2, eb2, el2⟩ := own_end p4 N hN
    obtain ⟨_, _, ⟨T3, L3, k3, n3⟩, -, X3, ⟨Lc3, hQ3, l3, y3, z3⟩, st3⟩ := Jvm.LawKit.callS X2 hx (y := (⟨"com/example/roadstitch/roadstitch/core/ShortestPathsArcsByPinLaw", "end", "(II)I"⟩ : MethodName)) hown (mvT hZ (hw _ (List.mem_of_getElem? (i := 1) rfl))) (mvT hZ (hw _ (List.mem_of_getElem? (i := 2) rfl))) (mvT hZ (hw _ (List.mem_of_getElem? (i := 3) rfl))) (mvT hZ (hw _ (List.mem_of_getElem? (i := 4) rfl))) (by decide) (backOf (W := 0) (rm1 l Z a0 hw [] p4 (Int32.ofNat N) (Int32.ofNat e_2) _ n0 Zn1 er2) hZ (hw _ (List.mem_of_getElem? (i := 4) rfl)) (hw _ (List.mem_of_getElem? (i := 3) rfl)) (by decide) (by decide)) (g := (mkF m 45 #[.val (.int p0), .val (.int p1), .val (.int p2), .val (.int p3), .val (.int p4), .val (.int p5), .val (.int (Int32.ofNat N)), .val (.int (Int32.ofNat M)), .val (.int (Int32.ofNat e_0)), .val (.int (Int32.ofNat e_1)), .unset, .unset, .unset, .unset] [(.int (Int32.ofNat N)), (.int p4)])) rfl (by rw [hml]; rfl) (argsL := [(.int p4), (.int (Int32.ofNat N))]) (rest := []) (lenOf pd_0 rfl) rfl (by show 2 * 0 + _ ≤ _; exact Nat.le_of_eq rfl) (hb hby at_45) (fun _ _ => ⟨rfl, rfl, (by decide : 0 + 0 ≤ _), (by decide : 0 + 0 ≤ _)⟩)
    dsimp only [Pt.U, Pt.locs, Pt.cells, Pt.slots] at X3 l3 y3 z3 st3 hQ3
    subst l3 y3 z3
    obtain ⟨rfl, N3q, hh3⟩ := hQ3
    have N3 := Fr.app N2 N3q
    refine Goes.by (fun t k => st3 _ k) ?_
    show Goes p e below s _ _ _ (T3.setTop (mkF m 48 #[.val (.int p0), .val (.int p1), .val (.int p2), .val (.int p3), .val (.int p4), .val (.int p5), .val (.int (Int32.ofNat N)), .val (.int (Int32.ofNat M)), .val (.int (Int32.ofNat e_0)), .val (.int (Int32.ofNat e_1)), .unset, .unset, .unset, .unset] [(.int (Int32.ofNat e_2))]))
    have Zn2 : n0 ≤ T3.heap.size := by rw [hh3]; exact Zn1
    refine Goes.by (fun t k => XS.istore X3.here hx rfl (hb hby at_48) rfl (l' := #[.val (.int p0), .val (.int p1), .val (.int p2), .val (.int p3), .val (.int p4), .val (.int p5), .val (.int (Int32.ofNat N)), .val (.int (Int32.ofNat M)), .val (.int (Int32.ofNat e_0)), .val (.int (Int32.ofNat e_1)), .val (.int (Int32.ofNat e_2)), .unset, .unset, .unset]) rfl k) ?_
    show Goes p e below s _ _ _ (T3.setTop (mkF m 50 #[.val (.int p0), .val (.int p1), .val (.int p2), .val (.int p3), .val (.int p4), .val (.int p5), .val (.int (Int32.ofNat N)), .val (.int (Int32.ofNat M)), .val (.int (Int32.ofNat e_0)), .val (.int (Int32.ofNat e_1)), .val (.int (Int32.ofNat e_2)), .unset, .unset, .unset] []))
    refine Goes.by (fun t k => XS.iload X3.here hx rfl (hb hby at_50) rfl k) ?_
    show Goes p e below s _ _ _ (T3.setTop (mkF m 52 #[.val (.int p0), .val (.int p1), .val (.int p2), .val (.int p3), .val (.int p4), .val (.int p5), .val (.int (Int32.ofNat N)), .val (.int (Int32.ofNat M)), .val (.int (Int32.ofNat e_0)), .val (.int (Int32.ofNat e_1)), .val (.int (Int32.ofNat e_2)), .unset, .unset, .unset] [(.int p5)]))
    refine Goes.by (fun t k => XS.iload X3.here hx rfl (hb hby at_52) rfl k) ?_
    show Goes p e below s _ _ _ (T3.setTop (mkF m 54 #[.val (.int p0), .val (.int p1), .val (.int p2), .val (.int p3), .val (.int p4), .val (.int p5), .val (.int (Int32.ofNat N)), .val (.int (Int32.ofNat M)), .val (.int (Int32.ofNat e_0)), .val (.int (Int32.ofNat e_1)), .val (.int (Int32.ofNat e_2)), .unset, .unset, .unset] [(.int (Int32.ofNat N)), (.int p5)]))
    obtain ⟨e_3, er3, eb3, el3⟩ := own_end p5 N hN
    obtain ⟨_, _, ⟨T4, L4, k4, n4⟩, -, X4, ⟨Lc4, hQ4, l4, y4, z4⟩, st4⟩ := Jvm.LawKit.callS X3 hx (y := (⟨"com/example/roadstitch/roadstitch/core/ShortestPathsArcsByPinLaw", "end", "(II)I"⟩ : MethodName)) hown (mvT hZ (hw _ (List.mem_of_getElem? (i := 1) rfl))) (mvT hZ (hw _ (List.mem_of_getElem? (i := 2) rfl))) (mvT hZ (hw _ (List.mem_of_getElem? (i := 3) rfl))) (mvT hZ (hw _ (List.mem_of_getElem? (i := 4) rfl))) (by decide) (backOf (W := 0) (rm1 l Z a0 hw [] p5 (Int32.ofNat N) (Int32.ofNat e_3) _ n0 Zn2 er3) hZ (hw _ (List.mem_of_getElem? (i := 4) rfl)) (hw _ (List.mem_of_getElem? (i := 3) rfl)) (by decide) (by decide)) (g := (mkF m 54 #[.val (.int p0), .val (.int p1), .val (.int p2), .val (.int p3), .val (.int p4), .val (.int p5), .val (.int (Int32.ofNat N)), .val (.int (Int32.ofNat M)), .val (.int (Int32.ofNat e_0)), .val (.int (Int32.ofNat e_1)), .val (.int (Int32.ofNat e_2)), .unset, .unset, .unset] [(.int (Int32.ofNat N)), (.int p5)])) rfl (by rw [hml]; rfl) (argsL := [(.int p5), (.int (Int32.ofNat N))]) (rest := []) (lenOf pd_0 rfl) rfl (by show 2 * 0 + _ ≤ _; exact Nat.le_of_eq rfl) (hb hby at_54) (fun _ _ => ⟨rfl, rfl, (by decide : 0 + 0 ≤ _), (by decide : 0 + 0 ≤ _)⟩)
    dsimp only [Pt.U, Pt.locs, Pt.cells, Pt.slots] at X4 l4 y4 z4 st4 hQ4
    subst l4 y4 z4
    obtain ⟨rfl, N4q, hh4⟩ := hQ4
    have N4 := Fr.app N3 N4q
    refine Goes.by (fun t k => st4 _ k) ?_
    show Goes p e below s _ _ _ (T4.setTop (mkF m 57 #[.val (.int p0), .val (.int p1), .val (.int p2), .val (.int p3), .val (.int p4), .val (.int p5), .val (.int (Int32.ofNat N)), .val (.int (Int32.ofNat M)), .val (.int (Int32.ofNat e_0)), .val (.int (Int32.ofNat e_1)), .val (.int (Int32.ofNat e_2)), .unset, .unset, .unset] [(.int (Int32.ofNat e_3))]))
    have Zn3 : n0 ≤ T4.heap.size := by rw [hh4]; exact Zn2
    refine Goes.by (fun t k => XS.istore X4.here hx rfl (hb hby at_57) rfl (l' := #[.val (.int p0), .val (.int p1), .val (.int p2), .val (.int p3), .val (.int p4), .val (.int p5), .val (.int (Int32.ofNat N)), .val (.int (Int32.ofNat M)), .val (.int (Int32.ofNat e_0)), .val (.int (Int32.ofNat e_1)), .val (.int (Int32.ofNat e_2)), .val (.int (Int32.ofNat e_3)), .unset, .unset]) rfl k) ?_
    show Goes p e below s _ _ _ (T4.setTop (mkF m 59 #[.val (.int p0), .val (.int p1), .val (.int p2), .val (.int p3), .val (.int p4), .val (.int p5), .val (.int (Int32.ofNat N)), .val (.int (Int32.ofNat M)), .val (.int (Int32.ofNat e_0)), .val (.int (Int32.ofNat e_1)), .val (.int (Int32.ofNat e_2)), .val (.int (Int32.ofNat e_3)), .unset, .unset] []))
    refine Goes.by (fun t k => XS.iload X4.here hx rfl (hb hby at_59) rfl k) ?_
    show Goes p e below s _ _ _ (T4.setTop (mkF m 61 #[.val (.int p0), .val (.int p1), .val (.int p2), .val (.int p3), .val (.int p4), .val (.int p5), .val (.int (Int32.ofNat N)), .val (.int (Int32.ofNat M)), .val (.int (Int32.ofNat e_0)), .val (.int (Int32.ofNat e_1)), .val (.int (Int32.ofNat e_2)), .val (.int (Int32.ofNat e_3)), .unset, .unset] [(.int (Int32.ofNat M))]))
    obtain ⟨T5, h5, X5, e5, E5, I5, Ex5, st5⟩ := own_newI X4 hx hZ (hw _ (List.mem_of_getElem? (i := 5) rfl)) rfl (g := (mkF m 61 #[.val (.int p0), .val (.int p1), .val (.int p2), .val (.int p3), .val (.int p4), .val (.int p5), .val (.int (Int32.ofNat N)), .val (.int (Int32.ofNat M)), .val (.int (Int32.ofNat e_0)), .val (.int (Int32.ofNat e_1)), .val (.int (Int32.ofNat e_2)), .val (.int (Int32.ofNat e_3)), .unset, .unset] [(.int (Int32.ofNat M))])) rfl (hb hby at_61) rfl 4 (n := M) (by omega) (by omega) (by decide) (by decide)
    obtain ⟨ab, g_ab⟩ : ∃ z, z = T4.heap.size := ⟨_, rfl⟩
    rw [← g_ab] at I5 Ex5 st5
    refine Goes.by (fun t k => st5 t k) ?_
    show Goes p e below s _ _ _ (T5.setTop (mkF m 63 #[.val (.int p0), .val (.int p1), .val (.int p2), .val (.int p3), .val (.int p4), .val (.int p5), .val (.int (Int32.ofNat N)), .val (.int (Int32.ofNat M)), .val (.int (Int32.ofNat e_0)), .val (.int (Int32.ofNat e_1)), .val (.int (Int32.ofNat e_2)), .val (.int (Int32.ofNat e_3)), .unset, .unset] [(.ref ab)]))
    have gab : n0 ≤ ab := Nat.le_trans Zn3 (Nat.le_of_eq g_ab.symm)
    obtain ⟨es, hes⟩ : ∃ z, z = esOf e_0 e_1 e_2 e_3 := ⟨_, rfl⟩
    have es0 : es 0 = e_0 := by rw [hes]; rfl
    have es1 : es 1 = e_1 := by rw [hes]; rfl
    have es2 : es 2 = e_2 := by rw [hes]; rfl
    have es3 : es 3 = e_3 := by rw [hes]; rfl
    have Za : n0 ≤ h5.size := Nat.le_trans Zn3 E5.1
    refine Goes.by (fun t k => XS.astore X5.here hx rfl (hb hby at_63) rfl rfl (l' := #[.val (.int p0), .val (.int p1), .val (.int p2), .val (.int p3), .val (.int p4), .val (.int p5), .val (.int (Int32.ofNat N)), .val (.int (Int32.ofNat M)), .val (.int (Int32.ofNat e_0)), .val (.int (Int32.ofNat e_1)), .val (.int (Int32.ofNat e_2)), .val (.int (Int32.ofNat e_3)), .val (.ref ab), .unset]) rfl k) ?_
    show Goes p e below s _ _ _ (T5.setTop (mkF m 65 #[.val (.int p0), .val (.int p1), .val (.int p2), .val (.int p3), .val (.int p4), .val (.int p5), .val (.int (Int32.ofNat N)), .val (.int (Int32.ofNat M)), .val (.int (Int32.ofNat e_0)), .val (.int (Int32.ofNat e_1)), .val (.int (Int32.ofNat e_2)), .val (.int (Int32.ofNat e_3)), .val (.ref ab), .unset] []))
    have J112 : ∀ (T : State) (locs : List Loc) (h : Heap) (f : Nat → Int32), Stand p l e room_1 s m #[(.int p0), (.int p1), (.int p2), (.int p3), (.int p4), (.int p5)] below meth c T locs (0 + 0 + 0 + 0 + 0 + 1) (0 + 0 + 0 + 0 + 0 + 4) → T.heap = h → Fr n0 locs → n0 ≤ h.size → IA Z h ab M f → (∀ j, j < M → j < 4 → f j = Int32.ofNat (es j)) → Goes p e below s (Q0 n0) room_1.cells room_1.slots (T.setTop (mkF m 112 #[.val (.int p0), .val (.int p1), .val (.int p2), .val (.int p3), .val (.int p4), .val (.int p5), .val (.int (Int32.ofNat N)), .val (.int (Int32.ofNat M)), .val (.int (Int32.ofNat e_0)), .val (.int (Int32.ofNat e_1)), .val (.int (Int32.ofNat e_2)), .val (.int (Int32.ofNat e_3)), .val (.ref ab), .unset] [])) := by
      intro T locs h f X eT N0 Zh IA0 hf
      show Goes p e below s _ _ _ (T.setTop (mkF m 112 #[.val (.int p0), .val (.int p1), .val (.int p2), .val (.int p3), .val (.int p4), .val (.int p5), .val (.int (Int32.ofNat N)), .val (.int (Int32.ofNat M)), .val (.int (Int32.ofNat e_0)), .val (.int (Int32.ofNat e_1)), .val (.int (Int32.ofNat e_2)), .val (.int (Int32.ofNat e_3)), .val (.ref ab), .unset] []))
      have IA1 : IA Z h ab M (fun i => Int32.ofNat (es i)) := IA0.congr rfl fun j hj => hf j hj (by omega)
      have hesN : ∀ i, i < M → es i < N := fun i hi => by
        have hp : 0 < N := by
          rcases Nat.eq_zero_or_pos N with q | q
          · have := hNM q; omega
          · exact q
        have c0 := eb0 hp
        have c1 := eb1 hp
        have c2 := eb2 hp
        have c3 := eb3 hp
        rw [hes]; unfold esOf; repeat' split
        all_goals assumption
      have hle : ∀ i, es i ≤ 4 := fun i => by
        rw [hes]; unfold esOf; repeat' split
        all_goals assumption
      refine Goes.by (fun t k => XS.iload X.here hx rfl (hb hby at_112) rfl k) ?_
      show Goes p e below s _ _ _ (T.setTop (mkF m 114 #[.val (.int p0), .val (.int p1), .val (.int p2), .val (.int p3), .val (.int p4), .val (.int p5), .val (.int (Int32.ofNat N)), .val (.int (Int32.ofNat M)), .val (.int (Int32.ofNat e_0)), .val (.int (Int32.ofNat e_1)), .val (.int (Int32.ofNat e_2)), .val (.int (Int32.ofNat e_3)), .val (.ref ab), .unset] [(.int (Int32.ofNat N))]))
      refine Goes.by (fun t k => XS.aload X.here hx rfl (hb hby at_114) rfl rfl k) ?_
      show Goes p e below s _ _ _ (T.setTop (mkF m 116 #[.val (.int p0), .val (.int p1), .val (.int p2), .val (.int p3), .val (.int p4), .val (.int p5), .val (.int (Int32.ofNat N)), .val (.int (Int32.ofNat M)), .val (.int (Int32.ofNat e_0)), .val (.int (Int32.ofNat e_1)), .val (.int (Int32.ofNat e_2)), .val (.int (Int32.ofNat e_3)), .val (.ref ab), .unset] [(.ref ab), (.int (Int32.ofNat N))]))
      obtain ⟨_, _, ⟨T6, L6, k6, n6⟩, -, X6, ⟨Lc6, hQ6, l6, y6, z6⟩, st6⟩ := Jvm.LawKit.callS X hx (y := (⟨"com/example/roadstitch/roadstitch/core/ShortestPaths", "arcsBy", "(I[I)[[I"⟩ : MethodName)) hown (mvT hZ (hw _ (List.mem_of_getElem? (i := 6) rfl))) (mvT hZ (hw _ (List.mem_of_getElem? (i := 7) rfl))) (mvT hZ (hw _ (List.mem_of_getElem? (i := 8) rfl))) (mvT hZ (hw _ (List.mem_of_getElem? (i := 9) rfl))) (by decide) (backOf (W := 0) (rm2 l Z a0 hw [] ab N M es h n0 Zh hN hM hesN IA1) hZ (hw _ (List.mem_of_getElem? (i := 9) rfl)) (hw _ (List.mem_of_getElem? (i := 8) rfl)) (by decide) (by decide)) (g := (mkF m 116 #[.val (.int p0), .val (.int p1), .val (.int p2), .val (.int p3), .val (.int p4), .val (.int p5), .val (.int (Int32.ofNat N)), .val (.int (Int32.ofNat M)), .val (.int (Int32.ofNat e_0)), .val (.int (Int32.ofNat e_1)), .val (.int (Int32.ofNat e_2)), .val (.int (Int32.ofNat e_3)), .val (.ref ab), .unset] [(.ref ab), (.int (Int32.ofNat N))])) rfl (by rw [hml]; rfl) (argsL := [(.int (Int32.ofNat N)), (.ref ab)]) (rest := []) (lenOf pd_1 rfl) rfl (by show 2 * 0 + _ ≤ _; exact Nat.le_of_eq rfl) (hb hby at_116) (fun _ _ => ⟨rfl, eT, (by decide : 0 + 0 + 0 + 0 + 0 + 1 + 7 ≤ _), (by decide : 0 + 0 + 0 + 0 + 0 + 4 + 28 ≤ _)⟩)
      dsimp only [Pt.U, Pt.locs, Pt.cells, Pt.slots] at X6 l6 y6 z6 st6 hQ6
      subst l6 y6 z6
      obtain ⟨r6, kA, ad, rfl, N6q, K6, RR, IR⟩ := hQ6
      have N6 := Fr.app N0 N6q
      refine Goes.by (fun t k => st6 _ k) ?_
      show Goes p e below s _ _ _ (T6.setTop (mkF m 119 #[.val (.int p0), .val (.int p1), .val (.int p2), .val (.int p3), .val (.int p4), .val (.int p5), .val (.int (Int32.ofNat N)), .val (.int (Int32.ofNat M)), .val (.int (Int32.ofNat e_0)), .val (.int (Int32.ofNat e_1)), .val (.int (Int32.ofNat e_2)), .val (.int (Int32.ofNat e_3)), .val (.ref ab), .unset] [(.ref r6)]))
      have Zr := Nat.le_trans Zh K6.1
      refine Goes.by (fun t k => XS.astore X6.here hx rfl (hb hby at_119) rfl rfl (l' := #[.val (.int p0), .val (.int p1), .val (.int p2), .val (.int p3), .val (.int p4), .val (.int p5), .val (.int (Int32.ofNat N)), .val (.int (Int32.ofNat M)), .val (.int (Int32.ofNat e_0)), .val (.int (Int32.ofNat e_1)), .val (.int (Int32.ofNat e_2)), .val (.int (Int32.ofNat e_3)), .val (.ref ab), .val (.ref r6)]) rfl k) ?_
      show Goes p e below s _ _ _ (T6.setTop (mkF m 121 #[.val (.int p0), .val (.int p1), .val (.int p2), .val (.int p3), .val (.int p4), .val (.int p5), .val (.int (Int32.ofNat N)), .val (.int (Int32.ofNat M)), .val (.int (Int32.ofNat e_0)), .val (.int (Int32.ofNat e_1)), .val (.int (Int32.ofNat e_2)), .val (.int (Int32.ofNat e_3)), .val (.ref ab), .val (.ref r6)] []))
      refine Goes.by (fun t k => XS.aload X6.here hx rfl (hb hby at_121) rfl rfl k) ?_
      show Goes p e below s _ _ _ (T6.setTop (mkF m 123 #[.val (.int p0), .val (.int p1), .val (.int p2), .val (.int p3), .val (.int p4), .val (.int p5), .val (.int (Int32.ofNat N)), .val (.int (Int32.ofNat M)), .val (.int (Int32.ofNat e_0)), .val (.int (Int32.ofNat e_1)), .val (.int (Int32.ofNat e_2)), .val (.int (Int32.ofNat e_3)), .val (.ref ab), .val (.ref r6)] [(.ref r6)]))
      refine Goes.by (fun t k => XS.ifnullNo X6.here hx rfl (hb hby at_123) rfl k) ?_
      show Goes p e below s _ _ _ (T6.setTop (mkF m 126 #[.val (.int p0), .val (.int p1), .val (.int p2), .val (.int p3), .val (.int p4), .val (.int p5), .val (.int (Int32.ofNat N)), .val (.int (Int32.ofNat M)), .val (.int (Int32.ofNat e_0)), .val (.int (Int32.ofNat e_1)), .val (.int (Int32.ofNat e_2)), .val (.int (Int32.ofNat e_3)), .val (.ref ab), .val (.ref r6)] []))
      refine Goes.by (fun t k => XS.aload X6.here hx rfl (hb hby at_126) rfl rfl k) ?_
      show Goes p e below s _ _ _ (T6.setTop (mkF m 128 #[.val (.int p0), .val (.int p1), .val (.int p2), .val (.int p3), .val (.int p4), .val (.int p5), .val (.int (Int32.ofNat N)), .val (.int (Int32.ofNat M)), .val (.int (Int32.ofNat e_0)), .val (.int (Int32.ofNat e_1)), .val (.int (Int32.ofNat e_2)), .val (.int (Int32.ofNat e_3)), .val (.ref ab), .val (.ref r6)] [(.ref r6)]))
      refine Goes.by (fun t k => own_lenR X6 hx hZ rfl (RR) (g := (mkF m 128 #[.val (.int p0), .val (.int p1), .val (.int p2), .val (.int p3), .val (.int p4), .val (.int p5), .val (.int (Int32.ofNat N)), .val (.int (Int32.ofNat M)), .val (.int (Int32.ofNat e_0)), .val (.int (Int32.ofNat e_1)), .val (.int (Int32.ofNat e_2)), .val (.int (Int32.ofNat e_3)), .val (.ref ab), .val (.ref r6)] [(.ref r6)])) rfl rfl (hb hby at_128) k) ?_
      show Goes p e below s _ _ _ (T6.setTop (mkF m 129 #[.val (.int p0), .val (.int p1), .val (.int p2), .val (.int p3), .val (.int p4), .val (.int p5), .val (.int (Int32.ofNat N)), .val (.int (Int32.ofNat M)), .val (.int (Int32.ofNat e_0)), .val (.int (Int32.ofNat e_1)), .val (.int (Int32.ofNat e_2)), .val (.int (Int32.ofNat e_3)), .val (.ref ab), .val (.ref r6)] [(.int (Int32.ofNat N))]))
      refine Goes.by (fun t k => XS.iload X6.here hx rfl (hb hby at_129) rfl k) ?_
      show Goes p e below s _ _ _ (T6.setTop (mkF m 131 #[.val (.int p0), .val (.int p1), .val (.int p2), .val (.int p3), .val (.int p4), .val (.int p5), .val (.int (Int32.ofNat N)), .val (.int (Int32.ofNat M)), .val (.int (Int32.ofNat e_0)), .val (.int (Int32.ofNat e_1)), .val (.int (Int32.ofNat e_2)), .val (.int (Int32.ofNat e_3)), .val (.ref ab), .val (.ref r6)] [(.int (Int32.ofNat N)), (.int (Int32.ofNat N))]))
      refine Goes.by (fun t k => XS.icmpYes X6.here hx rfl (pc0 := 131) (pc' := 136) rfl (hb hby at_131) rfl (teq (rfl)).1 (by decide) (by decide) k) ?_
      show Goes p e below s _ _ _ (T6.setTop (mkF m 136 #[.val (.int p0), .val (.int p1), .val (.int p2), .val (.int p3), .val (.int p4), .val (.int p5), .val (.int (Int32.ofNat N)), .val (.int (Int32.ofNat M)), .val (.int (Int32.ofNat e_0)), .val (.int (Int32.ofNat e_1)), .val (.int (Int32.ofNat e_2)), .val (.int (Int32.ofNat e_3)), .val (.ref ab), .val (.ref r6)] []))
      refine Goes.by (fun t k => XS.aload X6.here hx rfl (hb hby at_136) rfl rfl k) ?_
      show Goes p e below s _ _ _ (T6.setTop (mkF m 138 #[.val (.int p0), .val (.int p1), .val (.int p2), .val (.int p3), .val (.int p4), .val (.int p5), .val (.int (Int32.ofNat N)), .val (.int (Int32.ofNat M)), .val (.int (Int32.ofNat e_0)), .val (.int (Int32.ofNat e_1)), .val (.int (Int32.ofNat e_2)), .val (.int (Int32.ofNat e_3)), .val (.ref ab), .val (.ref r6)] [(.ref r6)]))
      refine Goes.by (fun t k => XS.iconst X6.here hx rfl (hb hby at_138) k) ?_
      show Goes p e below s _ _ _ (T6.setTop (mkF m 139 #[.val (.int p0), .val (.int p1), .val (.int p2), .val (.int p3), .val (.int p4), .val (.int p5), .val (.int (Int32.ofNat N)), .val (.int (Int32.ofNat M)), .val (.int (Int32.ofNat e_0)), .val (.int (Int32.ofNat e_1)), .val (.int (Int32.ofNat e_2)), .val (.int (Int32.ofNat e_3)), .val (.ref ab), .val (.ref r6)] [(.int (0 : Int32)), (.ref r6)]))
      refine Goes.by (fun t k => XS.iload X6.here hx rfl (hb hby at_139) rfl k) ?_
      show Goes p e below s _ _ _ (T6.setTop (mkF m 141 #[.val (.int p0), .val (.int p1), .val (.int p2), .val (.int p3), .val (.int p4), .val (.int p5), .val (.int (Int32.ofNat N)), .val (.int (Int32.ofNat M)), .val (.int (Int32.ofNat e_0)), .val (.int (Int32.ofNat e_1)), .val (.int (Int32.ofNat e_2)), .val (.int (Int32.ofNat e_3)), .val (.ref ab), .val (.ref r6)] [(.int (Int32.ofNat N)), (.int (0 : Int32)), (.ref r6)]))
      refine Goes.by (fun t k => XS.iload X6.here hx rfl (hb hby at_141) rfl k) ?_
      show Goes p e below s _ _ _ (T6.setTop (mkF m 143 #[.val (.int p0), .val (.int p1), .val (.int p2), .val (.int p3), .val (.int p4), .val (.int p5), .val (.int (Int32.ofNat N)), .val (.int (Int32.ofNat M)), .val (.int (Int32.ofNat e_0)), .val (.int (Int32.ofNat e_1)), .val (.int (Int32.ofNat e_2)), .val (.int (Int32.ofNat e_3)), .val (.ref ab), .val (.ref r6)] [(.int (Int32.ofNat M)), (.int (Int32.ofNat N)), (.int (0 : Int32)), (.ref r6)]))
      refine Goes.by (fun t k => XS.iload X6.here hx rfl (hb hby at_143) rfl k) ?_
      show Goes p e below s _ _ _ (T6.setTop (mkF m 145 #[.val (.int p0), .val (.int p1), .val (.int p2), .val (.int p3), .val (.int p4), .val (.int p5), .val (.int (Int32.ofNat N)), .val (.int (Int32.ofNat M)), .val (.int (Int32.ofNat e_0)), .val (.int (Int32.ofNat e_1)), .val (.int (Int32.ofNat e_2)), .val (.int (Int32.ofNat e_3)), .val (.ref ab), .val (.ref r6)] [(.int (Int32.ofNat e_0)), (.int (Int32.ofNat M)), (.int (Int32.ofNat N)), (.int (0 : Int32)), (.ref r6)]))
      refine Goes.by (fun t k => XS.iload X6.here hx rfl (hb hby at_145) rfl k) ?_
      show Goes p e below s _ _ _ (T6.setTop (mkF m 147 #[.val (.int p0), .val (.int p1), .val (.int p2), .val (.int p3), .val (.int p4), .val (.int p5), .val (.int (Int32.ofNat N)), .val (.int (Int32.ofNat M)), .val (.int (Int32.ofNat e_0)), .val (.int (Int32.ofNat e_1)), .val (.int (Int32.ofNat e_2)), .val (.int (Int32.ofNat e_3)), .val (.ref ab), .val (.ref r6)] [(.int (Int32.ofNat e_1)), (.int (Int32.ofNat e_0)), (.int (Int32.ofNat M)), (.int (Int32.ofNat N)), (.int (0 : Int32)), (.ref r6)]))
      refine Goes.by (fun t k => XS.iload X6.here hx rfl (hb hby at_147) rfl k) ?_
      show Goes p e below s _ _ _ (T6.setTop (mkF m 149 #[.val (.int p0), .val (.int p1), .val (.int p2), .val (.int p3), .val (.int p4), .val (.int p5), .val (.int (Int32.ofNat N)), .val (.int (Int32.ofNat M)), .val (.int (Int32.ofNat e_0)), .val (.int (Int32.ofNat e_1)), .val (.int (Int32.ofNat e_2)), .val (.int (Int32.ofNat e_3)), .val (.ref ab), .val (.ref r6)] [(.int (Int32.ofNat e_2)), (.int (Int32.ofNat e_1)), (.int (Int32.ofNat e_0)), (.int (Int32.ofNat M)), (.int (Int32.ofNat N)), (.int (0 : Int32)), (.ref r6)]))
      refine Goes.by (fun t k => XS.iload X6.here hx rfl (hb hby at_149) rfl k) ?_
      show Goes p e below s _ _ _ (T6.setTop (mkF m 151 #[.val (.int p0), .val (.int p1), .val (.int p2), .val (.int p3), .val (.int p4), .val (.int p5), .val (.int (Int32.ofNat N)), .val (.int (Int32.ofNat M)), .val (.int (Int32.ofNat e_0)), .val (.int (Int32.ofNat e_1)), .val (.int (Int32.ofNat e_2)), .val (.int (Int32.ofNat e_3)), .val (.ref ab), .val (.ref r6)] [(.int (Int32.ofNat e_3)), (.int (Int32.ofNat e_2)), (.int (Int32.ofNat e_1)), (.int (Int32.ofNat e_0)), (.int (Int32.ofNat M)), (.int (Int32.ofNat N)), (.int (0 : Int32)), (.ref r6)]))
      show Goes p e below s _ _ _ (T6.setTop (mkF m 151 #[.val (.int p0), .val (.int p1), .val (.int p2), .val (.int p3), .val (.int p4), .val (.int p5), .val (.int (Int32.ofNat N)), .val (.int (Int32.ofNat M)), .val (.int (Int32.ofNat e_0)), .val (.int (Int32.ofNat e_1)), .val (.int (Int32.ofNat e_2)), .val (.int (Int32.ofNat e_3)), .val (.ref ab), .val (.ref r6)] [(.int (Int32.ofNat e_3)), (.int (Int32.ofNat e_2)), (.int (Int32.ofNat e_1)), (.int (Int32.ofNat e_0)), (.int (Int32.ofNat M)), (.int (Int32.ofNat N)), (.int (Int32.ofNat 0)), (.ref r6)]))
      obtain ⟨_, _, ⟨T7, L7, k7, n7⟩, -, X7, ⟨Lc7, hQ7, l7, y7, z7⟩, st7⟩ := Jvm.LawKit.callS X6 hx (y := (⟨"com/example/roadstitch/roadstitch/core/ShortestPathsArcsByPinLaw", "row", "([[IIIIIIII)Z"⟩ : MethodName)) hown (mvT hZ (hw _ (List.mem_of_getElem? (i := 12) rfl))) (mvT hZ (hw _ (List.mem_of_getElem? (i := 13) rfl))) (mvT hZ (hw _ (List.mem_of_getElem? (i := 3) rfl))) (mvT hZ (hw _ (List.mem_of_getElem? (i := 14) rfl))) (by decide) (backOf (W := 0) (rm3 l Z a0 hw [] r6 0 N M _ _ _ _ es kA ad _ n0 Zr (by omega) hN hM hesN RR IR (by rw [es0]) (by rw [es1]) (by rw [es2]) (by rw [es3]) hle) hZ (hw _ (List.mem_of_getElem? (i := 14) rfl)) (hw _ (List.mem_of_getElem? (i := 3) rfl)) (by decide) (by decide)) (g := (mkF m 151 #[.val (.int p0), .val (.int p1), .val (.int p2), .val (.int p3), .val (.int p4), .val (.int p5), .val (.int (Int32.ofNat N)), .val (.int (Int32.ofNat M)), .val (.int (Int32.ofNat e_0)), .val (.int (Int32.ofNat e_1)), .val (.int (Int32.ofNat e_2)), .val (.int (Int32.ofNat e_3)), .val (.ref ab), .val (.ref r6)] [(.int (Int32.ofNat e_3)), (.int (Int32.ofNat e_2)), (.int (Int32.ofNat e_1)), (.int (Int32.ofNat e_0)), (.int (Int32.ofNat M)), (.int (Int32.ofNat N)), (.int (Int32.ofNat 0)), (.ref r6)])) rfl (by rw [hml]; rfl) (argsL := [(.ref r6), (.int (Int32.ofNat 0)), (.int (Int32.ofNat N)), (.int (Int32.ofNat M)), (.int (Int32.ofNat e_0)), (.int (Int32.ofNat e_1)), (.int (Int32.ofNat e_2)), (.int (Int32.ofNat e_3))]) (rest := []) (lenOf pd_2 rfl) rfl (by show 2 * 0 + _ ≤ _; exact Nat.le_of_eq rfl) (hb hby at_151) (fun _ _ => ⟨rfl, rfl, (by decide : 0 + 0 + 0 + 0 + 0 + 1 + 7 + 1 ≤ _), (by decide : 0 + 0 + 0 + 0 + 0 + 4 + 28 + 4 ≤ _)⟩)
      dsimp only [Pt.U, Pt.locs, Pt.cells, Pt.slots] at X7 l7 y7 z7 st7 hQ7
      subst l7 y7 z7
      obtain ⟨rfl, N7q, K7⟩ := hQ7
      have N7 := Fr.app N6 N7q
      refine Goes.by (fun t k => st7 _ k) ?_
      show Goes p e below s _ _ _ (T7.setTop (mkF m 154 #[.val (.int p0), .val (.int p1), .val (.int p2), .val (.int p3), .val (.int p4), .val (.int p5), .val (.int (Int32.ofNat N)), .val (.int (Int32.ofNat M)), .val (.int (Int32.ofNat e_0)), .val (.int (Int32.ofNat e_1)), .val (.int (Int32.ofNat e_2)), .val (.int (Int32.ofNat e_3)), .val (.ref ab), .val (.ref r6)] [(.int (1 : Int32))]))
      have RR0 := RR.keep K7 nin0
      have IR0 := fun i hi => (IR i hi).keep K7 nin0
      have Zr0 := Nat.le_trans Zr K7.1
      refine Goes.by (fun t k => XS.ifNo X7.here hx rfl (hb hby at_154) rfl ((if0 _ _).trans (feq (by decide)).1) k) ?_
      show Goes p e below s _ _ _ (T7.setTop (mkF m 157 #[.val (.int p0), .val (.int p1), .val (.int p2), .val (.int p3), .val (.int p4), .val (.int p5), .val (.int (Int32.ofNat N)), .val (.int (Int32.ofNat M)), .val (.int (Int32.ofNat e_0)), .val (.int (Int32.ofNat e_1)), .val (.int (Int32.ofNat e_2)), .val (.int (Int32.ofNat e_3)), .val (.ref ab), .val (.ref r6)] []))
      refine Goes.by (fun t k => XS.aload X7.here hx rfl (hb hby at_157) rfl rfl k) ?_
      show Goes p e below s _ _ _ (T7.setTop (mkF m 159 #[.val (.int p0), .val (.int p1), .val (.int p2), .val (.int p3), .val (.int p4), .val (.int p5), .val (.int (Int32.ofNat N)), .val (.int (Int32.ofNat M)), .val (.int (Int32.ofNat e_0)), .val (.int (Int32.ofNat e_1)), .val (.int (Int32.ofNat e_2)), .val (.int (Int32.ofNat e_3)), .val (.ref ab), .val (.ref r6)] [(.ref r6)]))
      refine Goes.by (fun t k => XS.iconst X7.here hx rfl (hb hby at_159) k) ?_
      show Goes p e below s _ _ _ (T7.setTop (mkF m 160 #[.val (.int p0), .val (.int p1), .val (.int p2), .val (.int p3), .val (.int p4), .val (.int p5), .val (.int (Int32.ofNat N)), .val (.int (Int32.ofNat M)), .val (.int (Int32.ofNat e_0)), .val (.int (Int32.ofNat e_1)), .val (.int (Int32.ofNat e_2)), .val (.int (Int32.ofNat e_3)), .val (.ref ab), .val (.ref r6)] [(.int (1 : Int32)), (.ref r6)]))
      refine Goes.by (fun t k => XS.iload X7.here hx rfl (hb hby at_160) rfl k) ?_
      show Goes p e below s _ _ _ (T7.setTop (mkF m 162 #[.val (.int p0), .val (.int p1), .val (.int p2), .val (.int p3), .val (.int p4), .val (.int p5), .val (.int (Int32.ofNat N)), .val (.int (Int32.ofNat M)), .val (.int (Int32.ofNat e_0)), .val (.int (Int32.ofNat e_1)), .val (.int (Int32.ofNat e_2)), .val (.int (Int32.ofNat e_3)), .val (.ref ab), .val (.ref r6)] [(.int (Int32.ofNat N)), (.int (1 : Int32)), (.ref r6)]))
      refine Goes.by (fun t k => XS.iload X7.here hx rfl (hb hby at_162) rfl k) ?_
      show Goes p e below s _ _ _ (T7.setTop (mkF m 164 #[.val (.int p0), .val (.int p1), .val (.int p2), .val (.int p3), .val (.int p4), .val (.int p5), .val (.int (Int32.ofNat N)), .val (.int (Int32.ofNat M)), .val (.int (Int32.ofNat e_0)), .val (.int (Int32.ofNat e_1)), .val (.int (Int32.ofNat e_2)), .val (.int (Int32.ofNat e_3)), .val (.ref ab), .val (.ref r6)] [(.int (Int32.ofNat M)), (.int (Int32.ofNat N)), (.int (1 : Int32)), (.ref r6)]))
      refine Goes.by (fun t k => XS.iload X7.here hx rfl (hb hby at_164) rfl k) ?_
      show Goes p e below s _ _ _ (T7.setTop (mkF m 166 #[.val (.int p0), .val (.int p1), .val (.int p2), .val (.int p3), .val (.int p4), .val (.int p5), .val (.int (Int32.ofNat N)), .val (.int (Int32.ofNat M)), .val (.int (Int32.ofNat e_0)), .val (.int (Int32.ofNat e_1)), .val (.int (Int32.ofNat e_2)), .val (.int (Int32.ofNat e_3)), .val (.ref ab), .val (.ref r6)] [(.int (Int32.ofNat e_0)), (.int (Int32.ofNat M)), (.int (Int32.ofNat N)), (.int (1 : Int32)), (.ref r6)]))
      refine Goes.by (fun t k => XS.iload X7.here hx rfl (hb hby at_166) rfl k) ?_
      show Goes p e below s _ _ _ (T7.setTop (mkF m 168 #[.val (.int p0), .val (.int p1), .val (.int p2), .val (.int p3), .val (.int p4), .val (.int p5), .val (.int (Int32.ofNat N)), .val (.int (Int32.ofNat M)), .val (.int (Int32.ofNat e_0)), .val (.int (Int32.ofNat e_1)), .val (.int (Int32.ofNat e_2)), .val (.int (Int32.ofNat e_3)), .val (.ref ab), .val (.ref r6)] [(.int (Int32.ofNat e_1)), (.int (Int32.ofNat e_0)), (.int (Int32.ofNat M)), (.int (Int32.ofNat N)), (.int (1 : Int32)), (.ref r6)]))
      refine Goes.by (fun t k => XS.iload X7.here hx rfl (hb hby at_168) rfl k) ?_
      show Goes p e below s _ _ _ (T7.setTop (mkF m 170 #[.val (.int p0), .val (.int p1), .val (.int p2), .val (.int p3), .val (.int p4), .val (.int p5), .val (.int (Int32.ofNat N)), .val (.int (Int32.ofNat M)), .val (.int (Int32.ofNat e_0)), .val (.int (Int32.ofNat e_1)), .val (.int (Int32.ofNat e_2)), .val (.int (Int32.ofNat e_3)), .val (.ref ab), .val (.ref r6)] [(.int (Int32.ofNat e_2)), (.int (Int32.ofNat e_1)), (.int (Int32.ofNat e_0)), (.int (Int32.ofNat M)), (.int (Int32.ofNat N)), (.int (1 : Int32)), (.ref r6)]))
      refine Goes.by (fun t k => XS.iload X7.here hx rfl (hb hby at_170) rfl k) ?_
      show Goes p e below s _ _ _ (T7.setTop (mkF m 172 #[.val (.int p0), .val (.int p1), .val (.int p2), .val (.int p3), .val (.int p4), .val (.int p5), .val (.int (Int32.ofNat N)), .val (.int (Int32.ofNat M)), .val (.int (Int32.ofNat e_0)), .val (.int (Int32.ofNat e_1)), .val (.int (Int32.ofNat e_2)), .val (.int (Int32.ofNat e_3)), .val (.ref ab), .val (.ref r6)] [(.int (Int32.ofNat e_3)), (.int (Int32.ofNat e_2)), (.int (Int32.ofNat e_1)), (.int (Int32.ofNat e_0)), (.int (Int32.ofNat M)), (.int (Int32.ofNat N)), (.int (1 : Int32)), (.ref r6)]))
      show Goes p e below s _ _ _ (T7.setTop (mkF m 172 #[.val (.int p0), .val (.int p1), .val (.int p2), .val (.int p3), .val (.int p4), .val (.int p5), .val (.int (Int32.ofNat N)), .val (.int (Int32.ofNat M)), .val (.int (Int32.ofNat e_0)), .val (.int (Int32.ofNat e_1)), .val (.int (Int32.ofNat e_2)), .val (.int (Int32.ofNat e_3)), .val (.ref ab), .val (.ref r6)] [(.int (Int32.ofNat e_3)), (.int (Int32.ofNat e_2)), (.int (Int32.ofNat e_1)), (.int (Int32.ofNat e_0)), (.int (Int32.ofNat M)), (.int (Int32.ofNat N)), (.int (Int32.ofNat 1)), (.ref r6)]))
      obtain ⟨_, _, ⟨T8, L8, k8, n8⟩, -, X8, ⟨Lc8, hQ8, l8, y8, z8⟩, st8⟩ := Jvm.LawKit.callS X7 hx (y := (⟨"com/example/roadstitch/roadstitch/core/ShortestPathsArcsByPinLaw", "row", "([[IIIIIIII)Z"⟩ : MethodName)) hown (mvT hZ (hw _ (List.mem_of_getElem? (i := 12) rfl))) (mvT hZ (hw _ (List.mem_of_getElem? (i := 13) rfl))) (mvT hZ (hw _ (List.mem_of_getElem? (i := 3) rfl))) (mvT hZ (hw _ (List.mem_of_getElem? (i := 14) rfl))) (by decide) (backOf (W := 0) (rm3 l Z a0 hw [] r6 1 N M _ _ _ _ es kA ad _ n0 Zr0 (by omega) hN hM hesN RR0 IR0 (by rw [es0]) (by rw [es1]) (by rw [es2]) (by rw [es3]) hle) hZ (hw _ (List.mem_of_getElem? (i := 14) rfl)) (hw _ (List.mem_of_getElem? (i := 3) rfl)) (by decide) (by decide)) (g := (mkF m 172 #[.val (.int p0), .val (.int p1), .val (.int p2), .val (.int p3), .val (.int p4), .val (.int p5), .val (.int (Int32.ofNat N)), .val (.int (Int32.ofNat M)), .val (.int (Int32.ofNat e_0)), .val (.int (Int32.ofNat e_1)), .val (.int (Int32.ofNat e_2)), .val (.int (Int32.ofNat e_3)), .val (.ref ab), .val (.ref r6)] [(.int (Int32.ofNat e_3)), (.int (Int32.ofNat e_2)), (.int (Int32.ofNat e_1)), (.int (Int32.ofNat e_0)), (.int (Int32.ofNat M)), (.int (Int32.ofNat N)), (.int (Int32.ofNat 1)), (.ref r6)])) rfl (by rw [hml]; rfl) (argsL := [(.ref r6), (.int (Int32.ofNat 1)), (.int (Int32.ofNat N)), (.int (Int32.ofNat M)), (.int (Int32.ofNat e_0)), (.int (Int32.ofNat e_1)), (.int (Int32.ofNat e_2)), (.int (Int32.ofNat e_3))]) (rest := []) (lenOf pd_2 rfl) rfl (by show 2 * 0 + _ ≤ _; exact Nat.le_of_eq rfl) (hb hby at_172) (fun _ _ => ⟨rfl, rfl, (by decide : 0 + 0 + 0 + 0 + 0 + 1 + 7 + 1 + 1 ≤ _), (by decide : 0 + 0 + 0 + 0 + 0 + 4 + 28 + 4 + 4 ≤ _)⟩)
      dsimp only [Pt.U, Pt.locs, Pt.cells, Pt.slots] at X8 l8 y8 z8 st8 hQ8
      subst l8 y8 z8
      obtain ⟨rfl, N8q, K8⟩ := hQ8
      have N8 := Fr.app N7 N8q
      refine Goes.by (fun t k => st8 _ k) ?_
      show Goes p e below s _ _ _ (T8.setTop (mkF m 175 #[.val (.int p0), .val (.int p1), .val (.int p2), .val (.int p3), .val (.int p4), .val (.int p5), .val (.int (Int32.ofNat N)), .val (.int (Int32.ofNat M)), .val (.int (Int32.ofNat e_0)), .val (.int (Int32.ofNat e_1)), .val (.int (Int32.ofNat e_2)), .val (.int (Int32.ofNat e_3)), .val (.ref ab), .val (.ref r6)] [(.int (1 : Int32))]))
      have RR1 := RR0.keep K8 nin0
      have IR1 := fun i hi => (IR0 i hi).keep K8 nin0
      have Zr1 := Nat.le_trans Zr0 K8.1
      refine Goes.by (fun t k => XS.ifNo X8.here hx rfl (hb hby at_175) rfl ((if0 _ _).trans (feq (by decide)).1) k) ?_
      show Goes p e below s _ _ _ (T8.setTop (mkF m 178 #[.val (.int p0), .val (.int p1), .val (.int p2), .val (.int p3), .val (.int p4), .val (.int p5), .val (.int (Int32.ofNat N)), .val (.int (Int32.ofNat M)), .val (.int (Int32.ofNat e_0)), .val (.int (Int32.ofNat e_1)), .val (.int (Int32.ofNat e_2)), .val (.int (Int32.ofNat e_3)), .val (.ref ab), .val (.ref r6)] []))
      refine Goes.by (fun t k => XS.aload X8.here hx rfl (hb hby at_178) rfl rfl k) ?_
      show Goes p e below s _ _ _ (T8.setTop (mkF m 180 #[.val (.int p0), .val (.int p1), .val (.int p2), .val (.int p3), .val (.int p4), .val (.int p5), .val (.int (Int32.ofNat N)), .val (.int (Int32.ofNat M)), .val (.int (Int32.ofNat e_0)), .val (.int (Int32.ofNat e_1)), .val (.int (Int32.ofNat e_2)), .val (.int (Int32.ofNat e_3)), .val (.ref ab), .val (.ref r6)] [(.ref r6)]))
      refine Goes.by (fun t k => XS.iconst X8.here hx rfl (hb hby at_180) k) ?_
      show Goes p e below s _ _ _ (T8.setTop (mkF m 181 #[.val (.int p0), .val (.int p1), .val (.int p2), .val (.int p3), .val (.int p4), .val (.int p5), .val (.int (Int32.ofNat N)), .val (.int (Int32.ofNat M)), .val (.int (Int32.ofNat e_0)), .val (.int (Int32.ofNat e_1)), .val (.int (Int32.ofNat e_2)), .val (.int (Int32.ofNat e_3)), .val (.ref ab), .val (.ref r6)] [(.int (2 : Int32)), (.ref r6)]))
      refine Goes.by (fun t k => XS.iload X8.here hx rfl (hb hby at_181) rfl k) ?_
      show Goes p e below s _ _ _ (T8.setTop (mkF m 183 #[.val (.int p0), .val (.int p1), .val (.int p2), .val (.int p3), .val (.int p4), .val (.int p5), .val (.int (Int32.ofNat N)), .val (.int (Int32.ofNat M)), .val (.int (Int32.ofNat e_0)), .val (.int (Int32.ofNat e_1)), .val (.int (Int32.ofNat e_2)), .val (.int (Int32.ofNat e_3)), .val (.ref ab), .val (.ref r6)] [(.int (Int32.ofNat N)), (.int (2 : Int32)), (.ref r6)]))
      refine Goes.by (fun t k => XS.iload X8.here hx rfl (hb hby at_183) rfl k) ?_
      show Goes p e below s _ _ _ (T8.setTop (mkF m 185 #[.val (.int p0), .val (.int p1), .val (.int p2), .val (.int p3), .val (.int p4), .val (.int p5), .val (.int (Int32.ofNat N)), .val (.int (Int32.ofNat M)), .val (.int (Int32.ofNat e_0)), .val (.int (Int32.ofNat e_1)), .val (.int (Int32.ofNat e_2)), .val (.int (Int32.ofNat e_3)), .val (.ref ab), .val (.ref r6)] [(.int (Int32.ofNat M)), (.int (Int32.ofNat N)), (.int (2 : Int32)), (.ref r6)]))
      refine Goes.by (fun t k => XS.iload X8.here hx rfl (hb hby at_185) rfl k) ?_
      show Goes p e below s _ _ _ (T8.setTop (mkF m 187 #[.val (.int p0), .val (.int p1), .val (.int p2), .val (.int p3), .val (.int p4), .val (.int p5), .val (.int (Int32.ofNat N)), .val (.int (Int32.ofNat M)), .val (.int (Int32.ofNat e_0)), .val (.int (Int32.ofNat e_1)), .val (.int (Int32.ofNat e_2)), .val (.int (Int32.ofNat e_3)), .val (.ref ab), .val (.ref r6)] [(.int (Int32.ofNat e_0)), (.int (Int32.ofNat M)), (.int (Int32.ofNat N)), (.int (2 : Int32)), (.ref r6)]))
      refine Goes.by (fun t k => XS.iload X8.here hx rfl (hb hby at_187) rfl k) ?_
      show Goes p e below s _ _ _ (T8.setTop (mkF m 189 #[.val (.int p0), .val (.int p1), .val (.int p2), .val (.int p3), .val (.int p4), .val (.int p5), .val (.int (Int32.ofNat N)), .val (.int (Int32.ofNat M)), .val (.int (Int32.ofNat e_0)), .val (.int (Int32.ofNat e_1)), .val (.int (Int32.ofNat e_2)), .val (.int (Int32.ofNat e_3)), .val (.ref ab), .val (.ref r6)] [(.int (Int32.ofNat e_1)), (.int (Int32.ofNat e_0)), (.int (Int32.ofNat M)), (.int (Int32.ofNat N)), (.int (2 : Int32)), (.ref r6)]))
      refine Goes.by (fun t k => XS.iload X8.here hx rfl (hb hby at_189) rfl k) ?_
      show Goes p e below s _ _ _ (T8.setTop (mkF m 191 #[.val (.int p0), .val (.int p1), .val (.int p2), .val (.int p3), .val (.int p4), .val (.int p5), .val (.int (Int32.ofNat N)), .val (.int (Int32.ofNat M)), .val (.int (Int32.ofNat e_0)), .val (.int (Int32.ofNat e_1)), .val (.int (Int32.ofNat e_2)), .val (.int (Int32.ofNat e_3)), .val (.ref ab), .val (.ref r6)] [(.int (Int32.ofNat e_2)), (.int (Int32.ofNat e_1)), (.int (Int32.ofNat e_0)), (.int (Int32.ofNat M)), (.int (Int32.ofNat N)), (.int (2 : Int32)), (.ref r6)]))
      refine Goes.by (fun t k => XS.iload X8.here hx rfl (hb hby at_191) rfl k) ?_
      show Goes p e below s _ _ _ (T8.setTop (mkF m 193 #[.val (.int p0), .val (.int p1), .val (.int p2), .val (.int p3), .val (.int p4), .val (.int p5), .val (.int (Int32.ofNat N)), .val (.int (Int32.ofNat M)), .val (.int (Int32.ofNat e_0)), .val (.int (Int32.ofNat e_1)), .val (.int (Int32.ofNat e_2)), .val (.int (Int32.ofNat e_3)), .val (.ref ab), .val (.ref r6)] [(.int (Int32.ofNat e_3)), (.int (Int32.ofNat e_2)), (.int (Int32.ofNat e_1)), (.int (Int32.ofNat e_0)), (.int (Int32.ofNat M)), (.int (Int32.ofNat N)), (.int (2 : Int32)), (.ref r6)]))
      show Goes p e below s _ _ _ (T8.setTop (mkF m 193 #[.val (.int p0), .val (.int p1), .val (.int p2), .val (.int p3), .val (.int p4), .val (.int p5), .val (.int (Int32.ofNat N)), .val (.int (Int32.ofNat M)), .val (.int (Int32.ofNat e_0)), .val (.int (Int32.ofNat e_1)), .val (.int (Int32.ofNat e_2)), .val (.int (Int32.ofNat e_3)), .val (.ref ab), .val (.ref r6)] [(.int (Int32.ofNat e_3)), (.int (Int32.ofNat e_2)), (.int (Int32.ofNat e_1)), (.int (Int32.ofNat e_0)), (.int (Int32.ofNat M)), (.int (Int32.ofNat N)), (.int (Int32.ofNat 2)), (.ref r6)]))
      obtain ⟨_, _, ⟨T9, L9, k9, n9⟩, -, X9, ⟨Lc9, hQ9, l9, y9, z9⟩, st9⟩ := Jvm.LawKit.callS X8 hx (y := (⟨"com/example/roadstitch/roadstitch/core/ShortestPathsArcsByPinLaw", "row", "([[IIIIIIII)Z"⟩ : MethodName)) hown (mvT hZ (hw _ (List.mem_of_getElem? (i := 12) rfl))) (mvT hZ (hw _ (List.mem_of_getElem? (i := 13) rfl))) (mvT hZ (hw _ (List.mem_of_getElem? (i := 3) rfl))) (mvT hZ (hw _ (List.mem_of_getElem? (i := 14) rfl))) (by decide) (backOf (W := 0) (rm3 l Z a0 hw [] r6 2 N M _ _ _ _ es kA ad _ n0 Zr1 (by omega) hN hM hesN RR1 IR1 (by rw [es0]) (by rw [es1]) (by rw [es2]) (by rw [es3]) hle) hZ (hw _ (List.mem_of_getElem? (i := 14) rfl)) (hw _ (List.mem_of_getElem? (i := 3) rfl)) (by decide) (by decide)) (g := (mkF m 193 #[.val (.int p0), .val (.int p1), .val (.int p2), .val (.int p3), .val (.int p4), .val (.int p5), .val (.int (Int32.ofNat N)), .val (.int (Int32.ofNat M)), .val (.int (Int32.ofNat e_0)), .val (.int (Int32.ofNat e_1)), .val (.int (Int32.ofNat e_2)), .val (.int (Int32.ofNat e_3)), .val (.ref ab), .val (.ref r6)] [(.int (Int32.ofNat e_3)), (.int (Int32.ofNat e_2)), (.int (Int32.ofNat e_1)), (.int (Int32.ofNat e_0)), (.int (Int32.ofNat M)), (.int (Int32.ofNat N)), (.int (Int32.ofNat 2)), (.ref r6)])) rfl (by rw [hml]; rfl) (argsL := [(.ref r6), (.int (Int32.ofNat 2)), (.int (Int32.ofNat N)), (.int (Int32.ofNat M)), (.int (Int32.ofNat e_0)), (.int (Int32.ofNat e_1)), (.int (Int32.ofNat e_2)), (.int (Int32.ofNat e_3))]) (rest := []) (lenOf pd_2 rfl) rfl (by show 2 * 0 + _ ≤ _; exact Nat.le_of_eq rfl) (hb hby at_193) (fun _ _ => ⟨rfl, rfl, (by decide : 0 + 0 + 0 + 0 + 0 + 1 + 7 + 1 + 1 + 1 ≤ _), (by decide : 0 + 0 + 0 + 0 + 0 + 4 + 28 + 4 + 4 + 4 ≤ _)⟩)
      dsimp only [Pt.U, Pt.locs, Pt.cells, Pt.slots] at X9 l9 y9 z9 st9 hQ9
      subst l9 y9 z9
      obtain ⟨rfl, N9q, K9⟩ := hQ9
      have N9 := Fr.app N8 N9q
      refine Goes.by (fun t k => st9 _ k) ?_
      show Goes p e below s _ _ _ (T9.setTop (mkF m 196 #[.val (.int p0), .val (.int p1), .val (.int p2), .val (.int p3), .val (.int p4), .val (.int p5), .val (.int (Int32.ofNat N)), .val (.int (Int32.ofNat M)), .val (.int (Int32.ofNat e_0)), .val (.int (Int32.ofNat e_1)), .val (.int (Int32.ofNat e_2)), .val (.int (Int32.ofNat e_3)), .val (.ref ab), .val (.ref r6)] [(.int (1 : Int32))]))
      have RR2 := RR1.keep K9 nin0
      have IR2 := fun i hi => (IR1 i hi).keep K9 nin0
      have Zr2 := Nat.le_trans Zr1 K9.1
      refine Goes.by (fun t k => XS.ifNo X9.here hx rfl (hb hby at_196) rfl ((if0 _ _).trans (feq (by decide)).1) k) ?_
      show Goes p e below s _ _ _ (T9.setTop (mkF m 199 #[.val (.int p0), .val (.int p1), .val (.int p2), .val (.int p3), .val (.int p4), .val (.int p5), .val (.int (Int32.ofNat N)), .val (.int (Int32.ofNat M)), .val (.int (Int32.ofNat e_0)), .val (.int (Int32.ofNat e_1)), .val (.int (Int32.ofNat e_2)), .val (.int (Int32.ofNat e_3)), .val (.ref ab), .val (.ref r6)] []))
      refine Goes.by (fun t k => XS.aload X9.here hx rfl (hb hby at_199) rfl rfl k) ?_
      show Goes p e below s _ _ _ (T9.setTop (mkF m 201 #[.val (.int p0), .val (.int p1), .val (.int p2), .val (.int p3), .val (.int p4), .val (.int p5), .val (.int (Int32.ofNat N)), .val (.int (Int32.ofNat M)), .val (.int (Int32.ofNat e_0)), .val (.int (Int32.ofNat e_1)), .val (.int (Int32.ofNat e_2)), .val (.int (Int32.ofNat e_3)), .val (.ref ab), .val (.ref r6)] [(.ref r6)]))
      refine Goes.by (fun t k => XS.iconst X9.here hx rfl (hb hby at_201) k) ?_
      show Goes p e below s _ _ _ (T9.setTop (mkF m 202 #[.val (.int p0), .val (.int p1), .val (.int p2), .val (.int p3), .val (.int p4), .val (.int p5), .val (.int (Int32.ofNat N)), .val (.int (Int32.ofNat M)), .val (.int (Int32.ofNat e_0)), .val (.int (Int32.ofNat e_1)), .val (.int (Int32.ofNat e_2)), .val (.int (Int32.ofNat e_3)), .val (.ref ab), .val (.ref r6)] [(.int (3 : Int32)), (.ref r6)]))
      refine Goes.by (fun t k => XS.iload X9.here hx rfl (hb hby at_202) rfl k) ?_
      show Goes p e below s _ _ _ (T9.setTop (mkF m 204 #[.val (.int p0), .val (.int p1), .val (.int p2), .val (.int p3), .val (.int p4), .val (.int p5), .val (.int (Int32.ofNat N)), .val (.int (Int32.ofNat M)), .val (.int (Int32.ofNat e_0)), .val (.int (Int32.ofNat e_1)), .val (.int (Int32.ofNat e_2)), .val (.int (Int32.ofNat e_3)), .val (.ref ab), .val (.ref r6)] [(.int (Int32.ofNat N)), (.int (3 : Int32)), (.ref r6)]))
      refine Goes.by (fun t k => XS.iload X9.here hx rfl (hb hby at_204) rfl k) ?_
      show Goes p e below s _ _ _ (T9.setTop (mkF m 206 #[.val (.int p0), .val (.int p1), .val (.int p2), .val (.int p3), .val (.int p4), .val (.int p5), .val (.int (Int32.ofNat N)), .val (.int (Int32.ofNat M)), .val (.int (Int32.ofNat e_0)), .val (.int (Int32.ofNat e_1)), .val (.int (Int32.ofNat e_2)), .val (.int (Int32.ofNat e_3)), .val (.ref ab), .val (.ref r6)] [(.int (Int32.ofNat M)), (.int (Int32.ofNat N)), (.int (3 : Int32)), (.ref r6)]))
      refine Goes.by (fun t k => XS.iload X9.here hx rfl (hb hby at_206) rfl k) ?_
      show Goes p e below s _ _ _ (T9.setTop (mkF m 208 #[.val (.int p0), .val (.int p1), .val (.int p2), .val (.int p3), .val (.int p4), .val (.int p5), .val (.int (Int32.ofNat N)), .val (.int (Int32.ofNat M)), .val (.int (Int32.ofNat e_0)), .val (.int (Int32.ofNat e_1)), .val (.int (Int32.ofNat e_2)), .val (.int (Int32.ofNat e_3)), .val (.ref ab), .val (.ref r6)] [(.int (Int32.ofNat e_0)), (.int (Int32.ofNat M)), (.int (Int32.ofNat N)), (.int (3 : Int32)), (.ref r6)]))
      refine Goes.by (fun t k => XS.iload X9.here hx rfl (hb hby at_208) rfl k) ?_
      show Goes p e below s _ _ _ (T9.setTop (mkF m 210 #[.val (.int p0), .val (.int p1), .val (.int p2), .val (.int p3), .val (.int p4), .val (.int p5), .val (.int (Int32.ofNat N)), .val (.int (Int32.ofNat M)), .val (.int (Int32.ofNat e_0)), .val (.int (Int32.ofNat e_1)), .val (.int (Int32.ofNat e_2)), .val (.int (Int32.ofNat e_3)), .val (.ref ab), .val (.ref r6)] [(.int (Int32.ofNat e_1)), (.int (Int32.ofNat e_0)), (.int (Int32.ofNat M)), (.int (Int32.ofNat N)), (.int (3 : Int32)), (.ref r6)]))
      refine Goes.by (fun t k => XS.iload X9.here hx rfl (hb hby at_210) rfl k) ?_
      show Goes p e below s _ _ _ (T9.setTop (mkF m 212 #[.val (.int p0), .val (.int p1), .val (.int p2), .val (.int p3), .val (.int p4), .val (.int p5), .val (.int (Int32.ofNat N)), .val (.int (Int32.ofNat M)), .val (.int (Int32.ofNat e_0)), .val (.int (Int32.ofNat e_1)), .val (.int (Int32.ofNat e_2)), .val (.int (Int32.ofNat e_3)), .val (.ref ab), .val (.ref r6)] [(.int (Int32.ofNat e_2)), (.int (Int32.ofNat e_1)), (.int (Int32.ofNat e_0)), (.int (Int32.ofNat M)), (.int (Int32.ofNat N)), (.int (3 : Int32)), (.ref r6)]))
      refine Goes.by (fun t k => XS.iload X9.here hx rfl (hb hby at_212) rfl k) ?_
      show Goes p e below s _ _ _ (T9.setTop (mkF m 214 #[.val (.int p0), .val (.int p1), .val (.int p2), .val (.int p3), .val (.int p4), .val (.int p5), .val (.int (Int32.ofNat N)), .val (.int (Int32.ofNat M)), .val (.int (Int32.ofNat e_0)), .val (.int (Int32.ofNat e_1)), .val (.int (Int32.ofNat e_2)), .val (.int (Int32.ofNat e_3)), .val (.ref ab), .val (.ref r6)] [(.int (Int32.ofNat e_3)), (.int (Int32.ofNat e_2)), (.int (Int32.ofNat e_1)), (.int (Int32.ofNat e_0)), (.int (Int32.ofNat M)), (.int (Int32.ofNat N)), (.int (3 : Int32)), (.ref r6)]))
      show Goes p e below s _ _ _ (T9.setTop (mkF m 214 #[.val (.int p0), .val (.int p1), .val (.int p2), .val (.int p3), .val (.int p4), .val (.int p5), .val (.int (Int32.ofNat N)), .val (.int (Int32.ofNat M)), .val (.int (Int32.ofNat e_0)), .val (.int (Int32.ofNat e_1)), .val (.int (Int32.ofNat e_2)), .val (.int (Int32.ofNat e_3)), .val (.ref ab), .val (.ref r6)] [(.int (Int32.ofNat e_3)), (.int (Int32.ofNat e_2)), (.int (Int32.ofNat e_1)), (.int (Int32.ofNat e_0)), (.int (Int32.ofNat M)), (.int (Int32.ofNat N)), (.int (Int32.ofNat 3)), (.ref r6)]))
      obtain ⟨_, _, ⟨T10, L10, k10, n10⟩, -, X10, ⟨Lc10, hQ10, l10, y10, z10⟩, st10⟩ := Jvm.LawKit.callS X9 hx (y := (⟨"com/example/roadstitch/roadstitch/core/ShortestPathsArcsByPinLaw", "row", "([[IIIIIIII)Z"⟩ : MethodName)) hown (mvT hZ (hw _ (List.mem_of_getElem? (i := 12) rfl))) (mvT hZ (hw _ (List.mem_of_getElem? (i := 13) rfl))) (mvT hZ (hw _ (List.mem_of_getElem? (i := 3) rfl))) (mvT hZ (hw _ (List.mem_of_getElem? (i := 14) rfl))) (by decide) (backOf (W := 0) (rm3 l Z a0 hw [] r6 3 N M _ _ _ _ es kA ad _ n0 Zr2 (by omega) hN hM hesN RR2 IR2 (by rw [es0]) (by rw [es1]) (by rw [es2]) (by rw [es3]) hle) hZ (hw _ (List.mem_of_getElem? (i := 14) rfl)) (hw _ (List.mem_of_getElem? (i := 3) rfl)) (by decide) (by decide)) (g := (mkF m 214 #[.val (.int p0), .val (.int p1), .val (.int p2), .val (.int p3), .val (.int p4), .val (.int p5), .val (.int (Int32.ofNat N)), .val (.int (Int32.ofNat M)), .val (.int (Int32.ofNat e_0)), .val (.int (Int32.ofNat e_1)), .val (.int (Int32.ofNat e_2)), .val (.int (Int32.ofNat e_3)), .val (.ref ab), .val (.ref r6)] [(.int (Int32.ofNat e_3)), (.int (Int32.ofNat e_2)), (.int (Int32.ofNat e_1)), (.int (Int32.ofNat e_0)), (.int (Int32.ofNat M)), (.int (Int32.ofNat N)), (.int (Int32.ofNat 3)), (.ref r6)])) rfl (by rw [hml]; rfl) (argsL := [(.ref r6), (.int (Int32.ofNat 3)), (.int (Int32.ofNat N)), (.int (Int32.ofNat M)), (.int (Int32.ofNat e_0)), (.int (Int32.ofNat e_1)), (.int (Int32.ofNat e_2)), (.int (Int32.ofNat e_3))]) (rest := []) (lenOf pd_2 rfl) rfl (by show 2 * 0 + _ ≤ _; exact Nat.le_of_eq rfl) (hb hby at_214) (fun _ _ => ⟨rfl, rfl, (by decide : 0 + 0 + 0 + 0 + 0 + 1 + 7 + 1 + 1 + 1 + 1 ≤ _), (by decide : 0 + 0 + 0 + 0 + 0 + 4 + 28 + 4 + 4 + 4 + 4 ≤ _)⟩)
      dsimp only [Pt.U, Pt.locs, Pt.cells, Pt.slots] at X10 l10 y10 z10 st10 hQ10
      subst l10 y10 z10
      obtain ⟨rfl, N10q, K10⟩ := hQ10
      have N10 := Fr.app N9 N10q
      refine Goes.by (fun t k => st10 _ k) ?_
      show Goes p e below s _ _ _ (T10.setTop (mkF m 217 #[.val (.int p0), .val (.int p1), .val (.int p2), .val (.int p3), .val (.int p4), .val (.int p5), .val (.int (Int32.ofNat N)), .val (.int (Int32.ofNat M)), .val (.int (Int32.ofNat e_0)), .val (.int (Int32.ofNat e_1)), .val (.int (Int32.ofNat e_2)), .val (.int (Int32.ofNat e_3)), .val (.ref ab), .val (.ref r6)] [(.int (1 : Int32))]))
      have RR3 := RR2.keep K10 nin0
      have IR3 := fun i hi => (IR2 i hi).keep K10 nin0
      have Zr3 := Nat.le_trans Zr2 K10.1
      refine Goes.by (fun t k => XS.ifNo X10.here hx rfl (hb hby at_217) rfl ((if0 _ _).trans (feq (by decide)).1) k) ?_
      show Goes p e below s _ _ _ (T10.setTop (mkF m 220 #[.val (.int p0), .val (.int p1), .val (.int p2), .val (.int p3), .val (.int p4), .val (.int p5), .val (.int (Int32.ofNat N)), .val (.int (Int32.ofNat M)), .val (.int (Int32.ofNat e_0)), .val (.int (Int32.ofNat e_1)), .val (.int (Int32.ofNat e_2)), .val (.int (Int32.ofNat e_3)), .val (.ref ab), .val (.ref r6)] []))
      refine Goes.by (fun t k => XS.iconst X10.here hx rfl (hb hby at_220) k) ?_
      show Goes p e below s _ _ _ (T10.setTop (mkF m 221 #[.val (.int p0), .val (.int p1), .val (.int p2), .val (.int p3), .val (.int p4), .val (.int p5), .val (.int (Int32.ofNat N)), .val (.int (Int32.ofNat M)), .val (.int (Int32.ofNat e_0)), .val (.int (Int32.ofNat e_1)), .val (.int (Int32.ofNat e_2)), .val (.int (Int32.ofNat e_3)), .val (.ref ab), .val (.ref r6)] [(.int (1 : Int32))]))
      refine Goes.by (fun t k => XS.goto X10.here hx rfl (pc0 := 221) (pc' := 225) rfl (hb hby at_221) (by decide) (by decide) k) ?_
      show Goes p e below s _ _ _ (T10.setTop (mkF m 225 #[.val (.int p0), .val (.int p1), .val (.int p2), .val (.int p3), .val (.int p4), .val (.int p5), .val (.int (Int32.ofNat N)), .val (.int (Int32.ofNat M)), .val (.int (Int32.ofNat e_0)), .val (.int (Int32.ofNat e_1)), .val (.int (Int32.ofNat e_2)), .val (.int (Int32.ofNat e_3)), .val (.ref ab), .val (.ref r6)] [(.int (1 : Int32))]))
      exact Goes.retN X10 hx Bd.returns rfl (hb hby at_225) hlk (by exact ⟨rfl, N10⟩) (by decide) (by decide)
    have J100 : ∀ (T : State) (locs : List Loc) (h : Heap) (f : Nat → Int32), Stand p l e room_1 s m #[(.int p0), (.int p1), (.int p2), (.int p3), (.int p4), (.int p5)] below meth c T locs (0 + 0 + 0 + 0 + 0 + 1) (0 + 0 + 0 + 0 + 0 + 4) → T.heap = h → Fr n0 locs → n0 ≤ h.size → IA Z h ab M f → (∀ j, j < M → j < 3 → f j = Int32.ofNat (es j)) → Goes p e below s (Q0 n0) room_1.cells room_1.slots (T.setTop (mkF m 100 #[.val (.int p0), .val (.int p1), .val (.int p2), .val (.int p3), .val (.int p4), .val (.int p5), .val (.int (Int32.ofNat N)), .val (.int (Int32.ofNat M)), .val (.int (Int32.ofNat e_0)), .val (.int (Int32.ofNat e_1)), .val (.int (Int32.ofNat e_2)), .val (.int (Int32.ofNat e_3)), .val (.ref ab), .unset] [])) := by
      intro T locs h f X eT N0 Zh IA0 hf
      show Goes p e below s _ _ _ (T.setTop (mkF m 100 #[.val (.int p0), .val (.int p1), .val (.int p2), .val (.int p3), .val (.int p4), .val (.int p5), .val (.int (Int32.ofNat N)), .val (.int (Int32.ofNat M)), .val (.int (Int32.ofNat e_0)), .val (.int (Int32.ofNat e_1)), .val (.int (Int32.ofNat e_2)), .val (.int (Int32.ofNat e_3)), .val (.ref ab), .unset] []))
      refine Goes.by (fun t k => XS.iload X.here hx rfl (hb hby at_100) rfl k) ?_
      show Goes p e below s _ _ _ (T.setTop (mkF m 102 #[.val (.int p0), .val (.int p1), .val (.int p2), .val (.int p3), .val (.int p4), .val (.int p5), .val (.int (Int32.ofNat N)), .val (.int (Int32.ofNat M)), .val (.int (Int32.ofNat e_0)), .val (.int (Int32.ofNat e_1)), .val (.int (Int32.ofNat e_2)), .val (.int (Int32.ofNat e_3)), .val (.ref ab), .unset] [(.int (Int32.ofNat M))]))
      refine Goes.by (fun t k => XS.iconst X.here hx rfl (hb hby at_102) k) ?_
      show Goes p e below s _ _ _ (T.setTop (mkF m 103 #[.val (.int p0), .val (.int p1), .val (.int p2), .val (.int p3), .val (.int p4), .val (.int p5), .val (.int (Int32.ofNat N)), .val (.int (Int32.ofNat M)), .val (.int (Int32.ofNat e_0)), .val (.int (Int32.ofNat e_1)), .val (.int (Int32.ofNat e_2)), .val (.int (Int32.ofNat e_3)), .val (.ref ab), .unset] [(.int (3 : Int32)), (.int (Int32.ofNat M))]))
      by_cases hm : 3 < M
      · skip
        show Goes p e below s _ _ _ (T.setTop (mkF m 103 #[.val (.int p0), .val (.int p1), .val (.int p2), .val (.int p3), .val (.int p4), .val (.int p5), .val (.int (Int32.ofNat N)), .val (.int (Int32.ofNat M)), .val (.int (Int32.ofNat e_0)), .val (.int (Int32.ofNat e_1)), .val (.int (Int32.ofNat e_2)), .val (.int (Int32.ofNat e_3)), .val (.ref ab), .unset] [(.int (Int32.ofNat 3)), (.int (Int32.ofNat M))]))
        refine Goes.by (fun t k => XS.icmpNo X.here hx rfl (hb hby at_103) rfl (tlt (own_ltN (i := 3) hm (by omega))).2.2.2 k) ?_
        show Goes p e below s _ _ _ (T.setTop (mkF m 106 #[.val (.int p0), .val (.int p1), .val (.int p2), .val (.int p3), .val (.int p4), .val (.int p5), .val (.int (Int32.ofNat N)), .val (.int (Int32.ofNat M)), .val (.int (Int32.ofNat e_0)), .val (.int (Int32.ofNat e_1)), .val (.int (Int32.ofNat e_2)), .val (.int (Int32.ofNat e_3)), .val (.ref ab), .unset] []))
        refine Goes.by (fun t k => XS.aload X.here hx rfl (hb hby at_106) rfl rfl k) ?_
        show Goes p e below s _ _ _ (T.setTop (mkF m 108 #[.val (.int p0), .val (.int p1), .val (.int p2), .val (.int p3), .val (.int p4), .val (.int p5), .val (.int (Int32.ofNat N)), .val (.int (Int32.ofNat M)), .val (.int (Int32.ofNat e_0)), .val (.int (Int32.ofNat e_1)), .val (.int (Int32.ofNat e_2)), .val (.int (Int32.ofNat e_3)), .val (.ref ab), .unset] [(.ref ab)]))
        refine Goes.by (fun t k => XS.iconst X.here hx rfl (hb hby at_108) k) ?_
        show Goes p e below s _ _ _ (T.setTop (mkF m 109 #[.val (.int p0), .val (.int p1), .val (.int p2), .val (.int p3), .val (.int p4), .val (.int p5), .val (.int (Int32.ofNat N)), .val (.int (Int32.ofNat M)), .val (.int (Int32.ofNat e_0)), .val (.int (Int32.ofNat e_1)), .val (.int (Int32.ofNat e_2)), .val (.int (Int32.ofNat e_3)), .val (.ref ab), .unset] [(.int (3 : Int32)), (.ref ab)]))
        refine Goes.by (fun t k => XS.iload X.here hx rfl (hb hby at_109) rfl k) ?_
        show Goes p e below s _ _ _ (T.setTop (mkF m 111 #[.val (.int p0), .val (.int p1), .val (.int p2), .val (.int p3), .val (.int p4), .val (.int p5), .val (.int (Int32.ofNat N)), .val (.int (Int32.ofNat M)), .val (.int (Int32.ofNat e_0)), .val (.int (Int32.ofNat e_1)), .val (.int (Int32.ofNat e_2)), .val (.int (Int32.ofNat e_3)), .val (.ref ab), .unset] [(.int (Int32.ofNat e_3)), (.int (3 : Int32)), (.ref ab)]))
        show Goes p e below s _ _ _ (T.setTop (mkF m 111 #[.val (.int p0), .val (.int p1), .val (.int p2), .val (.int p3), .val (.int p4), .val (.int p5), .val (.int (Int32.ofNat N)), .val (.int (Int32.ofNat M)), .val (.int (Int32.ofNat e_0)), .val (.int (Int32.ofNat e_1)), .val (.int (Int32.ofNat e_2)), .val (.int (Int32.ofNat e_3)), .val (.ref ab), .unset] [(.int (Int32.ofNat e_3)), (.int (Int32.ofNat 3)), (.ref ab)]))
        obtain ⟨T11, h11, X11, e11, W11, I11, st11⟩ := own_iastore X hx hZ eT (IA0) (i := 3) (hm) (by omega) (g := (mkF m 111 #[.val (.int p0), .val (.int p1), .val (.int p2), .val (.int p3), .val (.int p4), .val (.int p5), .val (.int (Int32.ofNat N)), .val (.int (Int32.ofNat M)), .val (.int (Int32.ofNat e_0)), .val (.int (Int32.ofNat e_1)), .val (.int (Int32.ofNat e_2)), .val (.int (Int32.ofNat e_3)), .val (.ref ab), .unset] [(.int (Int32.ofNat e_3)), (.int (Int32.ofNat 3)), (.ref ab)])) rfl rfl (hb hby at_111)
        refine Goes.by (fun t k => st11 t k) ?_
        show Goes p e below s _ _ _ (T11.setTop (mkF m 112 #[.val (.int p0), .val (.int p1), .val (.int p2), .val (.int p3), .val (.int p4), .val (.int p5), .val (.int (Int32.ofNat N)), .val (.int (Int32.ofNat M)), .val (.int (Int32.ofNat e_0)), .val (.int (Int32.ofNat e_1)), .val (.int (Int32.ofNat e_2)), .val (.int (Int32.ofNat e_3)), .val (.ref ab), .unset] []))
        have N11 := Fr.snoc X11 N0 (gab)
        exact J112 _ _ _ _ X11 e11 N11 (Nat.le_trans Zh (Keep.of_wr W11).1) I11 (fun j hj hji => by
          by_cases q : j = 3
          · subst q; rw [if_pos rfl, es3]
          · rw [if_neg q]; exact hf j hj (by omega))
      · skip
        show Goes p e below s _ _ _ (T.setTop (mkF m 103 #[.val (.int p0), .val (.int p1), .val (.int p2), .val (.int p3), .val (.int p4), .val (.int p5), .val (.int (Int32.ofNat N)), .val (.int (Int32.ofNat M)), .val (.int (Int32.ofNat e_0)), .val (.int (Int32.ofNat e_1)), .val (.int (Int32.ofNat e_2)), .val (.int (Int32.ofNat e_3)), .val (.ref ab), .unset] [(.int (Int32.ofNat 3)), (.int (Int32.ofNat M))]))
        refine Goes.by (fun t k => XS.icmpYes X.here hx rfl (pc0 := 103) (pc' := 112) rfl (hb hby at_103) rfl (flt (fun z => hm (own_ltR z (by omega) (by omega)))).2.2.2 (by decide) (by decide) k) ?_
        show Goes p e below s _ _ _ (T.setTop (mkF m 112 #[.val (.int p0), .val (.int p1), .val (.int p2), .val (.int p3), .val (.int p4), .val (.int p5), .val (.int (Int32.ofNat N)), .val (.int (Int32.ofNat M)), .val (.int (Int32.ofNat e_0)), .val (.int (Int32.ofNat e_1)), .val (.int (Int32.ofNat e_2)), .val (.int (Int32.ofNat e_3)), .val (.ref ab), .unset] []))
        exact J112 _ _ _ _ X eT N0 Zh IA0 (fun j hj hji => hf j hj (by omega))
    have J88 : ∀ (T : State) (locs : List Loc) (h : Heap) (f : Nat → Int32), Stand p l e room_1 s m #[(.int p0), (.int p1), (.int p2), (.int p3), (.int p4), (.int p5)] below meth c T locs (0 + 0 + 0 + 0 + 0 + 1) (0 + 0 + 0 + 0 + 0 + 4) → T.heap = h → Fr n0 locs → n0 ≤ h.size → IA Z h ab M f → (∀ j, j < M → j < 2 → f j = Int32.ofNat (es j)) → Goes p e below s (Q0 n0) room_1.cells room_1.slots (T.setTop (mkF m 88 #[.val (.int p0), .val (.int p1), .val (.int p2), .val (.int p3), .val (.int p4), .val (.int p5), .val (.int (Int32.ofNat N)), .val (.int (Int32.ofNat M)), .val (.int (Int32.ofNat e_0)), .val (.int (Int32.ofNat e_1)), .val (.int (Int32.ofNat e_2)), .val (.int (Int32.ofNat e_3)), .val (.ref ab), .unset] [])) := by
      intro T locs h f X eT N0 Zh IA0 hf
      show Goes p e below s _ _ _ (T.setTop (mkF m 88 #[.val (.int p0), .val (.int p1), .val (.int p2), .val (.int p3), .val (.int p4), .val (.int p5), .val (.int (Int32.ofNat N)), .val (.int (Int32.ofNat M)), .val (.int (Int32.ofNat e_0)), .val (.int (Int32.ofNat e_1)), .val (.int (Int32.ofNat e_2)), .val (.int (Int32.ofNat e_3)), .val (.ref ab), .unset] []))
      refine Goes.by (fun t k => XS.iload X.here hx rfl (hb hby at_88) rfl k) ?_
      show Goes p e below s _ _ _ (T.setTop (mkF m 90 #[.val (.int p0), .val (.int p1), .val (.int p2), .val (.int p3), .val (.int p4), .val (.int p5), .val (.int (Int32.ofNat N)), .val (.int (Int32.ofNat M)), .val (.int (Int32.ofNat e_0)), .val (.int (Int32.ofNat e_1)), .val (.int (Int32.ofNat e_2)), .val (.int (Int32.ofNat e_3)), .val (.ref ab), .unset] [(.int (Int32.ofNat M))]))
      refine Goes.by (fun t k => XS.iconst X.here hx rfl (hb hby at_90) k) ?_
      show Goes p e below s _ _ _ (T.setTop (mkF m 91 #[.val (.int p0), .val (.int p1), .val (.int p2), .val (.int p3), .val (.int p4), .val (.int p5), .val (.int (Int32.ofNat N)), .val (.int (Int32.ofNat M)), .val (.int (Int32.ofNat e_0)), .val (.int (Int32.ofNat e_1)), .val (.int (Int32.ofNat e_2)), .val (.int (Int32.ofNat e_3)), .val (.ref ab), .unset] [(.int (2 : Int32)), (.int (Int32.ofNat M))]))
      by_cases hm : 2 < M
      · skip
        show Goes p e below s _ _ _ (T.setTop (mkF m 91 #[.val (.int p0), .val (.int p1), .val (.int p2), .val (.int p3), .val (.int p4), .val (.int p5), .val (.int (Int32.ofNat N)), .val (.int (Int32.ofNat M)), .val (.int (Int32.ofNat e_0)), .val (.int (Int32.ofNat e_1)), .val (.int (Int32.ofNat e_2)), .val (.int (Int32.ofNat e_3)), .val (.ref ab), .unset] [(.int (Int32.ofNat 2)), (.int (Int32.ofNat M))]))
        refine Goes.by (fun t k => XS.icmpNo X.here hx rfl (hb hby at_91) rfl (tlt (own_ltN (i := 2) hm (by omega))).2.2.2 k) ?_
        show Goes p e below s _ _ _ (T.setTop (mkF m 94 #[.val (.int p0), .val (.int p1), .val (.int p2), .val (.int p3), .val (.int p4), .val (.int p5), .val (.int (Int32.ofNat N)), .val (.int (Int32.ofNat M)), .val (.int (Int32.ofNat e_0)), .val (.int (Int32.ofNat e_1)), .val (.int (Int32.ofNat e_2)), .val (.int (Int32.ofNat e_3)), .val (.ref ab), .unset] []))
        refine Goes.by (fun t k => XS.aload X.here hx rfl (hb hby at_94) rfl rfl k) ?_
        show Goes p e below s _ _ _ (T.setTop (mkF m 96 #[.val (.int p0), .val (.int p1), .val (.int p2), .val (.int p3), .val (.int p4), .val (.int p5), .val (.int (Int32.ofNat N)), .val (.int (Int32.ofNat M)), .val (.int (Int32.ofNat e_0)), .val (.int (Int32.ofNat e_1)), .val (.int (Int32.ofNat e_2)), .val (.int (Int32.ofNat e_3)), .val (.ref ab), .unset] [(.ref ab)]))
        refine Goes.by (fun t k => XS.iconst X.here hx rfl (hb hby at_96) k) ?_
        show Goes p e below s _ _ _ (T.setTop (mkF m 97 #[.val (.int p0), .val (.int p1), .val (.int p2), .val (.int p3), .val (.int p4), .val (.int p5), .val (.int (Int32.ofNat N)), .val (.int (Int32.ofNat M)), .val (.int (Int32.ofNat e_0)), .val (.int (Int32.ofNat e_1)), .val (.int (Int32.ofNat e_2)), .val (.int (Int32.ofNat e_3)), .val (.ref ab), .unset] [(.int (2 : Int32)), (.ref ab)]))
        refine Goes.by (fun t k => XS.iload X.here hx rfl (hb hby at_97) rfl k) ?_
        show Goes p e below s _ _ _ (T.setTop (mkF m 99 #[.val (.int p0), .val (.int p1), .val (.int p2), .val (.int p3), .val (.int p4), .val (.int p5), .val (.int (Int32.ofNat N)), .val (.int (Int32.ofNat M)), .val (.int (Int32.ofNat e_0)), .val (.int (Int32.ofNat e_1)), .val (.int (Int32.ofNat e_2)), .val (.int (Int32.ofNat e_3)), .val (.ref ab), .unset] [(.int (Int32.ofNat e_2)), (.int (2 : Int32)), (.ref ab)]))
        show Goes p e below s _ _ _ (T.setTop (mkF m 99 #[.val (.int p0), .val (.int p1), .val (.int p2), .val (.int p3), .val (.int p4), .val (.int p5), .val (.int (Int32.ofNat N)), .val (.int (Int32.ofNat M)), .val (.int (Int32.ofNat e_0)), .val (.int (Int32.ofNat e_1)), .val (.int (Int32.ofNat e_2)), .val (.int (Int32.ofNat e_3)), .val (.ref ab), .unset] [(.int (Int32.ofNat e_2)), (.int (Int32.ofNat 2)), (.ref ab)]))
        obtain ⟨T12, h12, X12, e12, W12, I12, st12⟩ := own_iastore X hx hZ eT (IA0) (i := 2) (hm) (by omega) (g := (mkF m 99 #[.val (.int p0), .val (.int p1), .val (.int p2), .val (.int p3), .val (.int p4), .val (.int p5), .val (.int (Int32.ofNat N)), .val (.int (Int32.ofNat M)), .val (.int (Int32.ofNat e_0)), .val (.int (Int32.ofNat e_1)), .val (.int (Int32.ofNat e_2)), .val (.int (Int32.ofNat e_3)), .val (.ref ab), .unset] [(.int (Int32.ofNat e_2)), (.int (Int32.ofNat 2)), (.ref ab)])) rfl rfl (hb hby at_99)
        refine Goes.by (fun t k => st12 t k) ?_
        show Goes p e below s _ _ _ (T12.setTop (mkF m 100 #[.val (.int p0), .val (.int p1), .val (.int p2), .val (.int p3), .val (.int p4), .val (.int p5), .val (.int (Int32.ofNat N)), .val (.int (Int32.ofNat M)), .val (.int (Int32.ofNat e_0)), .val (.int (Int32.ofNat e_1)), .val (.int (Int32.ofNat e_2)), .val (.int (Int32.ofNat e_3)), .val (.ref ab), .unset] []))
        have N12 := Fr.snoc X12 N0 (gab)
        exact J100 _ _ _ _ X12 e12 N12 (Nat.le_trans Zh (Keep.of_wr W12).1) I12 (fun j hj hji => by
          by_cases q : j = 2
          · subst q; rw [if_pos rfl, es2]
          · rw [if_neg q]; exact hf j hj (by omega))
      · skip
        show Goes p e below s _ _ _ (T.setTop (mkF m 91 #[.val (.int p0), .val (.int p1), .val (.int p2), .val (.int p3), .val (.int p4), .val (.int p5), .val (.int (Int32.ofNat N)), .val (.int (Int32.ofNat M)), .val (.int (Int32.ofNat e_0)), .val (.int (Int32.ofNat e_1)), .val (.int (Int32.ofNat e_2)), .val (.int (Int32.ofNat e_3)), .val (.ref ab), .unset] [(.int (Int32.ofNat 2)), (.int (Int32.ofNat M))]))
        refine Goes.by (fun t k => XS.icmpYes X.here hx rfl (pc0 := 91) (pc' := 100) rfl (hb hby at_91) rfl (flt (fun z => hm (own_ltR z (by omega) (by omega)))).2.2.2 (by decide) (by decide) k) ?_
        show Goes p e below s _ _ _ (T.setTop (mkF m 100 #[.val (.int p0), .val (.int p1), .val (.int p2), .val (.int p3), .val (.int p4), .val (.int p5), .val (.int (Int32.ofNat N)), .val (.int (Int32.ofNat M)), .val (.int (Int32.ofNat e_0)), .val (.int (Int32.ofNat e_1)), .val (.int (Int32.ofNat e_2)), .val (.int (Int32.ofNat e_3)), .val (.ref ab), .unset] []))
        exact J100 _ _ _ _ X eT N0 Zh IA0 (fun j hj hji => hf j hj (by omega))
    have J76 : ∀ (T : State) (locs : List Loc) (h : Heap) (f : Nat → Int32), Stand p l e room_1 s m #[(.int p0), (.int p1), (.int p2), (.int p3), (.int p4), (.int p5)] below meth c T locs (0 + 0 + 0 + 0 + 0 + 1) (0 + 0 + 0 + 0 + 0 + 4) → T.heap = h → Fr n0 locs → n0 ≤ h.size → IA Z h ab M f → (∀ j, j < M → j < 1 → f j = Int32.ofNat (es j)) → Goes p e below s (Q0 n0) room_1.cells room_1.slots (T.setTop (mkF m 76 #[.val (.int p0), .val (.int p1), .val (.int p2), .val (.int p3), .val (.int p4), .val (.int p5), .val (.int (Int32.ofNat N)), .val (.int (Int32.ofNat M)), .val (.int (Int32.ofNat e_0)), .val (.int (Int32.ofNat e_1)), .val (.int (Int32.ofNat e_2)), .val (.int (Int32.ofNat e_3)), .val (.ref ab), .unset] [])) := by
      intro T locs h f X eT N0 Zh IA0 hf
      show Goes p e below s _ _ _ (T.setTop (mkF m 76 #[.val (.int p0), .val (.int p1), .val (.int p2), .val (.int p3), .val (.int p4), .val (.int p5), .val (.int (Int32.ofNat N)), .val (.int (Int32.ofNat M)), .val (.int (Int32.ofNat e_0)), .val (.int (Int32.ofNat e_1)), .val (.int (Int32.ofNat e_2)), .val (.int (Int32.ofNat e_3)), .val (.ref ab), .unset] []))
      refine Goes.by (fun t k => XS.iload X.here hx rfl (hb hby at_76) rfl k) ?_
      show Goes p e below s _ _ _ (T.setTop (mkF m 78 #[.val (.int p0), .val (.int p1), .val (.int p2), .val (.int p3), .val (.int p4), .val (.int p5), .val (.int (Int32.ofNat N)), .val (.int (Int32.ofNat M)), .val (.int (Int32.ofNat e_0)), .val (.int (Int32.ofNat e_1)), .val (.int (Int32.ofNat e_2)), .val (.int (Int32.ofNat e_3)), .val (.ref ab), .unset] [(.int (Int32.ofNat M))]))
      refine Goes.by (fun t k => XS.iconst X.here hx rfl (hb hby at_78) k) ?_
      show Goes p e below s _ _ _ (T.setTop (mkF m 79 #[.val (.int p0), .val (.int p1), .val (.int p2), .val (.int p3), .val (.int p4), .val (.int p5), .val (.int (Int32.ofNat N)), .val (.int (Int32.ofNat M)), .val (.int (Int32.ofNat e_0)), .val (.int (Int32.ofNat e_1)), .val (.int (Int32.ofNat e_2)), .val (.int (Int32.ofNat e_3)), .val (.ref ab), .unset] [(.int (1 : Int32)), (.int (Int32.ofNat M))]))
      by_cases hm : 1 < M
      · skip
        show Goes p e below s _ _ _ (T.setTop (mkF m 79 #[.val (.int p0), .val (.int p1), .val (.int p2), .val (.int p3), .val (.int p4), .val (.int p5), .val (.int (Int32.ofNat N)), .val (.int (Int32.ofNat M)), .val (.int (Int32.ofNat e_0)), .val (.int (Int32.ofNat e_1)), .val (.int (Int32.ofNat e_2)), .val (.int (Int32.ofNat e_3)), .val (.ref ab), .unset] [(.int (Int32.ofNat 1)), (.int (Int32.ofNat M))]))
        refine Goes.by (fun t k => XS.icmpNo X.here hx rfl (hb hby at_79) rfl (tlt (own_ltN (i := 1) hm (by omega))).2.2.2 k) ?_
        show Goes p e below s _ _ _ (T.setTop (mkF m 82 #[.val (.int p0), .val (.int p1), .val (.int p2), .val (.int p3), .val (.int p4), .val (.int p5), .val (.int (Int32.ofNat N)), .val (.int (Int32.ofNat M)), .val (.int (Int32.ofNat e_0)), .val (.int (Int32.ofNat e_1)), .val (.int (Int32.ofNat e_2)), .val (.int (Int32.ofNat e_3)), .val (.ref ab), .unset] []))
        refine Goes.by (fun t k => XS.aload X.here hx rfl (hb hby at_82) rfl rfl k) ?_
        show Goes p e below s _ _ _ (T.setTop (mkF m 84 #[.val (.int p0), .val (.int p1), .val (.int p2), .val (.int p3), .val (.int p4), .val (.int p5), .val (.int (Int32.ofNat N)), .val (.int (Int32.ofNat M)), .val (.int (Int32.ofNat e_0)), .val (.int (Int32.ofNat e_1)), .val (.int (Int32.ofNat e_2)), .val (.int (Int32.ofNat e_3)), .val (.ref ab), .unset] [(.ref ab)]))
        refine Goes.by (fun t k => XS.iconst X.here hx rfl (hb hby at_84) k) ?_
        show Goes p e below s _ _ _ (T.setTop (mkF m 85 #[.val (.int p0), .val (.int p1), .val (.int p2), .val (.int p3), .val (.int p4), .val (.int p5), .val (.int (Int32.ofNat N)), .val (.int (Int32.ofNat M)), .val (.int (Int32.ofNat e_0)), .val (.int (Int32.ofNat e_1)), .val (.int (Int32.ofNat e_2)), .val (.int (Int32.ofNat e_3)), .val (.ref ab), .unset] [(.int (1 : Int32)), (.ref ab)]))
        refine Goes.by (fun t k => XS.iload X.here hx rfl (hb hby at_85) rfl k) ?_
        show Goes p e below s _ _ _ (T.setTop (mkF m 87 #[.val (.int p0), .val (.int p1), .val (.int p2), .val (.int p3), .val (.int p4), .val (.int p5), .val (.int (Int32.ofNat N)), .val (.int (Int32.ofNat M)), .val (.int (Int32.ofNat e_0)), .val (.int (Int32.ofNat e_1)), .val (.int (Int32.ofNat e_2)), .val (.int (Int32.ofNat e_3)), .val (.ref ab), .unset] [(.int (Int32.ofNat e_1)), (.int (1 : Int32)), (.ref ab)]))
        show Goes p e below s _ _ _ (T.setTop (mkF m 87 #[.val (.int p0), .val (.int p1), .val (.int p2), .val (.int p3), .val (.int p4), .val (.int p5), .val (.int (Int32.ofNat N)), .val (.int (Int32.ofNat M)), .val (.int (Int32.ofNat e_0)), .val (.int (Int32.ofNat e_1)), .val (.int (Int32.ofNat e_2)), .val (.int (Int32.ofNat e_3)), .val (.ref ab), .unset] [(.int (Int32.ofNat e_1)), (.int (Int32.ofNat 1)), (.ref ab)]))
        obtain ⟨T13, h13, X13, e13, W13, I13, st13⟩ := own_iastore X hx hZ eT (IA0) (i := 1) (hm) (by omega) (g := (mkF m 87 #[.val (.int p0), .val (.int p1), .val (.int p2), .val (.int p3), .val (.int p4), .val (.int p5), .val (.int (Int32.ofNat N)), .val (.int (Int32.ofNat M)), .val (.int (Int32.ofNat e_0)), .val (.int (Int32.ofNat e_1)), .val (.int (Int32.ofNat e_2)), .val (.int (Int32.ofNat e_3)), .val (.ref ab), .unset] [(.int (Int32.ofNat e_1)), (.int (Int32.ofNat 1)), (.ref ab)])) rfl rfl (hb hby at_87)
        refine Goes.by (fun t k => st13 t k) ?_
        show Goes p e below s _ _ _ (T13.setTop (mkF m 88 #[.val (.int p0), .val (.int p1), .val (.int p2), .val (.int p3), .val (.int p4), .val (.int p5), .val (.int (Int32.ofNat N)), .val (.int (Int32.ofNat M)), .val (.int (Int32.ofNat e_0)), .val (.int (Int32.ofNat e_1)), .val (.int (Int32.ofNat e_2)), .val (.int (Int32.ofNat e_3)), .val (.ref ab), .unset] []))
        have N13 := Fr.snoc X13 N0 (gab)
        exact J88 _ _ _ _ X13 e13 N13 (Nat.le_trans Zh (Keep.of_wr W13).1) I13 (fun j hj hji => by
          by_cases q : j = 1
          · subst q; rw [if_pos rfl, es1]
          · rw [if_neg q]; exact hf j hj (by omega))
      · skip
        show Goes p e below s _ _ _ (T.setTop (mkF m 79 #[.val (.int p0), .val (.int p1), .val (.int p2), .val (.int p3), .val (.int p4), .val (.int p5), .val (.int (Int32.ofNat N)), .val (.int (Int32.ofNat M)), .val (.int (Int32.ofNat e_0)), .val (.int (Int32.ofNat e_1)), .val (.int (Int32.ofNat e_2)), .val (.int (Int32.ofNat e_3)), .val (.ref ab), .unset] [(.int (Int32.ofNat 1)), (.int (Int32.ofNat M))]))
        refine Goes.by (fun t k => XS.icmpYes X.here hx rfl (pc0 := 79) (pc' := 88) rfl (hb hby at_79) rfl (flt (fun z => hm (own_ltR z (by omega) (by omega)))).2.2.2 (by decide) (by decide) k) ?_
        show Goes p e below s _ _ _ (T.setTop (mkF m 88 #[.val (.int p0), .val (.int p1), .val (.int p2), .val (.int p3), .val (.int p4), .val (.int p5), .val (.int (Int32.ofNat N)), .val (.int (Int32.ofNat M)), .val (.int (Int32.ofNat e_0)), .val (.int (Int32.ofNat e_1)), .val (.int (Int32.ofNat e_2)), .val (.int (Int32.ofNat e_3)), .val (.ref ab), .unset] []))
        exact J88 _ _ _ _ X eT N0 Zh IA0 (fun j hj hji => hf j hj (by omega))
    have J65 : ∀ (T : State) (locs : List Loc) (h : Heap) (f : Nat → Int32), Stand p l e room_1 s m #[(.int p0), (.int p1), (.int p2), (.int p3), (.int p4), (.int p5)] below meth c T locs (0 + 0 + 0 + 0 + 0 + 1) (0 + 0 + 0 + 0 + 0 + 4) → T.heap = h → Fr n0 locs → n0 ≤ h.size → IA Z h ab M f → (∀ j, j < M → j < 0 → f j = Int32.ofNat (es j)) → Goes p e below s (Q0 n0) room_1.cells room_1.slots (T.setTop (mkF m 65 #[.val (.int p0), .val (.int p1), .val (.int p2), .val (.int p3), .val (.int p4), .val (.int p5), .val (.int (Int32.ofNat N)), .val (.int (Int32.ofNat M)), .val (.int (Int32.ofNat e_0)), .val (.int (Int32.ofNat e_1)), .val (.int (Int32.ofNat e_2)), .val (.int (Int32.ofNat e_3)), .val (.ref ab), .unset] [])) := by
      intro T locs h f X eT N0 Zh IA0 hf
      show Goes p e below s _ _ _ (T.setTop (mkF m 65 #[.val (.int p0), .val (.int p1), .val (.int p2), .val (.int p3), .val (.int p4), .val (.int p5), .val (.int (Int32.ofNat N)), .val (.int (Int32.ofNat M)), .val (.int (Int32.ofNat e_0)), .val (.int (Int32.ofNat e_1)), .val (.int (Int32.ofNat e_2)), .val (.int (Int32.ofNat e_3)), .val (.ref ab), .unset] []))
      refine Goes.by (fun t k => XS.iload X.here hx rfl (hb hby at_65) rfl k) ?_
      show Goes p e below s _ _ _ (T.setTop (mkF m 67 #[.val (.int p0), .val (.int p1), .val (.int p2), .val (.int p3), .val (.int p4), .val (.int p5), .val (.int (Int32.ofNat N)), .val (.int (Int32.ofNat M)), .val (.int (Int32.ofNat e_0)), .val (.int (Int32.ofNat e_1)), .val (.int (Int32.ofNat e_2)), .val (.int (Int32.ofNat e_3)), .val (.ref ab), .unset] [(.int (Int32.ofNat M))]))
      by_cases hm : 0 < M
      · skip
        refine Goes.by (fun t k => XS.ifNo X.here hx rfl (hb hby at_67) rfl ((if0 _ _).trans (tlt (own_ltN (i := 0) hm (by omega))).2.2.2) k) ?_
        show Goes p e below s _ _ _ (T.setTop (mkF m 70 #[.val (.int p0), .val (.int p1), .val (.int p2), .val (.int p3), .val (.int p4), .val (.int p5), .val (.int (Int32.ofNat N)), .val (.int (Int32.ofNat M)), .val (.int (Int32.ofNat e_0)), .val (.int (Int32.ofNat e_1)), .val (.int (Int32.ofNat e_2)), .val (.int (Int32.ofNat e_3)), .val (.ref ab), .unset] []))
        refine Goes.by (fun t k => XS.aload X.here hx rfl (hb hby at_70) rfl rfl k) ?_
        show Goes p e below s _ _ _ (T.setTop (mkF m 72 #[.val (.int p0), .val (.int p1), .val (.int p2), .val (.int p3), .val (.int p4), .val (.int p5), .val (.int (Int32.ofNat N)), .val (.int (Int32.ofNat M)), .val (.int (Int32.ofNat e_0)), .val (.int (Int32.ofNat e_1)), .val (.int (Int32.ofNat e_2)), .val (.int (Int32.ofNat e_3)), .val (.ref ab), .unset] [(.ref ab)]))
        refine Goes.by (fun t k => XS.iconst X.here hx rfl (hb hby at_72) k) ?_
        show Goes p e below s _ _ _ (T.setTop (mkF m 73 #[.val (.int p0), .val (.int p1), .val (.int p2), .val (.int p3), .val (.int p4), .val (.int p5), .val (.int (Int32.ofNat N)), .val (.int (Int32.ofNat M)), .val (.int (Int32.ofNat e_0)), .val (.int (Int32.ofNat e_1)), .val (.int (Int32.ofNat e_2)), .val (.int (Int32.ofNat e_3)), .val (.ref ab), .unset] [(.int (0 : Int32)), (.ref ab)]))
        refine Goes.by (fun t k => XS.iload X.here hx rfl (hb hby at_73) rfl k) ?_
        show Goes p e below s _ _ _ (T.setTop (mkF m 75 #[.val (.int p0), .val (.int p1), .val (.int p2), .val (.int p3), .val (.int p4), .val (.int p5), .val (.int (Int32.ofNat N)), .val (.int (Int32.ofNat M)), .val (.int (Int32.ofNat e_0)), .val (.int (Int32.ofNat e_1)), .val (.int (Int32.ofNat e_2)), .val (.int (Int32.ofNat e_3)), .val (.ref ab), .unset] [(.int (Int32.ofNat e_0)), (.int (0 : Int32)), (.ref ab)]))
        show Goes p e below s _ _ _ (T.setTop (mkF m 75 #[.val (.int p0), .val (.int p1), .val (.int p2), .val (.int p3), .val (.int p4), .val (.int p5), .val (.int (Int32.ofNat N)), .val (.int (Int32.ofNat M)), .val (.int (Int32.ofNat e_0)), .val (.int (Int32.ofNat e_1)), .val (.int (Int32.ofNat e_2)), .val (.int (Int32.ofNat e_3)), .val (.ref ab), .unset] [(.int (Int32.ofNat e_0)), (.int (Int32.ofNat 0)), (.ref ab)]))
        obtain ⟨T14, h14, X14, e14, W14, I14, st14⟩ := own_iastore X hx hZ eT (IA0) (i := 0) (hm) (by omega) (g := (mkF m 75 #[.val (.int p0), .val (.int p1), .val (.int p2), .val (.int p3), .val (.int p4), .val (.int p5), .val (.int (Int32.ofNat N)), .val (.int (Int32.ofNat M)), .val (.int (Int32.ofNat e_0)), .val (.int (Int32.ofNat e_1)), .val (.int (Int32.ofNat e_2)), .val (.int (Int32.ofNat e_3)), .val (.ref ab), .unset] [(.int (Int32.ofNat e_0)), (.int (Int32.ofNat 0)), (.ref ab)])) rfl rfl (hb hby at_75)
        refine Goes.by (fun t k => st14 t k) ?_
        show Goes p e below s _ _ _ (T14.setTop (mkF m 76 #[.val (.int p0), .val (.int p1), .val (.int p2), .val (.int p3), .val (.int p4), .val (.int p5), .val (.int (Int32.ofNat N)), .val (.int (Int32.ofNat M)), .val (.int (Int32.ofNat e_0)), .val (.int (Int32.ofNat e_1)), .val (.int (Int32.ofNat e_2)), .val (.int (Int32.ofNat e_3)), .val (.ref ab), .unset] []))
        have N14 := Fr.snoc X14 N0 (gab)
        exact J76 _ _ _ _ X14 e14 N14 (Nat.le_trans Zh (Keep.of_wr W14).1) I14 (fun j hj hji => by
          by_cases q : j = 0
          · subst q; rw [if_pos rfl, es0]
          · rw [if_neg q]; exact hf j hj (by omega))
      · skip
        refine Goes.by (fun t k => XS.ifYes X.here hx rfl (pc0 := 67) (pc' := 76) rfl (hb hby at_67) rfl ((if0 _ _).trans (flt (fun z => hm (own_ltR z (by omega) (by omega)))).2.2.2) (by decide) (by decide) k) ?_
        show Goes p e below s _ _ _ (T.setTop (mkF m 76 #[.val (.int p0), .val (.int p1), .val (.int p2), .val (.int p3), .val (.int p4), .val (.int p5), .val (.int (Int32.ofNat N)), .val (.int (Int32.ofNat M)), .val (.int (Int32.ofNat e_0)), .val (.int (Int32.ofNat e_1)), .val (.int (Int32.ofNat e_2)), .val (.int (Int32.ofNat e_3)), .val (.ref ab), .unset] []))
        exact J76 _ _ _ _ X eT N0 Zh IA0 (fun j hj hji => hf j hj (by omega))
    exact J65 _ _ _ _ X5 e5 N4 Za I5 (fun j _ hj => absurd hj (by omega))
  by_cases hc : (Int32.ofNat N) = (0 : Int32)
  · skip
    refine Goes.by (fun t k => XS.ifNo X0.here hx rfl (hb hby at_10) rfl ((if0 _ _).trans (teq (hc)).2) k) ?_
    show Goes p e below s _ _ _ (s₁.setTop (mkF m 13 #[.val (.int p0), .val (.int p1), .val (.int p2), .val (.int p3), .val (.int p4), .val (.int p5), .val (.int (Int32.ofNat N)), .unset, .unset, .unset, .unset, .unset, .unset, .unset] []))
    refine Goes.by (fun t k => XS.iconst X0.here hx rfl (hb hby at_13) k) ?_
    show Goes p e below s _ _ _ (s₁.setTop (mkF m 14 #[.val (.int p0), .val (.int p1), .val (.int p2), .val (.int p3), .val (.int p4), .val (.int p5), .val (.int (Int32.ofNat N)), .unset, .unset, .unset, .unset, .unset, .unset, .unset] [(.int (0 : Int32))]))
    refine Goes.by (fun t k => XS.goto X0.here hx rfl (pc0 := 14) (pc' := 23) rfl (hb hby at_14) (by decide) (by decide) k) ?_
    show Goes p e below s _ _ _ (s₁.setTop (mkF m 23 #[.val (.int p0), .val (.int p1), .val (.int p2), .val (.int p3), .val (.int p4), .val (.int p5), .val (.int (Int32.ofNat N)), .unset, .unset, .unset, .unset, .unset, .unset, .unset] [(.int (0 : Int32))]))
    refine Goes.by (fun t k => XS.istore X0.here hx rfl (hb hby at_23) rfl (l' := #[.val (.int p0), .val (.int p1), .val (.int p2), .val (.int p3), .val (.int p4), .val (.int p5), .val (.int (Int32.ofNat N)), .val (.int (0 : Int32)), .unset, .unset, .unset, .unset, .unset, .unset]) rfl k) ?_
    show Goes p e below s _ _ _ (s₁.setTop (mkF m 25 #[.val (.int p0), .val (.int p1), .val (.int p2), .val (.int p3), .val (.int p4), .val (.int p5), .val (.int (Int32.ofNat N)), .val (.int (0 : Int32)), .unset, .unset, .unset, .unset, .unset, .unset] []))
    show Goes p e below s _ _ _ (s₁.setTop (mkF m 25 #[.val (.int p0), .val (.int p1), .val (.int p2), .val (.int p3), .val (.int p4), .val (.int p5), .val (.int (Int32.ofNat N)), .val (.int (Int32.ofNat 0)), .unset, .unset, .unset, .unset, .unset, .unset] []))
    exact J25 0 (by omega) (fun _ => rfl)
  · skip
    refine Goes.by (fun t k => XS.ifYes X0.here hx rfl (pc0 := 10) (pc' := 17) rfl (hb hby at_10) rfl ((if0 _ _).trans (feq (hc)).2) (by decide) (by decide) k) ?_
    show Goes p e below s _ _ _ (s₁.setTop (mkF m 17 #[.val (.int p0), .val (.int p1), .val (.int p2), .val (.int p3), .val (.int p4), .val (.int p5), .val (.int (Int32.ofNat N)), .unset, .unset, .unset, .unset, .unset, .unset, .unset] []))
    refine Goes.by (fun t k => XS.iloadN X0.here hx rfl (hb hby at_17) rfl k) ?_
    show Goes p e below s _ _ _ (s₁.setTop (mkF m 18 #[.val (.int p0), .val (.int p1), .val (.int p2), .val (.int p3), .val (.int p4), .val (.int p5), .val (.int (Int32.ofNat N)), .unset, .unset, .unset, .unset, .unset, .unset, .unset] [(.int p1)]))
    refine Goes.by (fun t k => X0.ldcInt hx hown (mvT hZ (hw _ (List.mem_of_getElem? (i := 0) rfl))) (g := (mkF m 18 #[.val (.int p0), .val (.int p1), .val (.int p2), .val (.int p3), .val (.int p4), .val (.int p5), .val (.int (Int32.ofNat N)), .unset, .unset, .unset, .unset, .unset, .unset, .unset] [(.int p1)])) rfl (hb hby at_18) _ k) ?_
    show Goes p e below s _ _ _ (s₁.setTop (mkF m 20 #[.val (.int p0), .val (.int p1), .val (.int p2), .val (.int p3), .val (.int p4), .val (.int p5), .val (.int (Int32.ofNat N)), .unset, .unset, .unset, .unset, .unset, .unset, .unset] [(.int (2147483647 : Int32)), (.int p1)]))
    refine Goes.by (fun t k => XS.iand X0.here hx rfl (hb hby at_20) rfl k) ?_
    show Goes p e below s _ _ _ (s₁.setTop (mkF m 21 #[.val (.int p0), .val (.int p1), .val (.int p2), .val (.int p3), .val (.int p4), .val (.int p5), .val (.int (Int32.ofNat N)), .unset, .unset, .unset, .unset, .unset, .unset, .unset] [(.int (p1 &&& (2147483647 : Int32)))]))
    refine Goes.by (fun t k => XS.iconst X0.here hx rfl (hb hby at_21) k) ?_
    show Goes p e below s _ _ _ (s₁.setTop (mkF m 22 #[.val (.int p0), .val (.int p1), .val (.int p2), .val (.int p3), .val (.int p4), .val (.int p5), .val (.int (Int32.ofNat N)), .unset, .unset, .unset, .unset, .unset, .unset, .unset] [(.int (5 : Int32)), (.int (p1 &&& (2147483647 : Int32)))]))
    refine Goes.by (fun t k => Jvm.RoadKit.iremM X0 hx rfl (hb hby at_22) rfl (by decide) k) ?_
    show Goes p e below s _ _ _ (s₁.setTop (mkF m 23 #[.val (.int p0), .val (.int p1), .val (.int p2), .val (.int p3), .val (.int p4), .val (.int p5), .val (.int (Int32.ofNat N)), .unset, .unset, .unset, .unset, .unset, .unset, .unset] [(.int ((p1 &&& (2147483647 : Int32)) % (5 : Int32)))]))
    obtain ⟨M, hM, eM⟩ := own_mod5 p1
    rw [eM]
    show Goes p e below s _ _ _ (s₁.setTop (mkF m 23 #[.val (.int p0), .val (.int p1), .val (.int p2), .val (.int p3), .val (.int p4), .val (.int p5), .val (.int (Int32.ofNat N)), .unset, .unset, .unset, .unset, .unset, .unset, .unset] [(.int (Int32.ofNat M))]))
    refine Goes.by (fun t k => XS.istore X0.here hx rfl (hb hby at_23) rfl (l' := #[.val (.int p0), .val (.int p1), .val (.int p2), .val (.int p3), .val (.int p4), .val (.int p5), .val (.int (Int32.ofNat N)), .val (.int (Int32.ofNat M)), .unset, .unset, .unset, .unset, .unset, .unset]) rfl k) ?_
    show Goes p e below s _ _ _ (s₁.setTop (mkF m 25 #[.val (.int p0), .val (.int p1), .val (.int p2), .val (.int p3), .val (.int p4), .val (.int p5), .val (.int (Int32.ofNat N)), .val (.int (Int32.ofNat M)), .unset, .unset, .unset, .unset, .unset, .unset] []))
    exact J25 M hM (fun z => absurd (by rw [z]; rfl) hc)
set_option maxRecDepth 65536 in
set_option maxHeartbeats 40000000 in
theorem comes_1 {Post : Tables → Env → Array Value → State → Outcome → State → Prop} (hpost : ∀ tb e args s v u, (limb_1_1.after args s (.returned v) u = true ∧ limb_1_2.after args s (.returned v) u = true ∧ True) → FrameEnd s (.returned v) u (Jvm.fieldLocs frame_1_writes args s ++ Jvm.arrayLocs frame_1_arrays args s ++ Jvm.staticLocs frame_1_statics s) 32 192 → Post tb e args s (.returned v) u) :
    ArmFor flags0 classFile x code maxLocals ret World_1 tables_1 room_1 Calls_1 rest_1 Pre_1 Post := by
  intro l hfl _ _ p e ha hc hk s m args below hf hA hF happ hP
  obtain ⟨hcalls, hrest, hpre⟩ := hP
  obtain ⟨-, -, -, hnamed, -, -, -, hat⟩ := (Spec.applies_iff hf).mp happ
  obtain ⟨hg, hn⟩ := and_e (Cond.before_iff.mp (show (Jvm.Cond.and given_1 narrow_1).before args s = true from hpre))
  obtain ⟨hcnt, hg⟩ := and_e hg
  obtain ⟨ga0, hg⟩ := and_e hg
  obtain ⟨ga1, hg⟩ := and_e hg
  obtain ⟨ga2, hg⟩ := and_e hg
  obtain ⟨ga3, hg⟩ := and_e hg
  obtain ⟨ga4, hg⟩ := and_e hg
  have ga5 := hg
  obtain ⟨w0, w1, w2, w3, w4, w5, rfl⟩ : ∃ w0 w1 w2 w3 w4 w5 : Value, args = #[w0, w1, w2, w3, w4, w5] := by
    have hs : args.size = 6 := by simpa [Cond.value, given_1] using hcnt
    obtain ⟨L⟩ := args
    match L, hs with
    | [w0, w1, w2, w3, w4, w5], _ => exact ⟨w0, w1, w2, w3, w4, w5, rfl⟩
  have hw := fun d (hd : d ∈ tables_1) => atoms_spec (ws := Jvm.Cond.code x code maxLocals ret :: tables_1) hat d (List.mem_cons_of_mem _ hd)
  obtain ⟨i0, ei0⟩ := is_v ga0
  obtain rfl : w0 = (.int i0) := Option.some.inj ei0
  obtain ⟨i1, ei1⟩ := is_v ga1
  obtain rfl : w1 = (.int i1) := Option.some.inj ei1
  obtain ⟨i2, ei2⟩ := is_v ga2
  obtain rfl : w2 = (.int i2) := Option.some.inj ei2
  obtain ⟨i3, ei3⟩ := is_v ga3
  obtain rfl : w3 = (.int i3) := Option.some.inj ei3
  obtain ⟨i4, ei4⟩ := is_v ga4
  obtain rfl : w4 = (.int i4) := Option.some.inj ei4
  obtain ⟨i5, ei5⟩ := is_v ga5
  obtain rfl : w5 = (.int i5) := Option.some.inj ei5
  obtain ⟨n, o, h1, h2, h3, _, L, rfl, ⟨rfl, N⟩, hq⟩ := rm0 l s _ hw tables_1 i0 i1 i2 i3 i4 i5 s.heap s.heap.size (Nat.le_refl _) p e ha hc hk s m _ below hf ((Spec.applies_iff_loose hf).mp happ).1 ⟨rfl, State.Warmed39.refl s, rfl⟩ trivial
  refine ⟨n, _, h1, h2, h3, hpost _ _ _ _ _ _ ⟨Cond.after_iff.mpr rfl, Cond.after_iff.mpr (eq_i res_at (Term.int_eval (1)) rfl), trivial⟩ ⟨hq.1, hq.2.1, (hq.2.2.sift fun y hy => Or.inr (N y hy)).mono (by decide) (by decide)⟩⟩
theorem main_1_1 : Claimed_1_1 := comes_1 fun _ _ _ _ _ _ h hF => ⟨h.1, hF⟩
theorem main_1_2 : Claimed_1_2 := comes_1 fun _ _ _ _ _ _ h hF => ⟨h.2.1, hF⟩
end Jvm.Pilot.@@N@@
namespace Jvm.Pilot.@@N@@
open Jvm Jvm.ClassFile Sem Op Lib Jvm.Free Jvm.Stand Jvm.Pilot.@@N@@.Jvm.D
/-! MADE BY PROGRAM (witnessworld.py) out of the Statement's table words and the real class files: 10 classes; the members and pool entries that the words name. The judged class is class 1, her method 1. -/
namespace start1
open Jvm.ClassFile
def u (s : String) : CpInfo := .utf8 (stringToUtf16 s)
/-- a pool by its gaps: so many unusable entries, then the entry; so many at the end -/
def gap : Nat → List CpInfo → List CpInfo
  | 0, r => r
  | n + 1, r => .unusable :: gap n r
def poolList (es : List (Nat × CpInfo)) (last : Nat) : List CpInfo := es.foldr (fun e r => gap e.1 (e.2 :: r)) (gap last [])
def pool (es : List (Nat × CpInfo)) (last : Nat) : Array CpInfo := ⟨poolList es last⟩
def fileOf (pool : Array CpInfo) (this : Nat) (attrs : Array Attribute := #[]) (ms : Array MethodInfo := #[]) (fl : Nat := 33) (sup : Nat := 0) (ifs : Array Nat := #[]) (fds : Array FieldInfo := #[]) : ClassFile where
  minorVersion := 0
  majorVersion := 65
  constantPool := pool
  accessFlags := fl
  thisClass := this
  superClass := sup
  interfaces := ifs
  fields := fds
  methods := ms
  attributes := attrs
def plain (name : String) (sup : Option ClassId) : Class where
  name := name
  kind := .ordinary
  loader := none
  accessFlags := 33
  super := sup
  interfaces := #[]
  cf := none
  fields := #[]
  methods := #[]
  instanceTypes := #[]
  staticTypes := #[]
  resolved := #[]
  callSites := []
  init := .initialized
  statics := none
  mirror := none

def pool0 : Array CpInfo := pool [(5, u "<init>"), (0, u "()V"), (1, .class_ 10), (1, u "java/lang/Object")] 113

def k0m0 : Method := { name := "<init>", desc := "()V", sig := { parameters := [], returnType := none }, accessFlags := 1, code := none }
/-- java/lang/Object -/
def k0 : Class := { plain "java/lang/Object" none with
  accessFlags := 33
  interfaces := #[]
  cf := some (fileOf pool0 8 #[] #[{ accessFlags := 1, nameIndex := 5, descriptorIndex := 6, attributes := #[] }] 33 0 #[] #[])
  fields := #[]
  methods := #[k0m0]
  instanceTypes := #[]
  staticTypes := #[]
  resolved := Array.replicate 124 none
  statics := none }

def pool1 : Array CpInfo := pool [(2, .class_ 4), (1, u "java/lang/Object"), (0, u "<init>"), (0, u "()V"), (0, .integer 2147483647), (0, .methodref 9 10), (0, .class_ 11), (0, .nameAndType 12 13), (0, u "com/example/roadstitch/roadstitch/core/ShortestPathsArcsByPinLaw"), (0, u "end"), (0, u "(II)I"), (0, .methodref 15 16), (0, .class_ 17), (0, .nameAndType 18 19), (0, u "com/example/roadstitch/roadstitch/core/ShortestPaths"), (0, u "arcsBy"), (0, u "(I[I)[[I"), (0, .methodref 9 21), (0, .nameAndType 22 23), (0, u "row"), (0, u "([[IIIIIIII)Z"), (2, u "law"), (0, u "(IIIIII)Z")] 7

def k1m0 : Method := { name := "<init>", desc := "()V", sig := { parameters := [], returnType := none }, accessFlags := 1, code := none }
def k1c1 : Code := { maxStack := 8, maxLocals := 14, code := code, exceptionTable := #[], attributes := #[] }
def k1m1 : Method := { name := "law", desc := "(IIIIII)Z", sig := { parameters := [.int, .int, .int, .int, .int, .int], returnType := some .boolean }, accessFlags := 9, code := some k1c1 }
def k1c2 : Code := { maxStack := 2, maxLocals := 2, code := method_3_code, exceptionTable := #[], attributes := #[] }
def k1m2 : Method := { name := "end", desc := "(II)I", sig := { parameters := [.int, .int], returnType := some .int }, accessFlags := 10, code := some k1c2 }
def k1c3 : Code := { maxStack := 3, maxLocals := 11, code := method_4_code, exceptionTable := #[], attributes := #[] }
def k1m3 : Method := { name := "row", desc := "([[IIIIIIII)Z", sig := { parameters := [(.array (.array .int)), .int, .int, .int, .int, .int, .int, .int], returnType := some .boolean }, accessFlags := 10, code := some k1c3 }
/-- com/example/roadstitch/roadstitch/core/ShortestPathsArcsByPinLaw -/
def k1 : Class := { plain "com/example/roadstitch/roadstitch/core/ShortestPathsArcsByPinLaw" (some 0) with
  accessFlags := 49
  interfaces := #[]
  cf := some (fileOf pool1 9 #[] #[{ accessFlags := 1, nameIndex := 5, descriptorIndex := 6, attributes := #[] }, { accessFlags := 9, nameIndex := 26, descriptorIndex := 27, attributes := #[] }, { accessFlags := 10, nameIndex := 12, descriptorIndex := 13, attributes := #[] }, { accessFlags := 10, nameIndex := 22, descriptorIndex := 23, attributes := #[] }] 49 2 #[] #[])
  fields := #[]
  methods := #[k1m0, k1m1, k1m2, k1m3]
  instanceTypes := #[]
  staticTypes := #[]
  resolved := Array.replicate 35 none
  statics := none }

def pool2 : Array CpInfo := pool [(2, .class_ 4), (1, u "java/lang/Object"), (3, .class_ 10), (1, u "com/example/roadstitch/roadstitch/core/ShortestPaths"), (0, u "heuristicTarget"), (0, u "I"), (5, u "queue"), (0, u "Lcom/example/roadstitch/roadstitch/core/NodeQueue;"), (2, u "arcSources"), (0, u "[I"), (2, u "arcTargets"), (2, u "arcLengths"), (0, u "[D"), (2, u "arcsBy"), (0, u "(I[I)[[I"), (2, u "outArcs"), (0, u "[[I"), (2, u "inArcs"), (2, u "toTarget"), (7, u "space"), (0, u "Lcom/example/roadstitch/roadstitch/core/SearchSpace;"), (2, u "bannedVertices"), (0, u "[Z"), (2, u "bannedArcs"), (0, .class_ 62), (0, u "com/example/roadstitch/roadstitch/core/ShortestPaths$Path"), (31, u "SHORTEST_FIRST"), (0, u "Ljava/util/Comparator;"), (41, .class_ 138), (0, u "com/example/roadstitch/roadstitch/core/ShortestPaths$Candidate"), (85, .class_ 23)] 82

def k2c0 : Code := { maxStack := 6, maxLocals := 7, code := prog_81_method_9_code, exceptionTable := #[], attributes := #[] }
def k2m0 : Method := { name := "arcsBy", desc := "(I[I)[[I", sig := { parameters := [.int, (.array .int)], returnType := some (.array (.array .int)) }, accessFlags := 8, code := some k2c0 }
/-- com/example/roadstitch/roadstitch/core/ShortestPaths -/
def k2 : Class := { plain "com/example/roadstitch/roadstitch/core/ShortestPaths" (some 0) with
  accessFlags := 48
  interfaces := #[]
  cf := some (fileOf pool2 8 #[.nestMembers #[137, 61]] #[{ accessFlags := 8, nameIndex := 33, descriptorIndex := 34, attributes := #[] }] 48 2 #[] #[{ accessFlags := 26, nameIndex := 94, descriptorIndex := 95, attributes := #[] }, { accessFlags := 18, nameIndex := 22, descriptorIndex := 23, attributes := #[] }, { accessFlags := 18, nameIndex := 26, descriptorIndex := 23, attributes := #[] }, { accessFlags := 18, nameIndex := 29, descriptorIndex := 30, attributes := #[] }, { accessFlags := 18, nameIndex := 37, descriptorIndex := 38, attributes := #[] }, { accessFlags := 18, nameIndex := 41, descriptorIndex := 38, attributes := #[] }, { accessFlags := 2, nameIndex := 11, descriptorIndex := 12, attributes := #[] }, { accessFlags := 18, nameIndex := 44, descriptorIndex := 30, attributes := #[] }, { accessFlags := 18, nameIndex := 52, descriptorIndex := 53, attributes := #[] }, { accessFlags := 18, nameIndex := 56, descriptorIndex := 57, attributes := #[] }, { accessFlags := 18, nameIndex := 60, descriptorIndex := 57, attributes := #[] }, { accessFlags := 18, nameIndex := 18, descriptorIndex := 19, attributes := #[] }])
  fields := #[{ name := "SHORTEST_FIRST", type := (.object "java/util/Comparator"), accessFlags := 26, slot := 0, constantValue := 0 }, { name := "arcSources", type := (.array .int), accessFlags := 18, slot := 0, constantValue := 0 }, { name := "arcTargets", type := (.array .int), accessFlags := 18, slot := 1, constantValue := 0 }, { name := "arcLengths", type := (.array .double), accessFlags := 18, slot := 2, constantValue := 0 }, { name := "outArcs", type := (.array (.array .int)), accessFlags := 18, slot := 3, constantValue := 0 }, { name := "inArcs", type := (.array (.array .int)), accessFlags := 18, slot := 4, constantValue := 0 }, { name := "heuristicTarget", type := .int, accessFlags := 2, slot := 5, constantValue := 0 }, { name := "toTarget", type := (.array .double), accessFlags := 18, slot := 6, constantValue := 0 }, { name := "space", type := (.object "com/example/roadstitch/roadstitch/core/SearchSpace"), accessFlags := 18, slot := 7, constantValue := 0 }, { name := "bannedVertices", type := (.array .boolean), accessFlags := 18, slot := 8, constantValue := 0 }, { name := "bannedArcs", type := (.array .boolean), accessFlags := 18, slot := 9, constantValue := 0 }, { name := "queue", type := (.object "com/example/roadstitch/roadstitch/core/NodeQueue"), accessFlags := 18, slot := 10, constantValue := 0 }]
  methods := #[k2m0]
  instanceTypes := #[(.array .int), (.array .int), (.array .double), (.array (.array .int)), (.array (.array .int)), .int, (.array .double), (.object "com/example/roadstitch/roadstitch/core/SearchSpace"), (.array .boolean), (.array .boolean), (.object "com/example/roadstitch/roadstitch/core/NodeQueue")]
  staticTypes := #[(.object "java/util/Comparator")]
  resolved := Array.replicate 307 none
  statics := none }

def pool3 : Array CpInfo := pool [(1, u "java/lang/Cloneable"), (0, .class_ 1), (0, u "java/lang/Object"), (0, .class_ 3)] 3

/-- java/lang/Cloneable -/
def k3 : Class := { plain "java/lang/Cloneable" (some 0) with
  accessFlags := 1537
  interfaces := #[]
  cf := some (fileOf pool3 2 #[] #[] 1537 4 #[] #[])
  fields := #[]
  methods := #[]
  instanceTypes := #[]
  staticTypes := #[]
  resolved := Array.replicate 8 none
  statics := none }

def pool4 : Array CpInfo := pool [(1, u "java/io/Serializable"), (0, .class_ 1), (0, u "java/lang/Object"), (0, .class_ 3)] 3

/-- java/io/Serializable -/
def k4 : Class := { plain "java/io/Serializable" (some 0) with
  accessFlags := 1537
  interfaces := #[]
  cf := some (fileOf pool4 2 #[] #[] 1537 4 #[] #[])
  fields := #[]
  methods := #[]
  instanceTypes := #[]
  staticTypes := #[]
  resolved := Array.replicate 8 none
  statics := none }

/-- the primitive byte -/
def k5 : Class := { plain "byte" none with kind := .primitive 'B', accessFlags := 0x411 }
/-- [B -/
def k6 : Class := { plain "[B" (some 0) with kind := .array 5 .byte, interfaces := #[3, 4], accessFlags := 1041 }

/-- the primitive int -/
def k7 : Class := { plain "int" none with kind := .primitive 'I', accessFlags := 0x411 }
/-- [I -/
def k8 : Class := { plain "[I" (some 0) with kind := .array 7 .int, interfaces := #[3, 4], accessFlags := 1041 }

/-- [[I -/
def k9 : Class := { plain "[[I" (some 0) with kind := .array 8 (.array .int), interfaces := #[3, 4], accessFlags := 1041 }

def heap : Heap := #[{ cls := 9, slots := #[], vm := .none }]
def classes : Array Class := #[k0, k1, k2, k3, k4, k5, k6, k7, k8, k9]
def interned : List (Array UInt16 × Addr) := []
def slotsUsed : Nat := 0
def theMethod : MethodId := ⟨1, 1⟩
def args0 : Array Value := #[.int 3, .int 4, .int 1, .int 2, .int 0, .int 2]
def aboutOver (below : List Frame) : State where
  vm := { classes := classes, interned := interned.toArray }
  heap := heap
  slotsUsed := slotsUsed
  threads := #[{ frames := .invoking theMethod args0 :: below }]
def below0 : List Frame := [.native { method := ⟨0, 0⟩, args := #[] }]
def about1 : State := aboutOver below0
def p0 : Program := .bare "" "" ""
def e0 : Env := launch0.env 0 0 0
theorem w_frames : about1.frames = Frame.invoking theMethod args0 :: below0 := rfl
set_option maxRecDepth 65536 in
theorem w_args : argsFit about1.vm theMethod args0 = true := by decide +kernel
set_option maxRecDepth 65536 in
theorem w_heap : heapFits about1 = true := by decide +kernel
set_option maxRecDepth 65536 in
theorem w_runnable : about1.curStatus? = some .runnable := by decide +kernel
set_option maxRecDepth 65536 in
theorem w_alone : about1.alone = true := by decide +kernel
set_option maxRecDepth 65536 in
theorem w_named : about1.methodNamed? x = some theMethod := by decide +kernel
set_option maxRecDepth 65536 in
theorem w_hears : about1.hears theMethod below0 = true := by decide +kernel
set_option maxRecDepth 65536 in
theorem w_ripe : about1.ripe theMethod args0 below0 = true := by decide +kernel
theorem w_running : about1.status = .running := rfl
set_option maxRecDepth 65536 in
theorem w_room : about1.hasRoom e0.platform room_1 = true :=
  launch0.hasRoom_least _ room_1 (by decide +kernel) (by decide +kernel) (by decide +kernel) (by decide +kernel) (by decide +kernel) (by decide +kernel)
theorem allAtoms_all (ts : List Jvm.Cond) (a : Array Jvm.Value) (st : Jvm.State) : (allAtoms ts).before a st = ts.all (fun c => c.before a st) := by
  induction ts with
  | nil => rfl
  | cons c t ih =>
    show (Jvm.Cond.and c (allAtoms t)).before a st = _
    rw [Jvm.Cond.before_and, ih, List.all_cons]
def words1 : List Jvm.Cond := Jvm.Cond.code x code maxLocals ret :: tables_1
/-- a 'code' word, met by the world's own term for the bytes: nothing is compared byte by byte -/
theorem code_word {y : MethodName} {bytes : ByteArray} {mx : Nat} {rt : Option FieldType} {a : Array Value} {s : State} {m : MethodId} {meth : Method} {c : Code} (h1 : s.methodNamed? y = some m) (h2 : s.vm.method? m = some meth) (h3 : meth.code = some c) (h4 : c.code = bytes)
    (h5 : (c.maxLocals == mx && c.exceptionTable.isEmpty && decide (c.maxStack ≤ mostOperands) && decide (meth.sig.returnType = rt) && !meth.locks && decide (parseMethodDescriptor y.desc = some meth.sig)) = true) : (Jvm.Cond.code y bytes mx rt).before a s = true := by
  simp only [Bool.and_eq_true, beq_iff_eq, Bool.not_eq_true', decide_eq_true_eq] at h5
  obtain ⟨⟨⟨⟨⟨g1, g2⟩, g3⟩, g4⟩, g5⟩, g6⟩ := h5
  simp [Cond.before, Cond.holds, Cond.value, h1, h2, h3, h4, g1, g2, g3, g4, g5, g6]
def isCode : Jvm.Cond → Bool
  | .code _ _ _ _ => true
  | _ => false
theorem all_split {L : List Jvm.Cond} {P : Jvm.Cond → Bool} (h1 : L.all (fun c => isCode c || P c) = true) (h2 : ∀ c ∈ L.filter isCode, P c = true) : L.all P = true := by
  refine List.all_eq_true.mpr fun c hc => ?_
  have h := List.all_eq_true.mp h1 c hc
  rcases Bool.eq_false_or_eq_true (isCode c) with hi | hi
  · exact h2 c (List.mem_filter.mpr ⟨hc, hi⟩)
  · simpa [hi] using h
set_option maxRecDepth 65536 in
theorem w_c0 : (Jvm.Cond.code x code maxLocals ret).before args0 about1 = true := code_word (m := ⟨1, 1⟩) (meth := k1m1) (c := k1c1) (by decide +kernel) rfl rfl rfl (by decide +kernel)
set_option maxRecDepth 65536 in
theorem w_c1 : (Jvm.Cond.code ({ cls := "com/example/roadstitch/roadstitch/core/ShortestPathsArcsByPinLaw", name := "end", desc := "(II)I" } : Jvm.MethodName) method_3_code (2 : Nat) (Option.some Jvm.ClassFile.FieldType.int)).before args0 about1 = true := code_word (m := ⟨1, 2⟩) (meth := k1m2) (c := k1c2) (by decide +kernel) rfl rfl rfl (by decide +kernel)
set_option maxRecDepth 65536 in
theorem w_c2 : (Jvm.Cond.code ({ cls := "com/example/roadstitch/roadstitch/core/ShortestPaths", name := "arcsBy", desc := "(I[I)[[I" } : Jvm.MethodName) prog_81_method_9_code (7 : Nat) (Option.some (Jvm.ClassFile.FieldType.array (Jvm.ClassFile.FieldType.array Jvm.ClassFile.FieldType.int)))).before args0 about1 = true := code_word (m := ⟨2, 0⟩) (meth := k2m0) (c := k2c0) (by decide +kernel) rfl rfl rfl (by decide +kernel)
set_option maxRecDepth 65536 in
theorem w_c3 : (Jvm.Cond.code ({ cls := "com/example/roadstitch/roadstitch/core/ShortestPathsArcsByPinLaw", name := "row", desc := "([[IIIIIIII)Z" } : Jvm.MethodName) method_4_code (11 : Nat) (Option.some Jvm.ClassFile.FieldType.boolean)).before args0 about1 = true := code_word (m := ⟨1, 3⟩) (meth := k1m3) (c := k1c3) (by decide +kernel) rfl rfl rfl (by decide +kernel)
def codes1 : List Jvm.Cond := [Jvm.Cond.code x code maxLocals ret, Jvm.Cond.code ({ cls := "com/example/roadstitch/roadstitch/core/ShortestPathsArcsByPinLaw", name := "end", desc := "(II)I" } : Jvm.MethodName) method_3_code (2 : Nat) (Option.some Jvm.ClassFile.FieldType.int), Jvm.Cond.code ({ cls := "com/example/roadstitch/roadstitch/core/ShortestPaths", name := "arcsBy", desc := "(I[I)[[I" } : Jvm.MethodName) prog_81_method_9_code (7 : Nat) (Option.some (Jvm.ClassFile.FieldType.array (Jvm.ClassFile.FieldType.array Jvm.ClassFile.FieldType.int))), Jvm.Cond.code ({ cls := "com/example/roadstitch/roadstitch/core/ShortestPathsArcsByPinLaw", name := "row", desc := "([[IIIIIIII)Z" } : Jvm.MethodName) method_4_code (11 : Nat) (Option.some Jvm.ClassFile.FieldType.boolean)]
set_option maxRecDepth 65536 in
theorem codes_eq : words1.filter isCode = codes1 := rfl
theorem w_codes : ∀ c ∈ words1.filter isCode, c.before args0 about1 = true := by
  rw [codes_eq]
  intro c hc
  simp only [codes1, List.mem_cons, List.not_mem_nil, or_false] at hc
  rcases hc with rfl | rfl | rfl | rfl
  · exact w_c0
  · exact w_c1
  · exact w_c2
  · exact w_c3
set_option maxRecDepth 65536 in
theorem w_t1 : words1.all (fun c => isCode c || c.before args0 about1) = true := by decide +kernel
theorem w_tables : (allAtoms (Jvm.Cond.code x code maxLocals ret :: tables_1)).before args0 about1 = true := by
  rw [allAtoms_all]
  show words1.all (fun c => c.before args0 about1) = true
  refine all_split ?_ w_codes
  rw [w_t1]
set_option maxRecDepth 65536 in
theorem w_case : (Jvm.Cond.and given_1 narrow_1).before args0 about1 = true := by decide +kernel
theorem w_applies : (headSpec (Jvm.Cond.code x code maxLocals ret :: tables_1) room_1).applies x e0.platform about1 = true :=
  (Spec.applies_iff w_frames).mpr ⟨w_running, w_runnable, w_alone, w_named, w_hears, w_ripe, w_room, w_tables⟩
theorem atStart : AtStart classFile x code maxLocals ret World_1 tables_1 room_1 Calls_1 rest_1 Pre_1 launch0 p0 e0 about1 theMethod args0 below0 :=
  ⟨lists_1, trivial, launch0.admits_env _ _ _, launch0.least_env, fairChoices_fair.cas, fairChoices_fair.clock, w_frames, w_args, w_heap, w_applies, trivial, trivial, w_case⟩
end start1
theorem witness_1 : WitnessClaimed_1 := ⟨start1.p0, start1.e0, start1.about1, start1.theMethod, start1.args0, start1.below0, start1.atStart⟩
end Jvm.Pilot.@@N@@
