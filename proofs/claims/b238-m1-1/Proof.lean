import JvmDerived
import JvmDerived.Pilot.@@N@@Statement
import JvmDerived.Pilot.@@N@@Code
set_option linter.unusedVariables false
set_option linter.unusedSimpArgs false
namespace Jvm.Pilot.@@N@@
open Jvm Jvm.ClassFile Sem Op Lib Jvm.Free Jvm.Stand Jvm.LawKit Jvm.RoadKit Bundle Jvm.Pilot.@@N@@.Jvm.D
/-! a run that ends as a contract says: forks and joins go by it -/
def Goes (p : Program) (e : Env) (below : List Frame) (s : State) (Q : Option Value → Heap → List Loc → Prop) (kc ks : Nat) (A : State) : Prop :=
  ∃ s₂ o, Steps p.tables e below A s₂ ∧ s₂.status = .running ∧ Ended s₂ below o ∧ ∃ v L, o = .returned v ∧ Q v s₂.heap L ∧ FrameEnd s o s₂ L kc ks
section Go
variable {p : Program} {l : Launch} {e : Env} {R : Room} {s : State} {m : MethodId} {args : Array Value} {below : List Frame} {meth : Method} {c : Code} {T : State} {locs : List Loc} {cells slots kc ks : Nat} {Q : Option Value → Heap → List Loc → Prop}
theorem Goes.by {A B : State} (h : ∀ t, Steps p.tables e below B t → Steps p.tables e below A t) (k : Goes p e below s Q kc ks B) : Goes p e below s Q kc ks A := by
  obtain ⟨s₂, o, h1, h2⟩ := k
  exact ⟨s₂, o, h _ h1, h2⟩
theorem Goes.out (X : Stand p l e R s m args below meth c T locs cells slots) (hx : p.tables.exec = Jvm.exec) {pc : Nat} {Ls : Array Slot} {w : Value} {t : FieldType} {i : Instr} {rest : List Value} (hret : meth.sig.returnType = some t) (hn : narrow t w = w)
    (hi : (i = .ireturn ∧ (t = .int ∨ t = .boolean ∨ t = .byte ∨ t = .char ∨ t = .short) ∧ ∃ z, w = .int z) ∨ (i = .lreturn ∧ t = .long ∧ ∃ z, w = .long z) ∨ (i = .dreturn ∧ t = .double ∧ ∃ z, w = .double z) ∨ (i = .freturn ∧ t = .float ∧ ∃ z, w = .float z) ∨ (i = .areturn ∧ t.isReference = true ∧ w.isRef = true))
    (hd : decode c.code pc = .ok (i, 1)) (hlk : meth.locks = false) (hQ : Q (some w) T.heap locs) (hc : cells ≤ kc) (hs : slots ≤ ks) : Goes p e below s Q kc ks (T.setTop (mkF m pc Ls (w :: rest))) := by
  obtain ⟨fs, hr, hrun, hended, hW, hsame⟩ := X.leave (v := some w) (fun h => by rw [hret] at h; cases h) hlk
  exact ⟨_, _, retOut X hx hret hn hi hd hr, hrun, hended, _, _, rfl, hQ, ⟨_, rfl⟩, hW, hsame.mono hc hs⟩
theorem Goes.retI (X : Stand p l e R s m args below meth c T locs cells slots) (hx : p.tables.exec = Jvm.exec) {pc : Nat} {Ls : Array Slot} {z : Int32} {rest : List Value} (hret : meth.sig.returnType = some .int) (hn : True) (hd : decode c.code pc = .ok (.ireturn, 1)) (hlk : meth.locks = false) (hQ : Q (some (.int z)) T.heap locs) (hc : cells ≤ kc) (hs : slots ≤ ks) :
    Goes p e below s Q kc ks (T.setTop (mkF m pc Ls (.int z :: rest))) := Goes.out X hx hret rfl (Or.inl ⟨rfl, Or.inl rfl, z, rfl⟩) hd hlk hQ hc hs
theorem Goes.retN (X : Stand p l e R s m args below meth c T locs cells slots) (hx : p.tables.exec = Jvm.exec) {pc : Nat} {Ls : Array Slot} {z : Int32} {rest : List Value} (hret : meth.sig.returnType = some .boolean) (hn : narrow .boolean (.int z) = .int z) (hd : decode c.code pc = .ok (.ireturn, 1)) (hlk : meth.locks = false) (hQ : Q (some (.int z)) T.heap locs) (hc : cells ≤ kc) (hs : slots ≤ ks) :
    Goes p e below s Q kc ks (T.setTop (mkF m pc Ls (.int z :: rest))) := Goes.out X hx hret hn (Or.inl ⟨rfl, Or.inr (Or.inl rfl), z, rfl⟩) hd hlk hQ hc hs
theorem Goes.retL (X : Stand p l e R s m args below meth c T locs cells slots) (hx : p.tables.exec = Jvm.exec) {pc : Nat} {Ls : Array Slot} {z : Int64} {rest : List Value} (hret : meth.sig.returnType = some .long) (hn : True) (hd : decode c.code pc = .ok (.lreturn, 1)) (hlk : meth.locks = false) (hQ : Q (some (.long z)) T.heap locs) (hc : cells ≤ kc) (hs : slots ≤ ks) :
    Goes p e below s Q kc ks (T.setTop (mkF m pc Ls (.long z :: rest))) := Goes.out X hx hret rfl (Or.inr (Or.inl ⟨rfl, rfl, z, rfl⟩)) hd hlk hQ hc hs
theorem Goes.retD (X : Stand p l e R s m args below meth c T locs cells slots) (hx : p.tables.exec = Jvm.exec) {pc : Nat} {Ls : Array Slot} {z : UInt64} {rest : List Value} (hret : meth.sig.returnType = some .double) (hn : True) (hd : decode c.code pc = .ok (.dreturn, 1)) (hlk : meth.locks = false) (hQ : Q (some (.double z)) T.heap locs) (hc : cells ≤ kc) (hs : slots ≤ ks) :
    Goes p e below s Q kc ks (T.setTop (mkF m pc Ls (.double z :: rest))) := Goes.out X hx hret rfl (Or.inr (Or.inr (Or.inl ⟨rfl, rfl, z, rfl⟩))) hd hlk hQ hc hs
theorem Goes.retA (X : Stand p l e R s m args below meth c T locs cells slots) (hx : p.tables.exec = Jvm.exec) {pc : Nat} {Ls : Array Slot} {w : Value} {t : FieldType} {rest : List Value} (hret : meth.sig.returnType = some t) (ht : t.isReference = true) (hw : w.isRef = true) (hd : decode c.code pc = .ok (.areturn, 1)) (hlk : meth.locks = false) (hQ : Q (some w) T.heap locs) (hc : cells ≤ kc) (hs : slots ≤ ks) :
    Goes p e below s Q kc ks (T.setTop (mkF m pc Ls (w :: rest))) := Goes.out X hx hret (by rcases ref_cases hw with rfl | ⟨a, rfl⟩ <;> cases t <;> first | rfl | (simp [FieldType.isReference] at ht)) (Or.inr (Or.inr (Or.inr (Or.inr ⟨rfl, ht, hw⟩)))) hd hlk hQ hc hs
theorem Goes.retV (X : Stand p l e R s m args below meth c T locs cells slots) (hx : p.tables.exec = Jvm.exec) {pc : Nat} {Ls : Array Slot} (hret : meth.sig.returnType = none) (hd : decode c.code pc = .ok (.return_, 1)) (hlk : meth.locks = false) (hQ : Q none T.heap locs) (hc : cells ≤ kc) (hs : slots ≤ ks) :
    Goes p e below s Q kc ks (T.setTop (mkF m pc Ls [])) := by
  obtain ⟨fs, hr, hrun, hended, hW, hsame⟩ := X.leave (v := none) (fun _ => rfl) hlk
  exact ⟨_, _, X.returnOut hx hret hd hr, hrun, hended, _, _, rfl, hQ, ⟨_, rfl⟩, hW, hsame.mono hc hs⟩
end Go
theorem pd_0 : parseMethodDescriptor "()V" = some ⟨[], none⟩ := by decide +kernel
theorem pd_1 : parseMethodDescriptor "(JJ)V" = some ⟨[.long, .long], none⟩ := by decide +kernel
theorem pd_2 : parseMethodDescriptor "()D" = some ⟨[], some .double⟩ := by decide +kernel
/-! long arrays by their length and a function -/
def LA (Z : State) (h : Heap) (a : Addr) (n : Nat) (f : Nat → Int64) : Prop := ∃ c : Cell, Arr Z h a c .long ∧ c.slots.size = n ∧ ∀ i, i < n → c.slots[i]? = some (.long (f i))
section LAs
variable {Z : State} {h h' : Heap} {a b : Addr} {n : Nat} {f : Nat → Int64} {sl : Nat} {v : Value} {ws : List Addr}
theorem LA.lt (A : LA Z h a n f) : a < h.size := by obtain ⟨c, A, -⟩ := A; exact A.lt
theorem LA.ext (A : LA Z h a n f) (E : Ext h h') : LA Z h' a n f := by obtain ⟨c, A, q⟩ := A; exact ⟨c, A.ext E, q⟩
theorem LA.other (A : LA Z h b n f) (W : Wr h h' a sl v) (q : b ≠ a) : LA Z h' b n f := by obtain ⟨c, A, r⟩ := A; exact ⟨c, A.other W q, r⟩
theorem LA.keep (A : LA Z h a n f) (K : Keep h h' ws) (q : a ∉ ws) : LA Z h' a n f := by obtain ⟨c, A, r⟩ := A; exact ⟨c, ⟨K.2.1 a c A.1 q, A.2⟩, r⟩
theorem LA.congr {g : Nat → Int64} (A : LA Z h a n f) (q : ∀ i, i < n → f i = g i) : LA Z h a n g := by
  obtain ⟨c, A, S, H⟩ := A
  exact ⟨c, A, S, fun i hi => by rw [← q i hi]; exact H i hi⟩
theorem LA.set {i : Nat} {x : Int64} (A : LA Z h a n f) (W : Wr h h' a i (.long x)) : LA Z h' a n (fun j => if j = i then x else f j) := by
  obtain ⟨c, A, S, H⟩ := A
  refine ⟨c.setSlot i (.long x), A.same W, by rw [sz_set]; exact S, fun j hj => ?_⟩
  by_cases q : j = i
  · subst q; simp [Cell.setSlot, S, hj]
  · simp only [Cell.setSlot, if_neg q]
    rw [Array.getElem?_setIfInBounds_ne (Ne.symm q)]
    exact H j hj
end LAs
section LASteps
variable {p : Program} {l : Launch} {e : Env} {R : Room} {s : State} {m : MethodId} {args : Array Value} {below : List Frame} {meth : Method} {c : Code} {T : State} {locs : List Loc} {cells slots : Nat} {Z : State} {a0 : Array Value} {h : Heap} {a : Addr} {n : Nat} {f : Nat → Int64}
theorem own_inL {i n : Nat} (hi : i < n) (hn : n < 2147483648) : ¬ (Int32.ofNat i < 0 ∨ n ≤ (Int32.ofNat i).toNatClampNeg) := within rfl hi hn
theorem own_clL {i n : Nat} (hi : i < n) (hn : n < 2147483648) : (Int32.ofNat i).toNatClampNeg = i := clamp_of rfl (by omega)
theorem own_laload (X : Stand p l e R s m args below meth c T locs cells slots) (hx : p.tables.exec = Jvm.exec) (hZ : Z.Warmed39 s.vm) (eT : T.heap = h) (A : LA Z h a n f) {i : Nat} (hi : i < n) (hn : n < 2147483648) {g : JFrame} (hg : g.method = m) {rest : List Value} (hs : g.stack = .int (Int32.ofNat i) :: .ref a :: rest) (hd : decode c.code g.pc = .ok (.laload, 1)) {target : State}
    (hr : Steps p.tables e below (T.setTop { g with pc := g.pc + 1, stack := .long (f i) :: rest }) target) : Steps p.tables e below (T.setTop g) target := by
  obtain ⟨cl, A, S, H⟩ := A
  exact X.laload hx (j := Int32.ofNat i) (v := .long (f i)) (by rw [eT]; exact A.1) (State.isArrayOf_alike hZ.alike A.2.1) A.2.2 (by rw [S]; exact own_inL hi hn) (by rw [own_clL hi hn]; exact H i hi) hg hs hd _ hr
theorem own_lastore (X : Stand p l e R s m args below meth c T locs cells slots) (hx : p.tables.exec = Jvm.exec) (hZ : Z.Warmed39 s.vm) (eT : T.heap = h) (A : LA Z h a n f) {i : Nat} (hi : i < n) (hn : n < 2147483648) {x : Int64} {g : JFrame} (hg : g.method = m) {rest : List Value} (hs : g.stack = .long x :: .int (Int32.ofNat i) :: .ref a :: rest) (hd : decode c.code g.pc = .ok (.lastore, 1)) :
    ∃ T' h', Stand p l e R s m args below meth c T' (locs ++ [⟨a, i⟩]) cells slots ∧ T'.heap = h' ∧ Wr h h' a i (.long x) ∧ LA Z h' a n (fun j => if j = i then x else f j) ∧ ∀ target, Steps p.tables e below (T'.setTop { g with pc := g.pc + 1, stack := rest }) target → Steps p.tables e below (T.setTop g) target := by
  have A0 := A
  obtain ⟨cl, A, S, H⟩ := A
  obtain ⟨T', h', X', e', W, st⟩ := stJ X hx hZ eT A (j := Int32.ofNat i) (by rw [S]; exact own_inL hi hn) hg hs hd
  rw [own_clL hi hn] at X' W
  exact ⟨T', h', X', e', W, A0.set W, st⟩
theorem own_newL (X : Stand p l e R s m args below meth c T locs cells slots) (hx : p.tables.exec = Jvm.exec) (hZ : Z.Warmed39 s.vm) (w : (Cond.arrayClass .long).before a0 Z = true) (eT : T.heap = h) {g : JFrame} (hg : g.method = m) (hd : decode c.code g.pc = .ok (.newarray .long, 2)) {n : Nat} {rest : List Value} (hs : g.stack = .int (Int32.ofNat n) :: rest)
    (cap : Nat) (hcap : n ≤ cap) (hb : cap ≤ 1000) (hc : cells + 1 ≤ R.cells) (hl : slots + cap ≤ R.slots) :
    ∃ T' h', Stand p l e R s m args below meth c T' locs (cells + 1) (slots + cap) ∧ T'.heap = h' ∧ Ext h h' ∧ LA Z h' h.size n (fun _ => 0) ∧
      ∀ target, Steps p.tables e below (T'.setTop { g with pc := g.pc + 2, stack := .ref h.size :: rest }) target → Steps p.tables e below (T.setTop g) target := by
  have cl : (Int32.ofNat n).toNatClampNeg = n := clamp_of rfl (by omega)
  have nn : ¬ Int32.ofNat n < 0 := by
    have e1 := toInt_of (n := Int32.ofNat n) rfl (c := n) (by omega)
    rw [Int32.lt_iff_toInt_lt, e1]
    have e0 : (0 : Int32).toInt = 0 := by decide
    omega
  obtain ⟨T', h', cA, X', e', E, A, st⟩ := newP X hx hZ (aty := .long) w eT hg hd hs nn (cap := cap) (by rw [cl]; exact hcap) (by omega) hc hl
  refine ⟨T', h', X', e', E, ⟨_, A, by rw [sz_new]; exact cl, fun i hi => ?_⟩, st⟩
  simp [newA, cl, hi, newarray.typeOf, defaultValue]
end LASteps

section OwnFl
open Jvm.FP.Core
theorem own_lead {A : Nat} (hA : 0 < A) : leading A 1 = (A.log2 : Int) := by
  have h : 2 ^ A.log2 ≤ A := Nat.log2_self_le (by omega)
  have l1 : Nat.log2 1 = 0 := by decide
  unfold leading
  simp only [l1]
  have e1 : ((A.log2 : Int) - ((0 : Nat) : Int)).toNat = A.log2 := by omega
  have e2 : (-((A.log2 : Int) - ((0 : Nat) : Int))).toNat = 0 := by omega
  rw [e1, e2, if_pos (by simpa using h)]
  omega
theorem own_shift {s : Bool} {A : Nat} {e : Int} (k : Nat) (hA : 0 < A) (hlo : b64.qmin < (A.log2 : Int) + e - 52) (hhi : (A.log2 : Int) + e - 52 + k + 1 ≤ b64.qmax) :
    ∃ c q, roundRatio b64 s A 1 e = .fin s c q ∧ roundRatio b64 s A 1 (e + k) = .fin s c (q + k) ∧ (A.log2 : Int) + e - 52 ≤ q ∧ q ≤ (A.log2 : Int) + e - 51 ∧ c < 2 ^ 53 ∧ 2 ^ 52 ≤ c := by
  have hl := own_lead hA
  have hq : ∀ x : Int, b64.qmin < (A.log2 : Int) + x - 52 → quantum b64 A 1 x = (A.log2 : Int) + x - 52 := by
    intro x hx
    unfold quantum
    rw [hl]
    have hp : ((b64.p : Nat) : Int) = 53 := rfl
    rw [hp]
    omega
  have h0 : ¬ A = 0 := by omega
  have hp2 : 2 ^ b64.p = 2 ^ 53 := rfl
  have ht : b64.tails = 2 ^ 52 := rfl
  have fit := roundRatio_fits good_b64 s A (B := 1) (by decide) e
  unfold roundRatio at fit ⊢
  rw [if_neg h0] at fit ⊢
  rw [if_neg h0, hq e hlo, hq (e + k) (by omega)]
  rw [hq e hlo] at fit
  unfold roundAt at fit ⊢
  have u1 : unitsNum A (e + k) ((A.log2 : Int) + (e + k) - 52) = unitsNum A e ((A.log2 : Int) + e - 52) := by
    unfold unitsNum; congr 2; omega
  have u2 : unitsDen 1 (e + k) ((A.log2 : Int) + (e + k) - 52) = unitsDen 1 e ((A.log2 : Int) + e - 52) := by
    unfold unitsDen; congr 2; omega
  rw [u1, u2]
  generalize nearest (unitsNum A e ((A.log2 : Int) + e - 52)) (unitsDen 1 e ((A.log2 : Int) + e - 52)) = n at fit ⊢
  unfold settle bound at fit ⊢
  by_cases hn : n < 2 ^ b64.p
  · rw [if_pos hn] at fit
    rw [if_pos hn, if_pos hn]
    have b1 : (A.log2 : Int) + e - 52 ≤ b64.qmax := by omega
    have b2 : (A.log2 : Int) + (e + k) - 52 ≤ b64.qmax := by omega
    rw [if_pos b1] at fit
    rw [if_pos b1, if_pos b2]
    refine ⟨n, _, rfl, ?_, by omega, by omega, by rw [← hp2]; exact hn, ?_⟩
    · congr 1; omega
    · have f4 := fit.2.2.2
      rw [ht] at f4
      rcases f4 with f4 | f4
      · omega
      · exact f4
  · rw [if_neg hn] at fit
    rw [if_neg hn, if_neg hn]
    have b1 : (A.log2 : Int) + e - 52 + 1 ≤ b64.qmax := by omega
    have b2 : (A.log2 : Int) + (e + k) - 52 + 1 ≤ b64.qmax := by omega
    rw [if_pos b1] at fit
    rw [if_pos b1, if_pos b2]
    refine ⟨b64.tails, _, rfl, ?_, by omega, by omega, by rw [ht]; decide, by rw [ht]; decide⟩
    congr 1; omega
theorem own_lo {x : Int} (h : -1074 < x) : b64.qmin < x := by rw [show b64.qmin = -1074 by decide]; exact h
theorem own_hi {x : Int} (h : x ≤ 971) : x ≤ b64.qmax := by rw [show b64.qmax = 971 by decide]; exact h
theorem own_log {A m : Nat} (hA : 0 < A) (h : A < 2 ^ m) : A.log2 < m := (Nat.log2_lt (by omega)).mpr h
/-- a long and its double -/
theorem own_l2d2 {h h2 : Int64} (k : Nat) (hk : k ≤ 9) (hz : h.toInt ≠ 0) (he : h2.toInt = h.toInt * 2 ^ k) : ∃ c q, val64 (l2d h) = .fin (decide (h.toInt < 0)) c q ∧ val64 (l2d h2) = .fin (decide (h.toInt < 0)) c (q + k) ∧ -52 ≤ q ∧ q ≤ 12 ∧ c < 2 ^ 53 ∧ 2 ^ 52 ≤ c := by
  have r1 := h.toInt_lt
  have r2 := h.le_toInt
  have hA : 0 < h.toInt.natAbs := by omega
  have hl := own_log hA (m := 64) (by omega)
  obtain ⟨c, q, e1, e2, q1, q2, c1, c2⟩ := own_shift (s := decide (h.toInt < 0)) (A := h.toInt.natAbs) (e := 0) k hA (own_lo (by omega)) (own_hi (by omega))
  refine ⟨c, q, (val64_l2d h).trans e1, ?_, by omega, by omega, c1, c2⟩
  rw [val64_l2d]
  have p2 : (0 : Int) < 2 ^ k := Int.pow_pos (by decide)
  have hs : decide (h2.toInt < 0) = decide (h.toInt < 0) := by
    rw [he]
    by_cases hn : h.toInt < 0
    · have : h.toInt * 2 ^ k < 0 := Int.mul_neg_of_neg_of_pos hn p2
      simp [hn, this]
    · have : ¬ h.toInt * 2 ^ k < 0 := Int.not_lt.mpr (Int.mul_nonneg (by omega) (by omega))
      simp [hn, this]
  have ha : h2.toInt.natAbs = h.toInt.natAbs * 2 ^ k := by
    rw [he, Int.natAbs_mul, Int.natAbs_pow]; rfl
  show roundRatio b64 (decide (h2.toInt < 0)) h2.toInt.natAbs 1 0 = _
  rw [hs, ha, ← e2]
  refine roundRatio_congr (by decide) (by decide) ?_
  have t1 : ((0 : Int) - (0 + (k : Int))).toNat = 0 := by omega
  have t2 : ((0 : Int) + (k : Int) - 0).toNat = k := by omega
  rw [t1, t2]
  simp only [Nat.mul_one, Nat.pow_zero]
def K9 : UInt64 := 4741671816366391296
theorem own_K : val64 K9 = .fin false 8388608000000000 (-23) := by decide +kernel
/-- the quotient doesn't see a doubling -/
theorem own_scale {h h2 n n2 : Int64} (hh : h2.toInt = h.toInt * 2) (hn : n2.toInt = n.toInt * 2) (np : 0 < n.toInt) : ddiv (dmul (l2d h) K9) (l2d n) = ddiv (dmul (l2d h2) K9) (l2d n2) := by
  show of64 (quotient b64 (val64 (dmul (l2d h) K9)) (val64 (l2d n))) = of64 (quotient b64 (val64 (dmul (l2d h2) K9)) (val64 (l2d n2)))
  obtain ⟨cn, qn, n1, n2', -, -, -, cn0⟩ := own_l2d2 (h := n) (h2 := n2) 1 (by decide) (by omega) (by omega)
  have hcn : ¬ cn = 0 := by omega
  rw [n1, n2']
  congr 1
  rw [val64_dmul, val64_dmul, own_K]
  by_cases hz : h.toInt = 0
  · have z1 : h = 0 := Int64.toInt_inj.mp hz
    have z2 : h2 = 0 := Int64.toInt_inj.mp (by rw [hh, hz]; rfl)
    subst z1 z2
    have v0 : val64 (l2d 0) = .fin false 0 b64.qmin := by decide +kernel
    rw [v0]
    simp only [exactProduct, Nat.zero_mul, round, roundRatio, if_true, quotient, hcn, if_false]
  · obtain ⟨c, q, e1, e2, q1, q2, c1, c2⟩ := own_l2d2 (h := h) (h2 := h2) 1 (by decide) hz (by omega)
    rw [e1, e2]
    simp only [exactProduct, round]
    have hA : 0 < c * 8388608000000000 := Nat.mul_pos (by omega) (by decide)
    have hl := own_log hA (m := 107) (by omega)
    obtain ⟨cm, qm, m1, m2, -, -, -, -⟩ := own_shift (s := (decide (h.toInt < 0) != false)) (A := c * 8388608000000000) (e := q + -23) 1 hA (own_lo (by omega)) (own_hi (by omega))
    have t : q + ((1 : Nat) : Int) + -23 = q + -23 + ((1 : Nat) : Int) := by omega
    rw [t, m1, m2]
    simp only [quotient, hcn, if_false]
    congr 1
    omega
/-- a whole number below 2^53: the significand is the number, shifted -/
theorem own_small {h : Int64} (h0 : 0 < h.toInt) (h1 : h.toInt < 9007199254740992) {c : Nat} {q : Int} (e : val64 (l2d h) = .fin false c q) (c2 : 2 ^ 52 ≤ c) : q ≤ 0 ∧ c = h.toInt.natAbs * 2 ^ (-q).toNat := by
  have w := l2d_int (a := h) (by omega)
  unfold DInt at w
  rw [e] at w
  have w' : signed false (c * 2 ^ q.toNat) = h.toInt * ((2 ^ (-q).toNat : Nat) : Int) := w
  simp only [signed, Bool.false_eq_true, if_false] at w'
  have hn : (h.toInt.natAbs : Int) = h.toInt := by omega
  rw [← hn] at w'
  have w2 : c * 2 ^ q.toNat = h.toInt.natAbs * 2 ^ (-q).toNat := by exact_mod_cast w'
  by_cases hq : q ≤ 0
  · refine ⟨hq, ?_⟩
    have t : q.toNat = 0 := by omega
    rw [t] at w2
    simpa using w2
  · exfalso
    have t : (-q).toNat = 0 := by omega
    rw [t, Nat.pow_zero, Nat.mul_one] at w2
    have p2 : 2 ≤ 2 ^ q.toNat := by
      have : 2 ^ 1 ≤ 2 ^ q.toNat := Nat.pow_le_pow_right (by decide) (by omega)
      simpa using this
    have : c * 2 ≤ c * 2 ^ q.toNat := Nat.mul_le_mul_left _ p2
    omega
theorem own_pow (a b : Nat) : 2 ^ a * 2 ^ ((9 : Int) + b - a).toNat = 2 ^ 9 * 2 ^ b * 2 ^ ((a : Int) - 9 - b).toNat := by
  rw [← Nat.pow_add, ← Nat.pow_add, ← Nat.pow_add]
  congr 1
  omega
theorem own_exact {d P Q : Int64} (h0 : 0 ≤ d.toInt) (h1 : d.toInt < 4294967296) (p0 : 0 < P.toInt) (q0 : 0 < Q.toInt) (pq : P.toInt * Q.toInt = 1000000000) : ddiv (dmul (l2d d) K9) (l2d P) = l2d (d * Q) := by
  show of64 (quotient b64 (val64 (dmul (l2d d) K9)) (val64 (l2d P))) = of64 (round b64 (ofInt (d * Q).toInt))
  have pb : P.toInt ≤ 1000000000 := by
    have : P.toInt * 1 ≤ P.toInt * Q.toInt := Int.mul_le_mul_of_nonneg_left (by omega) (by omega)
    omega
  have qb : Q.toInt ≤ 1000000000 := by
    have : 1 * Q.toInt ≤ P.toInt * Q.toInt := Int.mul_le_mul_of_nonneg_right (by omega) (by omega)
    omega
  obtain ⟨cp, qp, p1, -, -, -, -, p2⟩ := own_l2d2 (h := P) (h2 := P) 0 (by decide) (by omega) (by omega)
  have sp : decide (P.toInt < 0) = false := by simp; omega
  rw [sp] at p1
  obtain ⟨hqp, hcp⟩ := own_small p0 (by omega) p1 p2
  have hcp0 : ¬ cp = 0 := by omega
  congr 1
  rw [p1, val64_dmul, own_K]
  have dq : (d * Q).toInt = d.toInt * Q.toInt := int64_mul (by
    have := Int.mul_nonneg h0 (Int.le_of_lt q0)
    omega) (by
    have : d.toInt * Q.toInt ≤ d.toInt * 1000000000 := Int.mul_le_mul_of_nonneg_left qb h0
    omega)
  by_cases hz : d.toInt = 0
  · have z1 : d = 0 := Int64.toInt_inj.mp hz
    subst z1
    have v0 : val64 (l2d 0) = .fin false 0 b64.qmin := by decide +kernel
    have dq0 : ((0 : Int64) * Q).toInt = 0 := by rw [dq]; simp
    rw [v0, dq0]
    simp [exactProduct, round, roundRatio, quotient, hcp0, ofInt]
  · obtain ⟨c, q, e1, -, q1, -, -, c2⟩ := own_l2d2 (h := d) (h2 := d) 0 (by decide) hz (by omega)
    have sd : decide (d.toInt < 0) = false := by simp; omega
    rw [sd] at e1
    obtain ⟨hq, hc⟩ := own_small (by omega) (by omega) e1 c2
    rw [e1]
    simp only [exactProduct, round, Bool.bne_false]
    -- the product's value: d * 1953125 * 2^9
    have hdn : (d.toInt.natAbs : Int) = d.toInt := by omega
    obtain ⟨E, hE⟩ : ∃ E : Int64, E.toInt = d.toInt * 1953125 := ⟨d * 1953125, by
      rw [int64_mul] <;> rw [show (1953125 : Int64).toInt = 1953125 by decide] <;> omega⟩
    obtain ⟨E9, hE9⟩ : ∃ E9 : Int64, E9.toInt = E.toInt * 2 ^ 9 := ⟨E * 512, by
      rw [int64_mul] <;> rw [show (512 : Int64).toInt = 512 by decide] <;> omega⟩
    obtain ⟨c', q', f1, f2, -, -, -, f4⟩ := own_l2d2 (h := E) (h2 := E9) 9 (by decide) (by omega) hE9
    have sE : decide (E.toInt < 0) = false := by simp; omega
    rw [sE] at f1 f2
    obtain ⟨hq', hc'⟩ := own_small (by omega) (by omega) f1 f4
    have hEn : E.toInt.natAbs = d.toInt.natAbs * 1953125 := by omega
    have hE9n : E9.toInt.natAbs = d.toInt.natAbs * 1000000000 := by omega
    have g : roundRatio b64 false (c * 8388608000000000) 1 (q + -23) = .fin false c' (q' + (9 : Nat)) := by
      rw [← f2, val64_l2d]
      have sE9 : decide (E9.toInt < 0) = false := by simp; omega
      show _ = roundRatio b64 (decide (E9.toInt < 0)) E9.toInt.natAbs 1 0
      rw [sE9]
      refine roundRatio_congr (by decide) (by decide) ?_
      have t1 : (q + -23 - 0).toNat = 0 := by omega
      have t2 : (0 - (q + -23)).toNat = (-q).toNat + 23 := by omega
      rw [t1, t2, hE9n, hc, Nat.pow_add]
      generalize 2 ^ (-q).toNat = A
      generalize d.toInt.natAbs = n
      calc n * A * 8388608000000000 * 1 * 2 ^ 0 = n * A * (1000000000 * 2 ^ 23) := by rw [Nat.pow_zero, Nat.mul_one, Nat.mul_one]
        _ = n * 1000000000 * 1 * (A * 2 ^ 23) := by rw [Nat.mul_one]; ac_rfl
    rw [g]
    simp only [quotient, hcp0, if_false, Bool.bne_false]
    have sdq : decide ((d * Q).toInt < 0) = false := by
      rw [dq]
      have := Int.mul_nonneg h0 (Int.le_of_lt q0)
      simp; omega
    show _ = roundRatio b64 (decide ((d * Q).toInt < 0)) (d * Q).toInt.natAbs 1 0
    rw [sdq]
    refine roundRatio_congr (by omega) (by decide) ?_
    have t1 : (q' + ((9 : Nat) : Int) - qp - 0).toNat = ((9 : Int) + ((-qp).toNat : Nat) - ((-q').toNat : Nat)).toNat := by omega
    have t2 : (0 - (q' + ((9 : Nat) : Int) - qp)).toNat = (((-q').toNat : Nat) - (9 : Int) - ((-qp).toNat : Nat)).toNat := by omega
    rw [t1, t2, hc', hcp, hEn, dq, Int.natAbs_mul]
    have pqn : P.toInt.natAbs * Q.toInt.natAbs = 1000000000 := by
      rw [← Int.natAbs_mul, pq]; rfl
    have e := own_pow (-q').toNat (-qp).toNat
    generalize 2 ^ (-q').toNat = A at *
    generalize 2 ^ (-qp).toNat = B at *
    generalize 2 ^ ((9 : Int) + ((-qp).toNat : Nat) - ((-q').toNat : Nat)).toNat = C at *
    generalize 2 ^ (((-q').toNat : Nat) - (9 : Int) - ((-qp).toNat : Nat)).toNat = D at *
    generalize d.toInt.natAbs = n at *
    generalize P.toInt.natAbs = p' at *
    generalize Q.toInt.natAbs = r at *
    calc n * 1953125 * A * 1 * C = n * 1953125 * (A * C) := by rw [Nat.mul_one, Nat.mul_assoc (n * 1953125)]
      _ = n * 1953125 * (2 ^ 9 * B * D) := by rw [e]
      _ = n * (1953125 * 2 ^ 9) * (B * D) := by ac_rfl
      _ = n * (p' * r) * (B * D) := by rw [pqn]
      _ = n * r * (p' * B) * D := by ac_rfl
end OwnFl
def powL (i : Nat) : Int64 := if i = 9 then 1000000000 else if i = 8 then 100000000 else if i = 7 then 10000000 else if i = 6 then 1000000 else if i = 5 then 100000 else if i = 4 then 10000 else if i = 3 then 1000 else if i = 2 then 100 else if i = 1 then 10 else if i = 0 then 1 else 0
theorem own_powL (J : Nat) (h : J ≤ 9) : 0 < (powL J).toInt ∧ 0 < (powL (9 - J)).toInt ∧ (powL J).toInt * (powL (9 - J)).toInt = 1000000000 := by
  have : ∀ J, J < 10 → 0 < (powL J).toInt ∧ 0 < (powL (9 - J)).toInt ∧ (powL J).toInt * (powL (9 - J)).toInt = 1000000000 := by decide
  exact this J (by omega)
theorem own_ofN {x : Int32} {n : Nat} (h : x.toInt = (n : Int)) : x = Int32.ofNat n := by
  have r := rng32 x
  apply Int32.toInt_inj.mp
  rw [toInt_of (n := Int32.ofNat n) (c := n) rfl (by omega), h]
theorem own_mod10 (p : Int32) : ∃ N, N ≤ 9 ∧ (p &&& 2147483647) % 10 = Int32.ofNat N ∧ (9 : Int32) - Int32.ofNat N = Int32.ofNat (9 - N) := by
  have a := c_mask p 2147483647 31 (by decide) (by decide)
  have q := (c_iremV (p &&& 2147483647) 10).1
  have o5 : (10 : Int32).toInt = 10 := by decide
  rw [o5] at q
  refine ⟨((p &&& 2147483647) % 10).toInt.toNat, by omega, own_ofN (by omega), own_ofN ?_⟩
  generalize hN : ((p &&& 2147483647) % 10).toInt.toNat = N
  have hN9 : N ≤ 9 := by omega
  have b := c_isub 9 (Int32.ofNat N)
  have o9 : (9 : Int32).toInt = 9 := by decide
  have oN : (Int32.ofNat N).toInt = N := toInt_of rfl (by omega)
  have r := rng32 (9 - Int32.ofNat N)
  rw [o9, oN] at b
  omega
theorem own_d1 (q : Int64) : 0 ≤ (q &&& 4294967295).toInt ∧ (q &&& 4294967295).toInt < 4294967296 := by
  have a := c_maskL q 4294967295 32 (by decide) (by decide)
  omega
theorem own_half (q : Int64) : ((2 : Int64) * (q >>> ((1 : Int32) &&& 0x3f).toInt64)).toInt = (q >>> ((1 : Int32) &&& 0x3f).toInt64).toInt * 2 := by
  have a := c_lshr q 1 1 (by decide)
  have b := c_lmul 2 (q >>> ((1 : Int32) &&& 0x3f).toInt64)
  have r := rng64 q
  have r2 := rng64 (2 * (q >>> ((1 : Int32) &&& 0x3f).toInt64))
  have o : (2 : Int64).toInt = 2 := by decide
  rw [o] at b
  omega
theorem own_nn (q : Int64) : 0 < (((q.toUInt64 >>> ((3 : Int32) &&& 0x3f).toInt64.toUInt64).toInt64) + 1).toInt ∧ ((2 : Int64) * (((q.toUInt64 >>> ((3 : Int32) &&& 0x3f).toInt64.toUInt64).toInt64) + 1)).toInt = (((q.toUInt64 >>> ((3 : Int32) &&& 0x3f).toInt64.toUInt64).toInt64) + 1).toInt * 2 := by
  have a := c_lushr q 3 3 (by decide) (by decide)
  generalize (q.toUInt64 >>> ((3 : Int32) &&& 0x3f).toInt64.toUInt64).toInt64 = x at *
  have r := rng64 q
  have b := c_ladd x 1
  have o1 : (1 : Int64).toInt = 1 := by decide
  rw [o1] at b
  have r1 := rng64 (x + 1)
  have c := c_lmul 2 (x + 1)
  have o : (2 : Int64).toInt = 2 := by decide
  rw [o] at c
  have r2 := rng64 (2 * (x + 1))
  omega
theorem own_nnM (x : Int64) : Jvm.Free.Fl.NoNaN64 (FP.dmul (FP.l2d x) 4741671816366391296) := Jvm.Free.Fl.dmul_out (Jvm.Free.Fl.l2d_fin x) (by unfold Jvm.Free.Fl.Fin64; decide)
theorem own_nnD (x y : Int64) (h : y ≠ 0) : Jvm.Free.Fl.NoNaN64 (FP.ddiv (FP.dmul (FP.l2d x) 4741671816366391296) (FP.l2d y)) := Jvm.Free.Fl.ddiv_out (own_nnM x) (Jvm.Free.Fl.l2d_fin y) (Jvm.Free.Fl.l2d_nz h)
theorem own_ne0 {x : Int64} (h : 0 < x.toInt) : x ≠ 0 := fun e => by
  subst e
  have o : (0 : Int64).toInt = 0 := by decide
  omega
def Q2 (h0 : Heap) (n0 : Nat) (v : Option Value) (h : Heap) (L : List Loc) : Prop := v = none ∧ Fr n0 L ∧ h = h0
theorem d2_0 : decode jdk_30_method_1_code 0 = .ok (.aload_n 0, 1) := by decide +kernel
theorem d2_1 : decode jdk_30_method_1_code 1 = .ok (.invokespecial 1, 3) := by decide +kernel
theorem d2_4 : decode jdk_30_method_1_code 4 = .ok (.return_, 1) := by decide +kernel
theorem pn_0 : plainName "java/lang/Record" = true := by first | (simp [plainName, overriddenIn]; done) | decide +kernel
theorem ef_rm2 (m : MethodId) (x0 : Addr) : entryFrame m #[(.ref x0)] 1 = mkF m 0 #[.val (.ref x0)] [] := by first | (simp [entryFrame, mkF, argsToLocals, Value.category]; done) | rfl
set_option maxRecDepth 65536 in
set_option maxHeartbeats 40000000 in
theorem rm2 (l : Launch) (Z : State) (a0 : Array Value) (hw : ∀ d ∈ tables_1, d.before a0 Z = true) (ws : List Jvm.Cond) (a1 : Addr) (h0 : Heap) (n0 : Nat) (Z0 : n0 ≤ h0.size)  :
    MetFree l (⟨"java/lang/Record", "<init>", "()V"⟩ : MethodName) (head1 (Jvm.Cond.code (⟨"java/lang/Record", "<init>", "()V"⟩ : MethodName) jdk_30_method_1_code 1 none :: ws) ({ frames := 1, cells := 0, slots := 0, locals := 12 } : Room)) (fun a U => a = #[(.ref a1)] ∧ Z.Warmed39 U.vm ∧ U.heap = h0) (fun _ _ _ _ _ => True) (fun _ U o U' => ∃ v L, o = .returned v ∧ (Q2 h0 n0) v U'.heap L ∧ FrameEnd U o U' L ({ frames := 1, cells := 0, slots := 0, locals := 12 } : Room).cells ({ frames := 1, cells := 0, slots := 0, locals := 12 } : Room).slots) := by
  refine MetFree.of_bodySF (plainFor_of_name pn_0) hisR ?_
  intro p e s m args below meth c s₁ Bd hml0 hP hK
  obtain ⟨rfl, hZ, hh⟩ := hP
  have hx := Bd.exec
  have hby := Bd.bytes
  have hlk : meth.locks = false := BodyLoose.notSynchronized Bd
  have hml : c.maxLocals = 1 := hml0
  have hown : s.vm.findClass "java/lang/Record" = some m.cls := findClass_of_methodNamed Bd.named
  have hnm := (name_of_methodNamed Bd.named Bd.method).1
  have X0 : Stand p l e ({ frames := 1, cells := 0, slots := 0, locals := 12 } : Room) s m #[(.ref a1)] below meth c s₁ [] 0 0 := Stand.of_body Bd
  have e0 : s₁.heap = h0 := by rw [← hh, Bd.state]; rfl
  have N0 := Fr.nil n0
  show Goes p e below s (Q2 h0 n0) ({ frames := 1, cells := 0, slots := 0, locals := 12 } : Room).cells ({ frames := 1, cells := 0, slots := 0, locals := 12 } : Room).slots (s₁.setTop (entryFrame m #[(.ref a1)] 1))
  refine Goes.by (fun t k => castTop (ef_rm2 m a1) k) ?_
  show Goes p e below s _ _ _ (s₁.setTop (mkF m 0 #[.val (.ref a1)] []))
  refine Goes.by (fun t k => XS.aloadN X0.here hx rfl (hb hby d2_0) rfl rfl k) ?_
  show Goes p e below s _ _ _ (s₁.setTop (mkF m 1 #[.val (.ref a1)] [(.ref a1)]))
  obtain ⟨T1, X1, e1, st1⟩ := initO X0 hx hZ hown (hw _ (List.mem_of_getElem? (i := 23) rfl)) (hw _ (List.mem_of_getElem? (i := 24) rfl)) (hw _ (List.mem_of_getElem? (i := 25) rfl)) e0 (g := (mkF m 1 #[.val (.ref a1)] [(.ref a1)])) rfl (by rw [hml]; rfl) rfl (hb hby d2_1) (by decide) (W := 0) (by show 2 * 0 + _ ≤ _; exact Nat.le_of_eq rfl) (by decide)
  refine Goes.by (fun t k => st1 t k) ?_
  show Goes p e below s _ _ _ (T1.setTop (mkF m 4 #[.val (.ref a1)] []))
  exact Goes.retV X1 hx Bd.returns (hb hby d2_4) hlk (by rw [e1]; exact ⟨rfl, N0, rfl⟩) (by decide) (by decide)
def Q1 (Z : State) (a1 : Addr) (v0 : Int64) (v1 : Int64) (h0 : Heap) (n0 : Nat) (v : Option Value) (h : Heap) (L : List Loc) : Prop := v = none ∧ Fr n0 L ∧ Keep h0 h [a1] ∧ Exa Z h a1 "dev/claimcheck/cli/Bench$Tally" ∧ Fld Z h a1 "dev/claimcheck/cli/Bench$Tally" "done" "J" (.long v0) ∧ Fld Z h a1 "dev/claimcheck/cli/Bench$Tally" "nanos" "J" (.long v1)
theorem d1_0 : decode prog_36_method_1_code 0 = .ok (.aload_n 0, 1) := by decide +kernel
theorem d1_1 : decode prog_36_method_1_code 1 = .ok (.invokespecial 1, 3) := by decide +kernel
theorem d1_4 : decode prog_36_method_1_code 4 = .ok (.aload_n 0, 1) := by decide +kernel
theorem d1_5 : decode prog_36_method_1_code 5 = .ok (.lload_n 1, 1) := by decide +kernel
theorem d1_6 : decode prog_36_method_1_code 6 = .ok (.putfield 7, 3) := by decide +kernel
theorem d1_9 : decode prog_36_method_1_code 9 = .ok (.aload_n 0, 1) := by decide +kernel
theorem d1_10 : decode prog_36_method_1_code 10 = .ok (.lload_n 3, 1) := by decide +kernel
theorem d1_11 : decode prog_36_method_1_code 11 = .ok (.putfield 13, 3) := by decide +kernel
theorem d1_14 : decode prog_36_method_1_code 14 = .ok (.return_, 1) := by decide +kernel
theorem pn_1 : plainName "dev/claimcheck/cli/Bench$Tally" = true := by first | (simp [plainName, overriddenIn]; done) | decide +kernel
theorem ef_rm1 (m : MethodId) (x0 : Addr) (x1 : Int64) (x2 : Int64) : entryFrame m #[(.ref x0), (.long x1), (.long x2)] 5 = mkF m 0 #[.val (.ref x0), .val (.long x1), .second, .val (.long x2), .second] [] := by first | (simp [entryFrame, mkF, argsToLocals, Value.category]; done) | rfl
set_option maxRecDepth 65536 in
set_option maxHeartbeats 40000000 in
theorem rm1 (l : Launch) (Z : State) (a0 : Array Value) (hw : ∀ d ∈ tables_1, d.before a0 Z = true) (ws : List Jvm.Cond) (a1 : Addr) (v0 : Int64) (v1 : Int64) (u0 : Value) (u1 : Value) (h0 : Heap) (n0 : Nat) (Z0 : n0 ≤ h0.size) (F0 : Fld Z h0 a1 "dev/claimcheck/cli/Bench$Tally" "done" "J" u0) (F1 : Fld Z h0 a1 "dev/claimcheck/cli/Bench$Tally" "nanos" "J" u1) (EA : Exa Z h0 a1 "dev/claimcheck/cli/Bench$Tally") (gea : n0 ≤ a1) :
    MetFree l (⟨"dev/claimcheck/cli/Bench$Tally", "<init>", "(JJ)V"⟩ : MethodName) (head1 (Jvm.Cond.code (⟨"dev/claimcheck/cli/Bench$Tally", "<init>", "(JJ)V"⟩ : MethodName) prog_36_method_1_code 5 none :: ws) ({ frames := 2, cells := 0, slots := 0, locals := 24 } : Room)) (fun a U => a = #[(.ref a1), (.long v0), (.long v1)] ∧ Z.Warmed39 U.vm ∧ U.heap = h0) (fun _ _ _ _ _ => True) (fun _ U o U' => ∃ v L, o = .returned v ∧ (Q1 Z a1 v0 v1 h0 n0) v U'.heap L ∧ FrameEnd U o U' L ({ frames := 2, cells := 0, slots := 0, locals := 24 } : Room).cells ({ frames := 2, cells := 0, slots := 0, locals := 24 } : Room).slots) := by
  refine MetFree.of_bodySF (plainFor_of_name pn_1) hisR ?_
  intro p e s m args below meth c s₁ Bd hml0 hP hK
  obtain ⟨rfl, hZ, hh⟩ := hP
  have hx := Bd.exec
  have hby := Bd.bytes
  have hlk : meth.locks = false := BodyLoose.notSynchronized Bd
  have hml : c.maxLocals = 5 := hml0
  have hown : s.vm.findClass "dev/claimcheck/cli/Bench$Tally" = some m.cls := findClass_of_methodNamed Bd.named
  have hnm := (name_of_methodNamed Bd.named Bd.method).1
  have X0 : Stand p l e ({ frames := 2, cells := 0, slots := 0, locals := 24 } : Room) s m #[(.ref a1), (.long v0), (.long v1)] below meth c s₁ [] 0 0 := Stand.of_body Bd
  have e0 : s₁.heap = h0 := by rw [← hh, Bd.state]; rfl
  have N0 := Fr.nil n0
  show Goes p e below s (Q1 Z a1 v0 v1 h0 n0) ({ frames := 2, cells := 0, slots := 0, locals := 24 } : Room).cells ({ frames := 2, cells := 0, slots := 0, locals := 24 } : Room).slots (s₁.setTop (entryFrame m #[(.ref a1), (.long v0), (.long v1)] 5))
  refine Goes.by (fun t k => castTop (ef_rm1 m a1 v0 v1) k) ?_
  show Goes p e below s _ _ _ (s₁.setTop (mkF m 0 #[.val (.ref a1), .val (.long v0), .second, .val (.long v1), .second] []))
  have KC0 : Keep h0 h0 [a1] := Keep.refl _ _
  refine Goes.by (fun t k => XS.aloadN X0.here hx rfl (hb hby d1_0) rfl rfl k) ?_
  show Goes p e below s _ _ _ (s₁.setTop (mkF m 1 #[.val (.ref a1), .val (.long v0), .second, .val (.long v1), .second] [(.ref a1)]))
  obtain ⟨_, _, ⟨T1, L1, k1, n1⟩, -, X1, ⟨Lc1, hQ1, l1, y1, z1⟩, st1⟩ := X0.specialBack hx (y := (⟨"java/lang/Record", "<init>", "()V"⟩ : MethodName)) rfl hown (mvT hZ (hw _ (List.mem_of_getElem? (i := 18) rfl))) (mvT hZ (hw _ (List.mem_of_getElem? (i := 19) rfl))) (mvT hZ (hw _ (List.mem_of_getElem? (i := 22) rfl))) (by decide) (backOf (W := 0) (rm2 l Z a0 hw [] a1 h0 n0 Z0) hZ (hw _ (List.mem_of_getElem? (i := 22) rfl)) (hw _ (List.mem_of_getElem? (i := 21) rfl)) (by decide) (by decide)) (g := (mkF m 1 #[.val (.ref a1), .val (.long v0), .second, .val (.long v1), .second] [(.ref a1)])) rfl (by rw [hml]; rfl) (Steps.refl _) (a := a1) (argsL := []) (rest := []) (lenOf pd_0 rfl) rfl (by show 2 * 0 + _ ≤ _; exact Nat.le_of_eq rfl) (hb hby d1_1) (fun _ _ => ⟨rfl, e0, (by decide : 0 + 0 ≤ _), (by decide : 0 + 0 ≤ _)⟩)
  dsimp only [Pt.U, Pt.locs, Pt.cells, Pt.slots] at X1 l1 y1 z1 st1 hQ1
  subst l1 y1 z1
  obtain ⟨rfl, N1q, hh1⟩ := hQ1
  have N1 := Fr.app N0 N1q
  refine Goes.by (fun t k => st1.trans k) ?_
  show Goes p e below s _ _ _ (T1.setTop (mkF m 4 #[.val (.ref a1), .val (.long v0), .second, .val (.long v1), .second] []))
  have eS : T1.heap = h0 := hh1
  refine Goes.by (fun t k => XS.aloadN X1.here hx rfl (hb hby d1_4) rfl rfl k) ?_
  show Goes p e below s _ _ _ (T1.setTop (mkF m 5 #[.val (.ref a1), .val (.long v0), .second, .val (.long v1), .second] [(.ref a1)]))
  refine Goes.by (fun t k => XS.lloadN X1.here hx rfl (hb hby d1_5) rfl k) ?_
  show Goes p e below s _ _ _ (T1.setTop (mkF m 6 #[.val (.ref a1), .val (.long v0), .second, .val (.long v1), .second] [(.long v0), (.ref a1)]))
  obtain ⟨T2, h2, X2, e2, W2, st2⟩ := putF X1 hx hZ hown (host := "") (Or.inl (hw _ (List.mem_of_getElem? (i := 26) rfl))) Via.refl eS (F0) (EA) (Or.inr ⟨(hw _ (List.mem_of_getElem? (i := 27) rfl)), rfl, hnm⟩) (hw _ (List.mem_of_getElem? (i := 13) rfl)) (ty := .long) (by decide) rfl rfl (g := (mkF m 6 #[.val (.ref a1), .val (.long v0), .second, .val (.long v1), .second] [(.long v0), (.ref a1)])) rfl rfl (hb hby d1_6)
  refine Goes.by (fun t k => st2 t k) ?_
  have N2 := Fr.snoc X2 N1 (gea)
  show Goes p e below s _ _ _ (T2.setTop (mkF m 9 #[.val (.ref a1), .val (.long v0), .second, .val (.long v1), .second] []))
  have f1 := KC0.wr W2 (Or.inl (List.mem_of_getElem? (i := 0) rfl))
  have f2 := Nat.le_trans Z0 (Keep.of_wr W2).1
  have f3 := F0.same W2
  have f4 := F1.other W2 (Or.inr (slot_ne (Or.inr (hw _ (List.mem_of_getElem? (i := 29) rfl))) (Or.inr (hw _ (List.mem_of_getElem? (i := 27) rfl))) (by decide) (t := .long) (t' := .long) (by decide) (by decide)))
  have f5 := EA.wr W2
  refine Goes.by (fun t k => XS.aloadN X2.here hx rfl (hb hby d1_9) rfl rfl k) ?_
  show Goes p e below s _ _ _ (T2.setTop (mkF m 10 #[.val (.ref a1), .val (.long v0), .second, .val (.long v1), .second] [(.ref a1)]))
  refine Goes.by (fun t k => XS.lloadN X2.here hx rfl (hb hby d1_10) rfl k) ?_
  show Goes p e below s _ _ _ (T2.setTop (mkF m 11 #[.val (.ref a1), .val (.long v0), .second, .val (.long v1), .second] [(.long v1), (.ref a1)]))
  obtain ⟨T3, h3, X3, e3, W3, st3⟩ := putF X2 hx hZ hown (host := "") (Or.inl (hw _ (List.mem_of_getElem? (i := 28) rfl))) Via.refl e2 (f4) (f5) (Or.inr ⟨(hw _ (List.mem_of_getElem? (i := 29) rfl)), rfl, hnm⟩) (hw _ (List.mem_of_getElem? (i := 13) rfl)) (ty := .long) (by decide) rfl rfl (g := (mkF m 11 #[.val (.ref a1), .val (.long v0), .second, .val (.long v1), .second] [(.long v1), (.ref a1)])) rfl rfl (hb hby d1_11)
  refine Goes.by (fun t k => st3 t k) ?_
  have N3 := Fr.snoc X3 N2 (gea)
  show Goes p e below s _ _ _ (T3.setTop (mkF m 14 #[.val (.ref a1), .val (.long v0), .second, .val (.long v1), .second] []))
  have f6 := f1.wr W3 (Or.inl (List.mem_of_getElem? (i := 0) rfl))
  have f7 := Nat.le_trans f2 (Keep.of_wr W3).1
  have f8 := f3.other W3 (Or.inr (slot_ne (Or.inr (hw _ (List.mem_of_getElem? (i := 27) rfl))) (Or.inr (hw _ (List.mem_of_getElem? (i := 29) rfl))) (by decide) (t := .long) (t' := .long) (by decide) (by decide)))
  have f9 := f4.same W3
  have f10 := f5.wr W3
  exact Goes.retV X3 hx Bd.returns (hb hby d1_14) hlk (by rw [e3]; exact ⟨rfl, N3, f6, f10, f8, f9⟩) (by decide) (by decide)
def Q4 (r : UInt64) (h0 : Heap) (n0 : Nat) (v : Option Value) (h : Heap) (L : List Loc) : Prop := v = some (.double r) ∧ Fr n0 L ∧ h = h0
theorem d4_0 : decode prog_36_method_3_code 0 = .ok (.aload_n 0, 1) := by decide +kernel
theorem d4_1 : decode prog_36_method_3_code 1 = .ok (.getfield 7, 3) := by decide +kernel
theorem d4_4 : decode prog_36_method_3_code 4 = .ok (.l2d, 1) := by decide +kernel
theorem d4_5 : decode prog_36_method_3_code 5 = .ok (.ldc2_w 19, 3) := by decide +kernel
theorem d4_8 : decode prog_36_method_3_code 8 = .ok (.dmul, 1) := by decide +kernel
theorem d4_9 : decode prog_36_method_3_code 9 = .ok (.aload_n 0, 1) := by decide +kernel
theorem d4_10 : decode prog_36_method_3_code 10 = .ok (.getfield 13, 3) := by decide +kernel
theorem d4_13 : decode prog_36_method_3_code 13 = .ok (.l2d, 1) := by decide +kernel
theorem d4_14 : decode prog_36_method_3_code 14 = .ok (.ddiv, 1) := by decide +kernel
theorem d4_15 : decode prog_36_method_3_code 15 = .ok (.dreturn, 1) := by decide +kernel
theorem ef_rm4 (m : MethodId) (x0 : Addr) : entryFrame m #[(.ref x0)] 1 = mkF m 0 #[.val (.ref x0)] [] := by first | (simp [entryFrame, mkF, argsToLocals, Value.category]; done) | rfl
set_option maxRecDepth 65536 in
set_option maxHeartbeats 40000000 in
theorem rm4 (l : Launch) (Z : State) (a0 : Array Value) (hw : ∀ d ∈ tables_1, d.before a0 Z = true) (ws : List Jvm.Cond) (a1 : Addr) (x1 y1 : Int64) (h0 : Heap) (n0 : Nat) (Z0 : n0 ≤ h0.size) (F1 : Fld Z h0 a1 "dev/claimcheck/cli/Bench$Tally" "done" "J" (.long x1)) (G1 : Fld Z h0 a1 "dev/claimcheck/cli/Bench$Tally" "nanos" "J" (.long y1)) (hy : y1 ≠ 0) :
    MetFree l (⟨"dev/claimcheck/cli/Bench$Tally", "perSecond", "()D"⟩ : MethodName) (head1 (Jvm.Cond.code (⟨"dev/claimcheck/cli/Bench$Tally", "perSecond", "()D"⟩ : MethodName) prog_36_method_3_code 1 (some .double) :: ws) ({ frames := 0, cells := 0, slots := 0, locals := 0 } : Room)) (fun a U => a = #[(.ref a1)] ∧ Z.Warmed39 U.vm ∧ U.heap = h0) (fun _ _ _ _ _ => True) (fun _ U o U' => ∃ v L, o = .returned v ∧ (Q4 (FP.ddiv (FP.dmul (FP.l2d x1) 4741671816366391296) (FP.l2d y1)) h0 n0) v U'.heap L ∧ FrameEnd U o U' L ({ frames := 0, cells := 0, slots := 0, locals := 0 } : Room).cells ({ frames := 0, cells := 0, slots := 0, locals := 0 } : Room).slots) := by
  refine MetFree.of_bodySF (plainFor_of_name pn_1) hisR ?_
  intro p e s m args below meth c s₁ Bd hml0 hP hK
  obtain ⟨rfl, hZ, hh⟩ := hP
  have hx := Bd.exec
  have hby := Bd.bytes
  have hlk : meth.locks = false := BodyLoose.notSynchronized Bd
  have hml : c.maxLocals = 1 := hml0
  have hown : s.vm.findClass "dev/claimcheck/cli/Bench$Tally" = some m.cls := findClass_of_methodNamed Bd.named
  have hnm := (name_of_methodNamed Bd.named Bd.method).1
  have X0 : Stand p l e ({ frames := 0, cells := 0, slots := 0, locals := 0 } : Room) s m #[(.ref a1)] below meth c s₁ [] 0 0 := Stand.of_body Bd
  have e0 : s₁.heap = h0 := by rw [← hh, Bd.state]; rfl
  have N0 := Fr.nil n0
  show Goes p e below s (Q4 (FP.ddiv (FP.dmul (FP.l2d x1) 4741671816366391296) (FP.l2d y1)) h0 n0) ({ frames := 0, cells := 0, slots := 0, locals := 0 } : Room).cells ({ frames := 0, cells := 0, slots := 0, locals := 0 } : Room).slots (s₁.setTop (entryFrame m #[(.ref a1)] 1))
  refine Goes.by (fun t k => castTop (ef_rm4 m a1) k) ?_
  show Goes p e below s _ _ _ (s₁.setTop (mkF m 0 #[.val (.ref a1)] []))
  refine Goes.by (fun t k => XS.aloadN X0.here hx rfl (hb hby d4_0) rfl rfl k) ?_
  show Goes p e below s _ _ _ (s₁.setTop (mkF m 1 #[.val (.ref a1)] [(.ref a1)]))
  obtain ⟨T1, X1, e1, st1⟩ := getF X0 hx hZ hown (host := "") (Or.inl (hw _ (List.mem_of_getElem? (i := 26) rfl))) Via.refl e0 (F1) (g := (mkF m 1 #[.val (.ref a1)] [(.ref a1)])) rfl rfl (hb hby d4_1)
  refine Goes.by (fun t k => st1 t k) ?_
  show Goes p e below s _ _ _ (T1.setTop (mkF m 4 #[.val (.ref a1)] [(.long x1)]))
  refine Goes.by (fun t k => XS.l2dS X1.here hx rfl (hb hby d4_4) rfl rfl k) ?_
  show Goes p e below s _ _ _ (T1.setTop (mkF m 5 #[.val (.ref a1)] [(.double (FP.l2d x1))]))
  refine Goes.by (fun t k => X1.ldc2DoubleC hx hown (mvT hZ (hw _ (List.mem_of_getElem? (i := 35) rfl))) (g := (mkF m 5 #[.val (.ref a1)] [(.double (FP.l2d x1))])) rfl (hb hby d4_5) _ k) ?_
  show Goes p e below s _ _ _ (T1.setTop (mkF m 8 #[.val (.ref a1)] [(.double 4741671816366391296), (.double (FP.l2d x1))]))
  refine Goes.by (fun t k => XS.dmulS X1.here hx rfl (hb hby d4_8) rfl (own_nnM x1) (rfl) k) ?_
  show Goes p e below s _ _ _ (T1.setTop (mkF m 9 #[.val (.ref a1)] [(.double (FP.dmul (FP.l2d x1) 4741671816366391296))]))
  refine Goes.by (fun t k => XS.aloadN X1.here hx rfl (hb hby d4_9) rfl rfl k) ?_
  show Goes p e below s _ _ _ (T1.setTop (mkF m 10 #[.val (.ref a1)] [(.ref a1), (.double (FP.dmul (FP.l2d x1) 4741671816366391296))]))
  obtain ⟨T2, X2, e2, st2⟩ := getF X1 hx hZ hown (host := "") (Or.inl (hw _ (List.mem_of_getElem? (i := 28) rfl))) Via.refl e1 (G1) (g := (mkF m 10 #[.val (.ref a1)] [(.ref a1), (.double (FP.dmul (FP.l2d x1) 4741671816366391296))])) rfl rfl (hb hby d4_10)
  refine Goes.by (fun t k => st2 t k) ?_
  show Goes p e below s _ _ _ (T2.setTop (mkF m 13 #[.val (.ref a1)] [(.long y1), (.double (FP.dmul (FP.l2d x1) 4741671816366391296))]))
  refine Goes.by (fun t k => XS.l2dS X2.here hx rfl (hb hby d4_13) rfl rfl k) ?_
  show Goes p e below s _ _ _ (T2.setTop (mkF m 14 #[.val (.ref a1)] [(.double (FP.l2d y1)), (.double (FP.dmul (FP.l2d x1) 4741671816366391296))]))
  refine Goes.by (fun t k => XS.ddivS X2.here hx rfl (hb hby d4_14) rfl (own_nnD x1 y1 hy) (rfl) k) ?_
  show Goes p e below s _ _ _ (T2.setTop (mkF m 15 #[.val (.ref a1)] [(.double (FP.ddiv (FP.dmul (FP.l2d x1) 4741671816366391296) (FP.l2d y1)))]))
  exact Goes.retD X2 hx Bd.returns trivial (hb hby d4_15) hlk (by rw [e2]; exact ⟨rfl, N0, rfl⟩) (by decide) (by decide)
def Q0 (n0 : Nat) (v : Option Value) (h : Heap) (L : List Loc) : Prop := v = some (.int 1) ∧ Fr n0 L
theorem pn_2 : plainName "dev/claimcheck/cli/TallyPerSecondPinLaw" = true := by first | (simp [plainName, overriddenIn]; done) | decide +kernel
theorem ef_rm0 (m : MethodId) (x0 : Int64) (x1 : Int64) (x2 : Int32) : entryFrame m #[(.long x0), (.long x1), (.int x2)] maxLocals = mkF m 0 #[.val (.long x0), .second, .val (.long x1), .second, .val (.int x2), .unset, .unset, .unset, .unset, .unset, .unset, .unset, .unset, .unset, .unset, .unset, .unset, .unset, .unset, .unset] [] := by first | (simp [entryFrame, mkF, argsToLocals, Value.category, maxLocals]; done) | rfl
set_option maxRecDepth 65536 in
set_option maxHeartbeats 40000000 in
theorem rm0 (l : Launch) (Z : State) (a0 : Array Value) (hw : ∀ d ∈ tables_1, d.before a0 Z = true) (ws : List Jvm.Cond) (q0 q1 : Int64) (p2 : Int32) (h0 : Heap) (n0 : Nat) (Z0 : n0 ≤ h0.size)  :
    MetFree l x (head1 (Jvm.Cond.code x code maxLocals ret :: ws) room_1) (fun a U => a = #[(.long q0), (.long q1), (.int p2)] ∧ Z.Warmed39 U.vm ∧ U.heap = h0) (fun _ _ _ _ _ => True) (fun _ U o U' => ∃ v L, o = .returned v ∧ (Q0 n0) v U'.heap L ∧ FrameEnd U o U' L room_1.cells room_1.slots) := by
  refine MetFree.of_bodySF (plainFor_of_name pn_2) hisR ?_
  intro p e s m args below meth c s₁ Bd hml0 hP hK
  obtain ⟨rfl, hZ, hh⟩ := hP
  have hx := Bd.exec
  have hby := Bd.bytes
  have hlk : meth.locks = false := BodyLoose.notSynchronized Bd
  have hml : c.maxLocals = 20 := hml0
  have hown : s.vm.findClass "dev/claimcheck/cli/TallyPerSecondPinLaw" = some m.cls := findClass_of_methodNamed Bd.named
  have hnm := (name_of_methodNamed Bd.named Bd.method).1
  have X0 : Stand p l e room_1 s m #[(.long q0), (.long q1), (.int p2)] below meth c s₁ [] 0 0 := Stand.of_body Bd
  have e0 : s₁.heap = h0 := by rw [← hh, Bd.state]; rfl
  have N0 := Fr.nil n0
  show Goes p e below s (Q0 n0) room_1.cells room_1.slots (s₁.setTop (entryFrame m #[(.long q0), (.long q1), (.int p2)] maxLocals))
  refine Goes.by (fun t k => castTop (ef_rm0 m q0 q1 p2) k) ?_
  show Goes p e below s _ _ _ (s₁.setTop (mkF m 0 #[.val (.long q0), .second, .val (.long q1), .second, .val (.int p2), .unset, .unset, .unset, .unset, .unset, .unset, .unset, .unset, .unset, .unset, .unset, .unset, .unset, .unset, .unset] []))
  refine Goes.by (fun t k => XS.bipush X0.here hx rfl (hb hby at_0) k) ?_
  show Goes p e below s _ _ _ (s₁.setTop (mkF m 2 #[.val (.long q0), .second, .val (.long q1), .second, .val (.int p2), .unset, .unset, .unset, .unset, .unset, .unset, .unset, .unset, .unset, .unset, .unset, .unset, .unset, .unset, .unset] [(.int (10 : Int32))]))
  show Goes p e below s _ _ _ (s₁.setTop (mkF m 2 #[.val (.long q0), .second, .val (.long q1), .second, .val (.int p2), .unset, .unset, .unset, .unset, .unset, .unset, .unset, .unset, .unset, .unset, .unset, .unset, .unset, .unset, .unset] [(.int (Int32.ofNat 10))]))
  obtain ⟨T1, h1, X1, e1, E1, I1, st1⟩ := own_newL X0 hx hZ (hw _ (List.mem_of_getElem? (i := 0) rfl)) e0 (g := (mkF m 2 #[.val (.long q0), .second, .val (.long q1), .second, .val (.int p2), .unset, .unset, .unset, .unset, .unset, .unset, .unset, .unset, .unset, .unset, .unset, .unset, .unset, .unset, .unset] [(.int (Int32.ofNat 10))])) rfl (hb hby at_2) rfl 10 (n := 10) (by decide) (by decide) (by decide) (by decide)
  obtain ⟨ab, g_ab⟩ : ∃ z, z = h0.size := ⟨_, rfl⟩
  rw [← g_ab] at I1 st1
  have gab : n0 ≤ ab := Nat.le_trans Z0 (Nat.le_of_eq g_ab.symm)
  refine Goes.by (fun t k => st1 t k) ?_
  show Goes p e below s _ _ _ (T1.setTop (mkF m 4 #[.val (.long q0), .second, .val (.long q1), .second, .val (.int p2), .unset, .unset, .unset, .unset, .unset, .unset, .unset, .unset, .unset, .unset, .unset, .unset, .unset, .unset, .unset] [(.ref ab)]))
  have f1 := Nat.le_trans Z0 E1.1
  refine Goes.by (fun t k => XS.dup X1.here hx rfl (hb hby at_4) rfl rfl k) ?_
  show Goes p e below s _ _ _ (T1.setTop (mkF m 5 #[.val (.long q0), .second, .val (.long q1), .second, .val (.int p2), .unset, .unset, .unset, .unset, .unset, .unset, .unset, .unset, .unset, .unset, .unset, .unset, .unset, .unset, .unset] [(.ref ab), (.ref ab)]))
  refine Goes.by (fun t k => XS.iconst X1.here hx rfl (hb hby at_5) k) ?_
  show Goes p e below s _ _ _ (T1.setTop (mkF m 6 #[.val (.long q0), .second, .val (.long q1), .second, .val (.int p2), .unset, .unset, .unset, .unset, .unset, .unset, .unset, .unset, .unset, .unset, .unset, .unset, .unset, .unset, .unset] [(.int (0 : Int32)), (.ref ab), (.ref ab)]))
  refine Goes.by (fun t k => XS.lconst X1.here hx rfl (hb hby at_6) k) ?_
  show Goes p e below s _ _ _ (T1.setTop (mkF m 7 #[.val (.long q0), .second, .val (.long q1), .second, .val (.int p2), .unset, .unset, .unset, .unset, .unset, .unset, .unset, .unset, .unset, .unset, .unset, .unset, .unset, .unset, .unset] [(.long (1 : Int64)), (.int (0 : Int32)), (.ref ab), (.ref ab)]))
  show Goes p e below s _ _ _ (T1.setTop (mkF m 7 #[.val (.long q0), .second, .val (.long q1), .second, .val (.int p2), .unset, .unset, .unset, .unset, .unset, .unset, .unset, .unset, .unset, .unset, .unset, .unset, .unset, .unset, .unset] [(.long (1 : Int64)), (.int (Int32.ofNat 0)), (.ref ab), (.ref ab)]))
  obtain ⟨T2, h2, X2, e2, W2, I2, st2⟩ := own_lastore X1 hx hZ e1 I1 (i := 0) (by decide) (by decide) (g := (mkF m 7 #[.val (.long q0), .second, .val (.long q1), .second, .val (.int p2), .unset, .unset, .unset, .unset, .unset, .unset, .unset, .unset, .unset, .unset, .unset, .unset, .unset, .unset, .unset] [(.long (1 : Int64)), (.int (Int32.ofNat 0)), (.ref ab), (.ref ab)])) rfl rfl (hb hby at_7)
  refine Goes.by (fun t k => st2 t k) ?_
  show Goes p e below s _ _ _ (T2.setTop (mkF m 8 #[.val (.long q0), .second, .val (.long q1), .second, .val (.int p2), .unset, .unset, .unset, .unset, .unset, .unset, .unset, .unset, .unset, .unset, .unset, .unset, .unset, .unset, .unset] [(.ref ab)]))
  have N2 := Fr.snoc X2 N0 gab
  have f2 := Nat.le_trans f1 (Keep.of_wr W2).1
  refine Goes.by (fun t k => XS.dup X2.here hx rfl (hb hby at_8) rfl rfl k) ?_
  show Goes p e below s _ _ _ (T2.setTop (mkF m 9 #[.val (.long q0), .second, .val (.long q1), .second, .val (.int p2), .unset, .unset, .unset, .unset, .unset, .unset, .unset, .unset, .unset, .unset, .unset, .unset, .unset, .unset, .unset] [(.ref ab), (.ref ab)]))
  refine Goes.by (fun t k => XS.iconst X2.here hx rfl (hb hby at_9) k) ?_
  show Goes p e below s _ _ _ (T2.setTop (mkF m 10 #[.val (.long q0), .second, .val (.long q1), .second, .val (.int p2), .unset, .unset, .unset, .unset, .unset, .unset, .unset, .unset, .unset, .unset, .unset, .unset, .unset, .unset, .unset] [(.int (1 : Int32)), (.ref ab), (.ref ab)]))
  refine Goes.by (fun t k => X2.ldc2Long hx hown (mvT hZ (hw _ (List.mem_of_getElem? (i := 1) rfl))) (g := (mkF m 10 #[.val (.long q0), .second, .val (.long q1), .second, .val (.int p2), .unset, .unset, .unset, .unset, .unset, .unset, .unset, .unset, .unset, .unset, .unset, .unset, .unset, .unset, .unset] [(.int (1 : Int32)), (.ref ab), (.ref ab)])) rfl (hb hby at_10) _ k) ?_
  show Goes p e below s _ _ _ (T2.setTop (mkF m 13 #[.val (.long q0), .second, .val (.long q1), .second, .val (.int p2), .unset, .unset, .unset, .unset, .unset, .unset, .unset, .unset, .unset, .unset, .unset, .unset, .unset, .unset, .unset] [(.long (10 : Int64)), (.int (1 : Int32)), (.ref ab), (.ref ab)]))
  show Goes p e below s _ _ _ (T2.setTop (mkF m 13 #[.val (.long q0), .second, .val (.long q1), .second, .val (.int p2), .unset, .unset, .unset, .unset, .unset, .unset, .unset, .unset, .unset, .unset, .unset, .unset, .unset, .unset, .unset] [(.long (10 : Int64)), (.int (Int32.ofNat 1)), (.ref ab), (.ref ab)]))
  obtain ⟨T3, h3, X3, e3, W3, I3, st3⟩ := own_lastore X2 hx hZ e2 I2 (i := 1) (by decide) (by decide) (g := (mkF m 13 #[.val (.long q0), .second, .val (.long q1), .second, .val (.int p2), .unset, .unset, .unset, .unset, .unset, .unset, .unset, .unset, .unset, .unset, .unset, .unset, .unset, .unset, .unset] [(.long (10 : Int64)), (.int (Int32.ofNat 1)), (.ref ab), (.ref ab)])) rfl rfl (hb hby at_13)
  refine Goes.by (fun t k => st3 t k) ?_
  show Goes p e below s _ _ _ (T3.setTop (mkF m 14 #[.val (.long q0), .second, .val (.long q1), .second, .val (.int p2), .unset, .unset, .unset, .unset, .unset, .unset, .unset, .unset, .unset, .unset, .unset, .unset, .unset, .unset, .unset] [(.ref ab)]))
  have N3 := Fr.snoc X3 N2 gab
  have f3 := Nat.le_trans f2 (Keep.of_wr W3).1
  refine Goes.by (fun t k => XS.dup X3.here hx rfl (hb hby at_14) rfl rfl k) ?_
  show Goes p e below s _ _ _ (T3.setTop (mkF m 15 #[.val (.long q0), .second, .val (.long q1), .second, .val (.int p2), .unset, .unset, .unset, .unset, .unset, .unset, .unset, .unset, .unset, .unset, .unset, .unset, .unset, .unset, .unset] [(.ref ab), (.ref ab)]))
  refine Goes.by (fun t k => XS.iconst X3.here hx rfl (hb hby at_15) k) ?_
  show Goes p e below s _ _ _ (T3.setTop (mkF m 16 #[.val (.long q0), .second, .val (.long q1), .second, .val (.int p2), .unset, .unset, .unset, .unset, .unset, .unset, .unset, .unset, .unset, .unset, .unset, .unset, .unset, .unset, .unset] [(.int (2 : Int32)), (.ref ab), (.ref ab)]))
  refine Goes.by (fun t k => X3.ldc2Long hx hown (mvT hZ (hw _ (List.mem_of_getElem? (i := 2) rfl))) (g := (mkF m 16 #[.val (.long q0), .second, .val (.long q1), .second, .val (.int p2), .unset, .unset, .unset, .unset, .unset, .unset, .unset, .unset, .unset, .unset, .unset, .unset, .unset, .unset, .unset] [(.int (2 : Int32)), (.ref ab), (.ref ab)])) rfl (hb hby at_16) _ k) ?_
  show Goes p e below s _ _ _ (T3.setTop (mkF m 19 #[.val (.long q0), .second, .val (.long q1), .second, .val (.int p2), .unset, .unset, .unset, .unset, .unset, .unset, .unset, .unset, .unset, .unset, .unset, .unset, .unset, .unset, .unset] [(.long (100 : Int64)), (.int (2 : Int32)), (.ref ab), (.ref ab)]))
  show Goes p e below s _ _ _ (T3.setTop (mkF m 19 #[.val (.long q0), .second, .val (.long q1), .second, .val (.int p2), .unset, .unset, .unset, .unset, .unset, .unset, .unset, .unset, .unset, .unset, .unset, .unset, .unset, .unset, .unset] [(.long (100 : Int64)), (.int (Int32.ofNat 2)), (.ref ab), (.ref ab)]))
  obtain ⟨T4, h4, X4, e4, W4, I4, st4⟩ := own_lastore X3 hx hZ e3 I3 (i := 2) (by decide) (by decide) (g := (mkF m 19 #[.val (.long q0), .second, .val (.long q1), .second, .val (.int p2), .unset, .unset, .unset, .unset, .unset, .unset, .unset, .unset, .unset, .unset, .unset, .unset, .unset, .unset, .unset] [(.long (100 : Int64)), (.int (Int32.ofNat 2)), (.ref ab), (.ref ab)])) rfl rfl (hb hby at_19)
  refine Goes.by (fun t k => st4 t k) ?_
  show Goes p e below s _ _ _ (T4.setTop (mkF m 20 #[.val (.long q0), .second, .val (.long q1), .second, .val (.int p2), .unset, .unset, .unset, .unset, .unset, .unset, .unset, .unset, .unset, .unset, .unset, .unset, .unset, .unset, .unset] [(.ref ab)]))
  have N4 := Fr.snoc X4 N3 gab
  have f4 := Nat.le_trans f3 (Keep.of_wr W4).1
  refine Goes.by (fun t k => XS.dup X4.here hx rfl (hb hby at_20) rfl rfl k) ?_
  show Goes p e below s _ _ _ (T4.setTop (mkF m 21 #[.val (.long q0), .second, .val (.long q1), .second, .val (.int p2), .unset, .unset, .unset, .unset, .unset, .unset, .unset, .unset, .unset, .unset, .unset, .unset, .unset, .unset, .unset] [(.ref ab), (.ref ab)]))
  refine Goes.by (fun t k => XS.iconst X4.here hx rfl (hb hby at_21) k) ?_
  show Goes p e below s _ _ _ (T4.setTop (mkF m 22 #[.val (.long q0), .second, .val (.long q1), .second, .val (.int p2), .unset, .unset, .unset, .unset, .unset, .unset, .unset, .unset, .unset, .unset, .unset, .unset, .unset, .unset, .unset] [(.int (3 : Int32)), (.ref ab), (.ref ab)]))
  refine Goes.by (fun t k => X4.ldc2Long hx hown (mvT hZ (hw _ (List.mem_of_getElem? (i := 3) rfl))) (g := (mkF m 22 #[.val (.long q0), .second, .val (.long q1), .second, .val (.int p2), .unset, .unset, .unset, .unset, .unset, .unset, .unset, .unset, .unset, .unset, .unset, .unset, .unset, .unset, .unset] [(.int (3 : Int32)), (.ref ab), (.ref ab)])) rfl (hb hby at_22) _ k) ?_
  show Goes p e below s _ _ _ (T4.setTop (mkF m 25 #[.val (.long q0), .second, .val (.long q1), .second, .val (.int p2), .unset, .unset, .unset, .unset, .unset, .unset, .unset, .unset, .unset, .unset, .unset, .unset, .unset, .unset, .unset] [(.long (1000 : Int64)), (.int (3 : Int32)), (.ref ab), (.ref ab)]))
  show Goes p e below s _ _ _ (T4.setTop (mkF m 25 #[.val (.long q0), .second, .val (.long q1), .second, .val (.int p2), .unset, .unset, .unset, .unset, .unset, .unset, .unset, .unset, .unset, .unset, .unset, .unset, .unset, .unset, .unset] [(.long (1000 : Int64)), (.int (Int32.ofNat 3)), (.ref ab), (.ref ab)]))
  obtain ⟨T5, h5, X5, e5, W5, I5, st5⟩ := own_lastore X4 hx hZ e4 I4 (i := 3) (by decide) (by decide) (g := (mkF m 25 #[.val (.long q0), .second, .val (.long q1), .second, .val (.int p2), .unset, .unset, .unset, .unset, .unset, .unset, .unset, .unset, .unset, .unset, .unset, .unset, .unset, .unset, .unset] [(.long (1000 : Int64)), (.int (Int32.ofNat 3)), (.ref ab), (.ref ab)])) rfl rfl (hb hby at_25)
  refine Goes.by (fun t k => st5 t k) ?_
  show Goes p e below s _ _ _ (T5.setTop (mkF m 26 #[.val (.long q0), .second, .val (.long q1), .second, .val (.int p2), .unset, .unset, .unset, .unset, .unset, .unset, .unset, .unset, .unset, .unset, .unset, .unset, .unset, .unset, .unset] [(.ref ab)]))
  have N5 := Fr.snoc X5 N4 gab
  have f5 := Nat.le_trans f4 (Keep.of_wr W5).1
  refine Goes.by (fun t k => XS.dup X5.here hx rfl (hb hby at_26) rfl rfl k) ?_
  show Goes p e below s _ _ _ (T5.setTop (mkF m 27 #[.val (.long q0), .second, .val (.long q1), .second, .val (.int p2), .unset, .unset, .unset, .unset, .unset, .unset, .unset, .unset, .unset, .unset, .unset, .unset, .unset, .unset, .unset] [(.ref ab), (.ref ab)]))
  refine Goes.by (fun t k => XS.iconst X5.here hx rfl (hb hby at_27) k) ?_
  show Goes p e below s _ _ _ (T5.setTop (mkF m 28 #[.val (.long q0), .second, .val (.long q1), .second, .val (.int p2), .unset, .unset, .unset, .unset, .unset, .unset, .unset, .unset, .unset, .unset, .unset, .unset, .unset, .unset, .unset] [(.int (4 : Int32)), (.ref ab), (.ref ab)]))
  refine Goes.by (fun t k => X5.ldc2Long hx hown (mvT hZ (hw _ (List.mem_of_getElem? (i := 4) rfl))) (g := (mkF m 28 #[.val (.long q0), .second, .val (.long q1), .second, .val (.int p2), .unset, .unset, .unset, .unset, .unset, .unset, .unset, .unset, .unset, .unset, .unset, .unset, .unset, .unset, .unset] [(.int (4 : Int32)), (.ref ab), (.ref ab)])) rfl (hb hby at_28) _ k) ?_
  show Goes p e below s _ _ _ (T5.setTop (mkF m 31 #[.val (.long q0), .second, .val (.long q1), .second, .val (.int p2), .unset, .unset, .unset, .unset, .unset, .unset, .unset, .unset, .unset, .unset, .unset, .unset, .unset, .unset, .unset] [(.long (10000 : Int64)), (.int (4 : Int32)), (.ref ab), (.ref ab)]))
  show Goes p e below s _ _ _ (T5.setTop (mkF m 31 #[.val (.long q0), .second, .val (.long q1), .second, .val (.int p2), .unset, .unset, .unset, .unset, .unset, .unset, .unset, .unset, .unset, .unset, .unset, .unset, .unset, .unset, .unset] [(.long (10000 : Int64)), (.int (Int32.ofNat 4)), (.ref ab), (.ref ab)]))
  obtain ⟨T6, h6, X6, e6, W6, I6, st6⟩ := own_lastore X5 hx hZ e5 I5 (i := 4) (by decide) (by decide) (g := (mkF m 31 #[.val (.long q0), .second, .val (.long q1), .second, .val (.int p2), .unset, .unset, .unset, .unset, .unset, .unset, .unset, .unset, .unset, .unset, .unset, .unset, .unset, .unset, .unset] [(.long (10000 : Int64)), (.int (Int32.ofNat 4)), (.ref ab), (.ref ab)])) rfl rfl (hb hby at_31)
  refine Goes.by (fun t k => st6 t k) ?_
  show Goes p e below s _ _ _ (T6.setTop (mkF m 32 #[.val (.long q0), .second, .val (.long q1), .second, .val (.int p2), .unset, .unset, .unset, .unset, .unset, .unset, .unset, .unset, .unset, .unset, .unset, .unset, .unset, .unset, .unset] [(.ref ab)]))
  have N6 := Fr.snoc X6 N5 gab
  have f6 := Nat.le_trans f5 (Keep.of_wr W6).1
  refine Goes.by (fun t k => XS.dup X6.here hx rfl (hb hby at_32) rfl rfl k) ?_
  show Goes p e below s _ _ _ (T6.setTop (mkF m 33 #[.val (.long q0), .second, .val (.long q1), .second, .val (.int p2), .unset, .unset, .unset, .unset, .unset, .unset, .unset, .unset, .unset, .unset, .unset, .unset, .unset, .unset, .unset] [(.ref ab), (.ref ab)]))
  refine Goes.by (fun t k => XS.iconst X6.here hx rfl (hb hby at_33) k) ?_
  show Goes p e below s _ _ _ (T6.setTop (mkF m 34 #[.val (.long q0), .second, .val (.long q1), .second, .val (.int p2), .unset, .unset, .unset, .unset, .unset, .unset, .unset, .unset, .unset, .unset, .unset, .unset, .unset, .unset, .unset] [(.int (5 : Int32)), (.ref ab), (.ref ab)]))
  refine Goes.by (fun t k => X6.ldc2Long hx hown (mvT hZ (hw _ (List.mem_of_getElem? (i := 5) rfl))) (g := (mkF m 34 #[.val (.long q0), .second, .val (.long q1), .second, .val (.int p2), .unset, .unset, .unset, .unset, .unset, .unset, .unset, .unset, .unset, .unset, .unset, .unset, .unset, .unset, .unset] [(.int (5 : Int32)), (.ref ab), (.ref ab)])) rfl (hb hby at_34) _ k) ?_
  show Goes p e below s _ _ _ (T6.setTop (mkF m 37 #[.val (.long q0), .second, .val (.long q1), .second, .val (.int p2), .unset, .unset, .unset, .unset, .unset, .unset, .unset, .unset, .unset, .unset, .unset, .unset, .unset, .unset, .unset] [(.long (100000 : Int64)), (.int (5 : Int32)), (.ref ab), (.ref ab)]))
  show Goes p e below s _ _ _ (T6.setTop (mkF m 37 #[.val (.long q0), .second, .val (.long q1), .second, .val (.int p2), .unset, .unset, .unset, .unset, .unset, .unset, .unset, .unset, .unset, .unset, .unset, .unset, .unset, .unset, .unset] [(.long (100000 : Int64)), (.int (Int32.ofNat 5)), (.ref ab), (.ref ab)]))
  obtain ⟨T7, h7, X7, e7, W7, I7, st7⟩ := own_lastore X6 hx hZ e6 I6 (i := 5) (by decide) (by decide) (g := (mkF m 37 #[.val (.long q0), .second, .val (.long q1), .second, .val (.int p2), .unset, .unset, .unset, .unset, .unset, .unset, .unset, .unset, .unset, .unset, .unset, .unset, .unset, .unset, .unset] [(.long (100000 : Int64)), (.int (Int32.ofNat 5)), (.ref ab), (.ref ab)])) rfl rfl (hb hby at_37)
  refine Goes.by (fun t k => st7 t k) ?_
  show Goes p e below s _ _ _ (T7.setTop (mkF m 38 #[.val (.long q0), .second, .val (.long q1), .second, .val (.int p2), .unset, .unset, .unset, .unset, .unset, .unset, .unset, .unset, .unset, .unset, .unset, .unset, .unset, .unset, .unset] [(.ref ab)]))
  have N7 := Fr.snoc X7 N6 gab
  have f7 := Nat.le_trans f6 (Keep.of_wr W7).1
  refine Goes.by (fun t k => XS.dup X7.here hx rfl (hb hby at_38) rfl rfl k) ?_
  show Goes p e below s _ _ _ (T7.setTop (mkF m 39 #[.val (.long q0), .second, .val (.long q1), .second, .val (.int p2), .unset, .unset, .unset, .unset, .unset, .unset, .unset, .unset, .unset, .unset, .unset, .unset, .unset, .unset, .unset] [(.ref ab), (.ref ab)]))
  refine Goes.by (fun t k => XS.bipush X7.here hx rfl (hb hby at_39) k) ?_
  show Goes p e below s _ _ _ (T7.setTop (mkF m 41 #[.val (.long q0), .second, .val (.long q1), .second, .val (.int p2), .unset, .unset, .unset, .unset, .unset, .unset, .unset, .unset, .unset, .unset, .unset, .unset, .unset, .unset, .unset] [(.int (6 : Int32)), (.ref ab), (.ref ab)]))
  refine Goes.by (fun t k => X7.ldc2Long hx hown (mvT hZ (hw _ (List.mem_of_getElem? (i := 6) rfl))) (g := (mkF m 41 #[.val (.long q0), .second, .val (.long q1), .second, .val (.int p2), .unset, .unset, .unset, .unset, .unset, .unset, .unset, .unset, .unset, .unset, .unset, .unset, .unset, .unset, .unset] [(.int (6 : Int32)), (.ref ab), (.ref ab)])) rfl (hb hby at_41) _ k) ?_
  show Goes p e below s _ _ _ (T7.setTop (mkF m 44 #[.val (.long q0), .second, .val (.long q1), .second, .val (.int p2), .unset, .unset, .unset, .unset, .unset, .unset, .unset, .unset, .unset, .unset, .unset, .unset, .unset, .unset, .unset] [(.long (1000000 : Int64)), (.int (6 : Int32)), (.ref ab), (.ref ab)]))
  show Goes p e below s _ _ _ (T7.setTop (mkF m 44 #[.val (.long q0), .second, .val (.long q1), .second, .val (.int p2), .unset, .unset, .unset, .unset, .unset, .unset, .unset, .unset, .unset, .unset, .unset, .unset, .unset, .unset, .unset] [(.long (1000000 : Int64)), (.int (Int32.ofNat 6)), (.ref ab), (.ref ab)]))
  obtain ⟨T8, h8, X8, e8, W8, I8, st8⟩ := own_lastore X7 hx hZ e7 I7 (i := 6) (by decide) (by decide) (g := (mkF m 44 #[.val (.long q0), .second, .val (.long q1), .second, .val (.int p2), .unset, .unset, .unset, .unset, .unset, .unset, .unset, .unset, .unset, .unset, .unset, .unset, .unset, .unset, .unset] [(.long (1000000 : Int64)), (.int (Int32.ofNat 6)), (.ref ab), (.ref ab)])) rfl rfl (hb hby at_44)
  refine Goes.by (fun t k => st8 t k) ?_
  show Goes p e below s _ _ _ (T8.setTop (mkF m 45 #[.val (.long q0), .second, .val (.long q1), .second, .val (.int p2), .unset, .unset, .unset, .unset, .unset, .unset, .unset, .unset, .unset, .unset, .unset, .unset, .unset, .unset, .unset] [(.ref ab)]))
  have N8 := Fr.snoc X8 N7 gab
  have f8 := Nat.le_trans f7 (Keep.of_wr W8).1
  refine Goes.by (fun t k => XS.dup X8.here hx rfl (hb hby at_45) rfl rfl k) ?_
  show Goes p e below s _ _ _ (T8.setTop (mkF m 46 #[.val (.long q0), .second, .val (.long q1), .second, .val (.int p2), .unset, .unset, .unset, .unset, .unset, .unset, .unset, .unset, .unset, .unset, .unset, .unset, .unset, .unset, .unset] [(.ref ab), (.ref ab)]))
  refine Goes.by (fun t k => XS.bipush X8.here hx rfl (hb hby at_46) k) ?_
  show Goes p e below s _ _ _ (T8.setTop (mkF m 48 #[.val (.long q0), .second, .val (.long q1), .second, .val (.int p2), .unset, .unset, .unset, .unset, .unset, .unset, .unset, .unset, .unset, .unset, .unset, .unset, .unset, .unset, .unset] [(.int (7 : Int32)), (.ref ab), (.ref ab)]))
  refine Goes.by (fun t k => X8.ldc2Long hx hown (mvT hZ (hw _ (List.mem_of_getElem? (i := 7) rfl))) (g := (mkF m 48 #[.val (.long q0), .second, .val (.long q1), .second, .val (.int p2), .unset, .unset, .unset, .unset, .unset, .unset, .unset, .unset, .unset, .unset, .unset, .unset, .unset, .unset, .unset] [(.int (7 : Int32)), (.ref ab), (.ref ab)])) rfl (hb hby at_48) _ k) ?_
  show Goes p e below s _ _ _ (T8.setTop (mkF m 51 #[.val (.long q0), .second, .val (.long q1), .second, .val (.int p2), .unset, .unset, .unset, .unset, .unset, .unset, .unset, .unset, .unset, .unset, .unset, .unset, .unset, .unset, .unset] [(.long (10000000 : Int64)), (.int (7 : Int32)), (.ref ab), (.ref ab)]))
  show Goes p e below s _ _ _ (T8.setTop (mkF m 51 #[.val (.long q0), .second, .val (.long q1), .second, .val (.int p2), .unset, .unset, .unset, .unset, .unset, .unset, .unset, .unset, .unset, .unset, .unset, .unset, .unset, .unset, .unset] [(.long (10000000 : Int64)), (.int (Int32.ofNat 7)), (.ref ab), (.ref ab)]))
  obtain ⟨T9, h9, X9, e9, W9, I9, st9⟩ := own_lastore X8 hx hZ e8 I8 (i := 7) (by decide) (by decide) (g := (mkF m 51 #[.val (.long q0), .second, .val (.long q1), .second, .val (.int p2), .unset, .unset, .unset, .unset, .unset, .unset, .unset, .unset, .unset, .unset, .unset, .unset, .unset, .unset, .unset] [(.long (10000000 : Int64)), (.int (Int32.ofNat 7)), (.ref ab), (.ref ab)])) rfl rfl (hb hby at_51)
  refine Goes.by (fun t k => st9 t k) ?_
  show Goes p e below s _ _ _ (T9.setTop (mkF m 52 #[.val (.long q0), .second, .val (.long q1), .second, .val (.int p2), .unset, .unset, .unset, .unset, .unset, .unset, .unset, .unset, .unset, .unset, .unset, .unset, .unset, .unset, .unset] [(.ref ab)]))
  have N9 := Fr.snoc X9 N8 gab
  have f9 := Nat.le_trans f8 (Keep.of_wr W9).1
  refine Goes.by (fun t k => XS.dup X9.here hx rfl (hb hby at_52) rfl rfl k) ?_
  show Goes p e below s _ _ _ (T9.setTop (mkF m 53 #[.val (.long q0), .second, .val (.long q1), .second, .val (.int p2), .unset, .unset, .unset, .unset, .unset, .unset, .unset, .unset, .unset, .unset, .unset, .unset, .unset, .unset, .unset] [(.ref ab), (.ref ab)]))
  refine Goes.by (fun t k => XS.bipush X9.here hx rfl (hb hby at_53) k) ?_
  show Goes p e below s _ _ _ (T9.setTop (mkF m 55 #[.val (.long q0), .second, .val (.long q1), .second, .val (.int p2), .unset, .unset, .unset, .unset, .unset, .unset, .unset, .unset, .unset, .unset, .unset, .unset, .unset, .unset, .unset] [(.int (8 : Int32)), (.ref ab), (.ref ab)]))
  refine Goes.by (fun t k => X9.ldc2Long hx hown (mvT hZ (hw _ (List.mem_of_getElem? (i := 8) rfl))) (g := (mkF m 55 #[.val (.long q0), .second, .val (.long q1), .second, .val (.int p2), .unset, .unset, .unset, .unset, .unset, .unset, .unset, .unset, .unset, .unset, .unset, .unset, .unset, .unset, .unset] [(.int (8 : Int32)), (.ref ab), (.ref ab)])) rfl (hb hby at_55) _ k) ?_
  show Goes p e below s _ _ _ (T9.setTop (mkF m 58 #[.val (.long q0), .second, .val (.long q1), .second, .val (.int p2), .unset, .unset, .unset, .unset, .unset, .unset, .unset, .unset, .unset, .unset, .unset, .unset, .unset, .unset, .unset] [(.long (100000000 : Int64)), (.int (8 : Int32)), (.ref ab), (.ref ab)]))
  show Goes p e below s _ _ _ (T9.setTop (mkF m 58 #[.val (.long q0), .second, .val (.long q1), .second, .val (.int p2), .unset, .unset, .unset, .unset, .unset, .unset, .unset, .unset, .unset, .unset, .unset, .unset, .unset, .unset, .unset] [(.long (100000000 : Int64)), (.int (Int32.ofNat 8)), (.ref ab), (.ref ab)]))
  obtain ⟨T10, h10, X10, e10, W10, I10, st10⟩ := own_lastore X9 hx hZ e9 I9 (i := 8) (by decide) (by decide) (g := (mkF m 58 #[.val (.long q0), .second, .val (.long q1), .second, .val (.int p2), .unset, .unset, .unset, .unset, .unset, .unset, .unset, .unset, .unset, .unset, .unset, .unset, .unset, .unset, .unset] [(.long (100000000 : Int64)), (.int (Int32.ofNat 8)), (.ref ab), (.ref ab)])) rfl rfl (hb hby at_58)
  refine Goes.by (fun t k => st10 t k) ?_
  show Goes p e below s _ _ _ (T10.setTop (mkF m 59 #[.val (.long q0), .second, .val (.long q1), .second, .val (.int p2), .unset, .unset, .unset, .unset, .unset, .unset, .unset, .unset, .unset, .unset, .unset, .unset, .unset, .unset, .unset] [(.ref ab)]))
  have N10 := Fr.snoc X10 N9 gab
  have f10 := Nat.le_trans f9 (Keep.of_wr W10).1
  refine Goes.by (fun t k => XS.dup X10.here hx rfl (hb hby at_59) rfl rfl k) ?_
  show Goes p e below s _ _ _ (T10.setTop (mkF m 60 #[.val (.long q0), .second, .val (.long q1), .second, .val (.int p2), .unset, .unset, .unset, .unset, .unset, .unset, .unset, .unset, .unset, .unset, .unset, .unset, .unset, .unset, .unset] [(.ref ab), (.ref ab)]))
  refine Goes.by (fun t k => XS.bipush X10.here hx rfl (hb hby at_60) k) ?_
  show Goes p e below s _ _ _ (T10.setTop (mkF m 62 #[.val (.long q0), .second, .val (.long q1), .second, .val (.int p2), .unset, .unset, .unset, .unset, .unset, .unset, .unset, .unset, .unset, .unset, .unset, .unset, .unset, .unset, .unset] [(.int (9 : Int32)), (.ref ab), (.ref ab)]))
  refine Goes.by (fun t k => X10.ldc2Long hx hown (mvT hZ (hw _ (List.mem_of_getElem? (i := 9) rfl))) (g := (mkF m 62 #[.val (.long q0), .second, .val (.long q1), .second, .val (.int p2), .unset, .unset, .unset, .unset, .unset, .unset, .unset, .unset, .unset, .unset, .unset, .unset, .unset, .unset, .unset] [(.int (9 : Int32)), (.ref ab), (.ref ab)])) rfl (hb hby at_62) _ k) ?_
  show Goes p e below s _ _ _ (T10.setTop (mkF m 65 #[.val (.long q0), .second, .val (.long q1), .second, .val (.int p2), .unset, .unset, .unset, .unset, .unset, .unset, .unset, .unset, .unset, .unset, .unset, .unset, .unset, .unset, .unset] [(.long (1000000000 : Int64)), (.int (9 : Int32)), (.ref ab), (.ref ab)]))
  show Goes p e below s _ _ _ (T10.setTop (mkF m 65 #[.val (.long q0), .second, .val (.long q1), .second, .val (.int p2), .unset, .unset, .unset, .unset, .unset, .unset, .unset, .unset, .unset, .unset, .unset, .unset, .unset, .unset, .unset] [(.long (1000000000 : Int64)), (.int (Int32.ofNat 9)), (.ref ab), (.ref ab)]))
  obtain ⟨T11, h11, X11, e11, W11, I11, st11⟩ := own_lastore X10 hx hZ e10 I10 (i := 9) (by decide) (by decide) (g := (mkF m 65 #[.val (.long q0), .second, .val (.long q1), .second, .val (.int p2), .unset, .unset, .unset, .unset, .unset, .unset, .unset, .unset, .unset, .unset, .unset, .unset, .unset, .unset, .unset] [(.long (1000000000 : Int64)), (.int (Int32.ofNat 9)), (.ref ab), (.ref ab)])) rfl rfl (hb hby at_65)
  refine Goes.by (fun t k => st11 t k) ?_
  show Goes p e below s _ _ _ (T11.setTop (mkF m 66 #[.val (.long q0), .second, .val (.long q1), .second, .val (.int p2), .unset, .unset, .unset, .unset, .unset, .unset, .unset, .unset, .unset, .unset, .unset, .unset, .unset, .unset, .unset] [(.ref ab)]))
  have N11 := Fr.snoc X11 N10 gab
  have f11 := Nat.le_trans f10 (Keep.of_wr W11).1
  have LP : LA Z h11 ab 10 powL := I11.congr (by decide)
  refine Goes.by (fun t k => XS.astore X11.here hx rfl (hb hby at_66) rfl rfl (l' := #[.val (.long q0), .second, .val (.long q1), .second, .val (.int p2), .val (.ref ab), .unset, .unset, .unset, .unset, .unset, .unset, .unset, .unset, .unset, .unset, .unset, .unset, .unset, .unset]) rfl k) ?_
  show Goes p e below s _ _ _ (T11.setTop (mkF m 68 #[.val (.long q0), .second, .val (.long q1), .second, .val (.int p2), .val (.ref ab), .unset, .unset, .unset, .unset, .unset, .unset, .unset, .unset, .unset, .unset, .unset, .unset, .unset, .unset] []))
  refine Goes.by (fun t k => XS.lloadN X11.here hx rfl (hb hby at_68) rfl k) ?_
  show Goes p e below s _ _ _ (T11.setTop (mkF m 69 #[.val (.long q0), .second, .val (.long q1), .second, .val (.int p2), .val (.ref ab), .unset, .unset, .unset, .unset, .unset, .unset, .unset, .unset, .unset, .unset, .unset, .unset, .unset, .unset] [(.long q0)]))
  refine Goes.by (fun t k => X11.ldc2Long hx hown (mvT hZ (hw _ (List.mem_of_getElem? (i := 10) rfl))) (g := (mkF m 69 #[.val (.long q0), .second, .val (.long q1), .second, .val (.int p2), .val (.ref ab), .unset, .unset, .unset, .unset, .unset, .unset, .unset, .unset, .unset, .unset, .unset, .unset, .unset, .unset] [(.long q0)])) rfl (hb hby at_69) _ k) ?_
  show Goes p e below s _ _ _ (T11.setTop (mkF m 72 #[.val (.long q0), .second, .val (.long q1), .second, .val (.int p2), .val (.ref ab), .unset, .unset, .unset, .unset, .unset, .unset, .unset, .unset, .unset, .unset, .unset, .unset, .unset, .unset] [(.long (4294967295 : Int64)), (.long q0)]))
  refine Goes.by (fun t k => XS.land X11.here hx rfl (hb hby at_72) rfl k) ?_
  show Goes p e below s _ _ _ (T11.setTop (mkF m 73 #[.val (.long q0), .second, .val (.long q1), .second, .val (.int p2), .val (.ref ab), .unset, .unset, .unset, .unset, .unset, .unset, .unset, .unset, .unset, .unset, .unset, .unset, .unset, .unset] [(.long (q0 &&& (4294967295 : Int64)))]))
  refine Goes.by (fun t k => XS.lstore X11.here hx rfl (hb hby at_73) rfl (l' := #[.val (.long q0), .second, .val (.long q1), .second, .val (.int p2), .val (.ref ab), .val (.long (q0 &&& (4294967295 : Int64))), .second, .unset, .unset, .unset, .unset, .unset, .unset, .unset, .unset, .unset, .unset, .unset, .unset]) rfl k) ?_
  show Goes p e below s _ _ _ (T11.setTop (mkF m 75 #[.val (.long q0), .second, .val (.long q1), .second, .val (.int p2), .val (.ref ab), .val (.long (q0 &&& (4294967295 : Int64))), .second, .unset, .unset, .unset, .unset, .unset, .unset, .unset, .unset, .unset, .unset, .unset, .unset] []))
  refine Goes.by (fun t k => XS.iload X11.here hx rfl (hb hby at_75) rfl k) ?_
  show Goes p e below s _ _ _ (T11.setTop (mkF m 77 #[.val (.long q0), .second, .val (.long q1), .second, .val (.int p2), .val (.ref ab), .val (.long (q0 &&& (4294967295 : Int64))), .second, .unset, .unset, .unset, .unset, .unset, .unset, .unset, .unset, .unset, .unset, .unset, .unset] [(.int p2)]))
  refine Goes.by (fun t k => X11.ldcInt hx hown (mvT hZ (hw _ (List.mem_of_getElem? (i := 11) rfl))) (g := (mkF m 77 #[.val (.long q0), .second, .val (.long q1), .second, .val (.int p2), .val (.ref ab), .val (.long (q0 &&& (4294967295 : Int64))), .second, .unset, .unset, .unset, .unset, .unset, .unset, .unset, .unset, .unset, .unset, .unset, .unset] [(.int p2)])) rfl (hb hby at_77) _ k) ?_
  show Goes p e below s _ _ _ (T11.setTop (mkF m 79 #[.val (.long q0), .second, .val (.long q1), .second, .val (.int p2), .val (.ref ab), .val (.long (q0 &&& (4294967295 : Int64))), .second, .unset, .unset, .unset, .unset, .unset, .unset, .unset, .unset, .unset, .unset, .unset, .unset] [(.int (2147483647 : Int32)), (.int p2)]))
  refine Goes.by (fun t k => XS.iand X11.here hx rfl (hb hby at_79) rfl k) ?_
  show Goes p e below s _ _ _ (T11.setTop (mkF m 80 #[.val (.long q0), .second, .val (.long q1), .second, .val (.int p2), .val (.ref ab), .val (.long (q0 &&& (4294967295 : Int64))), .second, .unset, .unset, .unset, .unset, .unset, .unset, .unset, .unset, .unset, .unset, .unset, .unset] [(.int (p2 &&& (2147483647 : Int32)))]))
  refine Goes.by (fun t k => XS.bipush X11.here hx rfl (hb hby at_80) k) ?_
  show Goes p e below s _ _ _ (T11.setTop (mkF m 82 #[.val (.long q0), .second, .val (.long q1), .second, .val (.int p2), .val (.ref ab), .val (.long (q0 &&& (4294967295 : Int64))), .second, .unset, .unset, .unset, .unset, .unset, .unset, .unset, .unset, .unset, .unset, .unset, .unset] [(.int (10 : Int32)), (.int (p2 &&& (2147483647 : Int32)))]))
  refine Goes.by (fun t k => Jvm.RoadKit.iremM X11 hx rfl (hb hby at_82) rfl (by decide) k) ?_
  show Goes p e below s _ _ _ (T11.setTop (mkF m 83 #[.val (.long q0), .second, .val (.long q1), .second, .val (.int p2), .val (.ref ab), .val (.long (q0 &&& (4294967295 : Int64))), .second, .unset, .unset, .unset, .unset, .unset, .unset, .unset, .unset, .unset, .unset, .unset, .unset] [(.int ((p2 &&& (2147483647 : Int32)) % (10 : Int32)))]))
  obtain ⟨J, hJ, eJ, e9⟩ := own_mod10 p2
  rw [eJ]
  show Goes p e below s _ _ _ (T11.setTop (mkF m 83 #[.val (.long q0), .second, .val (.long q1), .second, .val (.int p2), .val (.ref ab), .val (.long (q0 &&& (4294967295 : Int64))), .second, .unset, .unset, .unset, .unset, .unset, .unset, .unset, .unset, .unset, .unset, .unset, .unset] [(.int (Int32.ofNat J))]))
  obtain ⟨pp, pq, ppq⟩ := own_powL J hJ
  have hd1 := own_d1 q0
  refine Goes.by (fun t k => XS.istore X11.here hx rfl (hb hby at_83) rfl (l' := #[.val (.long q0), .second, .val (.long q1), .second, .val (.int p2), .val (.ref ab), .val (.long (q0 &&& (4294967295 : Int64))), .second, .val (.int (Int32.ofNat J)), .unset, .unset, .unset, .unset, .unset, .unset, .unset, .unset, .unset, .unset, .unset]) rfl k) ?_
  show Goes p e below s _ _ _ (T11.setTop (mkF m 85 #[.val (.long q0), .second, .val (.long q1), .second, .val (.int p2), .val (.ref ab), .val (.long (q0 &&& (4294967295 : Int64))), .second, .val (.int (Int32.ofNat J)), .unset, .unset, .unset, .unset, .unset, .unset, .unset, .unset, .unset, .unset, .unset] []))
  obtain ⟨T12, h12, X12, e12, E12, A12, D12, -, st12⟩ := newO X11 hx hZ hown (hw _ (List.mem_of_getElem? (i := 12) rfl)) (hw _ (List.mem_of_getElem? (i := 13) rfl)) (hw _ (List.mem_of_getElem? (i := 14) rfl)) e11 (g := (mkF m 85 #[.val (.long q0), .second, .val (.long q1), .second, .val (.int p2), .val (.ref ab), .val (.long (q0 &&& (4294967295 : Int64))), .second, .val (.int (Int32.ofNat J)), .unset, .unset, .unset, .unset, .unset, .unset, .unset, .unset, .unset, .unset, .unset] [])) rfl (hb hby at_85) (by decide) (by decide)
  obtain ⟨b12, g12⟩ : ∃ z, z = h11.size := ⟨_, rfl⟩
  rw [← g12] at A12 D12 st12
  refine Goes.by (fun t k => st12 t k) ?_
  show Goes p e below s _ _ _ (T12.setTop (mkF m 88 #[.val (.long q0), .second, .val (.long q1), .second, .val (.int p2), .val (.ref ab), .val (.long (q0 &&& (4294967295 : Int64))), .second, .val (.int (Int32.ofNat J)), .unset, .unset, .unset, .unset, .unset, .unset, .unset, .unset, .unset, .unset, .unset] [(.ref b12)]))
  have ne_ab_b12_f12 : ab ≠ b12 := Nat.ne_of_lt (Nat.lt_of_lt_of_le LP.lt (Nat.le_of_eq g12.symm))
  have ge_b12 : n0 ≤ b12 := Nat.le_trans f11 (Nat.le_of_eq g12.symm)
  have f13 := Nat.le_trans f11 E12.1
  have f14 := LP.ext E12
  have f15 : Fld Z h12 b12 "dev/claimcheck/cli/Bench$Tally" "done" "J" (.long (0 : Int64)) := D12 (Or.inr (hw _ (List.mem_of_getElem? (i := 27) rfl))) (ty := .long) (by decide)
  have f16 : Fld Z h12 b12 "dev/claimcheck/cli/Bench$Tally" "nanos" "J" (.long (0 : Int64)) := D12 (Or.inr (hw _ (List.mem_of_getElem? (i := 29) rfl))) (ty := .long) (by decide)
  refine Goes.by (fun t k => XS.dup X12.here hx rfl (hb hby at_88) rfl rfl k) ?_
  show Goes p e below s _ _ _ (T12.setTop (mkF m 89 #[.val (.long q0), .second, .val (.long q1), .second, .val (.int p2), .val (.ref ab), .val (.long (q0 &&& (4294967295 : Int64))), .second, .val (.int (Int32.ofNat J)), .unset, .unset, .unset, .unset, .unset, .unset, .unset, .unset, .unset, .unset, .unset] [(.ref b12), (.ref b12)]))
  refine Goes.by (fun t k => XS.lload X12.here hx rfl (hb hby at_89) rfl k) ?_
  show Goes p e below s _ _ _ (T12.setTop (mkF m 91 #[.val (.long q0), .second, .val (.long q1), .second, .val (.int p2), .val (.ref ab), .val (.long (q0 &&& (4294967295 : Int64))), .second, .val (.int (Int32.ofNat J)), .unset, .unset, .unset, .unset, .unset, .unset, .unset, .unset, .unset, .unset, .unset] [(.long (q0 &&& (4294967295 : Int64))), (.ref b12), (.ref b12)]))
  refine Goes.by (fun t k => XS.aload X12.here hx rfl (hb hby at_91) rfl rfl k) ?_
  show Goes p e below s _ _ _ (T12.setTop (mkF m 93 #[.val (.long q0), .second, .val (.long q1), .second, .val (.int p2), .val (.ref ab), .val (.long (q0 &&& (4294967295 : Int64))), .second, .val (.int (Int32.ofNat J)), .unset, .unset, .unset, .unset, .unset, .unset, .unset, .unset, .unset, .unset, .unset] [(.ref ab), (.long (q0 &&& (4294967295 : Int64))), (.ref b12), (.ref b12)]))
  refine Goes.by (fun t k => XS.iload X12.here hx rfl (hb hby at_93) rfl k) ?_
  show Goes p e below s _ _ _ (T12.setTop (mkF m 95 #[.val (.long q0), .second, .val (.long q1), .second, .val (.int p2), .val (.ref ab), .val (.long (q0 &&& (4294967295 : Int64))), .second, .val (.int (Int32.ofNat J)), .unset, .unset, .unset, .unset, .unset, .unset, .unset, .unset, .unset, .unset, .unset] [(.int (Int32.ofNat J)), (.ref ab), (.long (q0 &&& (4294967295 : Int64))), (.ref b12), (.ref b12)]))
  refine Goes.by (fun t k => own_laload X12 hx hZ e12 f14 (i := J) (by omega) (by decide) (g := (mkF m 95 #[.val (.long q0), .second, .val (.long q1), .second, .val (.int p2), .val (.ref ab), .val (.long (q0 &&& (4294967295 : Int64))), .second, .val (.int (Int32.ofNat J)), .unset, .unset, .unset, .unset, .unset, .unset, .unset, .unset, .unset, .unset, .unset] [(.int (Int32.ofNat J)), (.ref ab), (.long (q0 &&& (4294967295 : Int64))), (.ref b12), (.ref b12)])) rfl rfl (hb hby at_95) k) ?_
  show Goes p e below s _ _ _ (T12.setTop (mkF m 96 #[.val (.long q0), .second, .val (.long q1), .second, .val (.int p2), .val (.ref ab), .val (.long (q0 &&& (4294967295 : Int64))), .second, .val (.int (Int32.ofNat J)), .unset, .unset, .unset, .unset, .unset, .unset, .unset, .unset, .unset, .unset, .unset] [(.long (powL J)), (.long (q0 &&& (4294967295 : Int64))), (.ref b12), (.ref b12)]))
  obtain ⟨_, _, ⟨T13, L13, k13, n13⟩, -, X13, ⟨Lc13, hQ13, l13, y13, z13⟩, st13⟩ := X12.specialBack hx (y := (⟨"dev/claimcheck/cli/Bench$Tally", "<init>", "(JJ)V"⟩ : MethodName)) rfl hown (mvT hZ (hw _ (List.mem_of_getElem? (i := 15) rfl))) (mvT hZ (hw _ (List.mem_of_getElem? (i := 16) rfl))) (mvT hZ (hw _ (List.mem_of_getElem? (i := 17) rfl))) (by decide) (backOf (W := 1) (rm1 l Z a0 hw [] b12 (q0 &&& (4294967295 : Int64)) (powL J) _ _ h12 n0 f13 f15 f16 A12 ge_b12) hZ (hw _ (List.mem_of_getElem? (i := 17) rfl)) (hw _ (List.mem_of_getElem? (i := 14) rfl)) (by decide) (by decide)) (g := (mkF m 96 #[.val (.long q0), .second, .val (.long q1), .second, .val (.int p2), .val (.ref ab), .val (.long (q0 &&& (4294967295 : Int64))), .second, .val (.int (Int32.ofNat J)), .unset, .unset, .unset, .unset, .unset, .unset, .unset, .unset, .unset, .unset, .unset] [(.long (powL J)), (.long (q0 &&& (4294967295 : Int64))), (.ref b12), (.ref b12)])) rfl (by rw [hml]; rfl) (Steps.refl _) (a := b12) (argsL := [(.long (q0 &&& (4294967295 : Int64))), (.long (powL J))]) (rest := [(.ref b12)]) (lenOf pd_1 rfl) rfl (by show 2 * 0 + _ ≤ _; exact Nat.le_of_eq rfl) (hb hby at_96) (fun _ _ => ⟨rfl, e12, (by decide : 2 + 0 ≤ _), (by decide : 12 + 0 ≤ _)⟩)
  dsimp only [Pt.U, Pt.locs, Pt.cells, Pt.slots] at X13 l13 y13 z13 st13 hQ13
  subst l13 y13 z13
  obtain ⟨rfl, N13q, K13, E13, F13, G13⟩ := hQ13
  have N13 := Fr.app N11 N13q
  refine Goes.by (fun t k => st13.trans k) ?_
  show Goes p e below s _ _ _ (T13.setTop (mkF m 99 #[.val (.long q0), .second, .val (.long q1), .second, .val (.int p2), .val (.ref ab), .val (.long (q0 &&& (4294967295 : Int64))), .second, .val (.int (Int32.ofNat J)), .unset, .unset, .unset, .unset, .unset, .unset, .unset, .unset, .unset, .unset, .unset] [(.ref b12)]))
  have f17 := Nat.le_trans f13 K13.1
  have f18 := f14.keep K13 (ninS ne_ab_b12_f12 nin0)
  have f19 := A12.keep K13
  refine Goes.by (fun t k => XS.astore X13.here hx rfl (hb hby at_99) rfl rfl (l' := #[.val (.long q0), .second, .val (.long q1), .second, .val (.int p2), .val (.ref ab), .val (.long (q0 &&& (4294967295 : Int64))), .second, .val (.int (Int32.ofNat J)), .val (.ref b12), .unset, .unset, .unset, .unset, .unset, .unset, .unset, .unset, .unset, .unset]) rfl k) ?_
  show Goes p e below s _ _ _ (T13.setTop (mkF m 101 #[.val (.long q0), .second, .val (.long q1), .second, .val (.int p2), .val (.ref ab), .val (.long (q0 &&& (4294967295 : Int64))), .second, .val (.int (Int32.ofNat J)), .val (.ref b12), .unset, .unset, .unset, .unset, .unset, .unset, .unset, .unset, .unset, .unset] []))
  refine Goes.by (fun t k => XS.lload X13.here hx rfl (hb hby at_101) rfl k) ?_
  show Goes p e below s _ _ _ (T13.setTop (mkF m 103 #[.val (.long q0), .second, .val (.long q1), .second, .val (.int p2), .val (.ref ab), .val (.long (q0 &&& (4294967295 : Int64))), .second, .val (.int (Int32.ofNat J)), .val (.ref b12), .unset, .unset, .unset, .unset, .unset, .unset, .unset, .unset, .unset, .unset] [(.long (q0 &&& (4294967295 : Int64)))]))
  refine Goes.by (fun t k => XS.aload X13.here hx rfl (hb hby at_103) rfl rfl k) ?_
  show Goes p e below s _ _ _ (T13.setTop (mkF m 105 #[.val (.long q0), .second, .val (.long q1), .second, .val (.int p2), .val (.ref ab), .val (.long (q0 &&& (4294967295 : Int64))), .second, .val (.int (Int32.ofNat J)), .val (.ref b12), .unset, .unset, .unset, .unset, .unset, .unset, .unset, .unset, .unset, .unset] [(.ref ab), (.long (q0 &&& (4294967295 : Int64)))]))
  refine Goes.by (fun t k => XS.bipush X13.here hx rfl (hb hby at_105) k) ?_
  show Goes p e below s _ _ _ (T13.setTop (mkF m 107 #[.val (.long q0), .second, .val (.long q1), .second, .val (.int p2), .val (.ref ab), .val (.long (q0 &&& (4294967295 : Int64))), .second, .val (.int (Int32.ofNat J)), .val (.ref b12), .unset, .unset, .unset, .unset, .unset, .unset, .unset, .unset, .unset, .unset] [(.int (9 : Int32)), (.ref ab), (.long (q0 &&& (4294967295 : Int64)))]))
  refine Goes.by (fun t k => XS.iload X13.here hx rfl (hb hby at_107) rfl k) ?_
  show Goes p e below s _ _ _ (T13.setTop (mkF m 109 #[.val (.long q0), .second, .val (.long q1), .second, .val (.int p2), .val (.ref ab), .val (.long (q0 &&& (4294967295 : Int64))), .second, .val (.int (Int32.ofNat J)), .val (.ref b12), .unset, .unset, .unset, .unset, .unset, .unset, .unset, .unset, .unset, .unset] [(.int (Int32.ofNat J)), (.int (9 : Int32)), (.ref ab), (.long (q0 &&& (4294967295 : Int64)))]))
  refine Goes.by (fun t k => XS.isub X13.here hx rfl (hb hby at_109) rfl k) ?_
  show Goes p e below s _ _ _ (T13.setTop (mkF m 110 #[.val (.long q0), .second, .val (.long q1), .second, .val (.int p2), .val (.ref ab), .val (.long (q0 &&& (4294967295 : Int64))), .second, .val (.int (Int32.ofNat J)), .val (.ref b12), .unset, .unset, .unset, .unset, .unset, .unset, .unset, .unset, .unset, .unset] [(.int ((9 : Int32) - (Int32.ofNat J))), (.ref ab), (.long (q0 &&& (4294967295 : Int64)))]))
  rw [e9]
  show Goes p e below s _ _ _ (T13.setTop (mkF m 110 #[.val (.long q0), .second, .val (.long q1), .second, .val (.int p2), .val (.ref ab), .val (.long (q0 &&& (4294967295 : Int64))), .second, .val (.int (Int32.ofNat J)), .val (.ref b12), .unset, .unset, .unset, .unset, .unset, .unset, .unset, .unset, .unset, .unset] [(.int (Int32.ofNat (9 - J))), (.ref ab), (.long (q0 &&& (4294967295 : Int64)))]))
  refine Goes.by (fun t k => own_laload X13 hx hZ rfl f18 (i := (9 - J)) (by omega) (by decide) (g := (mkF m 110 #[.val (.long q0), .second, .val (.long q1), .second, .val (.int p2), .val (.ref ab), .val (.long (q0 &&& (4294967295 : Int64))), .second, .val (.int (Int32.ofNat J)), .val (.ref b12), .unset, .unset, .unset, .unset, .unset, .unset, .unset, .unset, .unset, .unset] [(.int (Int32.ofNat (9 - J))), (.ref ab), (.long (q0 &&& (4294967295 : Int64)))])) rfl rfl (hb hby at_110) k) ?_
  show Goes p e below s _ _ _ (T13.setTop (mkF m 111 #[.val (.long q0), .second, .val (.long q1), .second, .val (.int p2), .val (.ref ab), .val (.long (q0 &&& (4294967295 : Int64))), .second, .val (.int (Int32.ofNat J)), .val (.ref b12), .unset, .unset, .unset, .unset, .unset, .unset, .unset, .unset, .unset, .unset] [(.long (powL (9 - J))), (.long (q0 &&& (4294967295 : Int64)))]))
  refine Goes.by (fun t k => XS.lmul X13.here hx rfl (hb hby at_111) rfl k) ?_
  show Goes p e below s _ _ _ (T13.setTop (mkF m 112 #[.val (.long q0), .second, .val (.long q1), .second, .val (.int p2), .val (.ref ab), .val (.long (q0 &&& (4294967295 : Int64))), .second, .val (.int (Int32.ofNat J)), .val (.ref b12), .unset, .unset, .unset, .unset, .unset, .unset, .unset, .unset, .unset, .unset] [(.long ((q0 &&& (4294967295 : Int64)) * (powL (9 - J))))]))
  refine Goes.by (fun t k => XS.l2dS X13.here hx rfl (hb hby at_112) rfl rfl k) ?_
  show Goes p e below s _ _ _ (T13.setTop (mkF m 113 #[.val (.long q0), .second, .val (.long q1), .second, .val (.int p2), .val (.ref ab), .val (.long (q0 &&& (4294967295 : Int64))), .second, .val (.int (Int32.ofNat J)), .val (.ref b12), .unset, .unset, .unset, .unset, .unset, .unset, .unset, .unset, .unset, .unset] [(.double (FP.l2d ((q0 &&& (4294967295 : Int64)) * (powL (9 - J)))))]))
  refine Goes.by (fun t k => XS.dstore X13.here hx rfl (hb hby at_113) rfl (l' := #[.val (.long q0), .second, .val (.long q1), .second, .val (.int p2), .val (.ref ab), .val (.long (q0 &&& (4294967295 : Int64))), .second, .val (.int (Int32.ofNat J)), .val (.ref b12), .val (.double (FP.l2d ((q0 &&& (4294967295 : Int64)) * (powL (9 - J))))), .second, .unset, .unset, .unset, .unset, .unset, .unset, .unset, .unset]) rfl k) ?_
  show Goes p e below s _ _ _ (T13.setTop (mkF m 115 #[.val (.long q0), .second, .val (.long q1), .second, .val (.int p2), .val (.ref ab), .val (.long (q0 &&& (4294967295 : Int64))), .second, .val (.int (Int32.ofNat J)), .val (.ref b12), .val (.double (FP.l2d ((q0 &&& (4294967295 : Int64)) * (powL (9 - J))))), .second, .unset, .unset, .unset, .unset, .unset, .unset, .unset, .unset] []))
  refine Goes.by (fun t k => XS.aload X13.here hx rfl (hb hby at_115) rfl rfl k) ?_
  show Goes p e below s _ _ _ (T13.setTop (mkF m 117 #[.val (.long q0), .second, .val (.long q1), .second, .val (.int p2), .val (.ref ab), .val (.long (q0 &&& (4294967295 : Int64))), .second, .val (.int (Int32.ofNat J)), .val (.ref b12), .val (.double (FP.l2d ((q0 &&& (4294967295 : Int64)) * (powL (9 - J))))), .second, .unset, .unset, .unset, .unset, .unset, .unset, .unset, .unset] [(.ref b12)]))
  obtain ⟨cq14, kq14, q14a, q14b, q14c⟩ := isOf hZ rfl (E13)
  obtain ⟨_, _, ⟨T14, L14, k14, n14⟩, -, X14, ⟨Lc14, hQ14, l14, y14, z14⟩, st14⟩ := X13.virtualBack hx (y := (⟨"dev/claimcheck/cli/Bench$Tally", "perSecond", "()D"⟩ : MethodName)) (z := (⟨"dev/claimcheck/cli/Bench$Tally", "perSecond", "()D"⟩ : MethodName)) hown (mvT hZ (hw _ (List.mem_of_getElem? (i := 30) rfl))) (mvT hZ (hw _ (List.mem_of_getElem? (i := 31) rfl))) (notFace_of_selects (args := #[]) (mvT hZ (hw _ (List.mem_of_getElem? (i := 33) rfl)))) (mvT hZ (hw _ (List.mem_of_getElem? (i := 33) rfl))) (mvT hZ (hw _ (List.mem_of_getElem? (i := 32) rfl))) (by decide) (backOf (W := 0) (rm4 l Z a0 hw [] b12 (q0 &&& (4294967295 : Int64)) (powL J) _ n0 f17 F13 G13 (own_ne0 pp)) hZ (hw _ (List.mem_of_getElem? (i := 34) rfl)) (hw _ (List.mem_of_getElem? (i := 14) rfl)) (by decide) (by decide)) q14a q14c (g := (mkF m 117 #[.val (.long q0), .second, .val (.long q1), .second, .val (.int p2), .val (.ref ab), .val (.long (q0 &&& (4294967295 : Int64))), .second, .val (.int (Int32.ofNat J)), .val (.ref b12), .val (.double (FP.l2d ((q0 &&& (4294967295 : Int64)) * (powL (9 - J))))), .second, .unset, .unset, .unset, .unset, .unset, .unset, .unset, .unset] [(.ref b12)])) rfl (by rw [hml]; rfl) (Steps.refl _) (argsL := []) (rest := []) (lenOf pd_2 rfl) rfl (by show 2 * 0 + _ ≤ _; exact Nat.le_of_eq rfl) (hb hby at_117) (fun _ _ => ⟨rfl, rfl, (by decide : 2 + 0 ≤ _), (by decide : 12 + 0 ≤ _)⟩)
  dsimp only [Pt.U, Pt.locs, Pt.cells, Pt.slots] at X14 l14 y14 z14 st14 hQ14
  subst l14 y14 z14
  obtain ⟨rfl, N14q, hh14⟩ := hQ14
  have N14 := Fr.app N13 N14q
  refine Goes.by (fun t k => st14.trans k) ?_
  show Goes p e below s _ _ _ (T14.setTop (mkF m 120 #[.val (.long q0), .second, .val (.long q1), .second, .val (.int p2), .val (.ref ab), .val (.long (q0 &&& (4294967295 : Int64))), .second, .val (.int (Int32.ofNat J)), .val (.ref b12), .val (.double (FP.l2d ((q0 &&& (4294967295 : Int64)) * (powL (9 - J))))), .second, .unset, .unset, .unset, .unset, .unset, .unset, .unset, .unset] [(.double (FP.ddiv (FP.dmul (FP.l2d (q0 &&& (4294967295 : Int64))) 4741671816366391296) (FP.l2d (powL J))))]))
  have KK14 : Keep (T13.heap) T14.heap [] := by rw [hh14]; exact Keep.refl _ _
  have f20 := Nat.le_trans f17 KK14.1
  have f21 := f18.keep KK14 nin0
  have f22 := E13.keep KK14
  have f23 := F13.keep KK14 nin0
  have f24 := G13.keep KK14 nin0
  refine Goes.by (fun t k => XS.dload X14.here hx rfl (hb hby at_120) rfl k) ?_
  show Goes p e below s _ _ _ (T14.setTop (mkF m 122 #[.val (.long q0), .second, .val (.long q1), .second, .val (.int p2), .val (.ref ab), .val (.long (q0 &&& (4294967295 : Int64))), .second, .val (.int (Int32.ofNat J)), .val (.ref b12), .val (.double (FP.l2d ((q0 &&& (4294967295 : Int64)) * (powL (9 - J))))), .second, .unset, .unset, .unset, .unset, .unset, .unset, .unset, .unset] [(.double (FP.l2d ((q0 &&& (4294967295 : Int64)) * (powL (9 - J))))), (.double (FP.ddiv (FP.dmul (FP.l2d (q0 &&& (4294967295 : Int64))) 4741671816366391296) (FP.l2d (powL J))))]))
  refine Goes.by (fun t k => XS.dcmpS X14.here hx rfl (hb hby at_122) rfl (dcmpV_eq (own_exact hd1.1 hd1.2 pp pq ppq) (own_nnD _ _ (own_ne0 pp)) _) k) ?_
  show Goes p e below s _ _ _ (T14.setTop (mkF m 123 #[.val (.long q0), .second, .val (.long q1), .second, .val (.int p2), .val (.ref ab), .val (.long (q0 &&& (4294967295 : Int64))), .second, .val (.int (Int32.ofNat J)), .val (.ref b12), .val (.double (FP.l2d ((q0 &&& (4294967295 : Int64)) * (powL (9 - J))))), .second, .unset, .unset, .unset, .unset, .unset, .unset, .unset, .unset] [(.int (0 : Int32))]))
  refine Goes.by (fun t k => XS.ifNo X14.here hx rfl (hb hby at_123) rfl ((if0 _ _).trans (teq (rfl)).2) k) ?_
  show Goes p e below s _ _ _ (T14.setTop (mkF m 126 #[.val (.long q0), .second, .val (.long q1), .second, .val (.int p2), .val (.ref ab), .val (.long (q0 &&& (4294967295 : Int64))), .second, .val (.int (Int32.ofNat J)), .val (.ref b12), .val (.double (FP.l2d ((q0 &&& (4294967295 : Int64)) * (powL (9 - J))))), .second, .unset, .unset, .unset, .unset, .unset, .unset, .unset, .unset] []))
  refine Goes.by (fun t k => XS.iconst X14.here hx rfl (hb hby at_126) k) ?_
  show Goes p e below s _ _ _ (T14.setTop (mkF m 127 #[.val (.long q0), .second, .val (.long q1), .second, .val (.int p2), .val (.ref ab), .val (.long (q0 &&& (4294967295 : Int64))), .second, .val (.int (Int32.ofNat J)), .val (.ref b12), .val (.double (FP.l2d ((q0 &&& (4294967295 : Int64)) * (powL (9 - J))))), .second, .unset, .unset, .unset, .unset, .unset, .unset, .unset, .unset] [(.int (1 : Int32))]))
  refine Goes.by (fun t k => XS.goto X14.here hx rfl (pc0 := 127) (pc' := 131) rfl (hb hby at_127) (by decide) (by decide) k) ?_
  show Goes p e below s _ _ _ (T14.setTop (mkF m 131 #[.val (.long q0), .second, .val (.long q1), .second, .val (.int p2), .val (.ref ab), .val (.long (q0 &&& (4294967295 : Int64))), .second, .val (.int (Int32.ofNat J)), .val (.ref b12), .val (.double (FP.l2d ((q0 &&& (4294967295 : Int64)) * (powL (9 - J))))), .second, .unset, .unset, .unset, .unset, .unset, .unset, .unset, .unset] [(.int (1 : Int32))]))
  refine Goes.by (fun t k => XS.istore X14.here hx rfl (hb hby at_131) rfl (l' := #[.val (.long q0), .second, .val (.long q1), .second, .val (.int p2), .val (.ref ab), .val (.long (q0 &&& (4294967295 : Int64))), .second, .val (.int (Int32.ofNat J)), .val (.ref b12), .val (.double (FP.l2d ((q0 &&& (4294967295 : Int64)) * (powL (9 - J))))), .second, .val (.int (1 : Int32)), .unset, .unset, .unset, .unset, .unset, .unset, .unset]) rfl k) ?_
  show Goes p e below s _ _ _ (T14.setTop (mkF m 133 #[.val (.long q0), .second, .val (.long q1), .second, .val (.int p2), .val (.ref ab), .val (.long (q0 &&& (4294967295 : Int64))), .second, .val (.int (Int32.ofNat J)), .val (.ref b12), .val (.double (FP.l2d ((q0 &&& (4294967295 : Int64)) * (powL (9 - J))))), .second, .val (.int (1 : Int32)), .unset, .unset, .unset, .unset, .unset, .unset, .unset] []))
  refine Goes.by (fun t k => XS.lloadN X14.here hx rfl (hb hby at_133) rfl k) ?_
  show Goes p e below s _ _ _ (T14.setTop (mkF m 134 #[.val (.long q0), .second, .val (.long q1), .second, .val (.int p2), .val (.ref ab), .val (.long (q0 &&& (4294967295 : Int64))), .second, .val (.int (Int32.ofNat J)), .val (.ref b12), .val (.double (FP.l2d ((q0 &&& (4294967295 : Int64)) * (powL (9 - J))))), .second, .val (.int (1 : Int32)), .unset, .unset, .unset, .unset, .unset, .unset, .unset] [(.long q0)]))
  refine Goes.by (fun t k => XS.iconst X14.here hx rfl (hb hby at_134) k) ?_
  show Goes p e below s _ _ _ (T14.setTop (mkF m 135 #[.val (.long q0), .second, .val (.long q1), .second, .val (.int p2), .val (.ref ab), .val (.long (q0 &&& (4294967295 : Int64))), .second, .val (.int (Int32.ofNat J)), .val (.ref b12), .val (.double (FP.l2d ((q0 &&& (4294967295 : Int64)) * (powL (9 - J))))), .second, .val (.int (1 : Int32)), .unset, .unset, .unset, .unset, .unset, .unset, .unset] [(.int (1 : Int32)), (.long q0)]))
  refine Goes.by (fun t k => XS.lshr X14.here hx rfl (hb hby at_135) rfl k) ?_
  show Goes p e below s _ _ _ (T14.setTop (mkF m 136 #[.val (.long q0), .second, .val (.long q1), .second, .val (.int p2), .val (.ref ab), .val (.long (q0 &&& (4294967295 : Int64))), .second, .val (.int (Int32.ofNat J)), .val (.ref b12), .val (.double (FP.l2d ((q0 &&& (4294967295 : Int64)) * (powL (9 - J))))), .second, .val (.int (1 : Int32)), .unset, .unset, .unset, .unset, .unset, .unset, .unset] [(.long (q0 >>> ((1 : Int32) &&& 0x3f).toInt64))]))
  refine Goes.by (fun t k => XS.lstore X14.here hx rfl (hb hby at_136) rfl (l' := #[.val (.long q0), .second, .val (.long q1), .second, .val (.int p2), .val (.ref ab), .val (.long (q0 &&& (4294967295 : Int64))), .second, .val (.int (Int32.ofNat J)), .val (.ref b12), .val (.double (FP.l2d ((q0 &&& (4294967295 : Int64)) * (powL (9 - J))))), .second, .val (.int (1 : Int32)), .val (.long (q0 >>> ((1 : Int32) &&& 0x3f).toInt64)), .second, .unset, .unset, .unset, .unset, .unset]) rfl k) ?_
  show Goes p e below s _ _ _ (T14.setTop (mkF m 138 #[.val (.long q0), .second, .val (.long q1), .second, .val (.int p2), .val (.ref ab), .val (.long (q0 &&& (4294967295 : Int64))), .second, .val (.int (Int32.ofNat J)), .val (.ref b12), .val (.double (FP.l2d ((q0 &&& (4294967295 : Int64)) * (powL (9 - J))))), .second, .val (.int (1 : Int32)), .val (.long (q0 >>> ((1 : Int32) &&& 0x3f).toInt64)), .second, .unset, .unset, .unset, .unset, .unset] []))
  refine Goes.by (fun t k => XS.lloadN X14.here hx rfl (hb hby at_138) rfl k) ?_
  show Goes p e below s _ _ _ (T14.setTop (mkF m 139 #[.val (.long q0), .second, .val (.long q1), .second, .val (.int p2), .val (.ref ab), .val (.long (q0 &&& (4294967295 : Int64))), .second, .val (.int (Int32.ofNat J)), .val (.ref b12), .val (.double (FP.l2d ((q0 &&& (4294967295 : Int64)) * (powL (9 - J))))), .second, .val (.int (1 : Int32)), .val (.long (q0 >>> ((1 : Int32) &&& 0x3f).toInt64)), .second, .unset, .unset, .unset, .unset, .unset] [(.long q1)]))
  refine Goes.by (fun t k => XS.iconst X14.here hx rfl (hb hby at_139) k) ?_
  show Goes p e below s _ _ _ (T14.setTop (mkF m 140 #[.val (.long q0), .second, .val (.long q1), .second, .val (.int p2), .val (.ref ab), .val (.long (q0 &&& (4294967295 : Int64))), .second, .val (.int (Int32.ofNat J)), .val (.ref b12), .val (.double (FP.l2d ((q0 &&& (4294967295 : Int64)) * (powL (9 - J))))), .second, .val (.int (1 : Int32)), .val (.long (q0 >>> ((1 : Int32) &&& 0x3f).toInt64)), .second, .unset, .unset, .unset, .unset, .unset] [(.int (3 : Int32)), (.long q1)]))
  refine Goes.by (fun t k => XS.lushr X14.here hx rfl (hb hby at_140) rfl k) ?_
  show Goes p e below s _ _ _ (T14.setTop (mkF m 141 #[.val (.long q0), .second, .val (.long q1), .second, .val (.int p2), .val (.ref ab), .val (.long (q0 &&& (4294967295 : Int64))), .second, .val (.int (Int32.ofNat J)), .val (.ref b12), .val (.double (FP.l2d ((q0 &&& (4294967295 : Int64)) * (powL (9 - J))))), .second, .val (.int (1 : Int32)), .val (.long (q0 >>> ((1 : Int32) &&& 0x3f).toInt64)), .second, .unset, .unset, .unset, .unset, .unset] [(.long ((q1.toUInt64 >>> ((3 : Int32) &&& 0x3f).toInt64.toUInt64).toInt64))]))
  refine Goes.by (fun t k => XS.lconst X14.here hx rfl (hb hby at_141) k) ?_
  show Goes p e below s _ _ _ (T14.setTop (mkF m 142 #[.val (.long q0), .second, .val (.long q1), .second, .val (.int p2), .val (.ref ab), .val (.long (q0 &&& (4294967295 : Int64))), .second, .val (.int (Int32.ofNat J)), .val (.ref b12), .val (.double (FP.l2d ((q0 &&& (4294967295 : Int64)) * (powL (9 - J))))), .second, .val (.int (1 : Int32)), .val (.long (q0 >>> ((1 : Int32) &&& 0x3f).toInt64)), .second, .unset, .unset, .unset, .unset, .unset] [(.long (1 : Int64)), (.long ((q1.toUInt64 >>> ((3 : Int32) &&& 0x3f).toInt64.toUInt64).toInt64))]))
  refine Goes.by (fun t k => XS.ladd X14.here hx rfl (hb hby at_142) rfl k) ?_
  show Goes p e below s _ _ _ (T14.setTop (mkF m 143 #[.val (.long q0), .second, .val (.long q1), .second, .val (.int p2), .val (.ref ab), .val (.long (q0 &&& (4294967295 : Int64))), .second, .val (.int (Int32.ofNat J)), .val (.ref b12), .val (.double (FP.l2d ((q0 &&& (4294967295 : Int64)) * (powL (9 - J))))), .second, .val (.int (1 : Int32)), .val (.long (q0 >>> ((1 : Int32) &&& 0x3f).toInt64)), .second, .unset, .unset, .unset, .unset, .unset] [(.long (((q1.toUInt64 >>> ((3 : Int32) &&& 0x3f).toInt64.toUInt64).toInt64) + (1 : Int64)))]))
  refine Goes.by (fun t k => XS.lstore X14.here hx rfl (hb hby at_143) rfl (l' := #[.val (.long q0), .second, .val (.long q1), .second, .val (.int p2), .val (.ref ab), .val (.long (q0 &&& (4294967295 : Int64))), .second, .val (.int (Int32.ofNat J)), .val (.ref b12), .val (.double (FP.l2d ((q0 &&& (4294967295 : Int64)) * (powL (9 - J))))), .second, .val (.int (1 : Int32)), .val (.long (q0 >>> ((1 : Int32) &&& 0x3f).toInt64)), .second, .val (.long (((q1.toUInt64 >>> ((3 : Int32) &&& 0x3f).toInt64.toUInt64).toInt64) + (1 : Int64))), .second, .unset, .unset, .unset]) rfl k) ?_
  show Goes p e below s _ _ _ (T14.setTop (mkF m 145 #[.val (.long q0), .second, .val (.long q1), .second, .val (.int p2), .val (.ref ab), .val (.long (q0 &&& (4294967295 : Int64))), .second, .val (.int (Int32.ofNat J)), .val (.ref b12), .val (.double (FP.l2d ((q0 &&& (4294967295 : Int64)) * (powL (9 - J))))), .second, .val (.int (1 : Int32)), .val (.long (q0 >>> ((1 : Int32) &&& 0x3f).toInt64)), .second, .val (.long (((q1.toUInt64 >>> ((3 : Int32) &&& 0x3f).toInt64.toUInt64).toInt64) + (1 : Int64))), .second, .unset, .unset, .unset] []))
  have hh2 := own_half q0
  obtain ⟨hn1, hn2⟩ := own_nn q1
  generalize (q0 >>> ((1 : Int32) &&& 0x3f).toInt64) = hh at hh2 ⊢
  generalize (((q1.toUInt64 >>> ((3 : Int32) &&& 0x3f).toInt64.toUInt64).toInt64) + (1 : Int64)) = nn at hn1 hn2 ⊢
  show Goes p e below s _ _ _ (T14.setTop (mkF m 145 #[.val (.long q0), .second, .val (.long q1), .second, .val (.int p2), .val (.ref ab), .val (.long (q0 &&& (4294967295 : Int64))), .second, .val (.int (Int32.ofNat J)), .val (.ref b12), .val (.double (FP.l2d ((q0 &&& (4294967295 : Int64)) * (powL (9 - J))))), .second, .val (.int (1 : Int32)), .val (.long hh), .second, .val (.long nn), .second, .unset, .unset, .unset] []))
  obtain ⟨T15, h15, X15, e15, E15, A15, D15, -, st15⟩ := newO X14 hx hZ hown (hw _ (List.mem_of_getElem? (i := 12) rfl)) (hw _ (List.mem_of_getElem? (i := 13) rfl)) (hw _ (List.mem_of_getElem? (i := 14) rfl)) rfl (g := (mkF m 145 #[.val (.long q0), .second, .val (.long q1), .second, .val (.int p2), .val (.ref ab), .val (.long (q0 &&& (4294967295 : Int64))), .second, .val (.int (Int32.ofNat J)), .val (.ref b12), .val (.double (FP.l2d ((q0 &&& (4294967295 : Int64)) * (powL (9 - J))))), .second, .val (.int (1 : Int32)), .val (.long hh), .second, .val (.long nn), .second, .unset, .unset, .unset] [])) rfl (hb hby at_145) (by decide) (by decide)
  obtain ⟨b15, g15⟩ : ∃ z, z = T14.heap.size := ⟨_, rfl⟩
  rw [← g15] at A15 D15 st15
  refine Goes.by (fun t k => st15 t k) ?_
  show Goes p e below s _ _ _ (T15.setTop (mkF m 148 #[.val (.long q0), .second, .val (.long q1), .second, .val (.int p2), .val (.ref ab), .val (.long (q0 &&& (4294967295 : Int64))), .second, .val (.int (Int32.ofNat J)), .val (.ref b12), .val (.double (FP.l2d ((q0 &&& (4294967295 : Int64)) * (powL (9 - J))))), .second, .val (.int (1 : Int32)), .val (.long hh), .second, .val (.long nn), .second, .unset, .unset, .unset] [(.ref b15)]))
  have ne_ab_b15_f25 : ab ≠ b15 := Nat.ne_of_lt (Nat.lt_of_lt_of_le f21.lt (Nat.le_of_eq g15.symm))
  have ne_b12_b15_f26 : b12 ≠ b15 := Nat.ne_of_lt (Nat.lt_of_lt_of_le f22.lt (Nat.le_of_eq g15.symm))
  have ge_b15 : n0 ≤ b15 := Nat.le_trans f20 (Nat.le_of_eq g15.symm)
  have f27 := Nat.le_trans f20 E15.1
  have f28 := f21.ext E15
  have f29 := f22.ext E15
  have f30 := f23.ext E15
  have f31 := f24.ext E15
  have f32 : Fld Z h15 b15 "dev/claimcheck/cli/Bench$Tally" "done" "J" (.long (0 : Int64)) := D15 (Or.inr (hw _ (List.mem_of_getElem? (i := 27) rfl))) (ty := .long) (by decide)
  have f33 : Fld Z h15 b15 "dev/claimcheck/cli/Bench$Tally" "nanos" "J" (.long (0 : Int64)) := D15 (Or.inr (hw _ (List.mem_of_getElem? (i := 29) rfl))) (ty := .long) (by decide)
  refine Goes.by (fun t k => XS.dup X15.here hx rfl (hb hby at_148) rfl rfl k) ?_
  show Goes p e below s _ _ _ (T15.setTop (mkF m 149 #[.val (.long q0), .second, .val (.long q1), .second, .val (.int p2), .val (.ref ab), .val (.long (q0 &&& (4294967295 : Int64))), .second, .val (.int (Int32.ofNat J)), .val (.ref b12), .val (.double (FP.l2d ((q0 &&& (4294967295 : Int64)) * (powL (9 - J))))), .second, .val (.int (1 : Int32)), .val (.long hh), .second, .val (.long nn), .second, .unset, .unset, .unset] [(.ref b15), (.ref b15)]))
  refine Goes.by (fun t k => XS.lload X15.here hx rfl (hb hby at_149) rfl k) ?_
  show Goes p e below s _ _ _ (T15.setTop (mkF m 151 #[.val (.long q0), .second, .val (.long q1), .second, .val (.int p2), .val (.ref ab), .val (.long (q0 &&& (4294967295 : Int64))), .second, .val (.int (Int32.ofNat J)), .val (.ref b12), .val (.double (FP.l2d ((q0 &&& (4294967295 : Int64)) * (powL (9 - J))))), .second, .val (.int (1 : Int32)), .val (.long hh), .second, .val (.long nn), .second, .unset, .unset, .unset] [(.long hh), (.ref b15), (.ref b15)]))
  refine Goes.by (fun t k => XS.lload X15.here hx rfl (hb hby at_151) rfl k) ?_
  show Goes p e below s _ _ _ (T15.setTop (mkF m 153 #[.val (.long q0), .second, .val (.long q1), .second, .val (.int p2), .val (.ref ab), .val (.long (q0 &&& (4294967295 : Int64))), .second, .val (.int (Int32.ofNat J)), .val (.ref b12), .val (.double (FP.l2d ((q0 &&& (4294967295 : Int64)) * (powL (9 - J))))), .second, .val (.int (1 : Int32)), .val (.long hh), .second, .val (.long nn), .second, .unset, .unset, .unset] [(.long nn), (.long hh), (.ref b15), (.ref b15)]))
  obtain ⟨_, _, ⟨T16, L16, k16, n16⟩, -, X16, ⟨Lc16, hQ16, l16, y16, z16⟩, st16⟩ := X15.specialBack hx (y := (⟨"dev/claimcheck/cli/Bench$Tally", "<init>", "(JJ)V"⟩ : MethodName)) rfl hown (mvT hZ (hw _ (List.mem_of_getElem? (i := 15) rfl))) (mvT hZ (hw _ (List.mem_of_getElem? (i := 16) rfl))) (mvT hZ (hw _ (List.mem_of_getElem? (i := 17) rfl))) (by decide) (backOf (W := 1) (rm1 l Z a0 hw [] b15 hh nn _ _ h15 n0 f27 f32 f33 A15 ge_b15) hZ (hw _ (List.mem_of_getElem? (i := 17) rfl)) (hw _ (List.mem_of_getElem? (i := 14) rfl)) (by decide) (by decide)) (g := (mkF m 153 #[.val (.long q0), .second, .val (.long q1), .second, .val (.int p2), .val (.ref ab), .val (.long (q0 &&& (4294967295 : Int64))), .second, .val (.int (Int32.ofNat J)), .val (.ref b12), .val (.double (FP.l2d ((q0 &&& (4294967295 : Int64)) * (powL (9 - J))))), .second, .val (.int (1 : Int32)), .val (.long hh), .second, .val (.long nn), .second, .unset, .unset, .unset] [(.long nn), (.long hh), (.ref b15), (.ref b15)])) rfl (by rw [hml]; rfl) (Steps.refl _) (a := b15) (argsL := [(.long hh), (.long nn)]) (rest := [(.ref b15)]) (lenOf pd_1 rfl) rfl (by show 2 * 0 + _ ≤ _; exact Nat.le_of_eq rfl) (hb hby at_153) (fun _ _ => ⟨rfl, e15, (by decide : 3 + 0 ≤ _), (by decide : 14 + 0 ≤ _)⟩)
  dsimp only [Pt.U, Pt.locs, Pt.cells, Pt.slots] at X16 l16 y16 z16 st16 hQ16
  subst l16 y16 z16
  obtain ⟨rfl, N16q, K16, E16, F16, G16⟩ := hQ16
  have N16 := Fr.app N14 N16q
  refine Goes.by (fun t k => st16.trans k) ?_
  show Goes p e below s _ _ _ (T16.setTop (mkF m 156 #[.val (.long q0), .second, .val (.long q1), .second, .val (.int p2), .val (.ref ab), .val (.long (q0 &&& (4294967295 : Int64))), .second, .val (.int (Int32.ofNat J)), .val (.ref b12), .val (.double (FP.l2d ((q0 &&& (4294967295 : Int64)) * (powL (9 - J))))), .second, .val (.int (1 : Int32)), .val (.long hh), .second, .val (.long nn), .second, .unset, .unset, .unset] [(.ref b15)]))
  have f34 := Nat.le_trans f27 K16.1
  have f35 := f28.keep K16 (ninS ne_ab_b15_f25 nin0)
  have f36 := f29.keep K16
  have f37 := f30.keep K16 (ninS ne_b12_b15_f26 nin0)
  have f38 := f31.keep K16 (ninS ne_b12_b15_f26 nin0)
  have f39 := A15.keep K16
  refine Goes.by (fun t k => XS.astore X16.here hx rfl (hb hby at_156) rfl rfl (l' := #[.val (.long q0), .second, .val (.long q1), .second, .val (.int p2), .val (.ref ab), .val (.long (q0 &&& (4294967295 : Int64))), .second, .val (.int (Int32.ofNat J)), .val (.ref b12), .val (.double (FP.l2d ((q0 &&& (4294967295 : Int64)) * (powL (9 - J))))), .second, .val (.int (1 : Int32)), .val (.long hh), .second, .val (.long nn), .second, .val (.ref b15), .unset, .unset]) rfl k) ?_
  show Goes p e below s _ _ _ (T16.setTop (mkF m 158 #[.val (.long q0), .second, .val (.long q1), .second, .val (.int p2), .val (.ref ab), .val (.long (q0 &&& (4294967295 : Int64))), .second, .val (.int (Int32.ofNat J)), .val (.ref b12), .val (.double (FP.l2d ((q0 &&& (4294967295 : Int64)) * (powL (9 - J))))), .second, .val (.int (1 : Int32)), .val (.long hh), .second, .val (.long nn), .second, .val (.ref b15), .unset, .unset] []))
  obtain ⟨T17, h17, X17, e17, E17, A17, D17, -, st17⟩ := newO X16 hx hZ hown (hw _ (List.mem_of_getElem? (i := 12) rfl)) (hw _ (List.mem_of_getElem? (i := 13) rfl)) (hw _ (List.mem_of_getElem? (i := 14) rfl)) rfl (g := (mkF m 158 #[.val (.long q0), .second, .val (.long q1), .second, .val (.int p2), .val (.ref ab), .val (.long (q0 &&& (4294967295 : Int64))), .second, .val (.int (Int32.ofNat J)), .val (.ref b12), .val (.double (FP.l2d ((q0 &&& (4294967295 : Int64)) * (powL (9 - J))))), .second, .val (.int (1 : Int32)), .val (.long hh), .second, .val (.long nn), .second, .val (.ref b15), .unset, .unset] [])) rfl (hb hby at_158) (by decide) (by decide)
  obtain ⟨b17, g17⟩ : ∃ z, z = T16.heap.size := ⟨_, rfl⟩
  rw [← g17] at A17 D17 st17
  refine Goes.by (fun t k => st17 t k) ?_
  show Goes p e below s _ _ _ (T17.setTop (mkF m 161 #[.val (.long q0), .second, .val (.long q1), .second, .val (.int p2), .val (.ref ab), .val (.long (q0 &&& (4294967295 : Int64))), .second, .val (.int (Int32.ofNat J)), .val (.ref b12), .val (.double (FP.l2d ((q0 &&& (4294967295 : Int64)) * (powL (9 - J))))), .second, .val (.int (1 : Int32)), .val (.long hh), .second, .val (.long nn), .second, .val (.ref b15), .unset, .unset] [(.ref b17)]))
  have ne_ab_b17_f40 : ab ≠ b17 := Nat.ne_of_lt (Nat.lt_of_lt_of_le f35.lt (Nat.le_of_eq g17.symm))
  have ne_b12_b17_f41 : b12 ≠ b17 := Nat.ne_of_lt (Nat.lt_of_lt_of_le f36.lt (Nat.le_of_eq g17.symm))
  have ne_b15_b17_f42 : b15 ≠ b17 := Nat.ne_of_lt (Nat.lt_of_lt_of_le E16.lt (Nat.le_of_eq g17.symm))
  have ge_b17 : n0 ≤ b17 := Nat.le_trans f34 (Nat.le_of_eq g17.symm)
  have f43 := Nat.le_trans f34 E17.1
  have f44 := f35.ext E17
  have f45 := f36.ext E17
  have f46 := f37.ext E17
  have f47 := f38.ext E17
  have f48 := E16.ext E17
  have f49 := F16.ext E17
  have f50 := G16.ext E17
  have f51 : Fld Z h17 b17 "dev/claimcheck/cli/Bench$Tally" "done" "J" (.long (0 : Int64)) := D17 (Or.inr (hw _ (List.mem_of_getElem? (i := 27) rfl))) (ty := .long) (by decide)
  have f52 : Fld Z h17 b17 "dev/claimcheck/cli/Bench$Tally" "nanos" "J" (.long (0 : Int64)) := D17 (Or.inr (hw _ (List.mem_of_getElem? (i := 29) rfl))) (ty := .long) (by decide)
  refine Goes.by (fun t k => XS.dup X17.here hx rfl (hb hby at_161) rfl rfl k) ?_
  show Goes p e below s _ _ _ (T17.setTop (mkF m 162 #[.val (.long q0), .second, .val (.long q1), .second, .val (.int p2), .val (.ref ab), .val (.long (q0 &&& (4294967295 : Int64))), .second, .val (.int (Int32.ofNat J)), .val (.ref b12), .val (.double (FP.l2d ((q0 &&& (4294967295 : Int64)) * (powL (9 - J))))), .second, .val (.int (1 : Int32)), .val (.long hh), .second, .val (.long nn), .second, .val (.ref b15), .unset, .unset] [(.ref b17), (.ref b17)]))
  refine Goes.by (fun t k => X17.ldc2Long hx hown (mvT hZ (hw _ (List.mem_of_getElem? (i := 36) rfl))) (g := (mkF m 162 #[.val (.long q0), .second, .val (.long q1), .second, .val (.int p2), .val (.ref ab), .val (.long (q0 &&& (4294967295 : Int64))), .second, .val (.int (Int32.ofNat J)), .val (.ref b12), .val (.double (FP.l2d ((q0 &&& (4294967295 : Int64)) * (powL (9 - J))))), .second, .val (.int (1 : Int32)), .val (.long hh), .second, .val (.long nn), .second, .val (.ref b15), .unset, .unset] [(.ref b17), (.ref b17)])) rfl (hb hby at_162) _ k) ?_
  show Goes p e below s _ _ _ (T17.setTop (mkF m 165 #[.val (.long q0), .second, .val (.long q1), .second, .val (.int p2), .val (.ref ab), .val (.long (q0 &&& (4294967295 : Int64))), .second, .val (.int (Int32.ofNat J)), .val (.ref b12), .val (.double (FP.l2d ((q0 &&& (4294967295 : Int64)) * (powL (9 - J))))), .second, .val (.int (1 : Int32)), .val (.long hh), .second, .val (.long nn), .second, .val (.ref b15), .unset, .unset] [(.long (2 : Int64)), (.ref b17), (.ref b17)]))
  refine Goes.by (fun t k => XS.lload X17.here hx rfl (hb hby at_165) rfl k) ?_
  show Goes p e below s _ _ _ (T17.setTop (mkF m 167 #[.val (.long q0), .second, .val (.long q1), .second, .val (.int p2), .val (.ref ab), .val (.long (q0 &&& (4294967295 : Int64))), .second, .val (.int (Int32.ofNat J)), .val (.ref b12), .val (.double (FP.l2d ((q0 &&& (4294967295 : Int64)) * (powL (9 - J))))), .second, .val (.int (1 : Int32)), .val (.long hh), .second, .val (.long nn), .second, .val (.ref b15), .unset, .unset] [(.long hh), (.long (2 : Int64)), (.ref b17), (.ref b17)]))
  refine Goes.by (fun t k => XS.lmul X17.here hx rfl (hb hby at_167) rfl k) ?_
  show Goes p e below s _ _ _ (T17.setTop (mkF m 168 #[.val (.long q0), .second, .val (.long q1), .second, .val (.int p2), .val (.ref ab), .val (.long (q0 &&& (4294967295 : Int64))), .second, .val (.int (Int32.ofNat J)), .val (.ref b12), .val (.double (FP.l2d ((q0 &&& (4294967295 : Int64)) * (powL (9 - J))))), .second, .val (.int (1 : Int32)), .val (.long hh), .second, .val (.long nn), .second, .val (.ref b15), .unset, .unset] [(.long ((2 : Int64) * hh)), (.ref b17), (.ref b17)]))
  refine Goes.by (fun t k => X17.ldc2Long hx hown (mvT hZ (hw _ (List.mem_of_getElem? (i := 36) rfl))) (g := (mkF m 168 #[.val (.long q0), .second, .val (.long q1), .second, .val (.int p2), .val (.ref ab), .val (.long (q0 &&& (4294967295 : Int64))), .second, .val (.int (Int32.ofNat J)), .val (.ref b12), .val (.double (FP.l2d ((q0 &&& (4294967295 : Int64)) * (powL (9 - J))))), .second, .val (.int (1 : Int32)), .val (.long hh), .second, .val (.long nn), .second, .val (.ref b15), .unset, .unset] [(.long ((2 : Int64) * hh)), (.ref b17), (.ref b17)])) rfl (hb hby at_168) _ k) ?_
  show Goes p e below s _ _ _ (T17.setTop (mkF m 171 #[.val (.long q0), .second, .val (.long q1), .second, .val (.int p2), .val (.ref ab), .val (.long (q0 &&& (4294967295 : Int64))), .second, .val (.int (Int32.ofNat J)), .val (.ref b12), .val (.double (FP.l2d ((q0 &&& (4294967295 : Int64)) * (powL (9 - J))))), .second, .val (.int (1 : Int32)), .val (.long hh), .second, .val (.long nn), .second, .val (.ref b15), .unset, .unset] [(.long (2 : Int64)), (.long ((2 : Int64) * hh)), (.ref b17), (.ref b17)]))
  refine Goes.by (fun t k => XS.lload X17.here hx rfl (hb hby at_171) rfl k) ?_
  show Goes p e below s _ _ _ (T17.setTop (mkF m 173 #[.val (.long q0), .second, .val (.long q1), .second, .val (.int p2), .val (.ref ab), .val (.long (q0 &&& (4294967295 : Int64))), .second, .val (.int (Int32.ofNat J)), .val (.ref b12), .val (.double (FP.l2d ((q0 &&& (4294967295 : Int64)) * (powL (9 - J))))), .second, .val (.int (1 : Int32)), .val (.long hh), .second, .val (.long nn), .second, .val (.ref b15), .unset, .unset] [(.long nn), (.long (2 : Int64)), (.long ((2 : Int64) * hh)), (.ref b17), (.ref b17)]))
  refine Goes.by (fun t k => XS.lmul X17.here hx rfl (hb hby at_173) rfl k) ?_
  show Goes p e below s _ _ _ (T17.setTop (mkF m 174 #[.val (.long q0), .second, .val (.long q1), .second, .val (.int p2), .val (.ref ab), .val (.long (q0 &&& (4294967295 : Int64))), .second, .val (.int (Int32.ofNat J)), .val (.ref b12), .val (.double (FP.l2d ((q0 &&& (4294967295 : Int64)) * (powL (9 - J))))), .second, .val (.int (1 : Int32)), .val (.long hh), .second, .val (.long nn), .second, .val (.ref b15), .unset, .unset] [(.long ((2 : Int64) * nn)), (.long ((2 : Int64) * hh)), (.ref b17), (.ref b17)]))
  obtain ⟨_, _, ⟨T18, L18, k18, n18⟩, -, X18, ⟨Lc18, hQ18, l18, y18, z18⟩, st18⟩ := X17.specialBack hx (y := (⟨"dev/claimcheck/cli/Bench$Tally", "<init>", "(JJ)V"⟩ : MethodName)) rfl hown (mvT hZ (hw _ (List.mem_of_getElem? (i := 15) rfl))) (mvT hZ (hw _ (List.mem_of_getElem? (i := 16) rfl))) (mvT hZ (hw _ (List.mem_of_getElem? (i := 17) rfl))) (by decide) (backOf (W := 1) (rm1 l Z a0 hw [] b17 ((2 : Int64) * hh) ((2 : Int64) * nn) _ _ h17 n0 f43 f51 f52 A17 ge_b17) hZ (hw _ (List.mem_of_getElem? (i := 17) rfl)) (hw _ (List.mem_of_getElem? (i := 14) rfl)) (by decide) (by decide)) (g := (mkF m 174 #[.val (.long q0), .second, .val (.long q1), .second, .val (.int p2), .val (.ref ab), .val (.long (q0 &&& (4294967295 : Int64))), .second, .val (.int (Int32.ofNat J)), .val (.ref b12), .val (.double (FP.l2d ((q0 &&& (4294967295 : Int64)) * (powL (9 - J))))), .second, .val (.int (1 : Int32)), .val (.long hh), .second, .val (.long nn), .second, .val (.ref b15), .unset, .unset] [(.long ((2 : Int64) * nn)), (.long ((2 : Int64) * hh)), (.ref b17), (.ref b17)])) rfl (by rw [hml]; rfl) (Steps.refl _) (a := b17) (argsL := [(.long ((2 : Int64) * hh)), (.long ((2 : Int64) * nn))]) (rest := [(.ref b17)]) (lenOf pd_1 rfl) rfl (by show 2 * 0 + _ ≤ _; exact Nat.le_of_eq rfl) (hb hby at_174) (fun _ _ => ⟨rfl, e17, (by decide : 4 + 0 ≤ _), (by decide : 16 + 0 ≤ _)⟩)
  dsimp only [Pt.U, Pt.locs, Pt.cells, Pt.slots] at X18 l18 y18 z18 st18 hQ18
  subst l18 y18 z18
  obtain ⟨rfl, N18q, K18, E18, F18, G18⟩ := hQ18
  have N18 := Fr.app N16 N18q
  refine Goes.by (fun t k => st18.trans k) ?_
  show Goes p e below s _ _ _ (T18.setTop (mkF m 177 #[.val (.long q0), .second, .val (.long q1), .second, .val (.int p2), .val (.ref ab), .val (.long (q0 &&& (4294967295 : Int64))), .second, .val (.int (Int32.ofNat J)), .val (.ref b12), .val (.double (FP.l2d ((q0 &&& (4294967295 : Int64)) * (powL (9 - J))))), .second, .val (.int (1 : Int32)), .val (.long hh), .second, .val (.long nn), .second, .val (.ref b15), .unset, .unset] [(.ref b17)]))
  have f53 := Nat.le_trans f43 K18.1
  have f54 := f44.keep K18 (ninS ne_ab_b17_f40 nin0)
  have f55 := f45.keep K18
  have f56 := f46.keep K18 (ninS ne_b12_b17_f41 nin0)
  have f57 := f47.keep K18 (ninS ne_b12_b17_f41 nin0)
  have f58 := f48.keep K18
  have f59 := f49.keep K18 (ninS ne_b15_b17_f42 nin0)
  have f60 := f50.keep K18 (ninS ne_b15_b17_f42 nin0)
  have f61 := A17.keep K18
  refine Goes.by (fun t k => XS.astore X18.here hx rfl (hb hby at_177) rfl rfl (l' := #[.val (.long q0), .second, .val (.long q1), .second, .val (.int p2), .val (.ref ab), .val (.long (q0 &&& (4294967295 : Int64))), .second, .val (.int (Int32.ofNat J)), .val (.ref b12), .val (.double (FP.l2d ((q0 &&& (4294967295 : Int64)) * (powL (9 - J))))), .second, .val (.int (1 : Int32)), .val (.long hh), .second, .val (.long nn), .second, .val (.ref b15), .val (.ref b17), .unset]) rfl k) ?_
  show Goes p e below s _ _ _ (T18.setTop (mkF m 179 #[.val (.long q0), .second, .val (.long q1), .second, .val (.int p2), .val (.ref ab), .val (.long (q0 &&& (4294967295 : Int64))), .second, .val (.int (Int32.ofNat J)), .val (.ref b12), .val (.double (FP.l2d ((q0 &&& (4294967295 : Int64)) * (powL (9 - J))))), .second, .val (.int (1 : Int32)), .val (.long hh), .second, .val (.long nn), .second, .val (.ref b15), .val (.ref b17), .unset] []))
  refine Goes.by (fun t k => XS.aload X18.here hx rfl (hb hby at_179) rfl rfl k) ?_
  show Goes p e below s _ _ _ (T18.setTop (mkF m 181 #[.val (.long q0), .second, .val (.long q1), .second, .val (.int p2), .val (.ref ab), .val (.long (q0 &&& (4294967295 : Int64))), .second, .val (.int (Int32.ofNat J)), .val (.ref b12), .val (.double (FP.l2d ((q0 &&& (4294967295 : Int64)) * (powL (9 - J))))), .second, .val (.int (1 : Int32)), .val (.long hh), .second, .val (.long nn), .second, .val (.ref b15), .val (.ref b17), .unset] [(.ref b15)]))
  have n2z : (2 : Int64) * nn ≠ 0 := own_ne0 (by omega)
  obtain ⟨cq19, kq19, q19a, q19b, q19c⟩ := isOf hZ rfl (f58)
  obtain ⟨_, _, ⟨T19, L19, k19, n19⟩, -, X19, ⟨Lc19, hQ19, l19, y19, z19⟩, st19⟩ := X18.virtualBack hx (y := (⟨"dev/claimcheck/cli/Bench$Tally", "perSecond", "()D"⟩ : MethodName)) (z := (⟨"dev/claimcheck/cli/Bench$Tally", "perSecond", "()D"⟩ : MethodName)) hown (mvT hZ (hw _ (List.mem_of_getElem? (i := 30) rfl))) (mvT hZ (hw _ (List.mem_of_getElem? (i := 31) rfl))) (notFace_of_selects (args := #[]) (mvT hZ (hw _ (List.mem_of_getElem? (i := 33) rfl)))) (mvT hZ (hw _ (List.mem_of_getElem? (i := 33) rfl))) (mvT hZ (hw _ (List.mem_of_getElem? (i := 32) rfl))) (by decide) (backOf (W := 0) (rm4 l Z a0 hw [] b15 hh nn _ n0 f53 f59 f60 (own_ne0 hn1)) hZ (hw _ (List.mem_of_getElem? (i := 34) rfl)) (hw _ (List.mem_of_getElem? (i := 14) rfl)) (by decide) (by decide)) q19a q19c (g := (mkF m 181 #[.val (.long q0), .second, .val (.long q1), .second, .val (.int p2), .val (.ref ab), .val (.long (q0 &&& (4294967295 : Int64))), .second, .val (.int (Int32.ofNat J)), .val (.ref b12), .val (.double (FP.l2d ((q0 &&& (4294967295 : Int64)) * (powL (9 - J))))), .second, .val (.int (1 : Int32)), .val (.long hh), .second, .val (.long nn), .second, .val (.ref b15), .val (.ref b17), .unset] [(.ref b15)])) rfl (by rw [hml]; rfl) (Steps.refl _) (argsL := []) (rest := []) (lenOf pd_2 rfl) rfl (by show 2 * 0 + _ ≤ _; exact Nat.le_of_eq rfl) (hb hby at_181) (fun _ _ => ⟨rfl, rfl, (by decide : 4 + 0 ≤ _), (by decide : 16 + 0 ≤ _)⟩)
  dsimp only [Pt.U, Pt.locs, Pt.cells, Pt.slots] at X19 l19 y19 z19 st19 hQ19
  subst l19 y19 z19
  obtain ⟨rfl, N19q, hh19⟩ := hQ19
  have N19 := Fr.app N18 N19q
  refine Goes.by (fun t k => st19.trans k) ?_
  show Goes p e below s _ _ _ (T19.setTop (mkF m 184 #[.val (.long q0), .second, .val (.long q1), .second, .val (.int p2), .val (.ref ab), .val (.long (q0 &&& (4294967295 : Int64))), .second, .val (.int (Int32.ofNat J)), .val (.ref b12), .val (.double (FP.l2d ((q0 &&& (4294967295 : Int64)) * (powL (9 - J))))), .second, .val (.int (1 : Int32)), .val (.long hh), .second, .val (.long nn), .second, .val (.ref b15), .val (.ref b17), .unset] [(.double (FP.ddiv (FP.dmul (FP.l2d hh) 4741671816366391296) (FP.l2d nn)))]))
  have KK19 : Keep (T18.heap) T19.heap [] := by rw [hh19]; exact Keep.refl _ _
  have f62 := Nat.le_trans f53 KK19.1
  have f63 := f54.keep KK19 nin0
  have f64 := f55.keep KK19
  have f65 := f56.keep KK19 nin0
  have f66 := f57.keep KK19 nin0
  have f67 := f58.keep KK19
  have f68 := f59.keep KK19 nin0
  have f69 := f60.keep KK19 nin0
  have f70 := E18.keep KK19
  have f71 := F18.keep KK19 nin0
  have f72 := G18.keep KK19 nin0
  refine Goes.by (fun t k => XS.aload X19.here hx rfl (hb hby at_184) rfl rfl k) ?_
  show Goes p e below s _ _ _ (T19.setTop (mkF m 186 #[.val (.long q0), .second, .val (.long q1), .second, .val (.int p2), .val (.ref ab), .val (.long (q0 &&& (4294967295 : Int64))), .second, .val (.int (Int32.ofNat J)), .val (.ref b12), .val (.double (FP.l2d ((q0 &&& (4294967295 : Int64)) * (powL (9 - J))))), .second, .val (.int (1 : Int32)), .val (.long hh), .second, .val (.long nn), .second, .val (.ref b15), .val (.ref b17), .unset] [(.ref b17), (.double (FP.ddiv (FP.dmul (FP.l2d hh) 4741671816366391296) (FP.l2d nn)))]))
  obtain ⟨cq20, kq20, q20a, q20b, q20c⟩ := isOf hZ rfl (f70)
  obtain ⟨_, _, ⟨T20, L20, k20, n20⟩, -, X20, ⟨Lc20, hQ20, l20, y20, z20⟩, st20⟩ := X19.virtualBack hx (y := (⟨"dev/claimcheck/cli/Bench$Tally", "perSecond", "()D"⟩ : MethodName)) (z := (⟨"dev/claimcheck/cli/Bench$Tally", "perSecond", "()D"⟩ : MethodName)) hown (mvT hZ (hw _ (List.mem_of_getElem? (i := 30) rfl))) (mvT hZ (hw _ (List.mem_of_getElem? (i := 31) rfl))) (notFace_of_selects (args := #[]) (mvT hZ (hw _ (List.mem_of_getElem? (i := 33) rfl)))) (mvT hZ (hw _ (List.mem_of_getElem? (i := 33) rfl))) (mvT hZ (hw _ (List.mem_of_getElem? (i := 32) rfl))) (by decide) (backOf (W := 2) (rm4 l Z a0 hw [] b17 ((2 : Int64) * hh) ((2 : Int64) * nn) _ n0 f62 f71 f72 (n2z)) hZ (hw _ (List.mem_of_getElem? (i := 34) rfl)) (hw _ (List.mem_of_getElem? (i := 14) rfl)) (by decide) (by decide)) q20a q20c (g := (mkF m 186 #[.val (.long q0), .second, .val (.long q1), .second, .val (.int p2), .val (.ref ab), .val (.long (q0 &&& (4294967295 : Int64))), .second, .val (.int (Int32.ofNat J)), .val (.ref b12), .val (.double (FP.l2d ((q0 &&& (4294967295 : Int64)) * (powL (9 - J))))), .second, .val (.int (1 : Int32)), .val (.long hh), .second, .val (.long nn), .second, .val (.ref b15), .val (.ref b17), .unset] [(.ref b17), (.double (FP.ddiv (FP.dmul (FP.l2d hh) 4741671816366391296) (FP.l2d nn)))])) rfl (by rw [hml]; rfl) (Steps.refl _) (argsL := []) (rest := [(.double (FP.ddiv (FP.dmul (FP.l2d hh) 4741671816366391296) (FP.l2d nn)))]) (lenOf pd_2 rfl) rfl (by show 2 * 0 + _ ≤ _; exact Nat.le_of_eq rfl) (hb hby at_186) (fun _ _ => ⟨rfl, rfl, (by decide : 4 + 0 ≤ _), (by decide : 16 + 0 ≤ _)⟩)
  dsimp only [Pt.U, Pt.locs, Pt.cells, Pt.slots] at X20 l20 y20 z20 st20 hQ20
  subst l20 y20 z20
  obtain ⟨rfl, N20q, hh20⟩ := hQ20
  have N20 := Fr.app N19 N20q
  refine Goes.by (fun t k => st20.trans k) ?_
  show Goes p e below s _ _ _ (T20.setTop (mkF m 189 #[.val (.long q0), .second, .val (.long q1), .second, .val (.int p2), .val (.ref ab), .val (.long (q0 &&& (4294967295 : Int64))), .second, .val (.int (Int32.ofNat J)), .val (.ref b12), .val (.double (FP.l2d ((q0 &&& (4294967295 : Int64)) * (powL (9 - J))))), .second, .val (.int (1 : Int32)), .val (.long hh), .second, .val (.long nn), .second, .val (.ref b15), .val (.ref b17), .unset] [(.double (FP.ddiv (FP.dmul (FP.l2d ((2 : Int64) * hh)) 4741671816366391296) (FP.l2d ((2 : Int64) * nn)))), (.double (FP.ddiv (FP.dmul (FP.l2d hh) 4741671816366391296) (FP.l2d nn)))]))
  have KK20 : Keep (T19.heap) T20.heap [] := by rw [hh20]; exact Keep.refl _ _
  have f73 := Nat.le_trans f62 KK20.1
  have f74 := f63.keep KK20 nin0
  have f75 := f64.keep KK20
  have f76 := f65.keep KK20 nin0
  have f77 := f66.keep KK20 nin0
  have f78 := f67.keep KK20
  have f79 := f68.keep KK20 nin0
  have f80 := f69.keep KK20 nin0
  have f81 := f70.keep KK20
  have f82 := f71.keep KK20 nin0
  have f83 := f72.keep KK20 nin0
  refine Goes.by (fun t k => XS.dcmpS X20.here hx rfl (hb hby at_189) rfl (dcmpV_eq (own_scale hh2 hn2 hn1) (own_nnD _ _ (own_ne0 hn1)) _) k) ?_
  show Goes p e below s _ _ _ (T20.setTop (mkF m 190 #[.val (.long q0), .second, .val (.long q1), .second, .val (.int p2), .val (.ref ab), .val (.long (q0 &&& (4294967295 : Int64))), .second, .val (.int (Int32.ofNat J)), .val (.ref b12), .val (.double (FP.l2d ((q0 &&& (4294967295 : Int64)) * (powL (9 - J))))), .second, .val (.int (1 : Int32)), .val (.long hh), .second, .val (.long nn), .second, .val (.ref b15), .val (.ref b17), .unset] [(.int (0 : Int32))]))
  refine Goes.by (fun t k => XS.ifNo X20.here hx rfl (hb hby at_190) rfl ((if0 _ _).trans (teq (rfl)).2) k) ?_
  show Goes p e below s _ _ _ (T20.setTop (mkF m 193 #[.val (.long q0), .second, .val (.long q1), .second, .val (.int p2), .val (.ref ab), .val (.long (q0 &&& (4294967295 : Int64))), .second, .val (.int (Int32.ofNat J)), .val (.ref b12), .val (.double (FP.l2d ((q0 &&& (4294967295 : Int64)) * (powL (9 - J))))), .second, .val (.int (1 : Int32)), .val (.long hh), .second, .val (.long nn), .second, .val (.ref b15), .val (.ref b17), .unset] []))
  refine Goes.by (fun t k => XS.iconst X20.here hx rfl (hb hby at_193) k) ?_
  show Goes p e below s _ _ _ (T20.setTop (mkF m 194 #[.val (.long q0), .second, .val (.long q1), .second, .val (.int p2), .val (.ref ab), .val (.long (q0 &&& (4294967295 : Int64))), .second, .val (.int (Int32.ofNat J)), .val (.ref b12), .val (.double (FP.l2d ((q0 &&& (4294967295 : Int64)) * (powL (9 - J))))), .second, .val (.int (1 : Int32)), .val (.long hh), .second, .val (.long nn), .second, .val (.ref b15), .val (.ref b17), .unset] [(.int (1 : Int32))]))
  refine Goes.by (fun t k => XS.goto X20.here hx rfl (pc0 := 194) (pc' := 198) rfl (hb hby at_194) (by decide) (by decide) k) ?_
  show Goes p e below s _ _ _ (T20.setTop (mkF m 198 #[.val (.long q0), .second, .val (.long q1), .second, .val (.int p2), .val (.ref ab), .val (.long (q0 &&& (4294967295 : Int64))), .second, .val (.int (Int32.ofNat J)), .val (.ref b12), .val (.double (FP.l2d ((q0 &&& (4294967295 : Int64)) * (powL (9 - J))))), .second, .val (.int (1 : Int32)), .val (.long hh), .second, .val (.long nn), .second, .val (.ref b15), .val (.ref b17), .unset] [(.int (1 : Int32))]))
  refine Goes.by (fun t k => XS.istore X20.here hx rfl (hb hby at_198) rfl (l' := #[.val (.long q0), .second, .val (.long q1), .second, .val (.int p2), .val (.ref ab), .val (.long (q0 &&& (4294967295 : Int64))), .second, .val (.int (Int32.ofNat J)), .val (.ref b12), .val (.double (FP.l2d ((q0 &&& (4294967295 : Int64)) * (powL (9 - J))))), .second, .val (.int (1 : Int32)), .val (.long hh), .second, .val (.long nn), .second, .val (.ref b15), .val (.ref b17), .val (.int (1 : Int32))]) rfl k) ?_
  show Goes p e below s _ _ _ (T20.setTop (mkF m 200 #[.val (.long q0), .second, .val (.long q1), .second, .val (.int p2), .val (.ref ab), .val (.long (q0 &&& (4294967295 : Int64))), .second, .val (.int (Int32.ofNat J)), .val (.ref b12), .val (.double (FP.l2d ((q0 &&& (4294967295 : Int64)) * (powL (9 - J))))), .second, .val (.int (1 : Int32)), .val (.long hh), .second, .val (.long nn), .second, .val (.ref b15), .val (.ref b17), .val (.int (1 : Int32))] []))
  refine Goes.by (fun t k => XS.iload X20.here hx rfl (hb hby at_200) rfl k) ?_
  show Goes p e below s _ _ _ (T20.setTop (mkF m 202 #[.val (.long q0), .second, .val (.long q1), .second, .val (.int p2), .val (.ref ab), .val (.long (q0 &&& (4294967295 : Int64))), .second, .val (.int (Int32.ofNat J)), .val (.ref b12), .val (.double (FP.l2d ((q0 &&& (4294967295 : Int64)) * (powL (9 - J))))), .second, .val (.int (1 : Int32)), .val (.long hh), .second, .val (.long nn), .second, .val (.ref b15), .val (.ref b17), .val (.int (1 : Int32))] [(.int (1 : Int32))]))
  refine Goes.by (fun t k => XS.ifNo X20.here hx rfl (hb hby at_202) rfl ((if0 _ _).trans (feq (by decide)).1) k) ?_
  show Goes p e below s _ _ _ (T20.setTop (mkF m 205 #[.val (.long q0), .second, .val (.long q1), .second, .val (.int p2), .val (.ref ab), .val (.long (q0 &&& (4294967295 : Int64))), .second, .val (.int (Int32.ofNat J)), .val (.ref b12), .val (.double (FP.l2d ((q0 &&& (4294967295 : Int64)) * (powL (9 - J))))), .second, .val (.int (1 : Int32)), .val (.long hh), .second, .val (.long nn), .second, .val (.ref b15), .val (.ref b17), .val (.int (1 : Int32))] []))
  refine Goes.by (fun t k => XS.iload X20.here hx rfl (hb hby at_205) rfl k) ?_
  show Goes p e below s _ _ _ (T20.setTop (mkF m 207 #[.val (.long q0), .second, .val (.long q1), .second, .val (.int p2), .val (.ref ab), .val (.long (q0 &&& (4294967295 : Int64))), .second, .val (.int (Int32.ofNat J)), .val (.ref b12), .val (.double (FP.l2d ((q0 &&& (4294967295 : Int64)) * (powL (9 - J))))), .second, .val (.int (1 : Int32)), .val (.long hh), .second, .val (.long nn), .second, .val (.ref b15), .val (.ref b17), .val (.int (1 : Int32))] [(.int (1 : Int32))]))
  refine Goes.by (fun t k => XS.ifNo X20.here hx rfl (hb hby at_207) rfl ((if0 _ _).trans (feq (by decide)).1) k) ?_
  show Goes p e below s _ _ _ (T20.setTop (mkF m 210 #[.val (.long q0), .second, .val (.long q1), .second, .val (.int p2), .val (.ref ab), .val (.long (q0 &&& (4294967295 : Int64))), .second, .val (.int (Int32.ofNat J)), .val (.ref b12), .val (.double (FP.l2d ((q0 &&& (4294967295 : Int64)) * (powL (9 - J))))), .second, .val (.int (1 : Int32)), .val (.long hh), .second, .val (.long nn), .second, .val (.ref b15), .val (.ref b17), .val (.int (1 : Int32))] []))
  refine Goes.by (fun t k => XS.iconst X20.here hx rfl (hb hby at_210) k) ?_
  show Goes p e below s _ _ _ (T20.setTop (mkF m 211 #[.val (.long q0), .second, .val (.long q1), .second, .val (.int p2), .val (.ref ab), .val (.long (q0 &&& (4294967295 : Int64))), .second, .val (.int (Int32.ofNat J)), .val (.ref b12), .val (.double (FP.l2d ((q0 &&& (4294967295 : Int64)) * (powL (9 - J))))), .second, .val (.int (1 : Int32)), .val (.long hh), .second, .val (.long nn), .second, .val (.ref b15), .val (.ref b17), .val (.int (1 : Int32))] [(.int (1 : Int32))]))
  refine Goes.by (fun t k => XS.goto X20.here hx rfl (pc0 := 211) (pc' := 215) rfl (hb hby at_211) (by decide) (by decide) k) ?_
  show Goes p e below s _ _ _ (T20.setTop (mkF m 215 #[.val (.long q0), .second, .val (.long q1), .second, .val (.int p2), .val (.ref ab), .val (.long (q0 &&& (4294967295 : Int64))), .second, .val (.int (Int32.ofNat J)), .val (.ref b12), .val (.double (FP.l2d ((q0 &&& (4294967295 : Int64)) * (powL (9 - J))))), .second, .val (.int (1 : Int32)), .val (.long hh), .second, .val (.long nn), .second, .val (.ref b15), .val (.ref b17), .val (.int (1 : Int32))] [(.int (1 : Int32))]))
  exact Goes.retN X20 hx Bd.returns rfl (hb hby at_215) hlk (by exact ⟨rfl, N20⟩) (by decide) (by decide)
set_option maxRecDepth 65536 in
set_option maxHeartbeats 40000000 in
theorem comes_1 {Post : Tables → Env → Array Value → State → Outcome → State → Prop} (hpost : ∀ tb e args s v u, (limb_1_1.after args s (.returned v) u = true ∧ limb_1_2.after args s (.returned v) u = true ∧ True) → FrameEnd s (.returned v) u (Jvm.fieldLocs frame_1_writes args s ++ Jvm.arrayLocs frame_1_arrays args s ++ Jvm.staticLocs frame_1_statics s) 16 128 → Post tb e args s (.returned v) u) :
    ArmFor flags0 classFile x code maxLocals ret World_1 tables_1 room_1 Calls_1 rest_1 Pre_1 Post := by
  intro l hfl _ _ p e ha hc hk s m args below hf hA hF happ hP
  obtain ⟨hcalls, hrest, hpre⟩ := hP
  obtain ⟨-, -, -, hnamed, -, -, -, hat⟩ := (Spec.applies_iff hf).mp happ
  obtain ⟨hg, hn⟩ := and_e (Cond.before_iff.mp (show (Jvm.Cond.and given_1 narrow_1).before args s = true from hpre))
  obtain ⟨hcnt, hg⟩ := and_e hg
  obtain ⟨ga0, hg⟩ := and_e hg
  obtain ⟨ga1, hg⟩ := and_e hg
  have ga2 := hg
  obtain ⟨w0, w1, w2, rfl⟩ : ∃ w0 w1 w2 : Value, args = #[w0, w1, w2] := by
    have hs : args.size = 3 := by simpa [Cond.value, given_1] using hcnt
    obtain ⟨L⟩ := args
    match L, hs with
    | [w0, w1, w2], _ => exact ⟨w0, w1, w2, rfl⟩
  have hw := fun d (hd : d ∈ tables_1) => atoms_spec (ws := Jvm.Cond.code x code maxLocals ret :: tables_1) hat d (List.mem_cons_of_mem _ hd)
  obtain ⟨i0, ei0⟩ := isL_v ga0
  obtain rfl : w0 = (.long i0) := Option.some.inj ei0
  obtain ⟨i1, ei1⟩ := isL_v ga1
  obtain rfl : w1 = (.long i1) := Option.some.inj ei1
  obtain ⟨i2, ei2⟩ := is_v ga2
  obtain rfl : w2 = (.int i2) := Option.some.inj ei2
  obtain ⟨n, o, h1, h2, h3, _, L, rfl, ⟨rfl, N⟩, hq⟩ := rm0 l s _ hw tables_1 i0 i1 i2 s.heap s.heap.size (Nat.le_refl _) p e ha hc hk s m _ below hf ((Spec.applies_iff_loose hf).mp happ).1 ⟨rfl, State.Warmed39.refl s, rfl⟩ trivial
  refine ⟨n, _, h1, h2, h3, hpost _ _ _ _ _ _ ⟨Cond.after_iff.mpr rfl, Cond.after_iff.mpr (eq_i res_at (Term.int_eval (1)) rfl), trivial⟩ ⟨hq.1, hq.2.1, (hq.2.2.sift fun y hy => Or.inr (N y hy)).mono (by decide) (by decide)⟩⟩
theorem main_1_1 : Claimed_1_1 := comes_1 fun _ _ _ _ _ _ h hF => ⟨h.1, hF⟩
theorem main_1_2 : Claimed_1_2 := comes_1 fun _ _ _ _ _ _ h hF => ⟨h.2.1, hF⟩
end Jvm.Pilot.@@N@@
namespace Jvm.Pilot.@@N@@
open Jvm Jvm.ClassFile Sem Op Lib Jvm.Free Jvm.Stand Jvm.Pilot.@@N@@.Jvm.D
/-! MADE BY PROGRAM (witnessworld.py) out of the Statement's table words and the real class files: 12 classes; the members and pool entries that the words name. The judged class is class 1, her method 1. -/
namespace start1
open Jvm.ClassFile
def u (s : String) : CpInfo := .utf8 (stringToUtf16 s)
/-- a pool by its gaps: so many unusable entries, then the entry; so many at the end -/
def gap : Nat → List CpInfo → List CpInfo
  | 0, r => r
  | n + 1, r => .unusable :: gap n r
def poolList (es : List (Nat × CpInfo)) (last : Nat) : List CpInfo := es.foldr (fun e r => gap e.1 (e.2 :: r)) (gap last [])
def pool (es : List (Nat × CpInfo)) (last : Nat) : Array CpInfo := ⟨poolList es last⟩
def fileOf (pool : Array CpInfo) (this : Nat) (attrs : Array Attribute := #[]) (ms : Array MethodInfo := #[]) (fl : Nat := 33) (sup : Nat := 0) (ifs : Array Nat := #[]) (fds : Array FieldInfo := #[]) : ClassFile where
  minorVersion := 0
  majorVersion := 65
  constantPool := pool
  accessFlags := fl
  thisClass := this
  superClass := sup
  interfaces := ifs
  fields := fds
  methods := ms
  attributes := attrs
def plain (name : String) (sup : Option ClassId) : Class where
  name := name
  kind := .ordinary
  loader := none
  accessFlags := 33
  super := sup
  interfaces := #[]
  cf := none
  fields := #[]
  methods := #[]
  instanceTypes := #[]
  staticTypes := #[]
  resolved := #[]
  callSites := []
  init := .initialized
  statics := none
  mirror := none

def pool0 : Array CpInfo := pool [(5, u "<init>"), (0, u "()V"), (1, .class_ 10), (1, u "java/lang/Object")] 113

def k0c0 : Code := { maxStack := 0, maxLocals := 1, code := object_method_1_code, exceptionTable := #[], attributes := #[] }
def k0m0 : Method := { name := "<init>", desc := "()V", sig := { parameters := [], returnType := none }, accessFlags := 1, code := some k0c0 }
/-- java/lang/Object -/
def k0 : Class := { plain "java/lang/Object" none with
  accessFlags := 33
  interfaces := #[]
  cf := some (fileOf pool0 8 #[] #[{ accessFlags := 1, nameIndex := 5, descriptorIndex := 6, attributes := #[] }] 33 0 #[] #[])
  fields := #[]
  methods := #[k0m0]
  instanceTypes := #[]
  staticTypes := #[]
  resolved := Array.replicate 124 none
  statics := none }

def pool1 : Array CpInfo := pool [(2, .class_ 4), (1, u "java/lang/Object"), (0, u "<init>"), (0, u "()V"), (0, .long 10), (1, .long 100), (1, .long 1000), (1, .long 10000), (1, .long 100000), (1, .long 1000000), (1, .long 10000000), (1, .long 100000000), (1, .long 1000000000), (1, .long 4294967295), (1, .integer 2147483647), (0, .class_ 29), (0, u "dev/claimcheck/cli/Bench$Tally"), (0, .methodref 28 31), (0, .nameAndType 5 32), (0, u "(JJ)V"), (0, .methodref 28 34), (0, .nameAndType 35 36), (0, u "perSecond"), (0, u "()D"), (0, .long 2), (1, .class_ 40), (0, u "dev/claimcheck/cli/TallyPerSecondPinLaw"), (2, u "law"), (0, u "(JJI)Z")] 9

def k1m0 : Method := { name := "<init>", desc := "()V", sig := { parameters := [], returnType := none }, accessFlags := 2, code := none }
def k1c1 : Code := { maxStack := 8, maxLocals := 20, code := code, exceptionTable := #[], attributes := #[] }
def k1m1 : Method := { name := "law", desc := "(JJI)Z", sig := { parameters := [.long, .long, .int], returnType := some .boolean }, accessFlags := 9, code := some k1c1 }
/-- dev/claimcheck/cli/TallyPerSecondPinLaw -/
def k1 : Class := { plain "dev/claimcheck/cli/TallyPerSecondPinLaw" (some 0) with
  accessFlags := 49
  interfaces := #[]
  cf := some (fileOf pool1 39 #[] #[{ accessFlags := 2, nameIndex := 5, descriptorIndex := 6, attributes := #[] }, { accessFlags := 9, nameIndex := 43, descriptorIndex := 44, attributes := #[] }] 49 2 #[] #[])
  fields := #[]
  methods := #[k1m0, k1m1]
  instanceTypes := #[]
  staticTypes := #[]
  resolved := Array.replicate 54 none
  statics := none }

def pool2 : Array CpInfo := pool [(1, .methodref 2 3), (0, .class_ 4), (0, .nameAndType 5 6), (0, u "java/lang/Object"), (0, u "<init>"), (0, u "()V"), (0, .class_ 8), (0, u "java/lang/Record")] 13

def k2c0 : Code := { maxStack := 1, maxLocals := 1, code := jdk_30_method_1_code, exceptionTable := #[], attributes := #[] }
def k2m0 : Method := { name := "<init>", desc := "()V", sig := { parameters := [], returnType := none }, accessFlags := 4, code := some k2c0 }
/-- java/lang/Record -/
def k2 : Class := { plain "java/lang/Record" (some 0) with
  accessFlags := 1057
  interfaces := #[]
  cf := some (fileOf pool2 7 #[] #[{ accessFlags := 4, nameIndex := 5, descriptorIndex := 6, attributes := #[] }] 1057 2 #[] #[])
  fields := #[]
  methods := #[k2m0]
  instanceTypes := #[]
  staticTypes := #[]
  resolved := Array.replicate 22 none
  statics := none }

def pool3 : Array CpInfo := pool [(1, .methodref 2 3), (0, .class_ 4), (0, .nameAndType 5 6), (0, u "java/lang/Record"), (0, u "<init>"), (0, u "()V"), (0, .fieldref 8 9), (0, .class_ 10), (0, .nameAndType 11 12), (0, u "dev/claimcheck/cli/Bench$Tally"), (0, u "done"), (0, u "J"), (0, .fieldref 8 14), (0, .nameAndType 15 12), (0, u "nanos"), (2, u "(JJ)V"), (0, .double 4741671816366391296), (15, u "NONE"), (0, u "Ldev/claimcheck/cli/Bench$Tally;"), (5, u "perSecond"), (0, u "()D"), (8, .class_ 53), (0, u "dev/claimcheck/cli/Bench")] 20

def k3c0 : Code := { maxStack := 3, maxLocals := 5, code := prog_36_method_1_code, exceptionTable := #[], attributes := #[] }
def k3m0 : Method := { name := "<init>", desc := "(JJ)V", sig := { parameters := [.long, .long], returnType := none }, accessFlags := 0, code := some k3c0 }
def k3c1 : Code := { maxStack := 4, maxLocals := 1, code := prog_36_method_3_code, exceptionTable := #[], attributes := #[] }
def k3m1 : Method := { name := "perSecond", desc := "()D", sig := { parameters := [], returnType := some .double }, accessFlags := 0, code := some k3c1 }
/-- dev/claimcheck/cli/Bench$Tally -/
def k3 : Class := { plain "dev/claimcheck/cli/Bench$Tally" (some 2) with
  accessFlags := 48
  interfaces := #[]
  cf := some (fileOf pool3 8 #[.nestHost 52] #[{ accessFlags := 0, nameIndex := 5, descriptorIndex := 18, attributes := #[] }, { accessFlags := 0, nameIndex := 42, descriptorIndex := 43, attributes := #[] }] 48 2 #[] #[{ accessFlags := 18, nameIndex := 11, descriptorIndex := 12, attributes := #[] }, { accessFlags := 18, nameIndex := 15, descriptorIndex := 12, attributes := #[] }, { accessFlags := 24, nameIndex := 35, descriptorIndex := 36, attributes := #[] }])
  fields := #[{ name := "done", type := .long, accessFlags := 18, slot := 0, constantValue := 0 }, { name := "nanos", type := .long, accessFlags := 18, slot := 1, constantValue := 0 }, { name := "NONE", type := (.object "dev/claimcheck/cli/Bench$Tally"), accessFlags := 24, slot := 0, constantValue := 0 }]
  methods := #[k3m0, k3m1]
  instanceTypes := #[.long, .long]
  staticTypes := #[(.object "dev/claimcheck/cli/Bench$Tally")]
  resolved := Array.replicate 74 none
  statics := none }

def pool4 : Array CpInfo := pool [(1, u "java/lang/Cloneable"), (0, .class_ 1), (0, u "java/lang/Object"), (0, .class_ 3)] 3

/-- java/lang/Cloneable -/
def k4 : Class := { plain "java/lang/Cloneable" (some 0) with
  accessFlags := 1537
  interfaces := #[]
  cf := some (fileOf pool4 2 #[] #[] 1537 4 #[] #[])
  fields := #[]
  methods := #[]
  instanceTypes := #[]
  staticTypes := #[]
  resolved := Array.replicate 8 none
  statics := none }

def pool5 : Array CpInfo := pool [(1, u "java/io/Serializable"), (0, .class_ 1), (0, u "java/lang/Object"), (0, .class_ 3)] 3

/-- java/io/Serializable -/
def k5 : Class := { plain "java/io/Serializable" (some 0) with
  accessFlags := 1537
  interfaces := #[]
  cf := some (fileOf pool5 2 #[] #[] 1537 4 #[] #[])
  fields := #[]
  methods := #[]
  instanceTypes := #[]
  staticTypes := #[]
  resolved := Array.replicate 8 none
  statics := none }

/-- the primitive byte -/
def k6 : Class := { plain "byte" none with kind := .primitive 'B', accessFlags := 0x411 }
/-- [B -/
def k7 : Class := { plain "[B" (some 0) with kind := .array 6 .byte, interfaces := #[4, 5], accessFlags := 1041 }

/-- the primitive int -/
def k8 : Class := { plain "int" none with kind := .primitive 'I', accessFlags := 0x411 }
/-- [I -/
def k9 : Class := { plain "[I" (some 0) with kind := .array 8 .int, interfaces := #[4, 5], accessFlags := 1041 }

/-- the primitive long -/
def k10 : Class := { plain "long" none with kind := .primitive 'J', accessFlags := 0x411 }
/-- [J -/
def k11 : Class := { plain "[J" (some 0) with kind := .array 10 .long, interfaces := #[4, 5], accessFlags := 1041 }

def heap : Heap := #[]
def classes : Array Class := #[k0, k1, k2, k3, k4, k5, k6, k7, k8, k9, k10, k11]
def interned : List (Array UInt16 × Addr) := []
def slotsUsed : Nat := 0
def theMethod : MethodId := ⟨1, 1⟩
def args0 : Array Value := #[.long 5, .long 7, .int 2]
def aboutOver (below : List Frame) : State where
  vm := { classes := classes, interned := interned.toArray }
  heap := heap
  slotsUsed := slotsUsed
  threads := #[{ frames := .invoking theMethod args0 :: below }]
def below0 : List Frame := [.native { method := ⟨0, 0⟩, args := #[] }]
def about1 : State := aboutOver below0
def p0 : Program := .bare "" "" ""
def e0 : Env := launch0.env 0 0 0
theorem w_frames : about1.frames = Frame.invoking theMethod args0 :: below0 := rfl
set_option maxRecDepth 65536 in
theorem w_args : argsFit about1.vm theMethod args0 = true := by decide +kernel
set_option maxRecDepth 65536 in
theorem w_heap : heapFits about1 = true := by decide +kernel
set_option maxRecDepth 65536 in
theorem w_runnable : about1.curStatus? = some .runnable := by decide +kernel
set_option maxRecDepth 65536 in
theorem w_alone : about1.alone = true := by decide +kernel
set_option maxRecDepth 65536 in
theorem w_named : about1.methodNamed? x = some theMethod := by decide +kernel
set_option maxRecDepth 65536 in
theorem w_hears : about1.hears theMethod below0 = true := by decide +kernel
set_option maxRecDepth 65536 in
theorem w_ripe : about1.ripe theMethod args0 below0 = true := by decide +kernel
theorem w_running : about1.status = .running := rfl
set_option maxRecDepth 65536 in
theorem w_room : about1.hasRoom e0.platform room_1 = true :=
  launch0.hasRoom_least _ room_1 (by decide +kernel) (by decide +kernel) (by decide +kernel) (by decide +kernel) (by decide +kernel) (by decide +kernel)
theorem allAtoms_all (ts : List Jvm.Cond) (a : Array Jvm.Value) (st : Jvm.State) : (allAtoms ts).before a st = ts.all (fun c => c.before a st) := by
  induction ts with
  | nil => rfl
  | cons c t ih =>
    show (Jvm.Cond.and c (allAtoms t)).before a st = _
    rw [Jvm.Cond.before_and, ih, List.all_cons]
def words1 : List Jvm.Cond := Jvm.Cond.code x code maxLocals ret :: tables_1
/-- a 'code' word, met by the world's own term for the bytes: nothing is compared byte by byte -/
theorem code_word {y : MethodName} {bytes : ByteArray} {mx : Nat} {rt : Option FieldType} {a : Array Value} {s : State} {m : MethodId} {meth : Method} {c : Code} (h1 : s.methodNamed? y = some m) (h2 : s.vm.method? m = some meth) (h3 : meth.code = some c) (h4 : c.code = bytes)
    (h5 : (c.maxLocals == mx && c.exceptionTable.isEmpty && decide (c.maxStack ≤ mostOperands) && decide (meth.sig.returnType = rt) && !meth.locks && decide (parseMethodDescriptor y.desc = some meth.sig)) = true) : (Jvm.Cond.code y bytes mx rt).before a s = true := by
  simp only [Bool.and_eq_true, beq_iff_eq, Bool.not_eq_true', decide_eq_true_eq] at h5
  obtain ⟨⟨⟨⟨⟨g1, g2⟩, g3⟩, g4⟩, g5⟩, g6⟩ := h5
  simp [Cond.before, Cond.holds, Cond.value, h1, h2, h3, h4, g1, g2, g3, g4, g5, g6]
def isCode : Jvm.Cond → Bool
  | .code _ _ _ _ => true
  | _ => false
theorem all_split {L : List Jvm.Cond} {P : Jvm.Cond → Bool} (h1 : L.all (fun c => isCode c || P c) = true) (h2 : ∀ c ∈ L.filter isCode, P c = true) : L.all P = true := by
  refine List.all_eq_true.mpr fun c hc => ?_
  have h := List.all_eq_true.mp h1 c hc
  rcases Bool.eq_false_or_eq_true (isCode c) with hi | hi
  · exact h2 c (List.mem_filter.mpr ⟨hc, hi⟩)
  · simpa [hi] using h
set_option maxRecDepth 65536 in
theorem w_c0 : (Jvm.Cond.code x code maxLocals ret).before args0 about1 = true := code_word (m := ⟨1, 1⟩) (meth := k1m1) (c := k1c1) (by decide +kernel) rfl rfl rfl (by decide +kernel)
set_option maxRecDepth 65536 in
theorem w_c1 : (Jvm.Cond.code ({ cls := "dev/claimcheck/cli/Bench$Tally", name := "<init>", desc := "(JJ)V" } : Jvm.MethodName) prog_36_method_1_code (5 : Nat) (Option.none : Option Jvm.ClassFile.FieldType)).before args0 about1 = true := code_word (m := ⟨3, 0⟩) (meth := k3m0) (c := k3c0) (by decide +kernel) rfl rfl rfl (by decide +kernel)
set_option maxRecDepth 65536 in
theorem w_c2 : (Jvm.Cond.code ({ cls := "java/lang/Record", name := "<init>", desc := "()V" } : Jvm.MethodName) jdk_30_method_1_code (1 : Nat) (Option.none : Option Jvm.ClassFile.FieldType)).before args0 about1 = true := code_word (m := ⟨2, 0⟩) (meth := k2m0) (c := k2c0) (by decide +kernel) rfl rfl rfl (by decide +kernel)
set_option maxRecDepth 65536 in
theorem w_c3 : (Jvm.Cond.code ({ cls := "java/lang/Object", name := "<init>", desc := "()V" } : Jvm.MethodName) object_method_1_code (1 : Nat) (Option.none : Option Jvm.ClassFile.FieldType)).before args0 about1 = true := code_word (m := ⟨0, 0⟩) (meth := k0m0) (c := k0c0) (by decide +kernel) rfl rfl rfl (by decide +kernel)
set_option maxRecDepth 65536 in
theorem w_c4 : (Jvm.Cond.code ({ cls := "dev/claimcheck/cli/Bench$Tally", name := "perSecond", desc := "()D" } : Jvm.MethodName) prog_36_method_3_code (1 : Nat) (Option.some Jvm.ClassFile.FieldType.double)).before args0 about1 = true := code_word (m := ⟨3, 1⟩) (meth := k3m1) (c := k3c1) (by decide +kernel) rfl rfl rfl (by decide +kernel)
def codes1 : List Jvm.Cond := [Jvm.Cond.code x code maxLocals ret, Jvm.Cond.code ({ cls := "dev/claimcheck/cli/Bench$Tally", name := "<init>", desc := "(JJ)V" } : Jvm.MethodName) prog_36_method_1_code (5 : Nat) (Option.none : Option Jvm.ClassFile.FieldType), Jvm.Cond.code ({ cls := "java/lang/Record", name := "<init>", desc := "()V" } : Jvm.MethodName) jdk_30_method_1_code (1 : Nat) (Option.none : Option Jvm.ClassFile.FieldType), Jvm.Cond.code ({ cls := "java/lang/Object", name := "<init>", desc := "()V" } : Jvm.MethodName) object_method_1_code (1 : Nat) (Option.none : Option Jvm.ClassFile.FieldType), Jvm.Cond.code ({ cls := "dev/claimcheck/cli/Bench$Tally", name := "perSecond", desc := "()D" } : Jvm.MethodName) prog_36_method_3_code (1 : Nat) (Option.some Jvm.ClassFile.FieldType.double)]
set_option maxRecDepth 65536 in
theorem codes_eq : words1.filter isCode = codes1 := rfl
theorem w_codes : ∀ c ∈ words1.filter isCode, c.before args0 about1 = true := by
  rw [codes_eq]
  intro c hc
  simp only [codes1, List.mem_cons, List.not_mem_nil, or_false] at hc
  rcases hc with rfl | rfl | rfl | rfl | rfl
  · exact w_c0
  · exact w_c1
  · exact w_c2
  · exact w_c3
  · exact w_c4
set_option maxRecDepth 65536 in
theorem w_t1 : (words1.take 24).all (fun c => isCode c || c.before args0 about1) = true := by decide +kernel
set_option maxRecDepth 65536 in
theorem w_t2 : (words1.drop 24).all (fun c => isCode c || c.before args0 about1) = true := by decide +kernel
theorem w_tables : (allAtoms (Jvm.Cond.code x code maxLocals ret :: tables_1)).before args0 about1 = true := by
  rw [allAtoms_all]
  show words1.all (fun c => c.before args0 about1) = true
  refine all_split ?_ w_codes
  rw [← List.take_append_drop 24 words1, List.all_append, w_t1, w_t2]
  rfl
set_option maxRecDepth 65536 in
theorem w_case : (Jvm.Cond.and given_1 narrow_1).before args0 about1 = true := by decide +kernel
theorem w_applies : (headSpec (Jvm.Cond.code x code maxLocals ret :: tables_1) room_1).applies x e0.platform about1 = true :=
  (Spec.applies_iff w_frames).mpr ⟨w_running, w_runnable, w_alone, w_named, w_hears, w_ripe, w_room, w_tables⟩
theorem atStart : AtStart classFile x code maxLocals ret World_1 tables_1 room_1 Calls_1 rest_1 Pre_1 launch0 p0 e0 about1 theMethod args0 below0 :=
  ⟨lists_1, trivial, launch0.admits_env _ _ _, launch0.least_env, fairChoices_fair.cas, fairChoices_fair.clock, w_frames, w_args, w_heap, w_applies, trivial, trivial, w_case⟩
end start1
theorem witness_1 : WitnessClaimed_1 := ⟨start1.p0, start1.e0, start1.about1, start1.theMethod, start1.args0, start1.below0, start1.atStart⟩
end Jvm.Pilot.@@N@@
