import JvmDerived
import JvmDerived.Pilot.@@N@@Statement
import JvmDerived.Pilot.@@N@@Code
set_option linter.unusedVariables false
set_option linter.unusedSimpArgs false
namespace Jvm.Pilot.@@N@@
open Jvm Jvm.ClassFile Sem Op Lib Jvm.Free Jvm.Stand Jvm.LawKit Jvm.RoadKit Bundle Jvm.Pilot.@@N@@.Jvm.D
/-! a run that ends as a contract says: forks and joins go by it -/
def Goes (p : Program) (e : Env) (below : List Frame) (s : State) (Q : Option Value → Heap → List Loc → Prop) (kc ks : Nat) (A : State) : Prop :=
  ∃ s₂ o, Steps p.tables e below A s₂ ∧ s₂.status = .running ∧ Ended s₂ below o ∧ ∃ v L, o = .returned v ∧ Q v s₂.heap L ∧ FrameEnd s o s₂ L kc ks
section Go
variable {p : Program} {l : Launch} {e : Env} {R : Room} {s : State} {m : MethodId} {args : Array Value} {below : List Frame} {meth : Method} {c : Code} {T : State} {locs : List Loc} {cells slots kc ks : Nat} {Q : Option Value → Heap → List Loc → Prop}
theorem Goes.by {A B : State} (h : ∀ t, Steps p.tables e below B t → Steps p.tables e below A t) (k : Goes p e below s Q kc ks B) : Goes p e below s Q kc ks A := by
  obtain ⟨s₂, o, h1, h2⟩ := k
  exact ⟨s₂, o, h _ h1, h2⟩
theorem Goes.out (X : Stand p l e R s m args below meth c T locs cells slots) (hx : p.tables.exec = Jvm.exec) {pc : Nat} {Ls : Array Slot} {w : Value} {t : FieldType} {i : Instr} {rest : List Value} (hret : meth.sig.returnType = some t) (hn : narrow t w = w)
    (hi : (i = .ireturn ∧ (t = .int ∨ t = .boolean ∨ t = .byte ∨ t = .char ∨ t = .short) ∧ ∃ z, w = .int z) ∨ (i = .lreturn ∧ t = .long ∧ ∃ z, w = .long z) ∨ (i = .dreturn ∧ t = .double ∧ ∃ z, w = .double z) ∨ (i = .freturn ∧ t = .float ∧ ∃ z, w = .float z) ∨ (i = .areturn ∧ t.isReference = true ∧ w.isRef = true))
    (hd : decode c.code pc = .ok (i, 1)) (hlk : meth.locks = false) (hQ : Q (some w) T.heap locs) (hc : cells ≤ kc) (hs : slots ≤ ks) : Goes p e below s Q kc ks (T.setTop (mkF m pc Ls (w :: rest))) := by
  obtain ⟨fs, hr, hrun, hended, hW, hsame⟩ := X.leave (v := some w) (fun h => by rw [hret] at h; cases h) hlk
  exact ⟨_, _, retOut X hx hret hn hi hd hr, hrun, hended, _, _, rfl, hQ, ⟨_, rfl⟩, hW, hsame.mono hc hs⟩
theorem Goes.retI (X : Stand p l e R s m args below meth c T locs cells slots) (hx : p.tables.exec = Jvm.exec) {pc : Nat} {Ls : Array Slot} {z : Int32} {rest : List Value} (hret : meth.sig.returnType = some .int) (hn : True) (hd : decode c.code pc = .ok (.ireturn, 1)) (hlk : meth.locks = false) (hQ : Q (some (.int z)) T.heap locs) (hc : cells ≤ kc) (hs : slots ≤ ks) :
    Goes p e below s Q kc ks (T.setTop (mkF m pc Ls (.int z :: rest))) := Goes.out X hx hret rfl (Or.inl ⟨rfl, Or.inl rfl, z, rfl⟩) hd hlk hQ hc hs
theorem Goes.retN (X : Stand p l e R s m args below meth c T locs cells slots) (hx : p.tables.exec = Jvm.exec) {pc : Nat} {Ls : Array Slot} {z : Int32} {rest : List Value} (hret : meth.sig.returnType = some .boolean) (hn : narrow .boolean (.int z) = .int z) (hd : decode c.code pc = .ok (.ireturn, 1)) (hlk : meth.locks = false) (hQ : Q (some (.int z)) T.heap locs) (hc : cells ≤ kc) (hs : slots ≤ ks) :
    Goes p e below s Q kc ks (T.setTop (mkF m pc Ls (.int z :: rest))) := Goes.out X hx hret hn (Or.inl ⟨rfl, Or.inr (Or.inl rfl), z, rfl⟩) hd hlk hQ hc hs
theorem Goes.retL (X : Stand p l e R s m args below meth c T locs cells slots) (hx : p.tables.exec = Jvm.exec) {pc : Nat} {Ls : Array Slot} {z : Int64} {rest : List Value} (hret : meth.sig.returnType = some .long) (hn : True) (hd : decode c.code pc = .ok (.lreturn, 1)) (hlk : meth.locks = false) (hQ : Q (some (.long z)) T.heap locs) (hc : cells ≤ kc) (hs : slots ≤ ks) :
    Goes p e below s Q kc ks (T.setTop (mkF m pc Ls (.long z :: rest))) := Goes.out X hx hret rfl (Or.inr (Or.inl ⟨rfl, rfl, z, rfl⟩)) hd hlk hQ hc hs
theorem Goes.retD (X : Stand p l e R s m args below meth c T locs cells slots) (hx : p.tables.exec = Jvm.exec) {pc : Nat} {Ls : Array Slot} {z : UInt64} {rest : List Value} (hret : meth.sig.returnType = some .double) (hn : True) (hd : decode c.code pc = .ok (.dreturn, 1)) (hlk : meth.locks = false) (hQ : Q (some (.double z)) T.heap locs) (hc : cells ≤ kc) (hs : slots ≤ ks) :
    Goes p e below s Q kc ks (T.setTop (mkF m pc Ls (.double z :: rest))) := Goes.out X hx hret rfl (Or.inr (Or.inr (Or.inl ⟨rfl, rfl, z, rfl⟩))) hd hlk hQ hc hs
theorem Goes.retA (X : Stand p l e R s m args below meth c T locs cells slots) (hx : p.tables.exec = Jvm.exec) {pc : Nat} {Ls : Array Slot} {w : Value} {t : FieldType} {rest : List Value} (hret : meth.sig.returnType = some t) (ht : t.isReference = true) (hw : w.isRef = true) (hd : decode c.code pc = .ok (.areturn, 1)) (hlk : meth.locks = false) (hQ : Q (some w) T.heap locs) (hc : cells ≤ kc) (hs : slots ≤ ks) :
    Goes p e below s Q kc ks (T.setTop (mkF m pc Ls (w :: rest))) := Goes.out X hx hret (by rcases ref_cases hw with rfl | ⟨a, rfl⟩ <;> cases t <;> first | rfl | (simp [FieldType.isReference] at ht)) (Or.inr (Or.inr (Or.inr (Or.inr ⟨rfl, ht, hw⟩)))) hd hlk hQ hc hs
theorem Goes.retV (X : Stand p l e R s m args below meth c T locs cells slots) (hx : p.tables.exec = Jvm.exec) {pc : Nat} {Ls : Array Slot} (hret : meth.sig.returnType = none) (hd : decode c.code pc = .ok (.return_, 1)) (hlk : meth.locks = false) (hQ : Q none T.heap locs) (hc : cells ≤ kc) (hs : slots ≤ ks) :
    Goes p e below s Q kc ks (T.setTop (mkF m pc Ls [])) := by
  obtain ⟨fs, hr, hrun, hended, hW, hsame⟩ := X.leave (v := none) (fun _ => rfl) hlk
  exact ⟨_, _, X.returnOut hx hret hd hr, hrun, hended, _, _, rfl, hQ, ⟨_, rfl⟩, hW, hsame.mono hc hs⟩
end Go
theorem pd_0 : parseMethodDescriptor "()V" = some ⟨[], none⟩ := by decide +kernel
theorem pd_1 : parseMethodDescriptor "(I)J" = some ⟨[.int], some .long⟩ := by decide +kernel
theorem pd_2 : parseMethodDescriptor "(DDD)V" = some ⟨[.double, .double, .double], none⟩ := by decide +kernel
theorem pd_3 : parseMethodDescriptor "(Lcom/example/roadstitch/roadstitch/core/Vector3;)D" = some ⟨[(.object "com/example/roadstitch/roadstitch/core/Vector3")], some .double⟩ := by decide +kernel
open Jvm.FP Jvm.Free.Fl in
theorem own_nnz : NoNaN64 (9223372036854775808 : UInt64) := by unfold NoNaN64; decide
/-- the bits of a whole number; a zero of either sign -/
def Wd (m : UInt64) (x : Int64) : Prop := m = FP.l2d x ∨ (m = 9223372036854775808 ∧ x = 0)
theorem Wd.nn {m : UInt64} {x : Int64} (h : Wd m x) : Jvm.Free.Fl.NoNaN64 m := by
  rcases h with h | ⟨h, -⟩
  · exact nn_w h
  · rw [h]; exact own_nnz
theorem own_mul {u v : Int64} {A : Int} (a1 : -A ≤ u.toInt) (a2 : u.toInt ≤ A) (b1 : -A ≤ v.toInt) (b2 : v.toInt ≤ A) (hA : A = 524288) : Wd (FP.dmul (FP.l2d u) (FP.l2d v)) (u * v) := by
  subst hA
  have hu : B53 u := ⟨by omega, by omega⟩
  have hv : B53 v := ⟨by omega, by omega⟩
  by_cases hz : u = 0 ∨ v = 0
  · have e := dmul_z hu hv hz
    have z : u * v = 0 := by rcases hz with h | h <;> subst h <;> simp
    rw [z, e]
    by_cases q : (decide (u.toInt < 0) != decide (v.toInt < 0)) = true
    · rw [if_pos q]; exact Or.inr ⟨rfl, rfl⟩
    · rw [if_neg q]; exact Or.inl rfl
  · obtain ⟨m1, m2, m3, m4⟩ := mc a1 a2 b1 b2
    exact Or.inl (dmul_w hu hv (fun h => hz (Or.inl h)) (fun h => hz (Or.inr h)) (by omega) (by omega))
theorem own_add {m n : UInt64} {x y : Int64} (hm : Wd m x) (hn : Wd n y) (hx : B53 x) (hy : B53 y) : Wd (FP.dadd m n) (x + y) := by
  rcases hm with rfl | ⟨rfl, rfl⟩ <;> rcases hn with rfl | ⟨rfl, rfl⟩
  · exact Or.inl (dadd_w hx hy)
  · refine Or.inl ?_
    rw [Int64.add_zero]
    exact Jvm.FP.Core.dadd_zeroNeg (Jvm.FP.Core.l2d_fin x).ne_nan
  · refine Or.inl ?_
    rw [Int64.zero_add]
    exact (Jvm.FP.Core.dadd_comm _ _).trans (Jvm.FP.Core.dadd_zeroNeg (Jvm.FP.Core.l2d_fin y).ne_nan)
  · refine Or.inr ⟨?_, by simp⟩
    decide +kernel
theorem own_cmp {m : UInt64} {x : Int64} (hm : Wd m x) : cmpValue (FP.dcmp m (FP.l2d x)) .l = 0 := by
  rcases hm with rfl | ⟨rfl, rfl⟩
  · exact dcmpV_self (nn_w rfl) _
  · decide +kernel
theorem own_s (p : Int32) : -524288 ≤ ((p <<< ((12 : Int32) &&& 31)) >>> ((12 : Int32) &&& 31)).toInt64.toInt ∧ ((p <<< ((12 : Int32) &&& 31)) >>> ((12 : Int32) &&& 31)).toInt64.toInt ≤ 524288 := by
  rw [c_i2l]
  have a := c_ishr (p <<< ((12 : Int32) &&& 31)) 12 12 (by decide)
  have r := rng32 (p <<< ((12 : Int32) &&& 31))
  omega
theorem own_b {u v : Int64} (a1 : -524288 ≤ u.toInt ∧ u.toInt ≤ 524288) (b1 : -524288 ≤ v.toInt ∧ v.toInt ≤ 524288) : -274877906944 ≤ (u * v).toInt ∧ (u * v).toInt ≤ 274877906944 := by
  have c := c_lmul u v
  have r := rng64 (u * v)
  obtain ⟨m1, m2, m3, m4⟩ := mc a1.1 a1.2 b1.1 b1.2
  omega
theorem own_b2 {x y : Int64} (a1 : -274877906944 ≤ x.toInt ∧ x.toInt ≤ 274877906944) (b1 : -274877906944 ≤ y.toInt ∧ y.toInt ≤ 274877906944) : B53 x ∧ B53 y ∧ B53 (x + y) := by
  have c := c_ladd x y
  have r := rng64 (x + y)
  exact ⟨⟨by omega, by omega⟩, ⟨by omega, by omega⟩, ⟨by omega, by omega⟩⟩
def Q1 (r : Int64) (h0 : Heap) (n0 : Nat) (v : Option Value) (h : Heap) (L : List Loc) : Prop := v = some (.long r) ∧ Fr n0 L ∧ h = h0
theorem d1_0 : decode method_2_code 0 = .ok (.iload_n 0, 1) := by decide +kernel
theorem d1_1 : decode method_2_code 1 = .ok (.bipush 12, 2) := by decide +kernel
theorem d1_3 : decode method_2_code 3 = .ok (.ishl, 1) := by decide +kernel
theorem d1_4 : decode method_2_code 4 = .ok (.bipush 12, 2) := by decide +kernel
theorem d1_6 : decode method_2_code 6 = .ok (.ishr, 1) := by decide +kernel
theorem d1_7 : decode method_2_code 7 = .ok (.i2l, 1) := by decide +kernel
theorem d1_8 : decode method_2_code 8 = .ok (.lreturn, 1) := by decide +kernel
theorem pn_0 : plainName "com/example/roadstitch/roadstitch/core/Vector3DotPinLaw" = true := by first | (simp [plainName, overriddenIn]; done) | decide +kernel
theorem ef_rm1 (m : MethodId) (x0 : Int32) : entryFrame m #[(.int x0)] 1 = mkF m 0 #[.val (.int x0)] [] := by first | (simp [entryFrame, mkF, argsToLocals, Value.category]; done) | rfl
set_option maxRecDepth 65536 in
set_option maxHeartbeats 40000000 in
theorem rm1 (l : Launch) (Z : State) (a0 : Array Value) (hw : ∀ d ∈ tables_1, d.before a0 Z = true) (ws : List Jvm.Cond) (p1 : Int32) (r : Int64) (h0 : Heap) (n0 : Nat) (Z0 : n0 ≤ h0.size) (hr : r = ((p1 <<< ((12 : Int32) &&& 31)) >>> ((12 : Int32) &&& 31)).toInt64) :
    MetFree l (⟨"com/example/roadstitch/roadstitch/core/Vector3DotPinLaw", "s", "(I)J"⟩ : MethodName) (head1 (Jvm.Cond.code (⟨"com/example/roadstitch/roadstitch/core/Vector3DotPinLaw", "s", "(I)J"⟩ : MethodName) method_2_code 1 (some .long) :: ws) ({ frames := 0, cells := 0, slots := 0, locals := 0 } : Room)) (fun a U => a = #[(.int p1)] ∧ Z.Warmed39 U.vm ∧ U.heap = h0) (fun _ _ _ _ _ => True) (fun _ U o U' => ∃ v L, o = .returned v ∧ (Q1 r h0 n0) v U'.heap L ∧ FrameEnd U o U' L ({ frames := 0, cells := 0, slots := 0, locals := 0 } : Room).cells ({ frames := 0, cells := 0, slots := 0, locals := 0 } : Room).slots) := by
  refine MetFree.of_bodySF (plainFor_of_name pn_0) hisR ?_
  intro p e s m args below meth c s₁ Bd hml0 hP hK
  obtain ⟨rfl, hZ, hh⟩ := hP
  have hx := Bd.exec
  have hby := Bd.bytes
  have hlk : meth.locks = false := BodyLoose.notSynchronized Bd
  have hml : c.maxLocals = 1 := hml0
  have hown : s.vm.findClass "com/example/roadstitch/roadstitch/core/Vector3DotPinLaw" = some m.cls := findClass_of_methodNamed Bd.named
  have hnm := (name_of_methodNamed Bd.named Bd.method).1
  have X0 : Stand p l e ({ frames := 0, cells := 0, slots := 0, locals := 0 } : Room) s m #[(.int p1)] below meth c s₁ [] 0 0 := Stand.of_body Bd
  have e0 : s₁.heap = h0 := by rw [← hh, Bd.state]; rfl
  have N0 := Fr.nil n0
  show Goes p e below s (Q1 r h0 n0) ({ frames := 0, cells := 0, slots := 0, locals := 0 } : Room).cells ({ frames := 0, cells := 0, slots := 0, locals := 0 } : Room).slots (s₁.setTop (entryFrame m #[(.int p1)] 1))
  refine Goes.by (fun t k => castTop (ef_rm1 m p1) k) ?_
  show Goes p e below s _ _ _ (s₁.setTop (mkF m 0 #[.val (.int p1)] []))
  refine Goes.by (fun t k => XS.iloadN X0.here hx rfl (hb hby d1_0) rfl k) ?_
  show Goes p e below s _ _ _ (s₁.setTop (mkF m 1 #[.val (.int p1)] [(.int p1)]))
  refine Goes.by (fun t k => XS.bipush X0.here hx rfl (hb hby d1_1) k) ?_
  show Goes p e below s _ _ _ (s₁.setTop (mkF m 3 #[.val (.int p1)] [(.int (12 : Int32)), (.int p1)]))
  refine Goes.by (fun t k => XS.ishl X0.here hx rfl (hb hby d1_3) rfl k) ?_
  show Goes p e below s _ _ _ (s₁.setTop (mkF m 4 #[.val (.int p1)] [(.int (p1 <<< ((12 : Int32) &&& 31)))]))
  refine Goes.by (fun t k => XS.bipush X0.here hx rfl (hb hby d1_4) k) ?_
  show Goes p e below s _ _ _ (s₁.setTop (mkF m 6 #[.val (.int p1)] [(.int (12 : Int32)), (.int (p1 <<< ((12 : Int32) &&& 31)))]))
  refine Goes.by (fun t k => XS.ishr X0.here hx rfl (hb hby d1_6) rfl k) ?_
  show Goes p e below s _ _ _ (s₁.setTop (mkF m 7 #[.val (.int p1)] [(.int ((p1 <<< ((12 : Int32) &&& 31)) >>> ((12 : Int32) &&& 31)))]))
  refine Goes.by (fun t k => XS.i2l X0.here hx rfl (hb hby d1_7) rfl k) ?_
  show Goes p e below s _ _ _ (s₁.setTop (mkF m 8 #[.val (.int p1)] [(.long (((p1 <<< ((12 : Int32) &&& 31)) >>> ((12 : Int32) &&& 31)).toInt64))]))
  exact Goes.retL X0 hx Bd.returns trivial (hb hby d1_8) hlk (by rw [e0]; exact ⟨by rw [hr], N0, rfl⟩) (by decide) (by decide)
def Q3 (h0 : Heap) (n0 : Nat) (v : Option Value) (h : Heap) (L : List Loc) : Prop := v = none ∧ Fr n0 L ∧ h = h0
theorem d3_0 : decode jdk_30_method_1_code 0 = .ok (.aload_n 0, 1) := by decide +kernel
theorem d3_1 : decode jdk_30_method_1_code 1 = .ok (.invokespecial 1, 3) := by decide +kernel
theorem d3_4 : decode jdk_30_method_1_code 4 = .ok (.return_, 1) := by decide +kernel
theorem pn_1 : plainName "java/lang/Record" = true := by first | (simp [plainName, overriddenIn]; done) | decide +kernel
theorem ef_rm3 (m : MethodId) (x0 : Addr) : entryFrame m #[(.ref x0)] 1 = mkF m 0 #[.val (.ref x0)] [] := by first | (simp [entryFrame, mkF, argsToLocals, Value.category]; done) | rfl
set_option maxRecDepth 65536 in
set_option maxHeartbeats 40000000 in
theorem rm3 (l : Launch) (Z : State) (a0 : Array Value) (hw : ∀ d ∈ tables_1, d.before a0 Z = true) (ws : List Jvm.Cond) (a1 : Addr) (h0 : Heap) (n0 : Nat) (Z0 : n0 ≤ h0.size)  :
    MetFree l (⟨"java/lang/Record", "<init>", "()V"⟩ : MethodName) (head1 (Jvm.Cond.code (⟨"java/lang/Record", "<init>", "()V"⟩ : MethodName) jdk_30_method_1_code 1 none :: ws) ({ frames := 1, cells := 0, slots := 0, locals := 12 } : Room)) (fun a U => a = #[(.ref a1)] ∧ Z.Warmed39 U.vm ∧ U.heap = h0) (fun _ _ _ _ _ => True) (fun _ U o U' => ∃ v L, o = .returned v ∧ (Q3 h0 n0) v U'.heap L ∧ FrameEnd U o U' L ({ frames := 1, cells := 0, slots := 0, locals := 12 } : Room).cells ({ frames := 1, cells := 0, slots := 0, locals := 12 } : Room).slots) := by
  refine MetFree.of_bodySF (plainFor_of_name pn_1) hisR ?_
  intro p e s m args below meth c s₁ Bd hml0 hP hK
  obtain ⟨rfl, hZ, hh⟩ := hP
  have hx := Bd.exec
  have hby := Bd.bytes
  have hlk : meth.locks = false := BodyLoose.notSynchronized Bd
  have hml : c.maxLocals = 1 := hml0
  have hown : s.vm.findClass "java/lang/Record" = some m.cls := findClass_of_methodNamed Bd.named
  have hnm := (name_of_methodNamed Bd.named Bd.method).1
  have X0 : Stand p l e ({ frames := 1, cells := 0, slots := 0, locals := 12 } : Room) s m #[(.ref a1)] below meth c s₁ [] 0 0 := Stand.of_body Bd
  have e0 : s₁.heap = h0 := by rw [← hh, Bd.state]; rfl
  have N0 := Fr.nil n0
  show Goes p e below s (Q3 h0 n0) ({ frames := 1, cells := 0, slots := 0, locals := 12 } : Room).cells ({ frames := 1, cells := 0, slots := 0, locals := 12 } : Room).slots (s₁.setTop (entryFrame m #[(.ref a1)] 1))
  refine Goes.by (fun t k => castTop (ef_rm3 m a1) k) ?_
  show Goes p e below s _ _ _ (s₁.setTop (mkF m 0 #[.val (.ref a1)] []))
  refine Goes.by (fun t k => XS.aloadN X0.here hx rfl (hb hby d3_0) rfl rfl k) ?_
  show Goes p e below s _ _ _ (s₁.setTop (mkF m 1 #[.val (.ref a1)] [(.ref a1)]))
  obtain ⟨T1, X1, e1, st1⟩ := initO X0 hx hZ hown (hw _ (List.mem_of_getElem? (i := 15) rfl)) (hw _ (List.mem_of_getElem? (i := 16) rfl)) (hw _ (List.mem_of_getElem? (i := 17) rfl)) e0 (g := (mkF m 1 #[.val (.ref a1)] [(.ref a1)])) rfl (by rw [hml]; rfl) rfl (hb hby d3_1) (by decide) (W := 0) (by show 2 * 0 + _ ≤ _; exact Nat.le_of_eq rfl) (by decide)
  refine Goes.by (fun t k => st1 t k) ?_
  show Goes p e below s _ _ _ (T1.setTop (mkF m 4 #[.val (.ref a1)] []))
  exact Goes.retV X1 hx Bd.returns (hb hby d3_4) hlk (by rw [e1]; exact ⟨rfl, N0, rfl⟩) (by decide) (by decide)
def Q2 (Z : State) (a1 : Addr) (v0 : UInt64) (v1 : UInt64) (v2 : UInt64) (h0 : Heap) (n0 : Nat) (v : Option Value) (h : Heap) (L : List Loc) : Prop := v = none ∧ Fr n0 L ∧ Keep h0 h [a1] ∧ Exa Z h a1 "com/example/roadstitch/roadstitch/core/Vector3" ∧ Fld Z h a1 "com/example/roadstitch/roadstitch/core/Vector3" "x" "D" (.double v0) ∧ Fld Z h a1 "com/example/roadstitch/roadstitch/core/Vector3" "y" "D" (.double v1) ∧ Fld Z h a1 "com/example/roadstitch/roadstitch/core/Vector3" "z" "D" (.double v2)
theorem d2_0 : decode prog_99_method_1_code 0 = .ok (.aload_n 0, 1) := by decide +kernel
theorem d2_1 : decode prog_99_method_1_code 1 = .ok (.invokespecial 1, 3) := by decide +kernel
theorem d2_4 : decode prog_99_method_1_code 4 = .ok (.aload_n 0, 1) := by decide +kernel
theorem d2_5 : decode prog_99_method_1_code 5 = .ok (.dload_n 1, 1) := by decide +kernel
theorem d2_6 : decode prog_99_method_1_code 6 = .ok (.putfield 7, 3) := by decide +kernel
theorem d2_9 : decode prog_99_method_1_code 9 = .ok (.aload_n 0, 1) := by decide +kernel
theorem d2_10 : decode prog_99_method_1_code 10 = .ok (.dload_n 3, 1) := by decide +kernel
theorem d2_11 : decode prog_99_method_1_code 11 = .ok (.putfield 13, 3) := by decide +kernel
theorem d2_14 : decode prog_99_method_1_code 14 = .ok (.aload_n 0, 1) := by decide +kernel
theorem d2_15 : decode prog_99_method_1_code 15 = .ok (.dload 5, 2) := by decide +kernel
theorem d2_17 : decode prog_99_method_1_code 17 = .ok (.putfield 16, 3) := by decide +kernel
theorem d2_20 : decode prog_99_method_1_code 20 = .ok (.return_, 1) := by decide +kernel
theorem pn_2 : plainName "com/example/roadstitch/roadstitch/core/Vector3" = true := by first | (simp [plainName, overriddenIn]; done) | decide +kernel
theorem ef_rm2 (m : MethodId) (x0 : Addr) (x1 : UInt64) (x2 : UInt64) (x3 : UInt64) : entryFrame m #[(.ref x0), (.double x1), (.double x2), (.double x3)] 7 = mkF m 0 #[.val (.ref x0), .val (.double x1), .second, .val (.double x2), .second, .val (.double x3), .second] [] := by first | (simp [entryFrame, mkF, argsToLocals, Value.category]; done) | rfl
set_option maxRecDepth 65536 in
set_option maxHeartbeats 40000000 in
theorem rm2 (l : Launch) (Z : State) (a0 : Array Value) (hw : ∀ d ∈ tables_1, d.before a0 Z = true) (ws : List Jvm.Cond) (a1 : Addr) (v0 : UInt64) (v1 : UInt64) (v2 : UInt64) (u0 : Value) (u1 : Value) (u2 : Value) (h0 : Heap) (n0 : Nat) (Z0 : n0 ≤ h0.size) (F0 : Fld Z h0 a1 "com/example/roadstitch/roadstitch/core/Vector3" "x" "D" u0) (F1 : Fld Z h0 a1 "com/example/roadstitch/roadstitch/core/Vector3" "y" "D" u1) (F2 : Fld Z h0 a1 "com/example/roadstitch/roadstitch/core/Vector3" "z" "D" u2) (EA : Exa Z h0 a1 "com/example/roadstitch/roadstitch/core/Vector3") (gea : n0 ≤ a1) :
    MetFree l (⟨"com/example/roadstitch/roadstitch/core/Vector3", "<init>", "(DDD)V"⟩ : MethodName) (head1 (Jvm.Cond.code (⟨"com/example/roadstitch/roadstitch/core/Vector3", "<init>", "(DDD)V"⟩ : MethodName) prog_99_method_1_code 7 none :: ws) ({ frames := 2, cells := 0, slots := 0, locals := 24 } : Room)) (fun a U => a = #[(.ref a1), (.double v0), (.double v1), (.double v2)] ∧ Z.Warmed39 U.vm ∧ U.heap = h0) (fun _ _ _ _ _ => True) (fun _ U o U' => ∃ v L, o = .returned v ∧ (Q2 Z a1 v0 v1 v2 h0 n0) v U'.heap L ∧ FrameEnd U o U' L ({ frames := 2, cells := 0, slots := 0, locals := 24 } : Room).cells ({ frames := 2, cells := 0, slots := 0, locals := 24 } : Room).slots) := by
  refine MetFree.of_bodySF (plainFor_of_name pn_2) hisR ?_
  intro p e s m args below meth c s₁ Bd hml0 hP hK
  obtain ⟨rfl, hZ, hh⟩ := hP
  have hx := Bd.exec
  have hby := Bd.bytes
  have hlk : meth.locks = false := BodyLoose.notSynchronized Bd
  have hml : c.maxLocals = 7 := hml0
  have hown : s.vm.findClass "com/example/roadstitch/roadstitch/core/Vector3" = some m.cls := findClass_of_methodNamed Bd.named
  have hnm := (name_of_methodNamed Bd.named Bd.method).1
  have X0 : Stand p l e ({ frames := 2, cells := 0, slots := 0, locals := 24 } : Room) s m #[(.ref a1), (.double v0), (.double v1), (.double v2)] below meth c s₁ [] 0 0 := Stand.of_body Bd
  have e0 : s₁.heap = h0 := by rw [← hh, Bd.state]; rfl
  have N0 := Fr.nil n0
  show Goes p e below s (Q2 Z a1 v0 v1 v2 h0 n0) ({ frames := 2, cells := 0, slots := 0, locals := 24 } : Room).cells ({ frames := 2, cells := 0, slots := 0, locals := 24 } : Room).slots (s₁.setTop (entryFrame m #[(.ref a1), (.double v0), (.double v1), (.double v2)] 7))
  refine Goes.by (fun t k => castTop (ef_rm2 m a1 v0 v1 v2) k) ?_
  show Goes p e below s _ _ _ (s₁.setTop (mkF m 0 #[.val (.ref a1), .val (.double v0), .second, .val (.double v1), .second, .val (.double v2), .second] []))
  have KC0 : Keep h0 h0 [a1] := Keep.refl _ _
  refine Goes.by (fun t k => XS.aloadN X0.here hx rfl (hb hby d2_0) rfl rfl k) ?_
  show Goes p e below s _ _ _ (s₁.setTop (mkF m 1 #[.val (.ref a1), .val (.double v0), .second, .val (.double v1), .second, .val (.double v2), .second] [(.ref a1)]))
  obtain ⟨_, _, ⟨T1, L1, k1, n1⟩, -, X1, ⟨Lc1, hQ1, l1, y1, z1⟩, st1⟩ := X0.specialBack hx (y := (⟨"java/lang/Record", "<init>", "()V"⟩ : MethodName)) rfl hown (mvT hZ (hw _ (List.mem_of_getElem? (i := 10) rfl))) (mvT hZ (hw _ (List.mem_of_getElem? (i := 11) rfl))) (mvT hZ (hw _ (List.mem_of_getElem? (i := 14) rfl))) (by decide) (backOf (W := 0) (rm3 l Z a0 hw [] a1 h0 n0 Z0) hZ (hw _ (List.mem_of_getElem? (i := 14) rfl)) (hw _ (List.mem_of_getElem? (i := 13) rfl)) (by decide) (by decide)) (g := (mkF m 1 #[.val (.ref a1), .val (.double v0), .second, .val (.double v1), .second, .val (.double v2), .second] [(.ref a1)])) rfl (by rw [hml]; rfl) (Steps.refl _) (a := a1) (argsL := []) (rest := []) (lenOf pd_0 rfl) rfl (by show 2 * 0 + _ ≤ _; exact Nat.le_of_eq rfl) (hb hby d2_1) (fun _ _ => ⟨rfl, e0, (by decide : 0 + 0 ≤ _), (by decide : 0 + 0 ≤ _)⟩)
  dsimp only [Pt.U, Pt.locs, Pt.cells, Pt.slots] at X1 l1 y1 z1 st1 hQ1
  subst l1 y1 z1
  obtain ⟨rfl, N1q, hh1⟩ := hQ1
  have N1 := Fr.app N0 N1q
  refine Goes.by (fun t k => st1.trans k) ?_
  show Goes p e below s _ _ _ (T1.setTop (mkF m 4 #[.val (.ref a1), .val (.double v0), .second, .val (.double v1), .second, .val (.double v2), .second] []))
  have eS : T1.heap = h0 := hh1
  refine Goes.by (fun t k => XS.aloadN X1.here hx rfl (hb hby d2_4) rfl rfl k) ?_
  show Goes p e below s _ _ _ (T1.setTop (mkF m 5 #[.val (.ref a1), .val (.double v0), .second, .val (.double v1), .second, .val (.double v2), .second] [(.ref a1)]))
  refine Goes.by (fun t k => XS.dloadN X1.here hx rfl (hb hby d2_5) rfl k) ?_
  show Goes p e below s _ _ _ (T1.setTop (mkF m 6 #[.val (.ref a1), .val (.double v0), .second, .val (.double v1), .second, .val (.double v2), .second] [(.double v0), (.ref a1)]))
  obtain ⟨T2, h2, X2, e2, W2, st2⟩ := putF X1 hx hZ hown (host := "") (Or.inl (hw _ (List.mem_of_getElem? (i := 18) rfl))) Via.refl eS (F0) (EA) (Or.inr ⟨(hw _ (List.mem_of_getElem? (i := 19) rfl)), rfl, hnm⟩) (hw _ (List.mem_of_getElem? (i := 5) rfl)) (ty := .double) (by decide) rfl rfl (g := (mkF m 6 #[.val (.ref a1), .val (.double v0), .second, .val (.double v1), .second, .val (.double v2), .second] [(.double v0), (.ref a1)])) rfl rfl (hb hby d2_6)
  refine Goes.by (fun t k => st2 t k) ?_
  have N2 := Fr.snoc X2 N1 (gea)
  show Goes p e below s _ _ _ (T2.setTop (mkF m 9 #[.val (.ref a1), .val (.double v0), .second, .val (.double v1), .second, .val (.double v2), .second] []))
  have f1 := KC0.wr W2 (Or.inl (List.mem_of_getElem? (i := 0) rfl))
  have f2 := Nat.le_trans Z0 (Keep.of_wr W2).1
  have f3 := F0.same W2
  have f4 := F1.other W2 (Or.inr (slot_ne (Or.inr (hw _ (List.mem_of_getElem? (i := 21) rfl))) (Or.inr (hw _ (List.mem_of_getElem? (i := 19) rfl))) (by decide) (t := .double) (t' := .double) (by decide) (by decide)))
  have f5 := F2.other W2 (Or.inr (slot_ne (Or.inr (hw _ (List.mem_of_getElem? (i := 23) rfl))) (Or.inr (hw _ (List.mem_of_getElem? (i := 19) rfl))) (by decide) (t := .double) (t' := .double) (by decide) (by decide)))
  have f6 := EA.wr W2
  refine Goes.by (fun t k => XS.aloadN X2.here hx rfl (hb hby d2_9) rfl rfl k) ?_
  show Goes p e below s _ _ _ (T2.setTop (mkF m 10 #[.val (.ref a1), .val (.double v0), .second, .val (.double v1), .second, .val (.double v2), .second] [(.ref a1)]))
  refine Goes.by (fun t k => XS.dloadN X2.here hx rfl (hb hby d2_10) rfl k) ?_
  show Goes p e below s _ _ _ (T2.setTop (mkF m 11 #[.val (.ref a1), .val (.double v0), .second, .val (.double v1), .second, .val (.double v2), .second] [(.double v1), (.ref a1)]))
  obtain ⟨T3, h3, X3, e3, W3, st3⟩ := putF X2 hx hZ hown (host := "") (Or.inl (hw _ (List.mem_of_getElem? (i := 20) rfl))) Via.refl e2 (f4) (f6) (Or.inr ⟨(hw _ (List.mem_of_getElem? (i := 21) rfl)), rfl, hnm⟩) (hw _ (List.mem_of_getElem? (i := 5) rfl)) (ty := .double) (by decide) rfl rfl (g := (mkF m 11 #[.val (.ref a1), .val (.double v0), .second, .val (.double v1), .second, .val (.double v2), .second] [(.double v1), (.ref a1)])) rfl rfl (hb hby d2_11)
  refine Goes.by (fun t k => st3 t k) ?_
  have N3 := Fr.snoc X3 N2 (gea)
  show Goes p e below s _ _ _ (T3.setTop (mkF m 14 #[.val (.ref a1), .val (.double v0), .second, .val (.double v1), .second, .val (.double v2), .second] []))
  have f7 := f1.wr W3 (Or.inl (List.mem_of_getElem? (i := 0) rfl))
  have f8 := Nat.le_trans f2 (Keep.of_wr W3).1
  have f9 := f3.other W3 (Or.inr (slot_ne (Or.inr (hw _ (List.mem_of_getElem? (i := 19) rfl))) (Or.inr (hw _ (List.mem_of_getElem? (i := 21) rfl))) (by decide) (t := .double) (t' := .double) (by decide) (by decide)))
  have f10 := f4.same W3
  have f11 := f5.other W3 (Or.inr (slot_ne (Or.inr (hw _ (List.mem_of_getElem? (i := 23) rfl))) (Or.inr (hw _ (List.mem_of_getElem? (i := 21) rfl))) (by decide) (t := .double) (t' := .double) (by decide) (by decide)))
  have f12 := f6.wr W3
  refine Goes.by (fun t k => XS.aloadN X3.here hx rfl (hb hby d2_14) rfl rfl k) ?_
  show Goes p e below s _ _ _ (T3.setTop (mkF m 15 #[.val (.ref a1), .val (.double v0), .second, .val (.double v1), .second, .val (.double v2), .second] [(.ref a1)]))
  refine Goes.by (fun t k => XS.dload X3.here hx rfl (hb hby d2_15) rfl k) ?_
  show Goes p e below s _ _ _ (T3.setTop (mkF m 17 #[.val (.ref a1), .val (.double v0), .second, .val (.double v1), .second, .val (.double v2), .second] [(.double v2), (.ref a1)]))
  obtain ⟨T4, h4, X4, e4, W4, st4⟩ := putF X3 hx hZ hown (host := "") (Or.inl (hw _ (List.mem_of_getElem? (i := 22) rfl))) Via.refl e3 (f11) (f12) (Or.inr ⟨(hw _ (List.mem_of_getElem? (i := 23) rfl)), rfl, hnm⟩) (hw _ (List.mem_of_getElem? (i := 5) rfl)) (ty := .double) (by decide) rfl rfl (g := (mkF m 17 #[.val (.ref a1), .val (.double v0), .second, .val (.double v1), .second, .val (.double v2), .second] [(.double v2), (.ref a1)])) rfl rfl (hb hby d2_17)
  refine Goes.by (fun t k => st4 t k) ?_
  have N4 := Fr.snoc X4 N3 (gea)
  show Goes p e below s _ _ _ (T4.setTop (mkF m 20 #[.val (.ref a1), .val (.double v0), .second, .val (.double v1), .second, .val (.double v2), .second] []))
  have f13 := f7.wr W4 (Or.inl (List.mem_of_getElem? (i := 0) rfl))
  have f14 := Nat.le_trans f8 (Keep.of_wr W4).1
  have f15 := f9.other W4 (Or.inr (slot_ne (Or.inr (hw _ (List.mem_of_getElem? (i := 19) rfl))) (Or.inr (hw _ (List.mem_of_getElem? (i := 23) rfl))) (by decide) (t := .double) (t' := .double) (by decide) (by decide)))
  have f16 := f10.other W4 (Or.inr (slot_ne (Or.inr (hw _ (List.mem_of_getElem? (i := 21) rfl))) (Or.inr (hw _ (List.mem_of_getElem? (i := 23) rfl))) (by decide) (t := .double) (t' := .double) (by decide) (by decide)))
  have f17 := f11.same W4
  have f18 := f12.wr W4
  exact Goes.retV X4 hx Bd.returns (hb hby d2_20) hlk (by rw [e4]; exact ⟨rfl, N4, f13, f18, f15, f16, f17⟩) (by decide) (by decide)
def Q5 (r : UInt64) (h0 : Heap) (n0 : Nat) (v : Option Value) (h : Heap) (L : List Loc) : Prop := v = some (.double r) ∧ Fr n0 L ∧ h = h0
theorem d5_0 : decode prog_99_method_2_code 0 = .ok (.aload_n 0, 1) := by decide +kernel
theorem d5_1 : decode prog_99_method_2_code 1 = .ok (.getfield 7, 3) := by decide +kernel
theorem d5_4 : decode prog_99_method_2_code 4 = .ok (.aload_n 1, 1) := by decide +kernel
theorem d5_5 : decode prog_99_method_2_code 5 = .ok (.getfield 7, 3) := by decide +kernel
theorem d5_8 : decode prog_99_method_2_code 8 = .ok (.dmul, 1) := by decide +kernel
theorem d5_9 : decode prog_99_method_2_code 9 = .ok (.aload_n 0, 1) := by decide +kernel
theorem d5_10 : decode prog_99_method_2_code 10 = .ok (.getfield 13, 3) := by decide +kernel
theorem d5_13 : decode prog_99_method_2_code 13 = .ok (.aload_n 1, 1) := by decide +kernel
theorem d5_14 : decode prog_99_method_2_code 14 = .ok (.getfield 13, 3) := by decide +kernel
theorem d5_17 : decode prog_99_method_2_code 17 = .ok (.dmul, 1) := by decide +kernel
theorem d5_18 : decode prog_99_method_2_code 18 = .ok (.dadd, 1) := by decide +kernel
theorem d5_19 : decode prog_99_method_2_code 19 = .ok (.aload_n 0, 1) := by decide +kernel
theorem d5_20 : decode prog_99_method_2_code 20 = .ok (.getfield 16, 3) := by decide +kernel
theorem d5_23 : decode prog_99_method_2_code 23 = .ok (.aload_n 1, 1) := by decide +kernel
theorem d5_24 : decode prog_99_method_2_code 24 = .ok (.getfield 16, 3) := by decide +kernel
theorem d5_27 : decode prog_99_method_2_code 27 = .ok (.dmul, 1) := by decide +kernel
theorem d5_28 : decode prog_99_method_2_code 28 = .ok (.dadd, 1) := by decide +kernel
theorem d5_29 : decode prog_99_method_2_code 29 = .ok (.dreturn, 1) := by decide +kernel
theorem ef_rm5 (m : MethodId) (x0 : Addr) (x1 : Addr) : entryFrame m #[(.ref x0), (.ref x1)] 2 = mkF m 0 #[.val (.ref x0), .val (.ref x1)] [] := by first | (simp [entryFrame, mkF, argsToLocals, Value.category]; done) | rfl
set_option maxRecDepth 65536 in
set_option maxHeartbeats 40000000 in
theorem rm5 (l : Launch) (Z : State) (a0 : Array Value) (hw : ∀ d ∈ tables_1, d.before a0 Z = true) (ws : List Jvm.Cond) (a1 a2 : Addr) (u1 u2 u3 v1 v2 v3 : Int64) (m1 m2 m3 s1 r : UInt64) (h0 : Heap) (n0 : Nat) (Z0 : n0 ≤ h0.size) (Fu1 : Fld Z h0 a1 "com/example/roadstitch/roadstitch/core/Vector3" "x" "D" (.double (FP.l2d u1))) (Fu2 : Fld Z h0 a1 "com/example/roadstitch/roadstitch/core/Vector3" "y" "D" (.double (FP.l2d u2))) (Fu3 : Fld Z h0 a1 "com/example/roadstitch/roadstitch/core/Vector3" "z" "D" (.double (FP.l2d u3))) (Fv1 : Fld Z h0 a2 "com/example/roadstitch/roadstitch/core/Vector3" "x" "D" (.double (FP.l2d v1))) (Fv2 : Fld Z h0 a2 "com/example/roadstitch/roadstitch/core/Vector3" "y" "D" (.double (FP.l2d v2))) (Fv3 : Fld Z h0 a2 "com/example/roadstitch/roadstitch/core/Vector3" "z" "D" (.double (FP.l2d v3))) (h1 : FP.dmul (FP.l2d u1) (FP.l2d v1) = m1) (h2 : FP.dmul (FP.l2d u2) (FP.l2d v2) = m2) (h3 : FP.dmul (FP.l2d u3) (FP.l2d v3) = m3) (h4 : FP.dadd m1 m2 = s1) (h5 : FP.dadd s1 m3 = r) (n1 : Jvm.Free.Fl.NoNaN64 m1) (n2 : Jvm.Free.Fl.NoNaN64 m2) (n3 : Jvm.Free.Fl.NoNaN64 m3) (n4 : Jvm.Free.Fl.NoNaN64 s1) (n5 : Jvm.Free.Fl.NoNaN64 r) :
    MetFree l (⟨"com/example/roadstitch/roadstitch/core/Vector3", "dot", "(Lcom/example/roadstitch/roadstitch/core/Vector3;)D"⟩ : MethodName) (head1 (Jvm.Cond.code (⟨"com/example/roadstitch/roadstitch/core/Vector3", "dot", "(Lcom/example/roadstitch/roadstitch/core/Vector3;)D"⟩ : MethodName) prog_99_method_2_code 2 (some .double) :: ws) ({ frames := 0, cells := 0, slots := 0, locals := 0 } : Room)) (fun a U => a = #[(.ref a1), (.ref a2)] ∧ Z.Warmed39 U.vm ∧ U.heap = h0) (fun _ _ _ _ _ => True) (fun _ U o U' => ∃ v L, o = .returned v ∧ (Q5 r h0 n0) v U'.heap L ∧ FrameEnd U o U' L ({ frames := 0, cells := 0, slots := 0, locals := 0 } : Room).cells ({ frames := 0, cells := 0, slots := 0, locals := 0 } : Room).slots) := by
  refine MetFree.of_bodySF (plainFor_of_name pn_2) hisR ?_
  intro p e s m args below meth c s₁ Bd hml0 hP hK
  obtain ⟨rfl, hZ, hh⟩ := hP
  have hx := Bd.exec
  have hby := Bd.bytes
  have hlk : meth.locks = false := BodyLoose.notSynchronized Bd
  have hml : c.maxLocals = 2 := hml0
  have hown : s.vm.findClass "com/example/roadstitch/roadstitch/core/Vector3" = some m.cls := findClass_of_methodNamed Bd.named
  have hnm := (name_of_methodNamed Bd.named Bd.method).1
  have X0 : Stand p l e ({ frames := 0, cells := 0, slots := 0, locals := 0 } : Room) s m #[(.ref a1), (.ref a2)] below meth c s₁ [] 0 0 := Stand.of_body Bd
  have e0 : s₁.heap = h0 := by rw [← hh, Bd.state]; rfl
  have N0 := Fr.nil n0
  show Goes p e below s (Q5 r h0 n0) ({ frames := 0, cells := 0, slots := 0, locals := 0 } : Room).cells ({ frames := 0, cells := 0, slots := 0, locals := 0 } : Room).slots (s₁.setTop (entryFrame m #[(.ref a1), (.ref a2)] 2))
  refine Goes.by (fun t k => castTop (ef_rm5 m a1 a2) k) ?_
  show Goes p e below s _ _ _ (s₁.setTop (mkF m 0 #[.val (.ref a1), .val (.ref a2)] []))
  refine Goes.by (fun t k => XS.aloadN X0.here hx rfl (hb hby d5_0) rfl rfl k) ?_
  show Goes p e below s _ _ _ (s₁.setTop (mkF m 1 #[.val (.ref a1), .val (.ref a2)] [(.ref a1)]))
  obtain ⟨T1, X1, e1, st1⟩ := getF X0 hx hZ hown (host := "") (Or.inl (hw _ (List.mem_of_getElem? (i := 18) rfl))) Via.refl e0 (Fu1) (g := (mkF m 1 #[.val (.ref a1), .val (.ref a2)] [(.ref a1)])) rfl rfl (hb hby d5_1)
  refine Goes.by (fun t k => st1 t k) ?_
  show Goes p e below s _ _ _ (T1.setTop (mkF m 4 #[.val (.ref a1), .val (.ref a2)] [(.double (FP.l2d u1))]))
  refine Goes.by (fun t k => XS.aloadN X1.here hx rfl (hb hby d5_4) rfl rfl k) ?_
  show Goes p e below s _ _ _ (T1.setTop (mkF m 5 #[.val (.ref a1), .val (.ref a2)] [(.ref a2), (.double (FP.l2d u1))]))
  obtain ⟨T2, X2, e2, st2⟩ := getF X1 hx hZ hown (host := "") (Or.inl (hw _ (List.mem_of_getElem? (i := 18) rfl))) Via.refl e1 (Fv1) (g := (mkF m 5 #[.val (.ref a1), .val (.ref a2)] [(.ref a2), (.double (FP.l2d u1))])) rfl rfl (hb hby d5_5)
  refine Goes.by (fun t k => st2 t k) ?_
  show Goes p e below s _ _ _ (T2.setTop (mkF m 8 #[.val (.ref a1), .val (.ref a2)] [(.double (FP.l2d v1)), (.double (FP.l2d u1))]))
  refine Goes.by (fun t k => XS.dmulS X2.here hx rfl (hb hby d5_8) rfl (h1.symm ▸ n1) (h1) k) ?_
  show Goes p e below s _ _ _ (T2.setTop (mkF m 9 #[.val (.ref a1), .val (.ref a2)] [(.double m1)]))
  refine Goes.by (fun t k => XS.aloadN X2.here hx rfl (hb hby d5_9) rfl rfl k) ?_
  show Goes p e below s _ _ _ (T2.setTop (mkF m 10 #[.val (.ref a1), .val (.ref a2)] [(.ref a1), (.double m1)]))
  obtain ⟨T3, X3, e3, st3⟩ := getF X2 hx hZ hown (host := "") (Or.inl (hw _ (List.mem_of_getElem? (i := 20) rfl))) Via.refl e2 (Fu2) (g := (mkF m 10 #[.val (.ref a1), .val (.ref a2)] [(.ref a1), (.double m1)])) rfl rfl (hb hby d5_10)
  refine Goes.by (fun t k => st3 t k) ?_
  show Goes p e below s _ _ _ (T3.setTop (mkF m 13 #[.val (.ref a1), .val (.ref a2)] [(.double (FP.l2d u2)), (.double m1)]))
  refine Goes.by (fun t k => XS.aloadN X3.here hx rfl (hb hby d5_13) rfl rfl k) ?_
  show Goes p e below s _ _ _ (T3.setTop (mkF m 14 #[.val (.ref a1), .val (.ref a2)] [(.ref a2), (.double (FP.l2d u2)), (.double m1)]))
  obtain ⟨T4, X4, e4, st4⟩ := getF X3 hx hZ hown (host := "") (Or.inl (hw _ (List.mem_of_getElem? (i := 20) rfl))) Via.refl e3 (Fv2) (g := (mkF m 14 #[.val (.ref a1), .val (.ref a2)] [(.ref a2), (.double (FP.l2d u2)), (.double m1)])) rfl rfl (hb hby d5_14)
  refine Goes.by (fun t k => st4 t k) ?_
  show Goes p e below s _ _ _ (T4.setTop (mkF m 17 #[.val (.ref a1), .val (.ref a2)] [(.double (FP.l2d v2)), (.double (FP.l2d u2)), (.double m1)]))
  refine Goes.by (fun t k => XS.dmulS X4.here hx rfl (hb hby d5_17) rfl (h2.symm ▸ n2) (h2) k) ?_
  show Goes p e below s _ _ _ (T4.setTop (mkF m 18 #[.val (.ref a1), .val (.ref a2)] [(.double m2), (.double m1)]))
  refine Goes.by (fun t k => XS.daddS X4.here hx rfl (hb hby d5_18) rfl (h4.symm ▸ n4) (h4) k) ?_
  show Goes p e below s _ _ _ (T4.setTop (mkF m 19 #[.val (.ref a1), .val (.ref a2)] [(.double s1)]))
  refine Goes.by (fun t k => XS.aloadN X4.here hx rfl (hb hby d5_19) rfl rfl k) ?_
  show Goes p e below s _ _ _ (T4.setTop (mkF m 20 #[.val (.ref a1), .val (.ref a2)] [(.ref a1), (.double s1)]))
  obtain ⟨T5, X5, e5, st5⟩ := getF X4 hx hZ hown (host := "") (Or.inl (hw _ (List.mem_of_getElem? (i := 22) rfl))) Via.refl e4 (Fu3) (g := (mkF m 20 #[.val (.ref a1), .val (.ref a2)] [(.ref a1), (.double s1)])) rfl rfl (hb hby d5_20)
  refine Goes.by (fun t k => st5 t k) ?_
  show Goes p e below s _ _ _ (T5.setTop (mkF m 23 #[.val (.ref a1), .val (.ref a2)] [(.double (FP.l2d u3)), (.double s1)]))
  refine Goes.by (fun t k => XS.aloadN X5.here hx rfl (hb hby d5_23) rfl rfl k) ?_
  show Goes p e below s _ _ _ (T5.setTop (mkF m 24 #[.val (.ref a1), .val (.ref a2)] [(.ref a2), (.double (FP.l2d u3)), (.double s1)]))
  obtain ⟨T6, X6, e6, st6⟩ := getF X5 hx hZ hown (host := "") (Or.inl (hw _ (List.mem_of_getElem? (i := 22) rfl))) Via.refl e5 (Fv3) (g := (mkF m 24 #[.val (.ref a1), .val (.ref a2)] [(.ref a2), (.double (FP.l2d u3)), (.double s1)])) rfl rfl (hb hby d5_24)
  refine Goes.by (fun t k => st6 t k) ?_
  show Goes p e below s _ _ _ (T6.setTop (mkF m 27 #[.val (.ref a1), .val (.ref a2)] [(.double (FP.l2d v3)), (.double (FP.l2d u3)), (.double s1)]))
  refine Goes.by (fun t k => XS.dmulS X6.here hx rfl (hb hby d5_27) rfl (h3.symm ▸ n3) (h3) k) ?_
  show Goes p e below s _ _ _ (T6.setTop (mkF m 28 #[.val (.ref a1), .val (.ref a2)] [(.double m3), (.double s1)]))
  refine Goes.by (fun t k => XS.daddS X6.here hx rfl (hb hby d5_28) rfl (h5.symm ▸ n5) (h5) k) ?_
  show Goes p e below s _ _ _ (T6.setTop (mkF m 29 #[.val (.ref a1), .val (.ref a2)] [(.double r)]))
  exact Goes.retD X6 hx Bd.returns trivial (hb hby d5_29) hlk (by rw [e6]; exact ⟨rfl, N0, rfl⟩) (by decide) (by decide)
def Q0 (n0 : Nat) (v : Option Value) (h : Heap) (L : List Loc) : Prop := v = some (.int 1) ∧ Fr n0 L
theorem ef_rm0 (m : MethodId) (x0 : Int32) (x1 : Int32) (x2 : Int32) (x3 : Int32) (x4 : Int32) (x5 : Int32) : entryFrame m #[(.int x0), (.int x1), (.int x2), (.int x3), (.int x4), (.int x5)] maxLocals = mkF m 0 #[.val (.int x0), .val (.int x1), .val (.int x2), .val (.int x3), .val (.int x4), .val (.int x5), .unset, .unset, .unset, .unset, .unset, .unset, .unset, .unset, .unset, .unset, .unset, .unset, .unset, .unset, .unset, .unset] [] := by first | (simp [entryFrame, mkF, argsToLocals, Value.category, maxLocals]; done) | rfl
set_option maxRecDepth 65536 in
set_option maxHeartbeats 40000000 in
theorem rm0 (l : Launch) (Z : State) (a0 : Array Value) (hw : ∀ d ∈ tables_1, d.before a0 Z = true) (ws : List Jvm.Cond) (p0 p1 p2 p3 p4 p5 : Int32) (h0 : Heap) (n0 : Nat) (Z0 : n0 ≤ h0.size)  :
    MetFree l x (head1 (Jvm.Cond.code x code maxLocals ret :: ws) room_1) (fun a U => a = #[(.int p0), (.int p1), (.int p2), (.int p3), (.int p4), (.int p5)] ∧ Z.Warmed39 U.vm ∧ U.heap = h0) (fun _ _ _ _ _ => True) (fun _ U o U' => ∃ v L, o = .returned v ∧ (Q0 n0) v U'.heap L ∧ FrameEnd U o U' L room_1.cells room_1.slots) := by
  refine MetFree.of_bodySF (plainFor_of_name pn_0) hisR ?_
  intro p e s m args below meth c s₁ Bd hml0 hP hK
  obtain ⟨rfl, hZ, hh⟩ := hP
  have hx := Bd.exec
  have hby := Bd.bytes
  have hlk : meth.locks = false := BodyLoose.notSynchronized Bd
  have hml : c.maxLocals = 22 := hml0
  have hown : s.vm.findClass "com/example/roadstitch/roadstitch/core/Vector3DotPinLaw" = some m.cls := findClass_of_methodNamed Bd.named
  have hnm := (name_of_methodNamed Bd.named Bd.method).1
  have X0 : Stand p l e room_1 s m #[(.int p0), (.int p1), (.int p2), (.int p3), (.int p4), (.int p5)] below meth c s₁ [] 0 0 := Stand.of_body Bd
  have e0 : s₁.heap = h0 := by rw [← hh, Bd.state]; rfl
  have N0 := Fr.nil n0
  show Goes p e below s (Q0 n0) room_1.cells room_1.slots (s₁.setTop (entryFrame m #[(.int p0), (.int p1), (.int p2), (.int p3), (.int p4), (.int p5)] maxLocals))
  refine Goes.by (fun t k => castTop (ef_rm0 m p0 p1 p2 p3 p4 p5) k) ?_
  show Goes p e below s _ _ _ (s₁.setTop (mkF m 0 #[.val (.int p0), .val (.int p1), .val (.int p2), .val (.int p3), .val (.int p4), .val (.int p5), .unset, .unset, .unset, .unset, .unset, .unset, .unset, .unset, .unset, .unset, .unset, .unset, .unset, .unset, .unset, .unset] []))
  obtain ⟨u1, hu1⟩ : ∃ z, z = ((p0 <<< ((12 : Int32) &&& 31)) >>> ((12 : Int32) &&& 31)).toInt64 := ⟨_, rfl⟩
  have bu1 := own_s p0
  rw [← hu1] at bu1
  show Goes p e below s _ _ _ (s₁.setTop (mkF m 0 #[.val (.int p0), .val (.int p1), .val (.int p2), .val (.int p3), .val (.int p4), .val (.int p5), .unset, .unset, .unset, .unset, .unset, .unset, .unset, .unset, .unset, .unset, .unset, .unset, .unset, .unset, .unset, .unset] []))
  refine Goes.by (fun t k => XS.iloadN X0.here hx rfl (hb hby at_0) rfl k) ?_
  show Goes p e below s _ _ _ (s₁.setTop (mkF m 1 #[.val (.int p0), .val (.int p1), .val (.int p2), .val (.int p3), .val (.int p4), .val (.int p5), .unset, .unset, .unset, .unset, .unset, .unset, .unset, .unset, .unset, .unset, .unset, .unset, .unset, .unset, .unset, .unset] [(.int p0)]))
  obtain ⟨_, _, ⟨T1, L1, k1, n1⟩, -, X1, ⟨Lc1, hQ1, l1, y1, z1⟩, st1⟩ := Jvm.LawKit.callS X0 hx (y := (⟨"com/example/roadstitch/roadstitch/core/Vector3DotPinLaw", "s", "(I)J"⟩ : MethodName)) hown (mvT hZ (hw _ (List.mem_of_getElem? (i := 0) rfl))) (mvT hZ (hw _ (List.mem_of_getElem? (i := 1) rfl))) (mvT hZ (hw _ (List.mem_of_getElem? (i := 2) rfl))) (mvT hZ (hw _ (List.mem_of_getElem? (i := 3) rfl))) (by decide) (backOf (W := 0) (rm1 l Z a0 hw [] p0 u1 _ n0 Z0 hu1) hZ (hw _ (List.mem_of_getElem? (i := 3) rfl)) (hw _ (List.mem_of_getElem? (i := 2) rfl)) (by decide) (by decide)) (g := (mkF m 1 #[.val (.int p0), .val (.int p1), .val (.int p2), .val (.int p3), .val (.int p4), .val (.int p5), .unset, .unset, .unset, .unset, .unset, .unset, .unset, .unset, .unset, .unset, .unset, .unset, .unset, .unset, .unset, .unset] [(.int p0)])) rfl (by rw [hml]; rfl) (argsL := [(.int p0)]) (rest := []) (lenOf pd_1 rfl) rfl (by show 2 * 0 + _ ≤ _; exact Nat.le_of_eq rfl) (hb hby at_1) (fun _ _ => ⟨rfl, e0, (by decide : 0 + 0 ≤ _), (by decide : 0 + 0 ≤ _)⟩)
  dsimp only [Pt.U, Pt.locs, Pt.cells, Pt.slots] at X1 l1 y1 z1 st1 hQ1
  subst l1 y1 z1
  obtain ⟨rfl, N1q, hh1⟩ := hQ1
  have N1 := Fr.app N0 N1q
  refine Goes.by (fun t k => st1 _ k) ?_
  show Goes p e below s _ _ _ (T1.setTop (mkF m 4 #[.val (.int p0), .val (.int p1), .val (.int p2), .val (.int p3), .val (.int p4), .val (.int p5), .unset, .unset, .unset, .unset, .unset, .unset, .unset, .unset, .unset, .unset, .unset, .unset, .unset, .unset, .unset, .unset] [(.long u1)]))
  have KK1 : Keep (h0) T1.heap [] := by rw [hh1]; exact Keep.refl _ _
  have e1 : T1.heap = _ := hh1
  have f1 := Nat.le_trans Z0 KK1.1
  obtain ⟨u2, hu2⟩ : ∃ z, z = ((p1 <<< ((12 : Int32) &&& 31)) >>> ((12 : Int32) &&& 31)).toInt64 := ⟨_, rfl⟩
  have bu2 := own_s p1
  rw [← hu2] at bu2
  show Goes p e below s _ _ _ (T1.setTop (mkF m 4 #[.val (.int p0), .val (.int p1), .val (.int p2), .val (.int p3), .val (.int p4), .val (.int p5), .unset, .unset, .unset, .unset, .unset, .unset, .unset, .unset, .unset, .unset, .unset, .unset, .unset, .unset, .unset, .unset] [(.long u1)]))
  refine Goes.by (fun t k => XS.lstore X1.here hx rfl (hb hby at_4) rfl (l' := #[.val (.int p0), .val (.int p1), .val (.int p2), .val (.int p3), .val (.int p4), .val (.int p5), .val (.long u1), .second, .unset, .unset, .unset, .unset, .unset, .unset, .unset, .unset, .unset, .unset, .unset, .unset, .unset, .unset]) rfl k) ?_
  show Goes p e below s _ _ _ (T1.setTop (mkF m 6 #[.val (.int p0), .val (.int p1), .val (.int p2), .val (.int p3), .val (.int p4), .val (.int p5), .val (.long u1), .second, .unset, .unset, .unset, .unset, .unset, .unset, .unset, .unset, .unset, .unset, .unset, .unset, .unset, .unset] []))
  refine Goes.by (fun t k => XS.iloadN X1.here hx rfl (hb hby at_6) rfl k) ?_
  show Goes p e below s _ _ _ (T1.setTop (mkF m 7 #[.val (.int p0), .val (.int p1), .val (.int p2), .val (.int p3), .val (.int p4), .val (.int p5), .val (.long u1), .second, .unset, .unset, .unset, .unset, .unset, .unset, .unset, .unset, .unset, .unset, .unset, .unset, .unset, .unset] [(.int p1)]))
  obtain ⟨_, _, ⟨T2, L2, k2, n2⟩, -, X2, ⟨Lc2, hQ2, l2, y2, z2⟩, st2⟩ := Jvm.LawKit.callS X1 hx (y := (⟨"com/example/roadstitch/roadstitch/core/Vector3DotPinLaw", "s", "(I)J"⟩ : MethodName)) hown (mvT hZ (hw _ (List.mem_of_getElem? (i := 0) rfl))) (mvT hZ (hw _ (List.mem_of_getElem? (i := 1) rfl))) (mvT hZ (hw _ (List.mem_of_getElem? (i := 2) rfl))) (mvT hZ (hw _ (List.mem_of_getElem? (i := 3) rfl))) (by decide) (backOf (W := 0) (rm1 l Z a0 hw [] p1 u2 _ n0 f1 hu2) hZ (hw _ (List.mem_of_getElem? (i := 3) rfl)) (hw _ (List.mem_of_getElem? (i := 2) rfl)) (by decide) (by decide)) (g := (mkF m 7 #[.val (.int p0), .val (.int p1), .val (.int p2), .val (.int p3), .val (.int p4), .val (.int p5), .val (.long u1), .second, .unset, .unset, .unset, .unset, .unset, .unset, .unset, .unset, .unset, .unset, .unset, .unset, .unset, .unset] [(.int p1)])) rfl (by rw [hml]; rfl) (argsL := [(.int p1)]) (rest := []) (lenOf pd_1 rfl) rfl (by show 2 * 0 + _ ≤ _; exact Nat.le_of_eq rfl) (hb hby at_7) (fun _ _ => ⟨rfl, rfl, (by decide : 0 + 0 ≤ _), (by decide : 0 + 0 ≤ _)⟩)
  dsimp only [Pt.U, Pt.locs, Pt.cells, Pt.slots] at X2 l2 y2 z2 st2 hQ2
  subst l2 y2 z2
  obtain ⟨rfl, N2q, hh2⟩ := hQ2
  have N2 := Fr.app N1 N2q
  refine Goes.by (fun t k => st2 _ k) ?_
  show Goes p e below s _ _ _ (T2.setTop (mkF m 10 #[.val (.int p0), .val (.int p1), .val (.int p2), .val (.int p3), .val (.int p4), .val (.int p5), .val (.long u1), .second, .unset, .unset, .unset, .unset, .unset, .unset, .unset, .unset, .unset, .unset, .unset, .unset, .unset, .unset] [(.long u2)]))
  have KK2 : Keep (T1.heap) T2.heap [] := by rw [hh2]; exact Keep.refl _ _
  have e2 : T2.heap = _ := hh2
  have f2 := Nat.le_trans f1 KK2.1
  obtain ⟨u3, hu3⟩ : ∃ z, z = ((p2 <<< ((12 : Int32) &&& 31)) >>> ((12 : Int32) &&& 31)).toInt64 := ⟨_, rfl⟩
  have bu3 := own_s p2
  rw [← hu3] at bu3
  show Goes p e below s _ _ _ (T2.setTop (mkF m 10 #[.val (.int p0), .val (.int p1), .val (.int p2), .val (.int p3), .val (.int p4), .val (.int p5), .val (.long u1), .second, .unset, .unset, .unset, .unset, .unset, .unset, .unset, .unset, .unset, .unset, .unset, .unset, .unset, .unset] [(.long u2)]))
  refine Goes.by (fun t k => XS.lstore X2.here hx rfl (hb hby at_10) rfl (l' := #[.val (.int p0), .val (.int p1), .val (.int p2), .val (.int p3), .val (.int p4), .val (.int p5), .val (.long u1), .second, .val (.long u2), .second, .unset, .unset, .unset, .unset, .unset, .unset, .unset, .unset, .unset, .unset, .unset, .unset]) rfl k) ?_
  show Goes p e below s _ _ _ (T2.setTop (mkF m 12 #[.val (.int p0), .val (.int p1), .val (.int p2), .val (.int p3), .val (.int p4), .val (.int p5), .val (.long u1), .second, .val (.long u2), .second, .unset, .unset, .unset, .unset, .unset, .unset, .unset, .unset, .unset, .unset, .unset, .unset] []))
  refine Goes.by (fun t k => XS.iloadN X2.here hx rfl (hb hby at_12) rfl k) ?_
  show Goes p e below s _ _ _ (T2.setTop (mkF m 13 #[.val (.int p0), .val (.int p1), .val (.int p2), .val (.int p3), .val (.int p4), .val (.int p5), .val (.long u1), .second, .val (.long u2), .second, .unset, .unset, .unset, .unset, .unset, .unset, .unset, .unset, .unset, .unset, .unset, .unset] [(.int p2)]))
  obtain ⟨_, _, ⟨T3, L3, k3, n3⟩, -, X3, ⟨Lc3, hQ3, l3, y3, z3⟩, st3⟩ := Jvm.LawKit.callS X2 hx (y := (⟨"com/example/roadstitch/roadstitch/core/Vector3DotPinLaw", "s", "(I)J"⟩ : MethodName)) hown (mvT hZ (hw _ (List.mem_of_getElem? (i := 0) rfl))) (mvT hZ (hw _ (List.mem_of_getElem? (i := 1) rfl))) (mvT hZ (hw _ (List.mem_of_getElem? (i := 2) rfl))) (mvT hZ (hw _ (List.mem_of_getElem? (i := 3) rfl))) (by decide) (backOf (W := 0) (rm1 l Z a0 hw [] p2 u3 _ n0 f2 hu3) hZ (hw _ (List.mem_of_getElem? (i := 3) rfl)) (hw _ (List.mem_of_getElem? (i := 2) rfl)) (by decide) (by decide)) (g := (mkF m 13 #[.val (.int p0), .val (.int p1), .val (.int p2), .val (.int p3), .val (.int p4), .val (.int p5), .val (.long u1), .second, .val (.long u2), .second, .unset, .unset, .unset, .unset, .unset, .unset, .unset, .unset, .unset, .unset, .unset, .unset] [(.int p2)])) rfl (by rw [hml]; rfl) (argsL := [(.int p2)]) (rest := []) (lenOf pd_1 rfl) rfl (by show 2 * 0 + _ ≤ _; exact Nat.le_of_eq rfl) (hb hby at_13) (fun _ _ => ⟨rfl, rfl, (by decide : 0 + 0 ≤ _), (by decide : 0 + 0 ≤ _)⟩)
  dsimp only [Pt.U, Pt.locs, Pt.cells, Pt.slots] at X3 l3 y3 z3 st3 hQ3
  subst l3 y3 z3
  obtain ⟨rfl, N3q, hh3⟩ := hQ3
  have N3 := Fr.app N2 N3q
  refine Goes.by (fun t k => st3 _ k) ?_
  show Goes p e below s _ _ _ (T3.setTop (mkF m 16 #[.val (.int p0), .val (.int p1), .val (.int p2), .val (.int p3), .val (.int p4), .val (.int p5), .val (.long u1), .second, .val (.long u2), .second, .unset, .unset, .unset, .unset, .unset, .unset, .unset, .unset, .unset, .unset, .unset, .unset] [(.long u3)]))
  have KK3 : Keep (T2.heap) T3.heap [] := by rw [hh3]; exact Keep.refl _ _
  have e3 : T3.heap = _ := hh3
  have f3 := Nat.le_trans f2 KK3.1
  obtain ⟨v1, hv1⟩ : ∃ z, z = ((p3 <<< ((12 : Int32) &&& 31)) >>> ((12 : Int32) &&& 31)).toInt64 := ⟨_, rfl⟩
  have bv1 := own_s p3
  rw [← hv1] at bv1
  show Goes p e below s _ _ _ (T3.setTop (mkF m 16 #[.val (.int p0), .val (.int p1), .val (.int p2), .val (.int p3), .val (.int p4), .val (.int p5), .val (.long u1), .second, .val (.long u2), .second, .unset, .unset, .unset, .unset, .unset, .unset, .unset, .unset, .unset, .unset, .unset, .unset] [(.long u3)]))
  refine Goes.by (fun t k => XS.lstore X3.here hx rfl (hb hby at_16) rfl (l' := #[.val (.int p0), .val (.int p1), .val (.int p2), .val (.int p3), .val (.int p4), .val (.int p5), .val (.long u1), .second, .val (.long u2), .second, .val (.long u3), .second, .unset, .unset, .unset, .unset, .unset, .unset, .unset, .unset, .unset, .unset]) rfl k) ?_
  show Goes p e below s _ _ _ (T3.setTop (mkF m 18 #[.val (.int p0), .val (.int p1), .val (.int p2), .val (.int p3), .val (.int p4), .val (.int p5), .val (.long u1), .second, .val (.long u2), .second, .val (.long u3), .second, .unset, .unset, .unset, .unset, .unset, .unset, .unset, .unset, .unset, .unset] []))
  refine Goes.by (fun t k => XS.iloadN X3.here hx rfl (hb hby at_18) rfl k) ?_
  show Goes p e below s _ _ _ (T3.setTop (mkF m 19 #[.val (.int p0), .val (.int p1), .val (.int p2), .val (.int p3), .val (.int p4), .val (.int p5), .val (.long u1), .second, .val (.long u2), .second, .val (.long u3), .second, .unset, .unset, .unset, .unset, .unset, .unset, .unset, .unset, .unset, .unset] [(.int p3)]))
  obtain ⟨_, _, ⟨T4, L4, k4, n4⟩, -, X4, ⟨Lc4, hQ4, l4, y4, z4⟩, st4⟩ := Jvm.LawKit.callS X3 hx (y := (⟨"com/example/roadstitch/roadstitch/core/Vector3DotPinLaw", "s", "(I)J"⟩ : MethodName)) hown (mvT hZ (hw _ (List.mem_of_getElem? (i := 0) rfl))) (mvT hZ (hw _ (List.mem_of_getElem? (i := 1) rfl))) (mvT hZ (hw _ (List.mem_of_getElem? (i := 2) rfl))) (mvT hZ (hw _ (List.mem_of_getElem? (i := 3) rfl))) (by decide) (backOf (W := 0) (rm1 l Z a0 hw [] p3 v1 _ n0 f3 hv1) hZ (hw _ (List.mem_of_getElem? (i := 3) rfl)) (hw _ (List.mem_of_getElem? (i := 2) rfl)) (by decide) (by decide)) (g := (mkF m 19 #[.val (.int p0), .val (.int p1), .val (.int p2), .val (.int p3), .val (.int p4), .val (.int p5), .val (.long u1), .second, .val (.long u2), .second, .val (.long u3), .second, .unset, .unset, .unset, .unset, .unset, .unset, .unset, .unset, .unset, .unset] [(.int p3)])) rfl (by rw [hml]; rfl) (argsL := [(.int p3)]) (rest := []) (lenOf pd_1 rfl) rfl (by show 2 * 0 + _ ≤ _; exact Nat.le_of_eq rfl) (hb hby at_19) (fun _ _ => ⟨rfl, rfl, (by decide : 0 + 0 ≤ _), (by decide : 0 + 0 ≤ _)⟩)
  dsimp only [Pt.U, Pt.locs, Pt.cells, Pt.slots] at X4 l4 y4 z4 st4 hQ4
  subst l4 y4 z4
  obtain ⟨rfl, N4q, hh4⟩ := hQ4
  have N4 := Fr.app N3 N4q
  refine Goes.by (fun t k => st4 _ k) ?_
  show Goes p e below s _ _ _ (T4.setTop (mkF m 22 #[.val (.int p0), .val (.int p1), .val (.int p2), .val (.int p3), .val (.int p4), .val (.int p5), .val (.long u1), .second, .val (.long u2), .second, .val (.long u3), .second, .unset, .unset, .unset, .unset, .unset, .unset, .unset, .unset, .unset, .unset] [(.long v1)]))
  have KK4 : Keep (T3.heap) T4.heap [] := by rw [hh4]; exact Keep.refl _ _
  have e4 : T4.heap = _ := hh4
  have f4 := Nat.le_trans f3 KK4.1
  obtain ⟨v2, hv2⟩ : ∃ z, z = ((p4 <<< ((12 : Int32) &&& 31)) >>> ((12 : Int32) &&& 31)).toInt64 := ⟨_, rfl⟩
  have bv2 := own_s p4
  rw [← hv2] at bv2
  show Goes p e below s _ _ _ (T4.setTop (mkF m 22 #[.val (.int p0), .val (.int p1), .val (.int p2), .val (.int p3), .val (.int p4), .val (.int p5), .val (.long u1), .second, .val (.long u2), .second, .val (.long u3), .second, .unset, .unset, .unset, .unset, .unset, .unset, .unset, .unset, .unset, .unset] [(.long v1)]))
  refine Goes.by (fun t k => XS.lstore X4.here hx rfl (hb hby at_22) rfl (l' := #[.val (.int p0), .val (.int p1), .val (.int p2), .val (.int p3), .val (.int p4), .val (.int p5), .val (.long u1), .second, .val (.long u2), .second, .val (.long u3), .second, .val (.long v1), .second, .unset, .unset, .unset, .unset, .unset, .unset, .unset, .unset]) rfl k) ?_
  show Goes p e below s _ _ _ (T4.setTop (mkF m 24 #[.val (.int p0), .val (.int p1), .val (.int p2), .val (.int p3), .val (.int p4), .val (.int p5), .val (.long u1), .second, .val (.long u2), .second, .val (.long u3), .second, .val (.long v1), .second, .unset, .unset, .unset, .unset, .unset, .unset, .unset, .unset] []))
  refine Goes.by (fun t k => XS.iload X4.here hx rfl (hb hby at_24) rfl k) ?_
  show Goes p e below s _ _ _ (T4.setTop (mkF m 26 #[.val (.int p0), .val (.int p1), .val (.int p2), .val (.int p3), .val (.int p4), .val (.int p5), .val (.long u1), .second, .val (.long u2), .second, .val (.long u3), .second, .val (.long v1), .second, .unset, .unset, .unset, .unset, .unset, .unset, .unset, .unset] [(.int p4)]))
  obtain ⟨_, _, ⟨T5, L5, k5, n5⟩, -, X5, ⟨Lc5, hQ5, l5, y5, z5⟩, st5⟩ := Jvm.LawKit.callS X4 hx (y := (⟨"com/example/roadstitch/roadstitch/core/Vector3DotPinLaw", "s", "(I)J"⟩ : MethodName)) hown (mvT hZ (hw _ (List.mem_of_getElem? (i := 0) rfl))) (mvT hZ (hw _ (List.mem_of_getElem? (i := 1) rfl))) (mvT hZ (hw _ (List.mem_of_getElem? (i := 2) rfl))) (mvT hZ (hw _ (List.mem_of_getElem? (i := 3) rfl))) (by decide) (backOf (W := 0) (rm1 l Z a0 hw [] p4 v2 _ n0 f4 hv2) hZ (hw _ (List.mem_of_getElem? (i := 3) rfl)) (hw _ (List.mem_of_getElem? (i := 2) rfl)) (by decide) (by decide)) (g := (mkF m 26 #[.val (.int p0), .val (.int p1), .val (.int p2), .val (.int p3), .val (.int p4), .val (.int p5), .val (.long u1), .second, .val (.long u2), .second, .val (.long u3), .second, .val (.long v1), .second, .unset, .unset, .unset, .unset, .unset, .unset, .unset, .unset] [(.int p4)])) rfl (by rw [hml]; rfl) (argsL := [(.int p4)]) (rest := []) (lenOf pd_1 rfl) rfl (by show 2 * 0 + _ ≤ _; exact Nat.le_of_eq rfl) (hb hby at_26) (fun _ _ => ⟨rfl, rfl, (by decide : 0 + 0 ≤ _), (by decide : 0 + 0 ≤ _)⟩)
  dsimp only [Pt.U, Pt.locs, Pt.cells, Pt.slots] at X5 l5 y5 z5 st5 hQ5
  subst l5 y5 z5
  obtain ⟨rfl, N5q, hh5⟩ := hQ5
  have N5 := Fr.app N4 N5q
  refine Goes.by (fun t k => st5 _ k) ?_
  show Goes p e below s _ _ _ (T5.setTop (mkF m 29 #[.val (.int p0), .val (.int p1), .val (.int p2), .val (.int p3), .val (.int p4), .val (.int p5), .val (.long u1), .second, .val (.long u2), .second, .val (.long u3), .second, .val (.long v1), .second, .unset, .unset, .unset, .unset, .unset, .unset, .unset, .unset] [(.long v2)]))
  have KK5 : Keep (T4.heap) T5.heap [] := by rw [hh5]; exact Keep.refl _ _
  have e5 : T5.heap = _ := hh5
  have f5 := Nat.le_trans f4 KK5.1
  obtain ⟨v3, hv3⟩ : ∃ z, z = ((p5 <<< ((12 : Int32) &&& 31)) >>> ((12 : Int32) &&& 31)).toInt64 := ⟨_, rfl⟩
  have bv3 := own_s p5
  rw [← hv3] at bv3
  show Goes p e below s _ _ _ (T5.setTop (mkF m 29 #[.val (.int p0), .val (.int p1), .val (.int p2), .val (.int p3), .val (.int p4), .val (.int p5), .val (.long u1), .second, .val (.long u2), .second, .val (.long u3), .second, .val (.long v1), .second, .unset, .unset, .unset, .unset, .unset, .unset, .unset, .unset] [(.long v2)]))
  refine Goes.by (fun t k => XS.lstore X5.here hx rfl (hb hby at_29) rfl (l' := #[.val (.int p0), .val (.int p1), .val (.int p2), .val (.int p3), .val (.int p4), .val (.int p5), .val (.long u1), .second, .val (.long u2), .second, .val (.long u3), .second, .val (.long v1), .second, .val (.long v2), .second, .unset, .unset, .unset, .unset, .unset, .unset]) rfl k) ?_
  show Goes p e below s _ _ _ (T5.setTop (mkF m 31 #[.val (.int p0), .val (.int p1), .val (.int p2), .val (.int p3), .val (.int p4), .val (.int p5), .val (.long u1), .second, .val (.long u2), .second, .val (.long u3), .second, .val (.long v1), .second, .val (.long v2), .second, .unset, .unset, .unset, .unset, .unset, .unset] []))
  refine Goes.by (fun t k => XS.iload X5.here hx rfl (hb hby at_31) rfl k) ?_
  show Goes p e below s _ _ _ (T5.setTop (mkF m 33 #[.val (.int p0), .val (.int p1), .val (.int p2), .val (.int p3), .val (.int p4), .val (.int p5), .val (.long u1), .second, .val (.long u2), .second, .val (.long u3), .second, .val (.long v1), .second, .val (.long v2), .second, .unset, .unset, .unset, .unset, .unset, .unset] [(.int p5)]))
  obtain ⟨_, _, ⟨T6, L6, k6, n6⟩, -, X6, ⟨Lc6, hQ6, l6, y6, z6⟩, st6⟩ := Jvm.LawKit.callS X5 hx (y := (⟨"com/example/roadstitch/roadstitch/core/Vector3DotPinLaw", "s", "(I)J"⟩ : MethodName)) hown (mvT hZ (hw _ (List.mem_of_getElem? (i := 0) rfl))) (mvT hZ (hw _ (List.mem_of_getElem? (i := 1) rfl))) (mvT hZ (hw _ (List.mem_of_getElem? (i := 2) rfl))) (mvT hZ (hw _ (List.mem_of_getElem? (i := 3) rfl))) (by decide) (backOf (W := 0) (rm1 l Z a0 hw [] p5 v3 _ n0 f5 hv3) hZ (hw _ (List.mem_of_getElem? (i := 3) rfl)) (hw _ (List.mem_of_getElem? (i := 2) rfl)) (by decide) (by decide)) (g := (mkF m 33 #[.val (.int p0), .val (.int p1), .val (.int p2), .val (.int p3), .val (.int p4), .val (.int p5), .val (.long u1), .second, .val (.long u2), .second, .val (.long u3), .second, .val (.long v1), .second, .val (.long v2), .second, .unset, .unset, .unset, .unset, .unset, .unset] [(.int p5)])) rfl (by rw [hml]; rfl) (argsL := [(.int p5)]) (rest := []) (lenOf pd_1 rfl) rfl (by show 2 * 0 + _ ≤ _; exact Nat.le_of_eq rfl) (hb hby at_33) (fun _ _ => ⟨rfl, rfl, (by decide : 0 + 0 ≤ _), (by decide : 0 + 0 ≤ _)⟩)
  dsimp only [Pt.U, Pt.locs, Pt.cells, Pt.slots] at X6 l6 y6 z6 st6 hQ6
  subst l6 y6 z6
  obtain ⟨rfl, N6q, hh6⟩ := hQ6
  have N6 := Fr.app N5 N6q
  refine Goes.by (fun t k => st6 _ k) ?_
  show Goes p e below s _ _ _ (T6.setTop (mkF m 36 #[.val (.int p0), .val (.int p1), .val (.int p2), .val (.int p3), .val (.int p4), .val (.int p5), .val (.long u1), .second, .val (.long u2), .second, .val (.long u3), .second, .val (.long v1), .second, .val (.long v2), .second, .unset, .unset, .unset, .unset, .unset, .unset] [(.long v3)]))
  have KK6 : Keep (T5.heap) T6.heap [] := by rw [hh6]; exact Keep.refl _ _
  have e6 : T6.heap = _ := hh6
  have f6 := Nat.le_trans f5 KK6.1
  refine Goes.by (fun t k => XS.lstore X6.here hx rfl (hb hby at_36) rfl (l' := #[.val (.int p0), .val (.int p1), .val (.int p2), .val (.int p3), .val (.int p4), .val (.int p5), .val (.long u1), .second, .val (.long u2), .second, .val (.long u3), .second, .val (.long v1), .second, .val (.long v2), .second, .val (.long v3), .second, .unset, .unset, .unset, .unset]) rfl k) ?_
  show Goes p e below s _ _ _ (T6.setTop (mkF m 38 #[.val (.int p0), .val (.int p1), .val (.int p2), .val (.int p3), .val (.int p4), .val (.int p5), .val (.long u1), .second, .val (.long u2), .second, .val (.long u3), .second, .val (.long v1), .second, .val (.long v2), .second, .val (.long v3), .second, .unset, .unset, .unset, .unset] []))
  obtain ⟨T7, h7, X7, e7, E7, A7, D7, -, st7⟩ := newO X6 hx hZ hown (hw _ (List.mem_of_getElem? (i := 4) rfl)) (hw _ (List.mem_of_getElem? (i := 5) rfl)) (hw _ (List.mem_of_getElem? (i := 6) rfl)) rfl (g := (mkF m 38 #[.val (.int p0), .val (.int p1), .val (.int p2), .val (.int p3), .val (.int p4), .val (.int p5), .val (.long u1), .second, .val (.long u2), .second, .val (.long u3), .second, .val (.long v1), .second, .val (.long v2), .second, .val (.long v3), .second, .unset, .unset, .unset, .unset] [])) rfl (hb hby at_38) (by decide) (by decide)
  obtain ⟨b7, g7⟩ : ∃ z, z = T6.heap.size := ⟨_, rfl⟩
  rw [← g7] at A7 D7 st7
  refine Goes.by (fun t k => st7 t k) ?_
  show Goes p e below s _ _ _ (T7.setTop (mkF m 41 #[.val (.int p0), .val (.int p1), .val (.int p2), .val (.int p3), .val (.int p4), .val (.int p5), .val (.long u1), .second, .val (.long u2), .second, .val (.long u3), .second, .val (.long v1), .second, .val (.long v2), .second, .val (.long v3), .second, .unset, .unset, .unset, .unset] [(.ref b7)]))
  have ge_b7 : n0 ≤ b7 := Nat.le_trans f6 (Nat.le_of_eq g7.symm)
  have f7 := Nat.le_trans f6 E7.1
  have f8 : Fld Z h7 b7 "com/example/roadstitch/roadstitch/core/Vector3" "x" "D" (.double 0) := D7 (Or.inr (hw _ (List.mem_of_getElem? (i := 19) rfl))) (ty := .double) (by decide)
  have f9 : Fld Z h7 b7 "com/example/roadstitch/roadstitch/core/Vector3" "y" "D" (.double 0) := D7 (Or.inr (hw _ (List.mem_of_getElem? (i := 21) rfl))) (ty := .double) (by decide)
  have f10 : Fld Z h7 b7 "com/example/roadstitch/roadstitch/core/Vector3" "z" "D" (.double 0) := D7 (Or.inr (hw _ (List.mem_of_getElem? (i := 23) rfl))) (ty := .double) (by decide)
  refine Goes.by (fun t k => XS.dup X7.here hx rfl (hb hby at_41) rfl rfl k) ?_
  show Goes p e below s _ _ _ (T7.setTop (mkF m 42 #[.val (.int p0), .val (.int p1), .val (.int p2), .val (.int p3), .val (.int p4), .val (.int p5), .val (.long u1), .second, .val (.long u2), .second, .val (.long u3), .second, .val (.long v1), .second, .val (.long v2), .second, .val (.long v3), .second, .unset, .unset, .unset, .unset] [(.ref b7), (.ref b7)]))
  refine Goes.by (fun t k => XS.lload X7.here hx rfl (hb hby at_42) rfl k) ?_
  show Goes p e below s _ _ _ (T7.setTop (mkF m 44 #[.val (.int p0), .val (.int p1), .val (.int p2), .val (.int p3), .val (.int p4), .val (.int p5), .val (.long u1), .second, .val (.long u2), .second, .val (.long u3), .second, .val (.long v1), .second, .val (.long v2), .second, .val (.long v3), .second, .unset, .unset, .unset, .unset] [(.long u1), (.ref b7), (.ref b7)]))
  refine Goes.by (fun t k => XS.l2dS X7.here hx rfl (hb hby at_44) rfl rfl k) ?_
  show Goes p e below s _ _ _ (T7.setTop (mkF m 45 #[.val (.int p0), .val (.int p1), .val (.int p2), .val (.int p3), .val (.int p4), .val (.int p5), .val (.long u1), .second, .val (.long u2), .second, .val (.long u3), .second, .val (.long v1), .second, .val (.long v2), .second, .val (.long v3), .second, .unset, .unset, .unset, .unset] [(.double (FP.l2d u1)), (.ref b7), (.ref b7)]))
  refine Goes.by (fun t k => XS.lload X7.here hx rfl (hb hby at_45) rfl k) ?_
  show Goes p e below s _ _ _ (T7.setTop (mkF m 47 #[.val (.int p0), .val (.int p1), .val (.int p2), .val (.int p3), .val (.int p4), .val (.int p5), .val (.long u1), .second, .val (.long u2), .second, .val (.long u3), .second, .val (.long v1), .second, .val (.long v2), .second, .val (.long v3), .second, .unset, .unset, .unset, .unset] [(.long u2), (.double (FP.l2d u1)), (.ref b7), (.ref b7)]))
  refine Goes.by (fun t k => XS.l2dS X7.here hx rfl (hb hby at_47) rfl rfl k) ?_
  show Goes p e below s _ _ _ (T7.setTop (mkF m 48 #[.val (.int p0), .val (.int p1), .val (.int p2), .val (.int p3), .val (.int p4), .val (.int p5), .val (.long u1), .second, .val (.long u2), .second, .val (.long u3), .second, .val (.long v1), .second, .val (.long v2), .second, .val (.long v3), .second, .unset, .unset, .unset, .unset] [(.double (FP.l2d u2)), (.double (FP.l2d u1)), (.ref b7), (.ref b7)]))
  refine Goes.by (fun t k => XS.lload X7.here hx rfl (hb hby at_48) rfl k) ?_
  show Goes p e below s _ _ _ (T7.setTop (mkF m 50 #[.val (.int p0), .val (.int p1), .val (.int p2), .val (.int p3), .val (.int p4), .val (.int p5), .val (.long u1), .second, .val (.long u2), .second, .val (.long u3), .second, .val (.long v1), .second, .val (.long v2), .second, .val (.long v3), .second, .unset, .unset, .unset, .unset] [(.long u3), (.double (FP.l2d u2)), (.double (FP.l2d u1)), (.ref b7), (.ref b7)]))
  refine Goes.by (fun t k => XS.l2dS X7.here hx rfl (hb hby at_50) rfl rfl k) ?_
  show Goes p e below s _ _ _ (T7.setTop (mkF m 51 #[.val (.int p0), .val (.int p1), .val (.int p2), .val (.int p3), .val (.int p4), .val (.int p5), .val (.long u1), .second, .val (.long u2), .second, .val (.long u3), .second, .val (.long v1), .second, .val (.long v2), .second, .val (.long v3), .second, .unset, .unset, .unset, .unset] [(.double (FP.l2d u3)), (.double (FP.l2d u2)), (.double (FP.l2d u1)), (.ref b7), (.ref b7)]))
  obtain ⟨_, _, ⟨T8, L8, k8, n8⟩, -, X8, ⟨Lc8, hQ8, l8, y8, z8⟩, st8⟩ := X7.specialBack hx (y := (⟨"com/example/roadstitch/roadstitch/core/Vector3", "<init>", "(DDD)V"⟩ : MethodName)) rfl hown (mvT hZ (hw _ (List.mem_of_getElem? (i := 7) rfl))) (mvT hZ (hw _ (List.mem_of_getElem? (i := 8) rfl))) (mvT hZ (hw _ (List.mem_of_getElem? (i := 9) rfl))) (by decide) (backOf (W := 1) (rm2 l Z a0 hw [] b7 (FP.l2d u1) (FP.l2d u2) (FP.l2d u3) _ _ _ h7 n0 f7 f8 f9 f10 A7 ge_b7) hZ (hw _ (List.mem_of_getElem? (i := 9) rfl)) (hw _ (List.mem_of_getElem? (i := 6) rfl)) (by decide) (by decide)) (g := (mkF m 51 #[.val (.int p0), .val (.int p1), .val (.int p2), .val (.int p3), .val (.int p4), .val (.int p5), .val (.long u1), .second, .val (.long u2), .second, .val (.long u3), .second, .val (.long v1), .second, .val (.long v2), .second, .val (.long v3), .second, .unset, .unset, .unset, .unset] [(.double (FP.l2d u3)), (.double (FP.l2d u2)), (.double (FP.l2d u1)), (.ref b7), (.ref b7)])) rfl (by rw [hml]; rfl) (Steps.refl _) (a := b7) (argsL := [(.double (FP.l2d u1)), (.double (FP.l2d u2)), (.double (FP.l2d u3))]) (rest := [(.ref b7)]) (lenOf pd_2 rfl) rfl (by show 2 * 0 + _ ≤ _; exact Nat.le_of_eq rfl) (hb hby at_51) (fun _ _ => ⟨rfl, e7, (by decide : 1 + 0 ≤ _), (by decide : 3 + 0 ≤ _)⟩)
  dsimp only [Pt.U, Pt.locs, Pt.cells, Pt.slots] at X8 l8 y8 z8 st8 hQ8
  subst l8 y8 z8
  obtain ⟨rfl, N8q, K8, E8, F8, G8, H8⟩ := hQ8
  have N8 := Fr.app N6 N8q
  refine Goes.by (fun t k => st8.trans k) ?_
  show Goes p e below s _ _ _ (T8.setTop (mkF m 54 #[.val (.int p0), .val (.int p1), .val (.int p2), .val (.int p3), .val (.int p4), .val (.int p5), .val (.long u1), .second, .val (.long u2), .second, .val (.long u3), .second, .val (.long v1), .second, .val (.long v2), .second, .val (.long v3), .second, .unset, .unset, .unset, .unset] [(.ref b7)]))
  have f11 := Nat.le_trans f7 K8.1
  have f12 := A7.keep K8
  refine Goes.by (fun t k => XS.astore X8.here hx rfl (hb hby at_54) rfl rfl (l' := #[.val (.int p0), .val (.int p1), .val (.int p2), .val (.int p3), .val (.int p4), .val (.int p5), .val (.long u1), .second, .val (.long u2), .second, .val (.long u3), .second, .val (.long v1), .second, .val (.long v2), .second, .val (.long v3), .second, .val (.ref b7), .unset, .unset, .unset]) rfl k) ?_
  show Goes p e below s _ _ _ (T8.setTop (mkF m 56 #[.val (.int p0), .val (.int p1), .val (.int p2), .val (.int p3), .val (.int p4), .val (.int p5), .val (.long u1), .second, .val (.long u2), .second, .val (.long u3), .second, .val (.long v1), .second, .val (.long v2), .second, .val (.long v3), .second, .val (.ref b7), .unset, .unset, .unset] []))
  obtain ⟨T9, h9, X9, e9, E9, A9, D9, -, st9⟩ := newO X8 hx hZ hown (hw _ (List.mem_of_getElem? (i := 4) rfl)) (hw _ (List.mem_of_getElem? (i := 5) rfl)) (hw _ (List.mem_of_getElem? (i := 6) rfl)) rfl (g := (mkF m 56 #[.val (.int p0), .val (.int p1), .val (.int p2), .val (.int p3), .val (.int p4), .val (.int p5), .val (.long u1), .second, .val (.long u2), .second, .val (.long u3), .second, .val (.long v1), .second, .val (.long v2), .second, .val (.long v3), .second, .val (.ref b7), .unset, .unset, .unset] [])) rfl (hb hby at_56) (by decide) (by decide)
  obtain ⟨b9, g9⟩ : ∃ z, z = T8.heap.size := ⟨_, rfl⟩
  rw [← g9] at A9 D9 st9
  refine Goes.by (fun t k => st9 t k) ?_
  show Goes p e below s _ _ _ (T9.setTop (mkF m 59 #[.val (.int p0), .val (.int p1), .val (.int p2), .val (.int p3), .val (.int p4), .val (.int p5), .val (.long u1), .second, .val (.long u2), .second, .val (.long u3), .second, .val (.long v1), .second, .val (.long v2), .second, .val (.long v3), .second, .val (.ref b7), .unset, .unset, .unset] [(.ref b9)]))
  have ne_b7_b9_f13 : b7 ≠ b9 := Nat.ne_of_lt (Nat.lt_of_lt_of_le E8.lt (Nat.le_of_eq g9.symm))
  have ge_b9 : n0 ≤ b9 := Nat.le_trans f11 (Nat.le_of_eq g9.symm)
  have f14 := Nat.le_trans f11 E9.1
  have f15 := E8.ext E9
  have f16 := F8.ext E9
  have f17 := G8.ext E9
  have f18 := H8.ext E9
  have f19 : Fld Z h9 b9 "com/example/roadstitch/roadstitch/core/Vector3" "x" "D" (.double 0) := D9 (Or.inr (hw _ (List.mem_of_getElem? (i := 19) rfl))) (ty := .double) (by decide)
  have f20 : Fld Z h9 b9 "com/example/roadstitch/roadstitch/core/Vector3" "y" "D" (.double 0) := D9 (Or.inr (hw _ (List.mem_of_getElem? (i := 21) rfl))) (ty := .double) (by decide)
  have f21 : Fld Z h9 b9 "com/example/roadstitch/roadstitch/core/Vector3" "z" "D" (.double 0) := D9 (Or.inr (hw _ (List.mem_of_getElem? (i := 23) rfl))) (ty := .double) (by decide)
  refine Goes.by (fun t k => XS.dup X9.here hx rfl (hb hby at_59) rfl rfl k) ?_
  show Goes p e below s _ _ _ (T9.setTop (mkF m 60 #[.val (.int p0), .val (.int p1), .val (.int p2), .val (.int p3), .val (.int p4), .val (.int p5), .val (.long u1), .second, .val (.long u2), .second, .val (.long u3), .second, .val (.long v1), .second, .val (.long v2), .second, .val (.long v3), .second, .val (.ref b7), .unset, .unset, .unset] [(.ref b9), (.ref b9)]))
  refine Goes.by (fun t k => XS.lload X9.here hx rfl (hb hby at_60) rfl k) ?_
  show Goes p e below s _ _ _ (T9.setTop (mkF m 62 #[.val (.int p0), .val (.int p1), .val (.int p2), .val (.int p3), .val (.int p4), .val (.int p5), .val (.long u1), .second, .val (.long u2), .second, .val (.long u3), .second, .val (.long v1), .second, .val (.long v2), .second, .val (.long v3), .second, .val (.ref b7), .unset, .unset, .unset] [(.long v1), (.ref b9), (.ref b9)]))
  refine Goes.by (fun t k => XS.l2dS X9.here hx rfl (hb hby at_62) rfl rfl k) ?_
  show Goes p e below s _ _ _ (T9.setTop (mkF m 63 #[.val (.int p0), .val (.int p1), .val (.int p2), .val (.int p3), .val (.int p4), .val (.int p5), .val (.long u1), .second, .val (.long u2), .second, .val (.long u3), .second, .val (.long v1), .second, .val (.long v2), .second, .val (.long v3), .second, .val (.ref b7), .unset, .unset, .unset] [(.double (FP.l2d v1)), (.ref b9), (.ref b9)]))
  refine Goes.by (fun t k => XS.lload X9.here hx rfl (hb hby at_63) rfl k) ?_
  show Goes p e below s _ _ _ (T9.setTop (mkF m 65 #[.val (.int p0), .val (.int p1), .val (.int p2), .val (.int p3), .val (.int p4), .val (.int p5), .val (.long u1), .second, .val (.long u2), .second, .val (.long u3), .second, .val (.long v1), .second, .val (.long v2), .second, .val (.long v3), .second, .val (.ref b7), .unset, .unset, .unset] [(.long v2), (.double (FP.l2d v1)), (.ref b9), (.ref b9)]))
  refine Goes.by (fun t k => XS.l2dS X9.here hx rfl (hb hby at_65) rfl rfl k) ?_
  show Goes p e below s _ _ _ (T9.setTop (mkF m 66 #[.val (.int p0), .val (.int p1), .val (.int p2), .val (.int p3), .val (.int p4), .val (.int p5), .val (.long u1), .second, .val (.long u2), .second, .val (.long u3), .second, .val (.long v1), .second, .val (.long v2), .second, .val (.long v3), .second, .val (.ref b7), .unset, .unset, .unset] [(.double (FP.l2d v2)), (.double (FP.l2d v1)), (.ref b9), (.ref b9)]))
  refine Goes.by (fun t k => XS.lload X9.here hx rfl (hb hby at_66) rfl k) ?_
  show Goes p e below s _ _ _ (T9.setTop (mkF m 68 #[.val (.int p0), .val (.int p1), .val (.int p2), .val (.int p3), .val (.int p4), .val (.int p5), .val (.long u1), .second, .val (.long u2), .second, .val (.long u3), .second, .val (.long v1), .second, .val (.long v2), .second, .val (.long v3), .second, .val (.ref b7), .unset, .unset, .unset] [(.long v3), (.double (FP.l2d v2)), (.double (FP.l2d v1)), (.ref b9), (.ref b9)]))
  refine Goes.by (fun t k => XS.l2dS X9.here hx rfl (hb hby at_68) rfl rfl k) ?_
  show Goes p e below s _ _ _ (T9.setTop (mkF m 69 #[.val (.int p0), .val (.int p1), .val (.int p2), .val (.int p3), .val (.int p4), .val (.int p5), .val (.long u1), .second, .val (.long u2), .second, .val (.long u3), .second, .val (.long v1), .second, .val (.long v2), .second, .val (.long v3), .second, .val (.ref b7), .unset, .unset, .unset] [(.double (FP.l2d v3)), (.double (FP.l2d v2)), (.double (FP.l2d v1)), (.ref b9), (.ref b9)]))
  obtain ⟨_, _, ⟨T10, L10, k10, n10⟩, -, X10, ⟨Lc10, hQ10, l10, y10, z10⟩, st10⟩ := X9.specialBack hx (y := (⟨"com/example/roadstitch/roadstitch/core/Vector3", "<init>", "(DDD)V"⟩ : MethodName)) rfl hown (mvT hZ (hw _ (List.mem_of_getElem? (i := 7) rfl))) (mvT hZ (hw _ (List.mem_of_getElem? (i := 8) rfl))) (mvT hZ (hw _ (List.mem_of_getElem? (i := 9) rfl))) (by decide) (backOf (W := 1) (rm2 l Z a0 hw [] b9 (FP.l2d v1) (FP.l2d v2) (FP.l2d v3) _ _ _ h9 n0 f14 f19 f20 f21 A9 ge_b9) hZ (hw _ (List.mem_of_getElem? (i := 9) rfl)) (hw _ (List.mem_of_getElem? (i := 6) rfl)) (by decide) (by decide)) (g := (mkF m 69 #[.val (.int p0), .val (.int p1), .val (.int p2), .val (.int p3), .val (.int p4), .val (.int p5), .val (.long u1), .second, .val (.long u2), .second, .val (.long u3), .second, .val (.long v1), .second, .val (.long v2), .second, .val (.long v3), .second, .val (.ref b7), .unset, .unset, .unset] [(.double (FP.l2d v3)), (.double (FP.l2d v2)), (.double (FP.l2d v1)), (.ref b9), (.ref b9)])) rfl (by rw [hml]; rfl) (Steps.refl _) (a := b9) (argsL := [(.double (FP.l2d v1)), (.double (FP.l2d v2)), (.double (FP.l2d v3))]) (rest := [(.ref b9)]) (lenOf pd_2 rfl) rfl (by show 2 * 0 + _ ≤ _; exact Nat.le_of_eq rfl) (hb hby at_69) (fun _ _ => ⟨rfl, e9, (by decide : 2 + 0 ≤ _), (by decide : 6 + 0 ≤ _)⟩)
  dsimp only [Pt.U, Pt.locs, Pt.cells, Pt.slots] at X10 l10 y10 z10 st10 hQ10
  subst l10 y10 z10
  obtain ⟨rfl, N10q, K10, E10, F10, G10, H10⟩ := hQ10
  have N10 := Fr.app N8 N10q
  refine Goes.by (fun t k => st10.trans k) ?_
  show Goes p e below s _ _ _ (T10.setTop (mkF m 72 #[.val (.int p0), .val (.int p1), .val (.int p2), .val (.int p3), .val (.int p4), .val (.int p5), .val (.long u1), .second, .val (.long u2), .second, .val (.long u3), .second, .val (.long v1), .second, .val (.long v2), .second, .val (.long v3), .second, .val (.ref b7), .unset, .unset, .unset] [(.ref b9)]))
  have f22 := Nat.le_trans f14 K10.1
  have f23 := f15.keep K10
  have f24 := f16.keep K10 (ninS ne_b7_b9_f13 nin0)
  have f25 := f17.keep K10 (ninS ne_b7_b9_f13 nin0)
  have f26 := f18.keep K10 (ninS ne_b7_b9_f13 nin0)
  have f27 := A9.keep K10
  refine Goes.by (fun t k => XS.astore X10.here hx rfl (hb hby at_72) rfl rfl (l' := #[.val (.int p0), .val (.int p1), .val (.int p2), .val (.int p3), .val (.int p4), .val (.int p5), .val (.long u1), .second, .val (.long u2), .second, .val (.long u3), .second, .val (.long v1), .second, .val (.long v2), .second, .val (.long v3), .second, .val (.ref b7), .val (.ref b9), .unset, .unset]) rfl k) ?_
  show Goes p e below s _ _ _ (T10.setTop (mkF m 74 #[.val (.int p0), .val (.int p1), .val (.int p2), .val (.int p3), .val (.int p4), .val (.int p5), .val (.long u1), .second, .val (.long u2), .second, .val (.long u3), .second, .val (.long v1), .second, .val (.long v2), .second, .val (.long v3), .second, .val (.ref b7), .val (.ref b9), .unset, .unset] []))
  refine Goes.by (fun t k => XS.lload X10.here hx rfl (hb hby at_74) rfl k) ?_
  show Goes p e below s _ _ _ (T10.setTop (mkF m 76 #[.val (.int p0), .val (.int p1), .val (.int p2), .val (.int p3), .val (.int p4), .val (.int p5), .val (.long u1), .second, .val (.long u2), .second, .val (.long u3), .second, .val (.long v1), .second, .val (.long v2), .second, .val (.long v3), .second, .val (.ref b7), .val (.ref b9), .unset, .unset] [(.long u1)]))
  refine Goes.by (fun t k => XS.lload X10.here hx rfl (hb hby at_76) rfl k) ?_
  show Goes p e below s _ _ _ (T10.setTop (mkF m 78 #[.val (.int p0), .val (.int p1), .val (.int p2), .val (.int p3), .val (.int p4), .val (.int p5), .val (.long u1), .second, .val (.long u2), .second, .val (.long u3), .second, .val (.long v1), .second, .val (.long v2), .second, .val (.long v3), .second, .val (.ref b7), .val (.ref b9), .unset, .unset] [(.long v1), (.long u1)]))
  refine Goes.by (fun t k => XS.lmul X10.here hx rfl (hb hby at_78) rfl k) ?_
  show Goes p e below s _ _ _ (T10.setTop (mkF m 79 #[.val (.int p0), .val (.int p1), .val (.int p2), .val (.int p3), .val (.int p4), .val (.int p5), .val (.long u1), .second, .val (.long u2), .second, .val (.long u3), .second, .val (.long v1), .second, .val (.long v2), .second, .val (.long v3), .second, .val (.ref b7), .val (.ref b9), .unset, .unset] [(.long (u1 * v1))]))
  refine Goes.by (fun t k => XS.lload X10.here hx rfl (hb hby at_79) rfl k) ?_
  show Goes p e below s _ _ _ (T10.setTop (mkF m 81 #[.val (.int p0), .val (.int p1), .val (.int p2), .val (.int p3), .val (.int p4), .val (.int p5), .val (.long u1), .second, .val (.long u2), .second, .val (.long u3), .second, .val (.long v1), .second, .val (.long v2), .second, .val (.long v3), .second, .val (.ref b7), .val (.ref b9), .unset, .unset] [(.long u2), (.long (u1 * v1))]))
  refine Goes.by (fun t k => XS.lload X10.here hx rfl (hb hby at_81) rfl k) ?_
  show Goes p e below s _ _ _ (T10.setTop (mkF m 83 #[.val (.int p0), .val (.int p1), .val (.int p2), .val (.int p3), .val (.int p4), .val (.int p5), .val (.long u1), .second, .val (.long u2), .second, .val (.long u3), .second, .val (.long v1), .second, .val (.long v2), .second, .val (.long v3), .second, .val (.ref b7), .val (.ref b9), .unset, .unset] [(.long v2), (.long u2), (.long (u1 * v1))]))
  refine Goes.by (fun t k => XS.lmul X10.here hx rfl (hb hby at_83) rfl k) ?_
  show Goes p e below s _ _ _ (T10.setTop (mkF m 84 #[.val (.int p0), .val (.int p1), .val (.int p2), .val (.int p3), .val (.int p4), .val (.int p5), .val (.long u1), .second, .val (.long u2), .second, .val (.long u3), .second, .val (.long v1), .second, .val (.long v2), .second, .val (.long v3), .second, .val (.ref b7), .val (.ref b9), .unset, .unset] [(.long (u2 * v2)), (.long (u1 * v1))]))
  refine Goes.by (fun t k => XS.ladd X10.here hx rfl (hb hby at_84) rfl k) ?_
  show Goes p e below s _ _ _ (T10.setTop (mkF m 85 #[.val (.int p0), .val (.int p1), .val (.int p2), .val (.int p3), .val (.int p4), .val (.int p5), .val (.long u1), .second, .val (.long u2), .second, .val (.long u3), .second, .val (.long v1), .second, .val (.long v2), .second, .val (.long v3), .second, .val (.ref b7), .val (.ref b9), .unset, .unset] [(.long ((u1 * v1) + (u2 * v2)))]))
  refine Goes.by (fun t k => XS.lload X10.here hx rfl (hb hby at_85) rfl k) ?_
  show Goes p e below s _ _ _ (T10.setTop (mkF m 87 #[.val (.int p0), .val (.int p1), .val (.int p2), .val (.int p3), .val (.int p4), .val (.int p5), .val (.long u1), .second, .val (.long u2), .second, .val (.long u3), .second, .val (.long v1), .second, .val (.long v2), .second, .val (.long v3), .second, .val (.ref b7), .val (.ref b9), .unset, .unset] [(.long u3), (.long ((u1 * v1) + (u2 * v2)))]))
  refine Goes.by (fun t k => XS.lload X10.here hx rfl (hb hby at_87) rfl k) ?_
  show Goes p e below s _ _ _ (T10.setTop (mkF m 89 #[.val (.int p0), .val (.int p1), .val (.int p2), .val (.int p3), .val (.int p4), .val (.int p5), .val (.long u1), .second, .val (.long u2), .second, .val (.long u3), .second, .val (.long v1), .second, .val (.long v2), .second, .val (.long v3), .second, .val (.ref b7), .val (.ref b9), .unset, .unset] [(.long v3), (.long u3), (.long ((u1 * v1) + (u2 * v2)))]))
  refine Goes.by (fun t k => XS.lmul X10.here hx rfl (hb hby at_89) rfl k) ?_
  show Goes p e below s _ _ _ (T10.setTop (mkF m 90 #[.val (.int p0), .val (.int p1), .val (.int p2), .val (.int p3), .val (.int p4), .val (.int p5), .val (.long u1), .second, .val (.long u2), .second, .val (.long u3), .second, .val (.long v1), .second, .val (.long v2), .second, .val (.long v3), .second, .val (.ref b7), .val (.ref b9), .unset, .unset] [(.long (u3 * v3)), (.long ((u1 * v1) + (u2 * v2)))]))
  refine Goes.by (fun t k => XS.ladd X10.here hx rfl (hb hby at_90) rfl k) ?_
  show Goes p e below s _ _ _ (T10.setTop (mkF m 91 #[.val (.int p0), .val (.int p1), .val (.int p2), .val (.int p3), .val (.int p4), .val (.int p5), .val (.long u1), .second, .val (.long u2), .second, .val (.long u3), .second, .val (.long v1), .second, .val (.long v2), .second, .val (.long v3), .second, .val (.ref b7), .val (.ref b9), .unset, .unset] [(.long (((u1 * v1) + (u2 * v2)) + (u3 * v3)))]))
  refine Goes.by (fun t k => XS.lstore X10.here hx rfl (hb hby at_91) rfl (l' := #[.val (.int p0), .val (.int p1), .val (.int p2), .val (.int p3), .val (.int p4), .val (.int p5), .val (.long u1), .second, .val (.long u2), .second, .val (.long u3), .second, .val (.long v1), .second, .val (.long v2), .second, .val (.long v3), .second, .val (.ref b7), .val (.ref b9), .val (.long (((u1 * v1) + (u2 * v2)) + (u3 * v3))), .second]) rfl k) ?_
  show Goes p e below s _ _ _ (T10.setTop (mkF m 93 #[.val (.int p0), .val (.int p1), .val (.int p2), .val (.int p3), .val (.int p4), .val (.int p5), .val (.long u1), .second, .val (.long u2), .second, .val (.long u3), .second, .val (.long v1), .second, .val (.long v2), .second, .val (.long v3), .second, .val (.ref b7), .val (.ref b9), .val (.long (((u1 * v1) + (u2 * v2)) + (u3 * v3))), .second] []))
  refine Goes.by (fun t k => XS.aload X10.here hx rfl (hb hby at_93) rfl rfl k) ?_
  show Goes p e below s _ _ _ (T10.setTop (mkF m 95 #[.val (.int p0), .val (.int p1), .val (.int p2), .val (.int p3), .val (.int p4), .val (.int p5), .val (.long u1), .second, .val (.long u2), .second, .val (.long u3), .second, .val (.long v1), .second, .val (.long v2), .second, .val (.long v3), .second, .val (.ref b7), .val (.ref b9), .val (.long (((u1 * v1) + (u2 * v2)) + (u3 * v3))), .second] [(.ref b7)]))
  refine Goes.by (fun t k => XS.aload X10.here hx rfl (hb hby at_95) rfl rfl k) ?_
  show Goes p e below s _ _ _ (T10.setTop (mkF m 97 #[.val (.int p0), .val (.int p1), .val (.int p2), .val (.int p3), .val (.int p4), .val (.int p5), .val (.long u1), .second, .val (.long u2), .second, .val (.long u3), .second, .val (.long v1), .second, .val (.long v2), .second, .val (.long v3), .second, .val (.ref b7), .val (.ref b9), .val (.long (((u1 * v1) + (u2 * v2)) + (u3 * v3))), .second] [(.ref b9), (.ref b7)]))
  have W1' := own_mul bu1.1 bu1.2 bv1.1 bv1.2 rfl
  have B1' := own_b bu1 bv1
  have W2' := own_mul bu2.1 bu2.2 bv2.1 bv2.2 rfl
  have B2' := own_b bu2 bv2
  have W3' := own_mul bu3.1 bu3.2 bv3.1 bv3.2 rfl
  have B3' := own_b bu3 bv3
  obtain ⟨c1, c2, c12⟩ := own_b2 B1' B2'
  have W12 := own_add W1' W2' c1 c2
  have c3 : B53 (u3 * v3) := ⟨by omega, by omega⟩
  have W123 := own_add W12 W3' c12 c3
  obtain ⟨cq11, kq11, q11a, q11b, q11c⟩ := isOf hZ rfl (f23)
  obtain ⟨_, _, ⟨T11, L11, k11, n11⟩, -, X11, ⟨Lc11, hQ11, l11, y11, z11⟩, st11⟩ := X10.virtualBack hx (y := (⟨"com/example/roadstitch/roadstitch/core/Vector3", "dot", "(Lcom/example/roadstitch/roadstitch/core/Vector3;)D"⟩ : MethodName)) (z := (⟨"com/example/roadstitch/roadstitch/core/Vector3", "dot", "(Lcom/example/roadstitch/roadstitch/core/Vector3;)D"⟩ : MethodName)) hown (mvT hZ (hw _ (List.mem_of_getElem? (i := 24) rfl))) (mvT hZ (hw _ (List.mem_of_getElem? (i := 25) rfl))) (notFace_of_selects (args := #[]) (mvT hZ (hw _ (List.mem_of_getElem? (i := 27) rfl)))) (mvT hZ (hw _ (List.mem_of_getElem? (i := 27) rfl))) (mvT hZ (hw _ (List.mem_of_getElem? (i := 26) rfl))) (by decide) (backOf (W := 0) (rm5 l Z a0 hw [] b7 b9 u1 u2 u3 v1 v2 v3 _ _ _ _ _ T10.heap n0 f22 f24 f25 f26 F10 G10 H10 rfl rfl rfl rfl rfl W1'.nn W2'.nn W3'.nn W12.nn W123.nn) hZ (hw _ (List.mem_of_getElem? (i := 28) rfl)) (hw _ (List.mem_of_getElem? (i := 6) rfl)) (by decide) (by decide)) q11a q11c (g := (mkF m 97 #[.val (.int p0), .val (.int p1), .val (.int p2), .val (.int p3), .val (.int p4), .val (.int p5), .val (.long u1), .second, .val (.long u2), .second, .val (.long u3), .second, .val (.long v1), .second, .val (.long v2), .second, .val (.long v3), .second, .val (.ref b7), .val (.ref b9), .val (.long (((u1 * v1) + (u2 * v2)) + (u3 * v3))), .second] [(.ref b9), (.ref b7)])) rfl (by rw [hml]; rfl) (Steps.refl _) (argsL := [(.ref b9)]) (rest := []) (lenOf pd_3 rfl) rfl (by show 2 * 0 + _ ≤ _; exact Nat.le_of_eq rfl) (hb hby at_97) (fun _ _ => ⟨rfl, rfl, (by decide : 2 + 0 ≤ _), (by decide : 6 + 0 ≤ _)⟩)
  dsimp only [Pt.U, Pt.locs, Pt.cells, Pt.slots] at X11 l11 y11 z11 st11 hQ11
  subst l11 y11 z11
  obtain ⟨rfl, N11q, hh11⟩ := hQ11
  have N11 := Fr.app N10 N11q
  refine Goes.by (fun t k => st11.trans k) ?_
  show Goes p e below s _ _ _ (T11.setTop (mkF m 100 #[.val (.int p0), .val (.int p1), .val (.int p2), .val (.int p3), .val (.int p4), .val (.int p5), .val (.long u1), .second, .val (.long u2), .second, .val (.long u3), .second, .val (.long v1), .second, .val (.long v2), .second, .val (.long v3), .second, .val (.ref b7), .val (.ref b9), .val (.long (((u1 * v1) + (u2 * v2)) + (u3 * v3))), .second] [(.double (FP.dadd (FP.dadd (FP.dmul (FP.l2d u1) (FP.l2d v1)) (FP.dmul (FP.l2d u2) (FP.l2d v2))) (FP.dmul (FP.l2d u3) (FP.l2d v3))))]))
  refine Goes.by (fun t k => XS.lload X11.here hx rfl (hb hby at_100) rfl k) ?_
  show Goes p e below s _ _ _ (T11.setTop (mkF m 102 #[.val (.int p0), .val (.int p1), .val (.int p2), .val (.int p3), .val (.int p4), .val (.int p5), .val (.long u1), .second, .val (.long u2), .second, .val (.long u3), .second, .val (.long v1), .second, .val (.long v2), .second, .val (.long v3), .second, .val (.ref b7), .val (.ref b9), .val (.long (((u1 * v1) + (u2 * v2)) + (u3 * v3))), .second] [(.long (((u1 * v1) + (u2 * v2)) + (u3 * v3))), (.double (FP.dadd (FP.dadd (FP.dmul (FP.l2d u1) (FP.l2d v1)) (FP.dmul (FP.l2d u2) (FP.l2d v2))) (FP.dmul (FP.l2d u3) (FP.l2d v3))))]))
  refine Goes.by (fun t k => XS.l2dS X11.here hx rfl (hb hby at_102) rfl rfl k) ?_
  show Goes p e below s _ _ _ (T11.setTop (mkF m 103 #[.val (.int p0), .val (.int p1), .val (.int p2), .val (.int p3), .val (.int p4), .val (.int p5), .val (.long u1), .second, .val (.long u2), .second, .val (.long u3), .second, .val (.long v1), .second, .val (.long v2), .second, .val (.long v3), .second, .val (.ref b7), .val (.ref b9), .val (.long (((u1 * v1) + (u2 * v2)) + (u3 * v3))), .second] [(.double (FP.l2d (((u1 * v1) + (u2 * v2)) + (u3 * v3)))), (.double (FP.dadd (FP.dadd (FP.dmul (FP.l2d u1) (FP.l2d v1)) (FP.dmul (FP.l2d u2) (FP.l2d v2))) (FP.dmul (FP.l2d u3) (FP.l2d v3))))]))
  refine Goes.by (fun t k => XS.dcmpS X11.here hx rfl (hb hby at_103) rfl (own_cmp W123) k) ?_
  show Goes p e below s _ _ _ (T11.setTop (mkF m 104 #[.val (.int p0), .val (.int p1), .val (.int p2), .val (.int p3), .val (.int p4), .val (.int p5), .val (.long u1), .second, .val (.long u2), .second, .val (.long u3), .second, .val (.long v1), .second, .val (.long v2), .second, .val (.long v3), .second, .val (.ref b7), .val (.ref b9), .val (.long (((u1 * v1) + (u2 * v2)) + (u3 * v3))), .second] [(.int (0 : Int32))]))
  refine Goes.by (fun t k => XS.ifNo X11.here hx rfl (hb hby at_104) rfl ((if0 _ _).trans (teq (rfl)).2) k) ?_
  show Goes p e below s _ _ _ (T11.setTop (mkF m 107 #[.val (.int p0), .val (.int p1), .val (.int p2), .val (.int p3), .val (.int p4), .val (.int p5), .val (.long u1), .second, .val (.long u2), .second, .val (.long u3), .second, .val (.long v1), .second, .val (.long v2), .second, .val (.long v3), .second, .val (.ref b7), .val (.ref b9), .val (.long (((u1 * v1) + (u2 * v2)) + (u3 * v3))), .second] []))
  refine Goes.by (fun t k => XS.iconst X11.here hx rfl (hb hby at_107) k) ?_
  show Goes p e below s _ _ _ (T11.setTop (mkF m 108 #[.val (.int p0), .val (.int p1), .val (.int p2), .val (.int p3), .val (.int p4), .val (.int p5), .val (.long u1), .second, .val (.long u2), .second, .val (.long u3), .second, .val (.long v1), .second, .val (.long v2), .second, .val (.long v3), .second, .val (.ref b7), .val (.ref b9), .val (.long (((u1 * v1) + (u2 * v2)) + (u3 * v3))), .second] [(.int (1 : Int32))]))
  refine Goes.by (fun t k => XS.goto X11.here hx rfl (pc0 := 108) (pc' := 112) rfl (hb hby at_108) (by decide) (by decide) k) ?_
  show Goes p e below s _ _ _ (T11.setTop (mkF m 112 #[.val (.int p0), .val (.int p1), .val (.int p2), .val (.int p3), .val (.int p4), .val (.int p5), .val (.long u1), .second, .val (.long u2), .second, .val (.long u3), .second, .val (.long v1), .second, .val (.long v2), .second, .val (.long v3), .second, .val (.ref b7), .val (.ref b9), .val (.long (((u1 * v1) + (u2 * v2)) + (u3 * v3))), .second] [(.int (1 : Int32))]))
  exact Goes.retN X11 hx Bd.returns rfl (hb hby at_112) hlk (by exact ⟨rfl, N11⟩) (by decide) (by decide)
set_option maxRecDepth 65536 in
set_option maxHeartbeats 40000000 in
theorem comes_1 {Post : Tables → Env → Array Value → State → Outcome → State → Prop} (hpost : ∀ tb e args s v u, (limb_1_1.after args s (.returned v) u = true ∧ limb_1_2.after args s (.returned v) u = true ∧ True) → FrameEnd s (.returned v) u (Jvm.fieldLocs frame_1_writes args s ++ Jvm.arrayLocs frame_1_arrays args s ++ Jvm.staticLocs frame_1_statics s) 16 128 → Post tb e args s (.returned v) u) :
    ArmFor flags0 classFile x code maxLocals ret World_1 tables_1 room_1 Calls_1 rest_1 Pre_1 Post := by
  intro l hfl _ _ p e ha hc hk s m args below hf hA hF happ hP
  obtain ⟨hcalls, hrest, hpre⟩ := hP
  obtain ⟨-, -, -, hnamed, -, -, -, hat⟩ := (Spec.applies_iff hf).mp happ
  obtain ⟨hg, hn⟩ := and_e (Cond.before_iff.mp (show (Jvm.Cond.and given_1 narrow_1).before args s = true from hpre))
  obtain ⟨hcnt, hg⟩ := and_e hg
  obtain ⟨ga0, hg⟩ := and_e hg
  obtain ⟨ga1, hg⟩ := and_e hg
  obtain ⟨ga2, hg⟩ := and_e hg
  obtain ⟨ga3, hg⟩ := and_e hg
  obtain ⟨ga4, hg⟩ := and_e hg
  have ga5 := hg
  obtain ⟨w0, w1, w2, w3, w4, w5, rfl⟩ : ∃ w0 w1 w2 w3 w4 w5 : Value, args = #[w0, w1, w2, w3, w4, w5] := by
    have hs : args.size = 6 := by simpa [Cond.value, given_1] using hcnt
    obtain ⟨L⟩ := args
    match L, hs with
    | [w0, w1, w2, w3, w4, w5], _ => exact ⟨w0, w1, w2, w3, w4, w5, rfl⟩
  have hw := fun d (hd : d ∈ tables_1) => atoms_spec (ws := Jvm.Cond.code x code maxLocals ret :: tables_1) hat d (List.mem_cons_of_mem _ hd)
  obtain ⟨i0, ei0⟩ := is_v ga0
  obtain rfl : w0 = (.int i0) := Option.some.inj ei0
  obtain ⟨i1, ei1⟩ := is_v ga1
  obtain rfl : w1 = (.int i1) := Option.some.inj ei1
  obtain ⟨i2, ei2⟩ := is_v ga2
  obtain rfl : w2 = (.int i2) := Option.some.inj ei2
  obtain ⟨i3, ei3⟩ := is_v ga3
  obtain rfl : w3 = (.int i3) := Option.some.inj ei3
  obtain ⟨i4, ei4⟩ := is_v ga4
  obtain rfl : w4 = (.int i4) := Option.some.inj ei4
  obtain ⟨i5, ei5⟩ := is_v ga5
  obtain rfl : w5 = (.int i5) := Option.some.inj ei5
  obtain ⟨n, o, h1, h2, h3, _, L, rfl, ⟨rfl, N⟩, hq⟩ := rm0 l s _ hw tables_1 i0 i1 i2 i3 i4 i5 s.heap s.heap.size (Nat.le_refl _) p e ha hc hk s m _ below hf ((Spec.applies_iff_loose hf).mp happ).1 ⟨rfl, State.Warmed39.refl s, rfl⟩ trivial
  refine ⟨n, _, h1, h2, h3, hpost _ _ _ _ _ _ ⟨Cond.after_iff.mpr rfl, Cond.after_iff.mpr (eq_i res_at (Term.int_eval (1)) rfl), trivial⟩ ⟨hq.1, hq.2.1, (hq.2.2.sift fun y hy => Or.inr (N y hy)).mono (by decide) (by decide)⟩⟩
theorem main_1_1 : Claimed_1_1 := comes_1 fun _ _ _ _ _ _ h hF => ⟨h.1, hF⟩
theorem main_1_2 : Claimed_1_2 := comes_1 fun _ _ _ _ _ _ h hF => ⟨h.2.1, hF⟩
end Jvm.Pilot.@@N@@
namespace Jvm.Pilot.@@N@@
open Jvm Jvm.ClassFile Sem Op Lib Jvm.Free Jvm.Stand Jvm.Pilot.@@N@@.Jvm.D
/-! MADE BY PROGRAM (witnessworld.py) out of the Statement's table words and the real class files: 10 classes; the members and pool entries that the words name. The judged class is class 1, her method 2. -/
namespace start1
open Jvm.ClassFile
def u (s : String) : CpInfo := .utf8 (stringToUtf16 s)
/-- a pool by its gaps: so many unusable entries, then the entry; so many at the end -/
def gap : Nat → List CpInfo → List CpInfo
  | 0, r => r
  | n + 1, r => .unusable :: gap n r
def poolList (es : List (Nat × CpInfo)) (last : Nat) : List CpInfo := es.foldr (fun e r => gap e.1 (e.2 :: r)) (gap last [])
def pool (es : List (Nat × CpInfo)) (last : Nat) : Array CpInfo := ⟨poolList es last⟩
def fileOf (pool : Array CpInfo) (this : Nat) (attrs : Array Attribute := #[]) (ms : Array MethodInfo := #[]) (fl : Nat := 33) (sup : Nat := 0) (ifs : Array Nat := #[]) (fds : Array FieldInfo := #[]) : ClassFile where
  minorVersion := 0
  majorVersion := 65
  constantPool := pool
  accessFlags := fl
  thisClass := this
  superClass := sup
  interfaces := ifs
  fields := fds
  methods := ms
  attributes := attrs
def plain (name : String) (sup : Option ClassId) : Class where
  name := name
  kind := .ordinary
  loader := none
  accessFlags := 33
  super := sup
  interfaces := #[]
  cf := none
  fields := #[]
  methods := #[]
  instanceTypes := #[]
  staticTypes := #[]
  resolved := #[]
  callSites := []
  init := .initialized
  statics := none
  mirror := none

def pool0 : Array CpInfo := pool [(5, u "<init>"), (0, u "()V"), (1, .class_ 10), (1, u "java/lang/Object")] 113

def k0c0 : Code := { maxStack := 0, maxLocals := 1, code := object_method_1_code, exceptionTable := #[], attributes := #[] }
def k0m0 : Method := { name := "<init>", desc := "()V", sig := { parameters := [], returnType := none }, accessFlags := 1, code := some k0c0 }
/-- java/lang/Object -/
def k0 : Class := { plain "java/lang/Object" none with
  accessFlags := 33
  interfaces := #[]
  cf := some (fileOf pool0 8 #[] #[{ accessFlags := 1, nameIndex := 5, descriptorIndex := 6, attributes := #[] }] 33 0 #[] #[])
  fields := #[]
  methods := #[k0m0]
  instanceTypes := #[]
  staticTypes := #[]
  resolved := Array.replicate 124 none
  statics := none }

def pool1 : Array CpInfo := pool [(2, .class_ 4), (1, u "java/lang/Object"), (0, u "<init>"), (0, u "()V"), (0, .methodref 8 9), (0, .class_ 10), (0, .nameAndType 11 12), (0, u "com/example/roadstitch/roadstitch/core/Vector3DotPinLaw"), (0, u "s"), (0, u "(I)J"), (0, .class_ 14), (0, u "com/example/roadstitch/roadstitch/core/Vector3"), (0, .methodref 13 16), (0, .nameAndType 5 17), (0, u "(DDD)V"), (0, .methodref 13 19), (0, .nameAndType 20 21), (0, u "dot"), (0, u "(Lcom/example/roadstitch/roadstitch/core/Vector3;)D"), (2, u "law"), (0, u "(IIIIII)Z")] 3

def k1m0 : Method := { name := "<init>", desc := "()V", sig := { parameters := [], returnType := none }, accessFlags := 1, code := none }
def k1c1 : Code := { maxStack := 2, maxLocals := 1, code := method_2_code, exceptionTable := #[], attributes := #[] }
def k1m1 : Method := { name := "s", desc := "(I)J", sig := { parameters := [.int], returnType := some .long }, accessFlags := 10, code := some k1c1 }
def k1c2 : Code := { maxStack := 8, maxLocals := 22, code := code, exceptionTable := #[], attributes := #[] }
def k1m2 : Method := { name := "law", desc := "(IIIIII)Z", sig := { parameters := [.int, .int, .int, .int, .int, .int], returnType := some .boolean }, accessFlags := 9, code := some k1c2 }
/-- com/example/roadstitch/roadstitch/core/Vector3DotPinLaw -/
def k1 : Class := { plain "com/example/roadstitch/roadstitch/core/Vector3DotPinLaw" (some 0) with
  accessFlags := 49
  interfaces := #[]
  cf := some (fileOf pool1 8 #[] #[{ accessFlags := 1, nameIndex := 5, descriptorIndex := 6, attributes := #[] }, { accessFlags := 10, nameIndex := 11, descriptorIndex := 12, attributes := #[] }, { accessFlags := 9, nameIndex := 24, descriptorIndex := 25, attributes := #[] }] 49 2 #[] #[])
  fields := #[]
  methods := #[k1m0, k1m1, k1m2]
  instanceTypes := #[]
  staticTypes := #[]
  resolved := Array.replicate 29 none
  statics := none }

def pool2 : Array CpInfo := pool [(1, .methodref 2 3), (0, .class_ 4), (0, .nameAndType 5 6), (0, u "java/lang/Object"), (0, u "<init>"), (0, u "()V"), (0, .class_ 8), (0, u "java/lang/Record")] 13

def k2c0 : Code := { maxStack := 1, maxLocals := 1, code := jdk_30_method_1_code, exceptionTable := #[], attributes := #[] }
def k2m0 : Method := { name := "<init>", desc := "()V", sig := { parameters := [], returnType := none }, accessFlags := 4, code := some k2c0 }
/-- java/lang/Record -/
def k2 : Class := { plain "java/lang/Record" (some 0) with
  accessFlags := 1057
  interfaces := #[]
  cf := some (fileOf pool2 7 #[] #[{ accessFlags := 4, nameIndex := 5, descriptorIndex := 6, attributes := #[] }] 1057 2 #[] #[])
  fields := #[]
  methods := #[k2m0]
  instanceTypes := #[]
  staticTypes := #[]
  resolved := Array.replicate 22 none
  statics := none }

def pool3 : Array CpInfo := pool [(1, .methodref 2 3), (0, .class_ 4), (0, .nameAndType 5 6), (0, u "java/lang/Record"), (0, u "<init>"), (0, u "()V"), (0, .fieldref 8 9), (0, .class_ 10), (0, .nameAndType 11 12), (0, u "com/example/roadstitch/roadstitch/core/Vector3"), (0, u "x"), (0, u "D"), (0, .fieldref 8 14), (0, .nameAndType 15 12), (0, u "y"), (0, .fieldref 8 17), (0, .nameAndType 18 12), (0, u "z"), (2, u "(DDD)V"), (2, u "dot"), (0, u "(Lcom/example/roadstitch/roadstitch/core/Vector3;)D")] 54

def k3c0 : Code := { maxStack := 3, maxLocals := 7, code := prog_99_method_1_code, exceptionTable := #[], attributes := #[] }
def k3m0 : Method := { name := "<init>", desc := "(DDD)V", sig := { parameters := [.double, .double, .double], returnType := none }, accessFlags := 0, code := some k3c0 }
def k3c1 : Code := { maxStack := 6, maxLocals := 2, code := prog_99_method_2_code, exceptionTable := #[], attributes := #[] }
def k3m1 : Method := { name := "dot", desc := "(Lcom/example/roadstitch/roadstitch/core/Vector3;)D", sig := { parameters := [(.object "com/example/roadstitch/roadstitch/core/Vector3")], returnType := some .double }, accessFlags := 0, code := some k3c1 }
/-- com/example/roadstitch/roadstitch/core/Vector3 -/
def k3 : Class := { plain "com/example/roadstitch/roadstitch/core/Vector3" (some 2) with
  accessFlags := 48
  interfaces := #[]
  cf := some (fileOf pool3 8 #[] #[{ accessFlags := 0, nameIndex := 5, descriptorIndex := 21, attributes := #[] }, { accessFlags := 0, nameIndex := 24, descriptorIndex := 25, attributes := #[] }] 48 2 #[] #[{ accessFlags := 18, nameIndex := 11, descriptorIndex := 12, attributes := #[] }, { accessFlags := 18, nameIndex := 15, descriptorIndex := 12, attributes := #[] }, { accessFlags := 18, nameIndex := 18, descriptorIndex := 12, attributes := #[] }])
  fields := #[{ name := "x", type := .double, accessFlags := 18, slot := 0, constantValue := 0 }, { name := "y", type := .double, accessFlags := 18, slot := 1, constantValue := 0 }, { name := "z", type := .double, accessFlags := 18, slot := 2, constantValue := 0 }]
  methods := #[k3m0, k3m1]
  instanceTypes := #[.double, .double, .double]
  staticTypes := #[]
  resolved := Array.replicate 80 none
  statics := none }

def pool4 : Array CpInfo := pool [(1, u "java/lang/Cloneable"), (0, .class_ 1), (0, u "java/lang/Object"), (0, .class_ 3)] 3

/-- java/lang/Cloneable -/
def k4 : Class := { plain "java/lang/Cloneable" (some 0) with
  accessFlags := 1537
  interfaces := #[]
  cf := some (fileOf pool4 2 #[] #[] 1537 4 #[] #[])
  fields := #[]
  methods := #[]
  instanceTypes := #[]
  staticTypes := #[]
  resolved := Array.replicate 8 none
  statics := none }

def pool5 : Array CpInfo := pool [(1, u "java/io/Serializable"), (0, .class_ 1), (0, u "java/lang/Object"), (0, .class_ 3)] 3

/-- java/io/Serializable -/
def k5 : Class := { plain "java/io/Serializable" (some 0) with
  accessFlags := 1537
  interfaces := #[]
  cf := some (fileOf pool5 2 #[] #[] 1537 4 #[] #[])
  fields := #[]
  methods := #[]
  instanceTypes := #[]
  staticTypes := #[]
  resolved := Array.replicate 8 none
  statics := none }

/-- the primitive byte -/
def k6 : Class := { plain "byte" none with kind := .primitive 'B', accessFlags := 0x411 }
/-- [B -/
def k7 : Class := { plain "[B" (some 0) with kind := .array 6 .byte, interfaces := #[4, 5], accessFlags := 1041 }

/-- the primitive int -/
def k8 : Class := { plain "int" none with kind := .primitive 'I', accessFlags := 0x411 }
/-- [I -/
def k9 : Class := { plain "[I" (some 0) with kind := .array 8 .int, interfaces := #[4, 5], accessFlags := 1041 }

def heap : Heap := #[]
def classes : Array Class := #[k0, k1, k2, k3, k4, k5, k6, k7, k8, k9]
def interned : List (Array UInt16 × Addr) := []
def slotsUsed : Nat := 0
def theMethod : MethodId := ⟨1, 2⟩
def args0 : Array Value := #[.int 0, .int 1, .int 2, .int 3, .int 4, .int 5]
def aboutOver (below : List Frame) : State where
  vm := { classes := classes, interned := interned.toArray }
  heap := heap
  slotsUsed := slotsUsed
  threads := #[{ frames := .invoking theMethod args0 :: below }]
def below0 : List Frame := [.native { method := ⟨0, 0⟩, args := #[] }]
def about1 : State := aboutOver below0
def p0 : Program := .bare "" "" ""
def e0 : Env := launch0.env 0 0 0
theorem w_frames : about1.frames = Frame.invoking theMethod args0 :: below0 := rfl
set_option maxRecDepth 65536 in
theorem w_args : argsFit about1.vm theMethod args0 = true := by decide +kernel
set_option maxRecDepth 65536 in
theorem w_heap : heapFits about1 = true := by decide +kernel
set_option maxRecDepth 65536 in
theorem w_runnable : about1.curStatus? = some .runnable := by decide +kernel
set_option maxRecDepth 65536 in
theorem w_alone : about1.alone = true := by decide +kernel
set_option maxRecDepth 65536 in
theorem w_named : about1.methodNamed? x = some theMethod := by decide +kernel
set_option maxRecDepth 65536 in
theorem w_hears : about1.hears theMethod below0 = true := by decide +kernel
set_option maxRecDepth 65536 in
theorem w_ripe : about1.ripe theMethod args0 below0 = true := by decide +kernel
theorem w_running : about1.status = .running := rfl
set_option maxRecDepth 65536 in
theorem w_room : about1.hasRoom e0.platform room_1 = true :=
  launch0.hasRoom_least _ room_1 (by decide +kernel) (by decide +kernel) (by decide +kernel) (by decide +kernel) (by decide +kernel) (by decide +kernel)
theorem allAtoms_all (ts : List Jvm.Cond) (a : Array Jvm.Value) (st : Jvm.State) : (allAtoms ts).before a st = ts.all (fun c => c.before a st) := by
  induction ts with
  | nil => rfl
  | cons c t ih =>
    show (Jvm.Cond.and c (allAtoms t)).before a st = _
    rw [Jvm.Cond.before_and, ih, List.all_cons]
def words1 : List Jvm.Cond := Jvm.Cond.code x code maxLocals ret :: tables_1
/-- a 'code' word, met by the world's own term for the bytes: nothing is compared byte by byte -/
theorem code_word {y : MethodName} {bytes : ByteArray} {mx : Nat} {rt : Option FieldType} {a : Array Value} {s : State} {m : MethodId} {meth : Method} {c : Code} (h1 : s.methodNamed? y = some m) (h2 : s.vm.method? m = some meth) (h3 : meth.code = some c) (h4 : c.code = bytes)
    (h5 : (c.maxLocals == mx && c.exceptionTable.isEmpty && decide (c.maxStack ≤ mostOperands) && decide (meth.sig.returnType = rt) && !meth.locks && decide (parseMethodDescriptor y.desc = some meth.sig)) = true) : (Jvm.Cond.code y bytes mx rt).before a s = true := by
  simp only [Bool.and_eq_true, beq_iff_eq, Bool.not_eq_true', decide_eq_true_eq] at h5
  obtain ⟨⟨⟨⟨⟨g1, g2⟩, g3⟩, g4⟩, g5⟩, g6⟩ := h5
  simp [Cond.before, Cond.holds, Cond.value, h1, h2, h3, h4, g1, g2, g3, g4, g5, g6]
def isCode : Jvm.Cond → Bool
  | .code _ _ _ _ => true
  | _ => false
theorem all_split {L : List Jvm.Cond} {P : Jvm.Cond → Bool} (h1 : L.all (fun c => isCode c || P c) = true) (h2 : ∀ c ∈ L.filter isCode, P c = true) : L.all P = true := by
  refine List.all_eq_true.mpr fun c hc => ?_
  have h := List.all_eq_true.mp h1 c hc
  rcases Bool.eq_false_or_eq_true (isCode c) with hi | hi
  · exact h2 c (List.mem_filter.mpr ⟨hc, hi⟩)
  · simpa [hi] using h
set_option maxRecDepth 65536 in
theorem w_c0 : (Jvm.Cond.code x code maxLocals ret).before args0 about1 = true := code_word (m := ⟨1, 2⟩) (meth := k1m2) (c := k1c2) (by decide +kernel) rfl rfl rfl (by decide +kernel)
set_option maxRecDepth 65536 in
theorem w_c1 : (Jvm.Cond.code ({ cls := "com/example/roadstitch/roadstitch/core/Vector3DotPinLaw", name := "s", desc := "(I)J" } : Jvm.MethodName) method_2_code (1 : Nat) (Option.some Jvm.ClassFile.FieldType.long)).before args0 about1 = true := code_word (m := ⟨1, 1⟩) (meth := k1m1) (c := k1c1) (by decide +kernel) rfl rfl rfl (by decide +kernel)
set_option maxRecDepth 65536 in
theorem w_c2 : (Jvm.Cond.code ({ cls := "com/example/roadstitch/roadstitch/core/Vector3", name := "<init>", desc := "(DDD)V" } : Jvm.MethodName) prog_99_method_1_code (7 : Nat) (Option.none : Option Jvm.ClassFile.FieldType)).before args0 about1 = true := code_word (m := ⟨3, 0⟩) (meth := k3m0) (c := k3c0) (by decide +kernel) rfl rfl rfl (by decide +kernel)
set_option maxRecDepth 65536 in
theorem w_c3 : (Jvm.Cond.code ({ cls := "java/lang/Record", name := "<init>", desc := "()V" } : Jvm.MethodName) jdk_30_method_1_code (1 : Nat) (Option.none : Option Jvm.ClassFile.FieldType)).before args0 about1 = true := code_word (m := ⟨2, 0⟩) (meth := k2m0) (c := k2c0) (by decide +kernel) rfl rfl rfl (by decide +kernel)
set_option maxRecDepth 65536 in
theorem w_c4 : (Jvm.Cond.code ({ cls := "java/lang/Object", name := "<init>", desc := "()V" } : Jvm.MethodName) object_method_1_code (1 : Nat) (Option.none : Option Jvm.ClassFile.FieldType)).before args0 about1 = true := code_word (m := ⟨0, 0⟩) (meth := k0m0) (c := k0c0) (by decide +kernel) rfl rfl rfl (by decide +kernel)
set_option maxRecDepth 65536 in
theorem w_c5 : (Jvm.Cond.code ({ cls := "com/example/roadstitch/roadstitch/core/Vector3", name := "dot", desc := "(Lcom/example/roadstitch/roadstitch/core/Vector3;)D" } : Jvm.MethodName) prog_99_method_2_code (2 : Nat) (Option.some Jvm.ClassFile.FieldType.double)).before args0 about1 = true := code_word (m := ⟨3, 1⟩) (meth := k3m1) (c := k3c1) (by decide +kernel) rfl rfl rfl (by decide +kernel)
def codes1 : List Jvm.Cond := [Jvm.Cond.code x code maxLocals ret, Jvm.Cond.code ({ cls := "com/example/roadstitch/roadstitch/core/Vector3DotPinLaw", name := "s", desc := "(I)J" } : Jvm.MethodName) method_2_code (1 : Nat) (Option.some Jvm.ClassFile.FieldType.long), Jvm.Cond.code ({ cls := "com/example/roadstitch/roadstitch/core/Vector3", name := "<init>", desc := "(DDD)V" } : Jvm.MethodName) prog_99_method_1_code (7 : Nat) (Option.none : Option Jvm.ClassFile.FieldType), Jvm.Cond.code ({ cls := "java/lang/Record", name := "<init>", desc := "()V" } : Jvm.MethodName) jdk_30_method_1_code (1 : Nat) (Option.none : Option Jvm.ClassFile.FieldType), Jvm.Cond.code ({ cls := "java/lang/Object", name := "<init>", desc := "()V" } : Jvm.MethodName) object_method_1_code (1 : Nat) (Option.none : Option Jvm.ClassFile.FieldType), Jvm.Cond.code ({ cls := "com/example/roadstitch/roadstitch/core/Vector3", name := "dot", desc := "(Lcom/example/roadstitch/roadstitch/core/Vector3;)D" } : Jvm.MethodName) prog_99_method_2_code (2 : Nat) (Option.some Jvm.ClassFile.FieldType.double)]
set_option maxRecDepth 65536 in
theorem codes_eq : words1.filter isCode = codes1 := rfl
theorem w_codes : ∀ c ∈ words1.filter isCode, c.before args0 about1 = true := by
  rw [codes_eq]
  intro c hc
  simp only [codes1, List.mem_cons, List.not_mem_nil, or_false] at hc
  rcases hc with rfl | rfl | rfl | rfl | rfl | rfl
  · exact w_c0
  · exact w_c1
  · exact w_c2
  · exact w_c3
  · exact w_c4
  · exact w_c5
set_option maxRecDepth 65536 in
theorem w_t1 : (words1.take 24).all (fun c => isCode c || c.before args0 about1) = true := by decide +kernel
set_option maxRecDepth 65536 in
theorem w_t2 : (words1.drop 24).all (fun c => isCode c || c.before args0 about1) = true := by decide +kernel
theorem w_tables : (allAtoms (Jvm.Cond.code x code maxLocals ret :: tables_1)).before args0 about1 = true := by
  rw [allAtoms_all]
  show words1.all (fun c => c.before args0 about1) = true
  refine all_split ?_ w_codes
  rw [← List.take_append_drop 24 words1, List.all_append, w_t1, w_t2]
  rfl
set_option maxRecDepth 65536 in
theorem w_case : (Jvm.Cond.and given_1 narrow_1).before args0 about1 = true := by decide +kernel
theorem w_applies : (headSpec (Jvm.Cond.code x code maxLocals ret :: tables_1) room_1).applies x e0.platform about1 = true :=
  (Spec.applies_iff w_frames).mpr ⟨w_running, w_runnable, w_alone, w_named, w_hears, w_ripe, w_room, w_tables⟩
theorem atStart : AtStart classFile x code maxLocals ret World_1 tables_1 room_1 Calls_1 rest_1 Pre_1 launch0 p0 e0 about1 theMethod args0 below0 :=
  ⟨lists_1, trivial, launch0.admits_env _ _ _, launch0.least_env, fairChoices_fair.cas, fairChoices_fair.clock, w_frames, w_args, w_heap, w_applies, trivial, trivial, w_case⟩
end start1
theorem witness_1 : WitnessClaimed_1 := ⟨start1.p0, start1.e0, start1.about1, start1.theMethod, start1.args0, start1.below0, start1.atStart⟩
end Jvm.Pilot.@@N@@
