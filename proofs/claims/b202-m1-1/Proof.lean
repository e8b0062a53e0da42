import JvmDerived
import JvmDerived.Pilot.@@N@@Statement
import JvmDerived.Pilot.@@N@@Code
set_option linter.unusedVariables false
set_option linter.unusedSimpArgs false
namespace Jvm.Pilot.@@N@@
open Jvm Jvm.ClassFile Sem Op Lib Jvm.Free Jvm.Stand Jvm.LawKit Jvm.RoadKit Bundle Jvm.Pilot.@@N@@.Jvm.D
/-! a run that ends as a contract says: forks and joins go by it -/
def Goes (p : Program) (e : Env) (below : List Frame) (s : State) (Q : Option Value → Heap → List Loc → Prop) (kc ks : Nat) (A : State) : Prop :=
  ∃ s₂ o, Steps p.tables e below A s₂ ∧ s₂.status = .running ∧ Ended s₂ below o ∧ ∃ v L, o = .returned v ∧ Q v s₂.heap L ∧ FrameEnd s o s₂ L kc ks
section Go
variable {p : Program} {l : Launch} {e : Env} {R : Room} {s : State} {m : MethodId} {args : Array Value} {below : List Frame} {meth : Method} {c : Code} {T : State} {locs : List Loc} {cells slots kc ks : Nat} {Q : Option Value → Heap → List Loc → Prop}
theorem Goes.by {A B : State} (h : ∀ t, Steps p.tables e below B t → Steps p.tables e below A t) (k : Goes p e below s Q kc ks B) : Goes p e below s Q kc ks A := by
  obtain ⟨s₂, o, h1, h2⟩ := k
  exact ⟨s₂, o, h _ h1, h2⟩
theorem Goes.out (X : Stand p l e R s m args below meth c T locs cells slots) (hx : p.tables.exec = Jvm.exec) {pc : Nat} {Ls : Array Slot} {w : Value} {t : FieldType} {i : Instr} {rest : List Value} (hret : meth.sig.returnType = some t) (hn : narrow t w = w)
    (hi : (i = .ireturn ∧ (t = .int ∨ t = .boolean ∨ t = .byte ∨ t = .char ∨ t = .short) ∧ ∃ z, w = .int z) ∨ (i = .lreturn ∧ t = .long ∧ ∃ z, w = .long z) ∨ (i = .dreturn ∧ t = .double ∧ ∃ z, w = .double z) ∨ (i = .freturn ∧ t = .float ∧ ∃ z, w = .float z) ∨ (i = .areturn ∧ t.isReference = true ∧ w.isRef = true))
    (hd : decode c.code pc = .ok (i, 1)) (hlk : meth.locks = false) (hQ : Q (some w) T.heap locs) (hc : cells ≤ kc) (hs : slots ≤ ks) : Goes p e below s Q kc ks (T.setTop (mkF m pc Ls (w :: rest))) := by
  obtain ⟨fs, hr, hrun, hended, hW, hsame⟩ := X.leave (v := some w) (fun h => by rw [hret] at h; cases h) hlk
  exact ⟨_, _, retOut X hx hret hn hi hd hr, hrun, hended, _, _, rfl, hQ, ⟨_, rfl⟩, hW, hsame.mono hc hs⟩
theorem Goes.retI (X : Stand p l e R s m args below meth c T locs cells slots) (hx : p.tables.exec = Jvm.exec) {pc : Nat} {Ls : Array Slot} {z : Int32} {rest : List Value} (hret : meth.sig.returnType = some .int) (hn : True) (hd : decode c.code pc = .ok (.ireturn, 1)) (hlk : meth.locks = false) (hQ : Q (some (.int z)) T.heap locs) (hc : cells ≤ kc) (hs : slots ≤ ks) :
    Goes p e below s Q kc ks (T.setTop (mkF m pc Ls (.int z :: rest))) := Goes.out X hx hret rfl (Or.inl ⟨rfl, Or.inl rfl, z, rfl⟩) hd hlk hQ hc hs
theorem Goes.retN (X : Stand p l e R s m args below meth c T locs cells slots) (hx : p.tables.exec = Jvm.exec) {pc : Nat} {Ls : Array Slot} {z : Int32} {rest : List Value} (hret : meth.sig.returnType = some .boolean) (hn : narrow .boolean (.int z) = .int z) (hd : decode c.code pc = .ok (.ireturn, 1)) (hlk : meth.locks = false) (hQ : Q (some (.int z)) T.heap locs) (hc : cells ≤ kc) (hs : slots ≤ ks) :
    Goes p e below s Q kc ks (T.setTop (mkF m pc Ls (.int z :: rest))) := Goes.out X hx hret hn (Or.inl ⟨rfl, Or.inr (Or.inl rfl), z, rfl⟩) hd hlk hQ hc hs
theorem Goes.retL (X : Stand p l e R s m args below meth c T locs cells slots) (hx : p.tables.exec = Jvm.exec) {pc : Nat} {Ls : Array Slot} {z : Int64} {rest : List Value} (hret : meth.sig.returnType = some .long) (hn : True) (hd : decode c.code pc = .ok (.lreturn, 1)) (hlk : meth.locks = false) (hQ : Q (some (.long z)) T.heap locs) (hc : cells ≤ kc) (hs : slots ≤ ks) :
    Goes p e below s Q kc ks (T.setTop (mkF m pc Ls (.long z :: rest))) := Goes.out X hx hret rfl (Or.inr (Or.inl ⟨rfl, rfl, z, rfl⟩)) hd hlk hQ hc hs
theorem Goes.retD (X : Stand p l e R s m args below meth c T locs cells slots) (hx : p.tables.exec = Jvm.exec) {pc : Nat} {Ls : Array Slot} {z : UInt64} {rest : List Value} (hret : meth.sig.returnType = some .double) (hn : True) (hd : decode c.code pc = .ok (.dreturn, 1)) (hlk : meth.locks = false) (hQ : Q (some (.double z)) T.heap locs) (hc : cells ≤ kc) (hs : slots ≤ ks) :
    Goes p e below s Q kc ks (T.setTop (mkF m pc Ls (.double z :: rest))) := Goes.out X hx hret rfl (Or.inr (Or.inr (Or.inl ⟨rfl, rfl, z, rfl⟩))) hd hlk hQ hc hs
theorem Goes.retA (X : Stand p l e R s m args below meth c T locs cells slots) (hx : p.tables.exec = Jvm.exec) {pc : Nat} {Ls : Array Slot} {w : Value} {t : FieldType} {rest : List Value} (hret : meth.sig.returnType = some t) (ht : t.isReference = true) (hw : w.isRef = true) (hd : decode c.code pc = .ok (.areturn, 1)) (hlk : meth.locks = false) (hQ : Q (some w) T.heap locs) (hc : cells ≤ kc) (hs : slots ≤ ks) :
    Goes p e below s Q kc ks (T.setTop (mkF m pc Ls (w :: rest))) := Goes.out X hx hret (by rcases ref_cases hw with rfl | ⟨a, rfl⟩ <;> cases t <;> first | rfl | (simp [FieldType.isReference] at ht)) (Or.inr (Or.inr (Or.inr (Or.inr ⟨rfl, ht, hw⟩)))) hd hlk hQ hc hs
theorem Goes.retV (X : Stand p l e R s m args below meth c T locs cells slots) (hx : p.tables.exec = Jvm.exec) {pc : Nat} {Ls : Array Slot} (hret : meth.sig.returnType = none) (hd : decode c.code pc = .ok (.return_, 1)) (hlk : meth.locks = false) (hQ : Q none T.heap locs) (hc : cells ≤ kc) (hs : slots ≤ ks) :
    Goes p e below s Q kc ks (T.setTop (mkF m pc Ls [])) := by
  obtain ⟨fs, hr, hrun, hended, hW, hsame⟩ := X.leave (v := none) (fun _ => rfl) hlk
  exact ⟨_, _, X.returnOut hx hret hd hr, hrun, hended, _, _, rfl, hQ, ⟨_, rfl⟩, hW, hsame.mono hc hs⟩
end Go
theorem pd_0 : parseMethodDescriptor "()V" = some ⟨[], none⟩ := by decide +kernel
theorem pd_1 : parseMethodDescriptor "(JJJ)V" = some ⟨[.long, .long, .long], none⟩ := by decide +kernel
theorem pd_2 : parseMethodDescriptor "()Ljava/time/Period;" = some ⟨[], some (.object "java/time/Period")⟩ := by decide +kernel
theorem pd_3 : parseMethodDescriptor "(III)Ljava/time/Period;" = some ⟨[.int, .int, .int], some (.object "java/time/Period")⟩ := by decide +kernel
theorem pd_4 : parseMethodDescriptor "(III)V" = some ⟨[.int, .int, .int], none⟩ := by decide +kernel
theorem pd_5 : parseMethodDescriptor "()I" = some ⟨[], some .int⟩ := by decide +kernel
theorem own_or0 (a b : Int32) (h : a ||| b = 0) : a = 0 ∧ b = 0 := by
  have h' : a.toBitVec ||| b.toBitVec = 0#32 := congrArg Int32.toBitVec h
  have h2 := BitVec.or_eq_zero_iff.mp h'
  exact ⟨Int32.toBitVec_inj.mp h2.1, Int32.toBitVec_inj.mp h2.2⟩
theorem own_per (m : Int32) : (m.toInt64 / 12).toInt32.toInt64 * 12 + (m.toInt64 - m.toInt64 / 12 * 12).toInt32.toInt64 = m.toInt64 ∧ (¬ m < 0 → ¬ (m.toInt64 - m.toInt64 / 12 * 12).toInt32.toInt64 < 0 ∧ ¬ 11 < (m.toInt64 - m.toInt64 / 12 * 12).toInt32.toInt64) ∧ (m < 0 → ¬ 0 < (m.toInt64 - m.toInt64 / 12 * 12).toInt32.toInt64 ∧ ¬ (m.toInt64 - m.toInt64 / 12 * 12).toInt32.toInt64 < -11) := by
  have a0 := c_i2l m
  have r0 := rng32 m
  generalize m.toInt64 = x at *
  have a1 := c_ldiv x 12 12 (by decide) (by decide)
  have a2 := c_lrem x 12 12 (by decide)
  generalize x - x / 12 * 12 = r at *
  generalize x / 12 = q at *
  have a3 := c_l2i q
  have a4 := c_l2i r
  have r3 := rng32 q.toInt32
  have r4 := rng32 r.toInt32
  have a5 := c_i2l q.toInt32
  have a6 := c_i2l r.toInt32
  generalize q.toInt32.toInt64 = y at *
  generalize r.toInt32.toInt64 = mo at *
  have a7 := c_lmul y 12
  have a8 := c_ladd (y * 12) mo
  have r7 := rng64 (y * 12)
  have r8 := rng64 (y * 12 + mo)
  have l12 : (12 : Int64).toInt = 12 := by decide
  have l11 : (11 : Int64).toInt = 11 := by decide
  have lm11 : (-11 : Int64).toInt = -11 := by decide
  have l0 : (0 : Int64).toInt = 0 := by decide
  have i0 : (0 : Int32).toInt = 0 := by decide
  rw [l12] at a7
  simp only [Int64.lt_iff_toInt_lt, Int32.lt_iff_toInt_lt, ← Int64.toInt_inj, l11, lm11, l0, i0]
  rcases a1 with ⟨a1, a1'⟩
  rcases a2 with ⟨a2, a2'⟩
  have b1 : q.toInt32.toInt = q.toInt := by
    rcases Int.lt_or_le x.toInt 0 with z | z
    · have := a1' z; omega
    · have := a1 z; omega
  have b2 : r.toInt32.toInt = r.toInt := by
    rcases Int.lt_or_le x.toInt 0 with z | z
    · have := a2' z; omega
    · have := a2 z; omega
  have b3 : (y * 12).toInt = y.toInt * 12 := by omega
  have b4 : (y * 12 + mo).toInt = y.toInt * 12 + mo.toInt := by omega
  clear a3 a4 a7 a8 r3 r4 r7 r8
  refine ⟨?_, fun h => ?_, fun h => ?_⟩
  · rcases Int.lt_or_le x.toInt 0 with z | z
    · have := a1' z; have := a2' z; omega
    · have := a1 z; have := a2 z; omega
  · have := a2 (by omega); omega
  · have := a2' (by omega); omega
theorem own_days (d : Int32) : d.toInt64.toInt32.toInt64 = d.toInt64 := by
  have a0 := c_i2l d
  have r0 := rng32 d
  have a3 := c_l2i d.toInt64
  have r3 := rng32 d.toInt64.toInt32
  have a5 := c_i2l d.toInt64.toInt32
  apply Int64.toInt_inj.mp
  omega
def Q2 (h0 : Heap) (n0 : Nat) (v : Option Value) (h : Heap) (L : List Loc) : Prop := v = none ∧ Fr n0 L ∧ h = h0
theorem d2_0 : decode jdk_30_method_1_code 0 = .ok (.aload_n 0, 1) := by decide +kernel
theorem d2_1 : decode jdk_30_method_1_code 1 = .ok (.invokespecial 1, 3) := by decide +kernel
theorem d2_4 : decode jdk_30_method_1_code 4 = .ok (.return_, 1) := by decide +kernel
theorem pn_0 : plainName "java/lang/Record" = true := by first | (simp [plainName, overriddenIn]; done) | decide +kernel
theorem ef_rm2 (m : MethodId) (x0 : Addr) : entryFrame m #[(.ref x0)] 1 = mkF m 0 #[.val (.ref x0)] [] := by first | (simp [entryFrame, mkF, argsToLocals, Value.category]; done) | rfl
set_option maxRecDepth 65536 in
set_option maxHeartbeats 40000000 in
theorem rm2 (l : Launch) (Z : State) (a0 : Array Value) (hw : ∀ d ∈ tables_1, d.before a0 Z = true) (ws : List Jvm.Cond) (a1 : Addr) (h0 : Heap) (n0 : Nat) (Z0 : n0 ≤ h0.size)  :
    MetFree l (⟨"java/lang/Record", "<init>", "()V"⟩ : MethodName) (head1 (Jvm.Cond.code (⟨"java/lang/Record", "<init>", "()V"⟩ : MethodName) jdk_30_method_1_code 1 none :: ws) ({ frames := 1, cells := 0, slots := 0, locals := 12 } : Room)) (fun a U => a = #[(.ref a1)] ∧ Z.Warmed39 U.vm ∧ U.heap = h0) (fun _ _ _ _ _ => True) (fun _ U o U' => ∃ v L, o = .returned v ∧ (Q2 h0 n0) v U'.heap L ∧ FrameEnd U o U' L ({ frames := 1, cells := 0, slots := 0, locals := 12 } : Room).cells ({ frames := 1, cells := 0, slots := 0, locals := 12 } : Room).slots) := by
  refine MetFree.of_bodySF (plainFor_of_name pn_0) hisR ?_
  intro p e s m args below meth c s₁ Bd hml0 hP hK
  obtain ⟨rfl, hZ, hh⟩ := hP
  have hx := Bd.exec
  have hby := Bd.bytes
  have hlk : meth.locks = false := BodyLoose.notSynchronized Bd
  have hml : c.maxLocals = 1 := hml0
  have hown : s.vm.findClass "java/lang/Record" = some m.cls := findClass_of_methodNamed Bd.named
  have hnm := (name_of_methodNamed Bd.named Bd.method).1
  have X0 : Stand p l e ({ frames := 1, cells := 0, slots := 0, locals := 12 } : Room) s m #[(.ref a1)] below meth c s₁ [] 0 0 := Stand.of_body Bd
  have e0 : s₁.heap = h0 := by rw [← hh, Bd.state]; rfl
  have N0 := Fr.nil n0
  show Goes p e below s (Q2 h0 n0) ({ frames := 1, cells := 0, slots := 0, locals := 12 } : Room).cells ({ frames := 1, cells := 0, slots := 0, locals := 12 } : Room).slots (s₁.setTop (entryFrame m #[(.ref a1)] 1))
  refine Goes.by (fun t k => castTop (ef_rm2 m a1) k) ?_
  show Goes p e below s _ _ _ (s₁.setTop (mkF m 0 #[.val (.ref a1)] []))
  refine Goes.by (fun t k => XS.aloadN X0.here hx rfl (hb hby d2_0) rfl rfl k) ?_
  show Goes p e below s _ _ _ (s₁.setTop (mkF m 1 #[.val (.ref a1)] [(.ref a1)]))
  obtain ⟨T1, X1, e1, st1⟩ := initO X0 hx hZ hown (hw _ (List.mem_of_getElem? (i := 11) rfl)) (hw _ (List.mem_of_getElem? (i := 12) rfl)) (hw _ (List.mem_of_getElem? (i := 13) rfl)) e0 (g := (mkF m 1 #[.val (.ref a1)] [(.ref a1)])) rfl (by rw [hml]; rfl) rfl (hb hby d2_1) (by decide) (W := 0) (by show 2 * 0 + _ ≤ _; exact Nat.le_of_eq rfl) (by decide)
  refine Goes.by (fun t k => st1 t k) ?_
  show Goes p e below s _ _ _ (T1.setTop (mkF m 4 #[.val (.ref a1)] []))
  exact Goes.retV X1 hx Bd.returns (hb hby d2_4) hlk (by rw [e1]; exact ⟨rfl, N0, rfl⟩) (by decide) (by decide)
def Q1 (Z : State) (a1 : Addr) (v0 : Int64) (v1 : Int64) (v2 : Int64) (h0 : Heap) (n0 : Nat) (v : Option Value) (h : Heap) (L : List Loc) : Prop := v = none ∧ Fr n0 L ∧ Keep h0 h [a1] ∧ Exa Z h a1 "com/example/libtxsession/libtxsession/internal/session/PostgresInterval" ∧ Fld Z h a1 "com/example/libtxsession/libtxsession/internal/session/PostgresInterval" "months" "J" (.long v0) ∧ Fld Z h a1 "com/example/libtxsession/libtxsession/internal/session/PostgresInterval" "days" "J" (.long v1) ∧ Fld Z h a1 "com/example/libtxsession/libtxsession/internal/session/PostgresInterval" "micros" "J" (.long v2)
theorem d1_0 : decode prog_35_method_1_code 0 = .ok (.aload_n 0, 1) := by decide +kernel
theorem d1_1 : decode prog_35_method_1_code 1 = .ok (.invokespecial 3, 3) := by decide +kernel
theorem d1_4 : decode prog_35_method_1_code 4 = .ok (.aload_n 0, 1) := by decide +kernel
theorem d1_5 : decode prog_35_method_1_code 5 = .ok (.lload_n 1, 1) := by decide +kernel
theorem d1_6 : decode prog_35_method_1_code 6 = .ok (.putfield 9, 3) := by decide +kernel
theorem d1_9 : decode prog_35_method_1_code 9 = .ok (.aload_n 0, 1) := by decide +kernel
theorem d1_10 : decode prog_35_method_1_code 10 = .ok (.lload_n 3, 1) := by decide +kernel
theorem d1_11 : decode prog_35_method_1_code 11 = .ok (.putfield 13, 3) := by decide +kernel
theorem d1_14 : decode prog_35_method_1_code 14 = .ok (.aload_n 0, 1) := by decide +kernel
theorem d1_15 : decode prog_35_method_1_code 15 = .ok (.lload 5, 2) := by decide +kernel
theorem d1_17 : decode prog_35_method_1_code 17 = .ok (.putfield 16, 3) := by decide +kernel
theorem d1_20 : decode prog_35_method_1_code 20 = .ok (.return_, 1) := by decide +kernel
theorem pn_1 : plainName "com/example/libtxsession/libtxsession/internal/session/PostgresInterval" = true := by first | (simp [plainName, overriddenIn]; done) | decide +kernel
theorem ef_rm1 (m : MethodId) (x0 : Addr) (x1 : Int64) (x2 : Int64) (x3 : Int64) : entryFrame m #[(.ref x0), (.long x1), (.long x2), (.long x3)] 7 = mkF m 0 #[.val (.ref x0), .val (.long x1), .second, .val (.long x2), .second, .val (.long x3), .second] [] := by first | (simp [entryFrame, mkF, argsToLocals, Value.category]; done) | rfl
set_option maxRecDepth 65536 in
set_option maxHeartbeats 40000000 in
theorem rm1 (l : Launch) (Z : State) (a0 : Array Value) (hw : ∀ d ∈ tables_1, d.before a0 Z = true) (ws : List Jvm.Cond) (a1 : Addr) (v0 : Int64) (v1 : Int64) (v2 : Int64) (u0 : Value) (u1 : Value) (u2 : Value) (h0 : Heap) (n0 : Nat) (Z0 : n0 ≤ h0.size) (F0 : Fld Z h0 a1 "com/example/libtxsession/libtxsession/internal/session/PostgresInterval" "months" "J" u0) (F1 : Fld Z h0 a1 "com/example/libtxsession/libtxsession/internal/session/PostgresInterval" "days" "J" u1) (F2 : Fld Z h0 a1 "com/example/libtxsession/libtxsession/internal/session/PostgresInterval" "micros" "J" u2) (EA : Exa Z h0 a1 "com/example/libtxsession/libtxsession/internal/session/PostgresInterval") (gea : n0 ≤ a1) :
    MetFree l (⟨"com/example/libtxsession/libtxsession/internal/session/PostgresInterval", "<init>", "(JJJ)V"⟩ : MethodName) (head1 (Jvm.Cond.code (⟨"com/example/libtxsession/libtxsession/internal/session/PostgresInterval", "<init>", "(JJJ)V"⟩ : MethodName) prog_35_method_1_code 7 none :: ws) ({ frames := 2, cells := 0, slots := 0, locals := 24 } : Room)) (fun a U => a = #[(.ref a1), (.long v0), (.long v1), (.long v2)] ∧ Z.Warmed39 U.vm ∧ U.heap = h0) (fun _ _ _ _ _ => True) (fun _ U o U' => ∃ v L, o = .returned v ∧ (Q1 Z a1 v0 v1 v2 h0 n0) v U'.heap L ∧ FrameEnd U o U' L ({ frames := 2, cells := 0, slots := 0, locals := 24 } : Room).cells ({ frames := 2, cells := 0, slots := 0, locals := 24 } : Room).slots) := by
  refine MetFree.of_bodySF (plainFor_of_name pn_1) hisR ?_
  intro p e s m args below meth c s₁ Bd hml0 hP hK
  obtain ⟨rfl, hZ, hh⟩ := hP
  have hx := Bd.exec
  have hby := Bd.bytes
  have hlk : meth.locks = false := BodyLoose.notSynchronized Bd
  have hml : c.maxLocals = 7 := hml0
  have hown : s.vm.findClass "com/example/libtxsession/libtxsession/internal/session/PostgresInterval" = some m.cls := findClass_of_methodNamed Bd.named
  have hnm := (name_of_methodNamed Bd.named Bd.method).1
  have X0 : Stand p l e ({ frames := 2, cells := 0, slots := 0, locals := 24 } : Room) s m #[(.ref a1), (.long v0), (.long v1), (.long v2)] below meth c s₁ [] 0 0 := Stand.of_body Bd
  have e0 : s₁.heap = h0 := by rw [← hh, Bd.state]; rfl
  have N0 := Fr.nil n0
  show Goes p e below s (Q1 Z a1 v0 v1 v2 h0 n0) ({ frames := 2, cells := 0, slots := 0, locals := 24 } : Room).cells ({ frames := 2, cells := 0, slots := 0, locals := 24 } : Room).slots (s₁.setTop (entryFrame m #[(.ref a1), (.long v0), (.long v1), (.long v2)] 7))
  refine Goes.by (fun t k => castTop (ef_rm1 m a1 v0 v1 v2) k) ?_
  show Goes p e below s _ _ _ (s₁.setTop (mkF m 0 #[.val (.ref a1), .val (.long v0), .second, .val (.long v1), .second, .val (.long v2), .second] []))
  have KC0 : Keep h0 h0 [a1] := Keep.refl _ _
  refine Goes.by (fun t k => XS.aloadN X0.here hx rfl (hb hby d1_0) rfl rfl k) ?_
  show Goes p e below s _ _ _ (s₁.setTop (mkF m 1 #[.val (.ref a1), .val (.long v0), .second, .val (.long v1), .second, .val (.long v2), .second] [(.ref a1)]))
  obtain ⟨_, _, ⟨T1, L1, k1, n1⟩, -, X1, ⟨Lc1, hQ1, l1, y1, z1⟩, st1⟩ := X0.specialBack hx (y := (⟨"java/lang/Record", "<init>", "()V"⟩ : MethodName)) rfl hown (mvT hZ (hw _ (List.mem_of_getElem? (i := 6) rfl))) (mvT hZ (hw _ (List.mem_of_getElem? (i := 7) rfl))) (mvT hZ (hw _ (List.mem_of_getElem? (i := 10) rfl))) (by decide) (backOf (W := 0) (rm2 l Z a0 hw [] a1 h0 n0 Z0) hZ (hw _ (List.mem_of_getElem? (i := 10) rfl)) (hw _ (List.mem_of_getElem? (i := 9) rfl)) (by decide) (by decide)) (g := (mkF m 1 #[.val (.ref a1), .val (.long v0), .second, .val (.long v1), .second, .val (.long v2), .second] [(.ref a1)])) rfl (by rw [hml]; rfl) (Steps.refl _) (a := a1) (argsL := []) (rest := []) (lenOf pd_0 rfl) rfl (by show 2 * 0 + _ ≤ _; exact Nat.le_of_eq rfl) (hb hby d1_1) (fun _ _ => ⟨rfl, e0, (by decide : 0 + 0 ≤ _), (by decide : 0 + 0 ≤ _)⟩)
  dsimp only [Pt.U, Pt.locs, Pt.cells, Pt.slots] at X1 l1 y1 z1 st1 hQ1
  subst l1 y1 z1
  obtain ⟨rfl, N1q, hh1⟩ := hQ1
  have N1 := Fr.app N0 N1q
  refine Goes.by (fun t k => st1.trans k) ?_
  show Goes p e below s _ _ _ (T1.setTop (mkF m 4 #[.val (.ref a1), .val (.long v0), .second, .val (.long v1), .second, .val (.long v2), .second] []))
  have eS : T1.heap = h0 := hh1
  refine Goes.by (fun t k => XS.aloadN X1.here hx rfl (hb hby d1_4) rfl rfl k) ?_
  show Goes p e below s _ _ _ (T1.setTop (mkF m 5 #[.val (.ref a1), .val (.long v0), .second, .val (.long v1), .second, .val (.long v2), .second] [(.ref a1)]))
  refine Goes.by (fun t k => XS.lloadN X1.here hx rfl (hb hby d1_5) rfl k) ?_
  show Goes p e below s _ _ _ (T1.setTop (mkF m 6 #[.val (.ref a1), .val (.long v0), .second, .val (.long v1), .second, .val (.long v2), .second] [(.long v0), (.ref a1)]))
  obtain ⟨T2, h2, X2, e2, W2, st2⟩ := putF X1 hx hZ hown (host := "") (Or.inl (hw _ (List.mem_of_getElem? (i := 14) rfl))) Via.refl eS (F0) (EA) (Or.inr ⟨(hw _ (List.mem_of_getElem? (i := 15) rfl)), rfl, hnm⟩) (hw _ (List.mem_of_getElem? (i := 1) rfl)) (ty := .long) (by decide) rfl rfl (g := (mkF m 6 #[.val (.ref a1), .val (.long v0), .second, .val (.long v1), .second, .val (.long v2), .second] [(.long v0), (.ref a1)])) rfl rfl (hb hby d1_6)
  refine Goes.by (fun t k => st2 t k) ?_
  have N2 := Fr.snoc X2 N1 (gea)
  show Goes p e below s _ _ _ (T2.setTop (mkF m 9 #[.val (.ref a1), .val (.long v0), .second, .val (.long v1), .second, .val (.long v2), .second] []))
  have f1 := KC0.wr W2 (Or.inl (List.mem_of_getElem? (i := 0) rfl))
  have f2 := Nat.le_trans Z0 (Keep.of_wr W2).1
  have f3 := F0.same W2
  have f4 := F1.other W2 (Or.inr (slot_ne (Or.inr (hw _ (List.mem_of_getElem? (i := 17) rfl))) (Or.inr (hw _ (List.mem_of_getElem? (i := 15) rfl))) (by decide) (t := .long) (t' := .long) (by decide) (by decide)))
  have f5 := F2.other W2 (Or.inr (slot_ne (Or.inr (hw _ (List.mem_of_getElem? (i := 19) rfl))) (Or.inr (hw _ (List.mem_of_getElem? (i := 15) rfl))) (by decide) (t := .long) (t' := .long) (by decide) (by decide)))
  have f6 := EA.wr W2
  refine Goes.by (fun t k => XS.aloadN X2.here hx rfl (hb hby d1_9) rfl rfl k) ?_
  show Goes p e below s _ _ _ (T2.setTop (mkF m 10 #[.val (.ref a1), .val (.long v0), .second, .val (.long v1), .second, .val (.long v2), .second] [(.ref a1)]))
  refine Goes.by (fun t k => XS.lloadN X2.here hx rfl (hb hby d1_10) rfl k) ?_
  show Goes p e below s _ _ _ (T2.setTop (mkF m 11 #[.val (.ref a1), .val (.long v0), .second, .val (.long v1), .second, .val (.long v2), .second] [(.long v1), (.ref a1)]))
  obtain ⟨T3, h3, X3, e3, W3, st3⟩ := putF X2 hx hZ hown (host := "") (Or.inl (hw _ (List.mem_of_getElem? (i := 16) rfl))) Via.refl e2 (f4) (f6) (Or.inr ⟨(hw _ (List.mem_of_getElem? (i := 17) rfl)), rfl, hnm⟩) (hw _ (List.mem_of_getElem? (i := 1) rfl)) (ty := .long) (by decide) rfl rfl (g := (mkF m 11 #[.val (.ref a1), .val (.long v0), .second, .val (.long v1), .second, .val (.long v2), .second] [(.long v1), (.ref a1)])) rfl rfl (hb hby d1_11)
  refine Goes.by (fun t k => st3 t k) ?_
  have N3 := Fr.snoc X3 N2 (gea)
  show Goes p e below s _ _ _ (T3.setTop (mkF m 14 #[.val (.ref a1), .val (.long v0), .second, .val (.long v1), .second, .val (.long v2), .second] []))
  have f7 := f1.wr W3 (Or.inl (List.mem_of_getElem? (i := 0) rfl))
  have f8 := Nat.le_trans f2 (Keep.of_wr W3).1
  have f9 := f3.other W3 (Or.inr (slot_ne (Or.inr (hw _ (List.mem_of_getElem? (i := 15) rfl))) (Or.inr (hw _ (List.mem_of_getElem? (i := 17) rfl))) (by decide) (t := .long) (t' := .long) (by decide) (by decide)))
  have f10 := f4.same W3
  have f11 := f5.other W3 (Or.inr (slot_ne (Or.inr (hw _ (List.mem_of_getElem? (i := 19) rfl))) (Or.inr (hw _ (List.mem_of_getElem? (i := 17) rfl))) (by decide) (t := .long) (t' := .long) (by decide) (by decide)))
  have f12 := f6.wr W3
  refine Goes.by (fun t k => XS.aloadN X3.here hx rfl (hb hby d1_14) rfl rfl k) ?_
  show Goes p e below s _ _ _ (T3.setTop (mkF m 15 #[.val (.ref a1), .val (.long v0), .second, .val (.long v1), .second, .val (.long v2), .second] [(.ref a1)]))
  refine Goes.by (fun t k => XS.lload X3.here hx rfl (hb hby d1_15) rfl k) ?_
  show Goes p e below s _ _ _ (T3.setTop (mkF m 17 #[.val (.ref a1), .val (.long v0), .second, .val (.long v1), .second, .val (.long v2), .second] [(.long v2), (.ref a1)]))
  obtain ⟨T4, h4, X4, e4, W4, st4⟩ := putF X3 hx hZ hown (host := "") (Or.inl (hw _ (List.mem_of_getElem? (i := 18) rfl))) Via.refl e3 (f11) (f12) (Or.inr ⟨(hw _ (List.mem_of_getElem? (i := 19) rfl)), rfl, hnm⟩) (hw _ (List.mem_of_getElem? (i := 1) rfl)) (ty := .long) (by decide) rfl rfl (g := (mkF m 17 #[.val (.ref a1), .val (.long v0), .second, .val (.long v1), .second, .val (.long v2), .second] [(.long v2), (.ref a1)])) rfl rfl (hb hby d1_17)
  refine Goes.by (fun t k => st4 t k) ?_
  have N4 := Fr.snoc X4 N3 (gea)
  show Goes p e below s _ _ _ (T4.setTop (mkF m 20 #[.val (.ref a1), .val (.long v0), .second, .val (.long v1), .second, .val (.long v2), .second] []))
  have f13 := f7.wr W4 (Or.inl (List.mem_of_getElem? (i := 0) rfl))
  have f14 := Nat.le_trans f8 (Keep.of_wr W4).1
  have f15 := f9.other W4 (Or.inr (slot_ne (Or.inr (hw _ (List.mem_of_getElem? (i := 15) rfl))) (Or.inr (hw _ (List.mem_of_getElem? (i := 19) rfl))) (by decide) (t := .long) (t' := .long) (by decide) (by decide)))
  have f16 := f10.other W4 (Or.inr (slot_ne (Or.inr (hw _ (List.mem_of_getElem? (i := 17) rfl))) (Or.inr (hw _ (List.mem_of_getElem? (i := 19) rfl))) (by decide) (t := .long) (t' := .long) (by decide) (by decide)))
  have f17 := f11.same W4
  have f18 := f12.wr W4
  exact Goes.retV X4 hx Bd.returns (hb hby d1_20) hlk (by rw [e4]; exact ⟨rfl, N4, f13, f18, f15, f16, f17⟩) (by decide) (by decide)
def Q7 (Z : State) (a1 : Addr) (v0 : Int32) (v1 : Int32) (v2 : Int32) (h0 : Heap) (n0 : Nat) (v : Option Value) (h : Heap) (L : List Loc) : Prop := v = none ∧ Fr n0 L ∧ Keep h0 h [a1] ∧ Exa Z h a1 "java/time/Period" ∧ Fld Z h a1 "java/time/Period" "years" "I" (.int v0) ∧ Fld Z h a1 "java/time/Period" "months" "I" (.int v1) ∧ Fld Z h a1 "java/time/Period" "days" "I" (.int v2)
theorem d7_0 : decode jdk_2336_method_12_code 0 = .ok (.aload_n 0, 1) := by decide +kernel
theorem d7_1 : decode jdk_2336_method_12_code 1 = .ok (.invokespecial 180, 3) := by decide +kernel
theorem d7_4 : decode jdk_2336_method_12_code 4 = .ok (.aload_n 0, 1) := by decide +kernel
theorem d7_5 : decode jdk_2336_method_12_code 5 = .ok (.iload_n 1, 1) := by decide +kernel
theorem d7_6 : decode jdk_2336_method_12_code 6 = .ok (.putfield 183, 3) := by decide +kernel
theorem d7_9 : decode jdk_2336_method_12_code 9 = .ok (.aload_n 0, 1) := by decide +kernel
theorem d7_10 : decode jdk_2336_method_12_code 10 = .ok (.iload_n 2, 1) := by decide +kernel
theorem d7_11 : decode jdk_2336_method_12_code 11 = .ok (.putfield 187, 3) := by decide +kernel
theorem d7_14 : decode jdk_2336_method_12_code 14 = .ok (.aload_n 0, 1) := by decide +kernel
theorem d7_15 : decode jdk_2336_method_12_code 15 = .ok (.iload_n 3, 1) := by decide +kernel
theorem d7_16 : decode jdk_2336_method_12_code 16 = .ok (.putfield 190, 3) := by decide +kernel
theorem d7_19 : decode jdk_2336_method_12_code 19 = .ok (.return_, 1) := by decide +kernel
theorem pn_2 : plainName "java/time/Period" = true := by first | (simp [plainName, overriddenIn]; done) | decide +kernel
theorem ef_rm7 (m : MethodId) (x0 : Addr) (x1 : Int32) (x2 : Int32) (x3 : Int32) : entryFrame m #[(.ref x0), (.int x1), (.int x2), (.int x3)] 4 = mkF m 0 #[.val (.ref x0), .val (.int x1), .val (.int x2), .val (.int x3)] [] := by first | (simp [entryFrame, mkF, argsToLocals, Value.category]; done) | rfl
set_option maxRecDepth 65536 in
set_option maxHeartbeats 40000000 in
theorem rm7 (l : Launch) (Z : State) (a0 : Array Value) (hw : ∀ d ∈ tables_1, d.before a0 Z = true) (ws : List Jvm.Cond) (a1 : Addr) (v0 : Int32) (v1 : Int32) (v2 : Int32) (u0 : Value) (u1 : Value) (u2 : Value) (h0 : Heap) (n0 : Nat) (Z0 : n0 ≤ h0.size) (F0 : Fld Z h0 a1 "java/time/Period" "years" "I" u0) (F1 : Fld Z h0 a1 "java/time/Period" "months" "I" u1) (F2 : Fld Z h0 a1 "java/time/Period" "days" "I" u2) (EA : Exa Z h0 a1 "java/time/Period") (gea : n0 ≤ a1) :
    MetFree l (⟨"java/time/Period", "<init>", "(III)V"⟩ : MethodName) (head1 (Jvm.Cond.code (⟨"java/time/Period", "<init>", "(III)V"⟩ : MethodName) jdk_2336_method_12_code 4 none :: ws) ({ frames := 1, cells := 0, slots := 0, locals := 12 } : Room)) (fun a U => a = #[(.ref a1), (.int v0), (.int v1), (.int v2)] ∧ Z.Warmed39 U.vm ∧ U.heap = h0) (fun _ _ _ _ _ => True) (fun _ U o U' => ∃ v L, o = .returned v ∧ (Q7 Z a1 v0 v1 v2 h0 n0) v U'.heap L ∧ FrameEnd U o U' L ({ frames := 1, cells := 0, slots := 0, locals := 12 } : Room).cells ({ frames := 1, cells := 0, slots := 0, locals := 12 } : Room).slots) := by
  refine MetFree.of_bodySF (plainFor_of_name pn_2) hisR ?_
  intro p e s m args below meth c s₁ Bd hml0 hP hK
  obtain ⟨rfl, hZ, hh⟩ := hP
  have hx := Bd.exec
  have hby := Bd.bytes
  have hlk : meth.locks = false := BodyLoose.notSynchronized Bd
  have hml : c.maxLocals = 4 := hml0
  have hown : s.vm.findClass "java/time/Period" = some m.cls := findClass_of_methodNamed Bd.named
  have hnm := (name_of_methodNamed Bd.named Bd.method).1
  have X0 : Stand p l e ({ frames := 1, cells := 0, slots := 0, locals := 12 } : Room) s m #[(.ref a1), (.int v0), (.int v1), (.int v2)] below meth c s₁ [] 0 0 := Stand.of_body Bd
  have e0 : s₁.heap = h0 := by rw [← hh, Bd.state]; rfl
  have N0 := Fr.nil n0
  show Goes p e below s (Q7 Z a1 v0 v1 v2 h0 n0) ({ frames := 1, cells := 0, slots := 0, locals := 12 } : Room).cells ({ frames := 1, cells := 0, slots := 0, locals := 12 } : Room).slots (s₁.setTop (entryFrame m #[(.ref a1), (.int v0), (.int v1), (.int v2)] 4))
  refine Goes.by (fun t k => castTop (ef_rm7 m a1 v0 v1 v2) k) ?_
  show Goes p e below s _ _ _ (s₁.setTop (mkF m 0 #[.val (.ref a1), .val (.int v0), .val (.int v1), .val (.int v2)] []))
  have KC0 : Keep h0 h0 [a1] := Keep.refl _ _
  refine Goes.by (fun t k => XS.aloadN X0.here hx rfl (hb hby d7_0) rfl rfl k) ?_
  show Goes p e below s _ _ _ (s₁.setTop (mkF m 1 #[.val (.ref a1), .val (.int v0), .val (.int v1), .val (.int v2)] [(.ref a1)]))
  obtain ⟨T1, X1, e1, st1⟩ := initO X0 hx hZ hown (hw _ (List.mem_of_getElem? (i := 39) rfl)) (hw _ (List.mem_of_getElem? (i := 12) rfl)) (hw _ (List.mem_of_getElem? (i := 13) rfl)) e0 (g := (mkF m 1 #[.val (.ref a1), .val (.int v0), .val (.int v1), .val (.int v2)] [(.ref a1)])) rfl (by rw [hml]; rfl) rfl (hb hby d7_1) (by decide) (W := 0) (by show 2 * 0 + _ ≤ _; exact Nat.le_of_eq rfl) (by decide)
  refine Goes.by (fun t k => st1 t k) ?_
  show Goes p e below s _ _ _ (T1.setTop (mkF m 4 #[.val (.ref a1), .val (.int v0), .val (.int v1), .val (.int v2)] []))
  refine Goes.by (fun t k => XS.aloadN X1.here hx rfl (hb hby d7_4) rfl rfl k) ?_
  show Goes p e below s _ _ _ (T1.setTop (mkF m 5 #[.val (.ref a1), .val (.int v0), .val (.int v1), .val (.int v2)] [(.ref a1)]))
  refine Goes.by (fun t k => XS.iloadN X1.here hx rfl (hb hby d7_5) rfl k) ?_
  show Goes p e below s _ _ _ (T1.setTop (mkF m 6 #[.val (.ref a1), .val (.int v0), .val (.int v1), .val (.int v2)] [(.int v0), (.ref a1)]))
  obtain ⟨T2, h2, X2, e2, W2, st2⟩ := putF X1 hx hZ hown (host := "") (Or.inl (hw _ (List.mem_of_getElem? (i := 40) rfl))) Via.refl e1 (F0) (EA) (Or.inr ⟨(hw _ (List.mem_of_getElem? (i := 41) rfl)), rfl, hnm⟩) (hw _ (List.mem_of_getElem? (i := 34) rfl)) (ty := .int) (by decide) rfl rfl (g := (mkF m 6 #[.val (.ref a1), .val (.int v0), .val (.int v1), .val (.int v2)] [(.int v0), (.ref a1)])) rfl rfl (hb hby d7_6)
  refine Goes.by (fun t k => st2 t k) ?_
  have N2 := Fr.snoc X2 N0 (gea)
  show Goes p e below s _ _ _ (T2.setTop (mkF m 9 #[.val (.ref a1), .val (.int v0), .val (.int v1), .val (.int v2)] []))
  have f1 := KC0.wr W2 (Or.inl (List.mem_of_getElem? (i := 0) rfl))
  have f2 := Nat.le_trans Z0 (Keep.of_wr W2).1
  have f3 := F0.same W2
  have f4 := F1.other W2 (Or.inr (slot_ne (Or.inr (hw _ (List.mem_of_getElem? (i := 43) rfl))) (Or.inr (hw _ (List.mem_of_getElem? (i := 41) rfl))) (by decide) (t := .int) (t' := .int) (by decide) (by decide)))
  have f5 := F2.other W2 (Or.inr (slot_ne (Or.inr (hw _ (List.mem_of_getElem? (i := 45) rfl))) (Or.inr (hw _ (List.mem_of_getElem? (i := 41) rfl))) (by decide) (t := .int) (t' := .int) (by decide) (by decide)))
  have f6 := EA.wr W2
  refine Goes.by (fun t k => XS.aloadN X2.here hx rfl (hb hby d7_9) rfl rfl k) ?_
  show Goes p e below s _ _ _ (T2.setTop (mkF m 10 #[.val (.ref a1), .val (.int v0), .val (.int v1), .val (.int v2)] [(.ref a1)]))
  refine Goes.by (fun t k => XS.iloadN X2.here hx rfl (hb hby d7_10) rfl k) ?_
  show Goes p e below s _ _ _ (T2.setTop (mkF m 11 #[.val (.ref a1), .val (.int v0), .val (.int v1), .val (.int v2)] [(.int v1), (.ref a1)]))
  obtain ⟨T3, h3, X3, e3, W3, st3⟩ := putF X2 hx hZ hown (host := "") (Or.inl (hw _ (List.mem_of_getElem? (i := 42) rfl))) Via.refl e2 (f4) (f6) (Or.inr ⟨(hw _ (List.mem_of_getElem? (i := 43) rfl)), rfl, hnm⟩) (hw _ (List.mem_of_getElem? (i := 34) rfl)) (ty := .int) (by decide) rfl rfl (g := (mkF m 11 #[.val (.ref a1), .val (.int v0), .val (.int v1), .val (.int v2)] [(.int v1), (.ref a1)])) rfl rfl (hb hby d7_11)
  refine Goes.by (fun t k => st3 t k) ?_
  have N3 := Fr.snoc X3 N2 (gea)
  show Goes p e below s _ _ _ (T3.setTop (mkF m 14 #[.val (.ref a1), .val (.int v0), .val (.int v1), .val (.int v2)] []))
  have f7 := f1.wr W3 (Or.inl (List.mem_of_getElem? (i := 0) rfl))
  have f8 := Nat.le_trans f2 (Keep.of_wr W3).1
  have f9 := f3.other W3 (Or.inr (slot_ne (Or.inr (hw _ (List.mem_of_getElem? (i := 41) rfl))) (Or.inr (hw _ (List.mem_of_getElem? (i := 43) rfl))) (by decide) (t := .int) (t' := .int) (by decide) (by decide)))
  have f10 := f4.same W3
  have f11 := f5.other W3 (Or.inr (slot_ne (Or.inr (hw _ (List.mem_of_getElem? (i := 45) rfl))) (Or.inr (hw _ (List.mem_of_getElem? (i := 43) rfl))) (by decide) (t := .int) (t' := .int) (by decide) (by decide)))
  have f12 := f6.wr W3
  refine Goes.by (fun t k => XS.aloadN X3.here hx rfl (hb hby d7_14) rfl rfl k) ?_
  show Goes p e below s _ _ _ (T3.setTop (mkF m 15 #[.val (.ref a1), .val (.int v0), .val (.int v1), .val (.int v2)] [(.ref a1)]))
  refine Goes.by (fun t k => XS.iloadN X3.here hx rfl (hb hby d7_15) rfl k) ?_
  show Goes p e below s _ _ _ (T3.setTop (mkF m 16 #[.val (.ref a1), .val (.int v0), .val (.int v1), .val (.int v2)] [(.int v2), (.ref a1)]))
  obtain ⟨T4, h4, X4, e4, W4, st4⟩ := putF X3 hx hZ hown (host := "") (Or.inl (hw _ (List.mem_of_getElem? (i := 44) rfl))) Via.refl e3 (f11) (f12) (Or.inr ⟨(hw _ (List.mem_of_getElem? (i := 45) rfl)), rfl, hnm⟩) (hw _ (List.mem_of_getElem? (i := 34) rfl)) (ty := .int) (by decide) rfl rfl (g := (mkF m 16 #[.val (.ref a1), .val (.int v0), .val (.int v1), .val (.int v2)] [(.int v2), (.ref a1)])) rfl rfl (hb hby d7_16)
  refine Goes.by (fun t k => st4 t k) ?_
  have N4 := Fr.snoc X4 N3 (gea)
  show Goes p e below s _ _ _ (T4.setTop (mkF m 19 #[.val (.ref a1), .val (.int v0), .val (.int v1), .val (.int v2)] []))
  have f13 := f7.wr W4 (Or.inl (List.mem_of_getElem? (i := 0) rfl))
  have f14 := Nat.le_trans f8 (Keep.of_wr W4).1
  have f15 := f9.other W4 (Or.inr (slot_ne (Or.inr (hw _ (List.mem_of_getElem? (i := 41) rfl))) (Or.inr (hw _ (List.mem_of_getElem? (i := 45) rfl))) (by decide) (t := .int) (t' := .int) (by decide) (by decide)))
  have f16 := f10.other W4 (Or.inr (slot_ne (Or.inr (hw _ (List.mem_of_getElem? (i := 43) rfl))) (Or.inr (hw _ (List.mem_of_getElem? (i := 45) rfl))) (by decide) (t := .int) (t' := .int) (by decide) (by decide)))
  have f17 := f11.same W4
  have f18 := f12.wr W4
  exact Goes.retV X4 hx Bd.returns (hb hby d7_19) hlk (by rw [e4]; exact ⟨rfl, N4, f13, f18, f15, f16, f17⟩) (by decide) (by decide)
def Q8 (x1 : Int32) (h0 : Heap) (n0 : Nat) (v : Option Value) (h : Heap) (L : List Loc) : Prop := v = some (.int x1) ∧ Fr n0 L ∧ h = h0
theorem d8_0 : decode jdk_2336_method_18_code 0 = .ok (.aload_n 0, 1) := by decide +kernel
theorem d8_1 : decode jdk_2336_method_18_code 1 = .ok (.getfield 183, 3) := by decide +kernel
theorem d8_4 : decode jdk_2336_method_18_code 4 = .ok (.ireturn, 1) := by decide +kernel
theorem ef_rm8 (m : MethodId) (x0 : Addr) : entryFrame m #[(.ref x0)] 1 = mkF m 0 #[.val (.ref x0)] [] := by first | (simp [entryFrame, mkF, argsToLocals, Value.category]; done) | rfl
set_option maxRecDepth 65536 in
set_option maxHeartbeats 40000000 in
theorem rm8 (l : Launch) (Z : State) (a0 : Array Value) (hw : ∀ d ∈ tables_1, d.before a0 Z = true) (ws : List Jvm.Cond) (a1 : Addr) (x1 : Int32) (h0 : Heap) (n0 : Nat) (Z0 : n0 ≤ h0.size) (F1 : Fld Z h0 a1 "java/time/Period" "years" "I" (.int x1)) :
    MetFree l (⟨"java/time/Period", "getYears", "()I"⟩ : MethodName) (head1 (Jvm.Cond.code (⟨"java/time/Period", "getYears", "()I"⟩ : MethodName) jdk_2336_method_18_code 1 (some .int) :: ws) ({ frames := 0, cells := 0, slots := 0, locals := 0 } : Room)) (fun a U => a = #[(.ref a1)] ∧ Z.Warmed39 U.vm ∧ U.heap = h0) (fun _ _ _ _ _ => True) (fun _ U o U' => ∃ v L, o = .returned v ∧ (Q8 x1 h0 n0) v U'.heap L ∧ FrameEnd U o U' L ({ frames := 0, cells := 0, slots := 0, locals := 0 } : Room).cells ({ frames := 0, cells := 0, slots := 0, locals := 0 } : Room).slots) := by
  refine MetFree.of_bodySF (plainFor_of_name pn_2) hisR ?_
  intro p e s m args below meth c s₁ Bd hml0 hP hK
  obtain ⟨rfl, hZ, hh⟩ := hP
  have hx := Bd.exec
  have hby := Bd.bytes
  have hlk : meth.locks = false := BodyLoose.notSynchronized Bd
  have hml : c.maxLocals = 1 := hml0
  have hown : s.vm.findClass "java/time/Period" = some m.cls := findClass_of_methodNamed Bd.named
  have hnm := (name_of_methodNamed Bd.named Bd.method).1
  have X0 : Stand p l e ({ frames := 0, cells := 0, slots := 0, locals := 0 } : Room) s m #[(.ref a1)] below meth c s₁ [] 0 0 := Stand.of_body Bd
  have e0 : s₁.heap = h0 := by rw [← hh, Bd.state]; rfl
  have N0 := Fr.nil n0
  show Goes p e below s (Q8 x1 h0 n0) ({ frames := 0, cells := 0, slots := 0, locals := 0 } : Room).cells ({ frames := 0, cells := 0, slots := 0, locals := 0 } : Room).slots (s₁.setTop (entryFrame m #[(.ref a1)] 1))
  refine Goes.by (fun t k => castTop (ef_rm8 m a1) k) ?_
  show Goes p e below s _ _ _ (s₁.setTop (mkF m 0 #[.val (.ref a1)] []))
  refine Goes.by (fun t k => XS.aloadN X0.here hx rfl (hb hby d8_0) rfl rfl k) ?_
  show Goes p e below s _ _ _ (s₁.setTop (mkF m 1 #[.val (.ref a1)] [(.ref a1)]))
  obtain ⟨T1, X1, e1, st1⟩ := getF X0 hx hZ hown (host := "") (Or.inl (hw _ (List.mem_of_getElem? (i := 40) rfl))) Via.refl e0 (F1) (g := (mkF m 1 #[.val (.ref a1)] [(.ref a1)])) rfl rfl (hb hby d8_1)
  refine Goes.by (fun t k => st1 t k) ?_
  show Goes p e below s _ _ _ (T1.setTop (mkF m 4 #[.val (.ref a1)] [(.int x1)]))
  exact Goes.retI X1 hx Bd.returns trivial (hb hby d8_4) hlk (by rw [e1]; exact ⟨rfl, N0, rfl⟩) (by decide) (by decide)
def Q9 (x1 : Int32) (h0 : Heap) (n0 : Nat) (v : Option Value) (h : Heap) (L : List Loc) : Prop := v = some (.int x1) ∧ Fr n0 L ∧ h = h0
theorem d9_0 : decode jdk_2336_method_19_code 0 = .ok (.aload_n 0, 1) := by decide +kernel
theorem d9_1 : decode jdk_2336_method_19_code 1 = .ok (.getfield 187, 3) := by decide +kernel
theorem d9_4 : decode jdk_2336_method_19_code 4 = .ok (.ireturn, 1) := by decide +kernel
theorem ef_rm9 (m : MethodId) (x0 : Addr) : entryFrame m #[(.ref x0)] 1 = mkF m 0 #[.val (.ref x0)] [] := by first | (simp [entryFrame, mkF, argsToLocals, Value.category]; done) | rfl
set_option maxRecDepth 65536 in
set_option maxHeartbeats 40000000 in
theorem rm9 (l : Launch) (Z : State) (a0 : Array Value) (hw : ∀ d ∈ tables_1, d.before a0 Z = true) (ws : List Jvm.Cond) (a1 : Addr) (x1 : Int32) (h0 : Heap) (n0 : Nat) (Z0 : n0 ≤ h0.size) (F1 : Fld Z h0 a1 "java/time/Period" "months" "I" (.int x1)) :
    MetFree l (⟨"java/time/Period", "getMonths", "()I"⟩ : MethodName) (head1 (Jvm.Cond.code (⟨"java/time/Period", "getMonths", "()I"⟩ : MethodName) jdk_2336_method_19_code 1 (some .int) :: ws) ({ frames := 0, cells := 0, slots := 0, locals := 0 } : Room)) (fun a U => a = #[(.ref a1)] ∧ Z.Warmed39 U.vm ∧ U.heap = h0) (fun _ _ _ _ _ => True) (fun _ U o U' => ∃ v L, o = .returned v ∧ (Q9 x1 h0 n0) v U'.heap L ∧ FrameEnd U o U' L ({ frames := 0, cells := 0, slots := 0, locals := 0 } : Room).cells ({ frames := 0, cells := 0, slots := 0, locals := 0 } : Room).slots) := by
  refine MetFree.of_bodySF (plainFor_of_name pn_2) hisR ?_
  intro p e s m args below meth c s₁ Bd hml0 hP hK
  obtain ⟨rfl, hZ, hh⟩ := hP
  have hx := Bd.exec
  have hby := Bd.bytes
  have hlk : meth.locks = false := BodyLoose.notSynchronized Bd
  have hml : c.maxLocals = 1 := hml0
  have hown : s.vm.findClass "java/time/Period" = some m.cls := findClass_of_methodNamed Bd.named
  have hnm := (name_of_methodNamed Bd.named Bd.method).1
  have X0 : Stand p l e ({ frames := 0, cells := 0, slots := 0, locals := 0 } : Room) s m #[(.ref a1)] below meth c s₁ [] 0 0 := Stand.of_body Bd
  have e0 : s₁.heap = h0 := by rw [← hh, Bd.state]; rfl
  have N0 := Fr.nil n0
  show Goes p e below s (Q9 x1 h0 n0) ({ frames := 0, cells := 0, slots := 0, locals := 0 } : Room).cells ({ frames := 0, cells := 0, slots := 0, locals := 0 } : Room).slots (s₁.setTop (entryFrame m #[(.ref a1)] 1))
  refine Goes.by (fun t k => castTop (ef_rm9 m a1) k) ?_
  show Goes p e below s _ _ _ (s₁.setTop (mkF m 0 #[.val (.ref a1)] []))
  refine Goes.by (fun t k => XS.aloadN X0.here hx rfl (hb hby d9_0) rfl rfl k) ?_
  show Goes p e below s _ _ _ (s₁.setTop (mkF m 1 #[.val (.ref a1)] [(.ref a1)]))
  obtain ⟨T1, X1, e1, st1⟩ := getF X0 hx hZ hown (host := "") (Or.inl (hw _ (List.mem_of_getElem? (i := 42) rfl))) Via.refl e0 (F1) (g := (mkF m 1 #[.val (.ref a1)] [(.ref a1)])) rfl rfl (hb hby d9_1)
  refine Goes.by (fun t k => st1 t k) ?_
  show Goes p e below s _ _ _ (T1.setTop (mkF m 4 #[.val (.ref a1)] [(.int x1)]))
  exact Goes.retI X1 hx Bd.returns trivial (hb hby d9_4) hlk (by rw [e1]; exact ⟨rfl, N0, rfl⟩) (by decide) (by decide)
def Q10 (x1 : Int32) (h0 : Heap) (n0 : Nat) (v : Option Value) (h : Heap) (L : List Loc) : Prop := v = some (.int x1) ∧ Fr n0 L ∧ h = h0
theorem d10_0 : decode jdk_2336_method_20_code 0 = .ok (.aload_n 0, 1) := by decide +kernel
theorem d10_1 : decode jdk_2336_method_20_code 1 = .ok (.getfield 190, 3) := by decide +kernel
theorem d10_4 : decode jdk_2336_method_20_code 4 = .ok (.ireturn, 1) := by decide +kernel
theorem ef_rm10 (m : MethodId) (x0 : Addr) : entryFrame m #[(.ref x0)] 1 = mkF m 0 #[.val (.ref x0)] [] := by first | (simp [entryFrame, mkF, argsToLocals, Value.category]; done) | rfl
set_option maxRecDepth 65536 in
set_option maxHeartbeats 40000000 in
theorem rm10 (l : Launch) (Z : State) (a0 : Array Value) (hw : ∀ d ∈ tables_1, d.before a0 Z = true) (ws : List Jvm.Cond) (a1 : Addr) (x1 : Int32) (h0 : Heap) (n0 : Nat) (Z0 : n0 ≤ h0.size) (F1 : Fld Z h0 a1 "java/time/Period" "days" "I" (.int x1)) :
    MetFree l (⟨"java/time/Period", "getDays", "()I"⟩ : MethodName) (head1 (Jvm.Cond.code (⟨"java/time/Period", "getDays", "()I"⟩ : MethodName) jdk_2336_method_20_code 1 (some .int) :: ws) ({ frames := 0, cells := 0, slots := 0, locals := 0 } : Room)) (fun a U => a = #[(.ref a1)] ∧ Z.Warmed39 U.vm ∧ U.heap = h0) (fun _ _ _ _ _ => True) (fun _ U o U' => ∃ v L, o = .returned v ∧ (Q10 x1 h0 n0) v U'.heap L ∧ FrameEnd U o U' L ({ frames := 0, cells := 0, slots := 0, locals := 0 } : Room).cells ({ frames := 0, cells := 0, slots := 0, locals := 0 } : Room).slots) := by
  refine MetFree.of_bodySF (plainFor_of_name pn_2) hisR ?_
  intro p e s m args below meth c s₁ Bd hml0 hP hK
  obtain ⟨rfl, hZ, hh⟩ := hP
  have hx := Bd.exec
  have hby := Bd.bytes
  have hlk : meth.locks = false := BodyLoose.notSynchronized Bd
  have hml : c.maxLocals = 1 := hml0
  have hown : s.vm.findClass "java/time/Period" = some m.cls := findClass_of_methodNamed Bd.named
  have hnm := (name_of_methodNamed Bd.named Bd.method).1
  have X0 : Stand p l e ({ frames := 0, cells := 0, slots := 0, locals := 0 } : Room) s m #[(.ref a1)] below meth c s₁ [] 0 0 := Stand.of_body Bd
  have e0 : s₁.heap = h0 := by rw [← hh, Bd.state]; rfl
  have N0 := Fr.nil n0
  show Goes p e below s (Q10 x1 h0 n0) ({ frames := 0, cells := 0, slots := 0, locals := 0 } : Room).cells ({ frames := 0, cells := 0, slots := 0, locals := 0 } : Room).slots (s₁.setTop (entryFrame m #[(.ref a1)] 1))
  refine Goes.by (fun t k => castTop (ef_rm10 m a1) k) ?_
  show Goes p e below s _ _ _ (s₁.setTop (mkF m 0 #[.val (.ref a1)] []))
  refine Goes.by (fun t k => XS.aloadN X0.here hx rfl (hb hby d10_0) rfl rfl k) ?_
  show Goes p e below s _ _ _ (s₁.setTop (mkF m 1 #[.val (.ref a1)] [(.ref a1)]))
  obtain ⟨T1, X1, e1, st1⟩ := getF X0 hx hZ hown (host := "") (Or.inl (hw _ (List.mem_of_getElem? (i := 44) rfl))) Via.refl e0 (F1) (g := (mkF m 1 #[.val (.ref a1)] [(.ref a1)])) rfl rfl (hb hby d10_1)
  refine Goes.by (fun t k => st1 t k) ?_
  show Goes p e below s _ _ _ (T1.setTop (mkF m 4 #[.val (.ref a1)] [(.int x1)]))
  exact Goes.retI X1 hx Bd.returns trivial (hb hby d10_4) hlk (by rw [e1]; exact ⟨rfl, N0, rfl⟩) (by decide) (by decide)
def QP (Z : State) (p1 p2 p3 : Int32) (h0 : Heap) (n0 : Nat) (v : Option Value) (h : Heap) (L : List Loc) : Prop := ∃ r : Addr, v = some (.ref r) ∧ Fr n0 L ∧ Keep h0 h [] ∧ Exa Z h r "java/time/Period" ∧ Fld Z h r "java/time/Period" "years" "I" (.int p1) ∧ Fld Z h r "java/time/Period" "months" "I" (.int p2) ∧ Fld Z h r "java/time/Period" "days" "I" (.int p3)
theorem d6_0 : decode jdk_2336_method_11_code 0 = .ok (.iload_n 0, 1) := by decide +kernel
theorem d6_1 : decode jdk_2336_method_11_code 1 = .ok (.iload_n 1, 1) := by decide +kernel
theorem d6_2 : decode jdk_2336_method_11_code 2 = .ok (.ior, 1) := by decide +kernel
theorem d6_3 : decode jdk_2336_method_11_code 3 = .ok (.iload_n 2, 1) := by decide +kernel
theorem d6_4 : decode jdk_2336_method_11_code 4 = .ok (.ior, 1) := by decide +kernel
theorem d6_5 : decode jdk_2336_method_11_code 5 = .ok (.ifCond .ne 7, 3) := by decide +kernel
theorem d6_8 : decode jdk_2336_method_11_code 8 = .ok (.getstatic 173, 3) := by decide +kernel
theorem d6_11 : decode jdk_2336_method_11_code 11 = .ok (.areturn, 1) := by decide +kernel
theorem d6_12 : decode jdk_2336_method_11_code 12 = .ok (.new 2, 3) := by decide +kernel
theorem d6_15 : decode jdk_2336_method_11_code 15 = .ok (.dup, 1) := by decide +kernel
theorem d6_16 : decode jdk_2336_method_11_code 16 = .ok (.iload_n 0, 1) := by decide +kernel
theorem d6_17 : decode jdk_2336_method_11_code 17 = .ok (.iload_n 1, 1) := by decide +kernel
theorem d6_18 : decode jdk_2336_method_11_code 18 = .ok (.iload_n 2, 1) := by decide +kernel
theorem d6_19 : decode jdk_2336_method_11_code 19 = .ok (.invokespecial 177, 3) := by decide +kernel
theorem d6_22 : decode jdk_2336_method_11_code 22 = .ok (.areturn, 1) := by decide +kernel
theorem ef_rm6 (m : MethodId) (x0 : Int32) (x1 : Int32) (x2 : Int32) : entryFrame m #[(.int x0), (.int x1), (.int x2)] 3 = mkF m 0 #[.val (.int x0), .val (.int x1), .val (.int x2)] [] := by first | (simp [entryFrame, mkF, argsToLocals, Value.category]; done) | rfl
set_option maxRecDepth 65536 in
set_option maxHeartbeats 40000000 in
theorem rm6 (l : Launch) (Z : State) (a0 : Array Value) (hw : ∀ d ∈ tables_1, d.before a0 Z = true) (ws : List Jvm.Cond) (p1 p2 p3 : Int32) (wZ : Addr) (h0 : Heap) (n0 : Nat) (Z0 : n0 ≤ h0.size) (O0 : Old Z n0 h0) (SZ : Sta Z Z.heap "java/time/Period" "ZERO" "Ljava/time/Period;" (.ref wZ)) (EZ : Exa Z Z.heap wZ "java/time/Period") (Fy : Fld Z Z.heap wZ "java/time/Period" "years" "I" (.int 0)) (Fm : Fld Z Z.heap wZ "java/time/Period" "months" "I" (.int 0)) (Fd : Fld Z Z.heap wZ "java/time/Period" "days" "I" (.int 0)) :
    MetFree l (⟨"java/time/Period", "create", "(III)Ljava/time/Period;"⟩ : MethodName) (head1 (Jvm.Cond.code (⟨"java/time/Period", "create", "(III)Ljava/time/Period;"⟩ : MethodName) jdk_2336_method_11_code 3 (some (.object "java/time/Period")) :: ws) ({ frames := 2, cells := 1, slots := 3, locals := 28 } : Room)) (fun a U => a = #[(.int p1), (.int p2), (.int p3)] ∧ Z.Warmed39 U.vm ∧ U.heap = h0) (fun _ _ _ _ _ => True) (fun _ U o U' => ∃ v L, o = .returned v ∧ (QP Z p1 p2 p3 h0 n0) v U'.heap L ∧ FrameEnd U o U' L ({ frames := 2, cells := 1, slots := 3, locals := 28 } : Room).cells ({ frames := 2, cells := 1, slots := 3, locals := 28 } : Room).slots) := by
  refine MetFree.of_bodySF (plainFor_of_name pn_2) hisR ?_
  intro p e s m args below meth c s₁ Bd hml0 hP hK
  obtain ⟨rfl, hZ, hh⟩ := hP
  have hx := Bd.exec
  have hby := Bd.bytes
  have hlk : meth.locks = false := BodyLoose.notSynchronized Bd
  have hml : c.maxLocals = 3 := hml0
  have hown : s.vm.findClass "java/time/Period" = some m.cls := findClass_of_methodNamed Bd.named
  have hnm := (name_of_methodNamed Bd.named Bd.method).1
  have X0 : Stand p l e ({ frames := 2, cells := 1, slots := 3, locals := 28 } : Room) s m #[(.int p1), (.int p2), (.int p3)] below meth c s₁ [] 0 0 := Stand.of_body Bd
  have e0 : s₁.heap = h0 := by rw [← hh, Bd.state]; rfl
  have N0 := Fr.nil n0
  show Goes p e below s (QP Z p1 p2 p3 h0 n0) ({ frames := 2, cells := 1, slots := 3, locals := 28 } : Room).cells ({ frames := 2, cells := 1, slots := 3, locals := 28 } : Room).slots (s₁.setTop (entryFrame m #[(.int p1), (.int p2), (.int p3)] 3))
  refine Goes.by (fun t k => castTop (ef_rm6 m p1 p2 p3) k) ?_
  show Goes p e below s _ _ _ (s₁.setTop (mkF m 0 #[.val (.int p1), .val (.int p2), .val (.int p3)] []))
  have KC0 : Keep h0 h0 [] := Keep.refl _ _
  refine Goes.by (fun t k => XS.iloadN X0.here hx rfl (hb hby d6_0) rfl k) ?_
  show Goes p e below s _ _ _ (s₁.setTop (mkF m 1 #[.val (.int p1), .val (.int p2), .val (.int p3)] [(.int p1)]))
  refine Goes.by (fun t k => XS.iloadN X0.here hx rfl (hb hby d6_1) rfl k) ?_
  show Goes p e below s _ _ _ (s₁.setTop (mkF m 2 #[.val (.int p1), .val (.int p2), .val (.int p3)] [(.int p2), (.int p1)]))
  refine Goes.by (fun t k => XS.ior X0.here hx rfl (hb hby d6_2) rfl k) ?_
  show Goes p e below s _ _ _ (s₁.setTop (mkF m 3 #[.val (.int p1), .val (.int p2), .val (.int p3)] [(.int (p1 ||| p2))]))
  refine Goes.by (fun t k => XS.iloadN X0.here hx rfl (hb hby d6_3) rfl k) ?_
  show Goes p e below s _ _ _ (s₁.setTop (mkF m 4 #[.val (.int p1), .val (.int p2), .val (.int p3)] [(.int p3), (.int (p1 ||| p2))]))
  refine Goes.by (fun t k => XS.ior X0.here hx rfl (hb hby d6_4) rfl k) ?_
  show Goes p e below s _ _ _ (s₁.setTop (mkF m 5 #[.val (.int p1), .val (.int p2), .val (.int p3)] [(.int ((p1 ||| p2) ||| p3))]))
  by_cases hc : ((p1 ||| p2) ||| p3) = (0 : Int32)
  · skip
    refine Goes.by (fun t k => XS.ifNo X0.here hx rfl (hb hby d6_5) rfl ((if0 _ _).trans (teq (hc)).2) k) ?_
    show Goes p e below s _ _ _ (s₁.setTop (mkF m 8 #[.val (.int p1), .val (.int p2), .val (.int p3)] []))
    obtain ⟨hc1, hc3⟩ := own_or0 _ _ hc
    obtain ⟨hc1, hc2⟩ := own_or0 _ _ hc1
    obtain ⟨T1, X1, e1, st1⟩ := getS2 X0 hx hZ hown (host := "") (Or.inl (hw _ (List.mem_of_getElem? (i := 64) rfl))) Via.refl e0 (SZ.ext O0.2) (g := (mkF m 8 #[.val (.int p1), .val (.int p2), .val (.int p3)] [])) rfl (hb hby d6_8)
    refine Goes.by (fun t k => st1 t k) ?_
    show Goes p e below s _ _ _ (T1.setTop (mkF m 11 #[.val (.int p1), .val (.int p2), .val (.int p3)] [(.ref wZ)]))
    subst hc1 hc2 hc3
    exact Goes.retA X1 hx Bd.returns rfl rfl (hb hby d6_11) hlk (by rw [e1]; exact ⟨wZ, rfl, N0, KC0, EZ.ext O0.2, Fy.ext O0.2, Fm.ext O0.2, Fd.ext O0.2⟩) (by decide) (by decide)
  · skip
    refine Goes.by (fun t k => XS.ifYes X0.here hx rfl (pc0 := 5) (pc' := 12) rfl (hb hby d6_5) rfl ((if0 _ _).trans (feq (hc)).2) (by decide) (by decide) k) ?_
    show Goes p e below s _ _ _ (s₁.setTop (mkF m 12 #[.val (.int p1), .val (.int p2), .val (.int p3)] []))
    obtain ⟨T2, h2, X2, e2, E2, A2, D2, -, st2⟩ := newO X0 hx hZ hown (hw _ (List.mem_of_getElem? (i := 33) rfl)) (hw _ (List.mem_of_getElem? (i := 34) rfl)) (hw _ (List.mem_of_getElem? (i := 28) rfl)) e0 (g := (mkF m 12 #[.val (.int p1), .val (.int p2), .val (.int p3)] [])) rfl (hb hby d6_12) (by decide) (by decide)
    obtain ⟨b2, g2⟩ : ∃ z, z = h0.size := ⟨_, rfl⟩
    rw [← g2] at A2 D2 st2
    refine Goes.by (fun t k => st2 t k) ?_
    show Goes p e below s _ _ _ (T2.setTop (mkF m 15 #[.val (.int p1), .val (.int p2), .val (.int p3)] [(.ref b2)]))
    have ge_b2 : n0 ≤ b2 := Nat.le_trans Z0 (Nat.le_of_eq g2.symm)
    have sz_b2 : h0.size ≤ b2 := Nat.le_trans KC0.1 (Nat.le_of_eq g2.symm)
    have f1 := O0.ext E2
    have f2 := KC0.ext E2
    have f3 := Nat.le_trans Z0 E2.1
    have f4 : Fld Z h2 b2 "java/time/Period" "years" "I" (.int (0 : Int32)) := D2 (Or.inr (hw _ (List.mem_of_getElem? (i := 41) rfl))) (ty := .int) (by decide)
    have f5 : Fld Z h2 b2 "java/time/Period" "months" "I" (.int (0 : Int32)) := D2 (Or.inr (hw _ (List.mem_of_getElem? (i := 43) rfl))) (ty := .int) (by decide)
    have f6 : Fld Z h2 b2 "java/time/Period" "days" "I" (.int (0 : Int32)) := D2 (Or.inr (hw _ (List.mem_of_getElem? (i := 45) rfl))) (ty := .int) (by decide)
    refine Goes.by (fun t k => XS.dup X2.here hx rfl (hb hby d6_15) rfl rfl k) ?_
    show Goes p e below s _ _ _ (T2.setTop (mkF m 16 #[.val (.int p1), .val (.int p2), .val (.int p3)] [(.ref b2), (.ref b2)]))
    refine Goes.by (fun t k => XS.iloadN X2.here hx rfl (hb hby d6_16) rfl k) ?_
    show Goes p e below s _ _ _ (T2.setTop (mkF m 17 #[.val (.int p1), .val (.int p2), .val (.int p3)] [(.int p1), (.ref b2), (.ref b2)]))
    refine Goes.by (fun t k => XS.iloadN X2.here hx rfl (hb hby d6_17) rfl k) ?_
    show Goes p e below s _ _ _ (T2.setTop (mkF m 18 #[.val (.int p1), .val (.int p2), .val (.int p3)] [(.int p2), (.int p1), (.ref b2), (.ref b2)]))
    refine Goes.by (fun t k => XS.iloadN X2.here hx rfl (hb hby d6_18) rfl k) ?_
    show Goes p e below s _ _ _ (T2.setTop (mkF m 19 #[.val (.int p1), .val (.int p2), .val (.int p3)] [(.int p3), (.int p2), (.int p1), (.ref b2), (.ref b2)]))
    obtain ⟨_, _, ⟨T3, L3, k3, n3⟩, -, X3, ⟨Lc3, hQ3, l3, y3, z3⟩, st3⟩ := X2.specialBack hx (y := (⟨"java/time/Period", "<init>", "(III)V"⟩ : MethodName)) rfl hown (mvT hZ (hw _ (List.mem_of_getElem? (i := 35) rfl))) (mvT hZ (hw _ (List.mem_of_getElem? (i := 36) rfl))) (mvT hZ (hw _ (List.mem_of_getElem? (i := 38) rfl))) (by decide) (backOf (W := 1) (rm7 l Z a0 hw [] b2 p1 p2 p3 _ _ _ h2 n0 f3 f4 f5 f6 A2 ge_b2) hZ (hw _ (List.mem_of_getElem? (i := 38) rfl)) (hw _ (List.mem_of_getElem? (i := 28) rfl)) (by decide) (by decide)) (g := (mkF m 19 #[.val (.int p1), .val (.int p2), .val (.int p3)] [(.int p3), (.int p2), (.int p1), (.ref b2), (.ref b2)])) rfl (by rw [hml]; rfl) (Steps.refl _) (a := b2) (argsL := [(.int p1), (.int p2), (.int p3)]) (rest := [(.ref b2)]) (lenOf pd_4 rfl) rfl (by show 2 * 0 + _ ≤ _; exact Nat.le_of_eq rfl) (hb hby d6_19) (fun _ _ => ⟨rfl, e2, (by decide : 1 + 0 ≤ _), (by decide : 3 + 0 ≤ _)⟩)
    dsimp only [Pt.U, Pt.locs, Pt.cells, Pt.slots] at X3 l3 y3 z3 st3 hQ3
    subst l3 y3 z3
    obtain ⟨rfl, N3q, K3, E3, F3, G3, H3⟩ := hQ3
    have N3 := Fr.app N0 N3q
    refine Goes.by (fun t k => st3.trans k) ?_
    show Goes p e below s _ _ _ (T3.setTop (mkF m 22 #[.val (.int p1), .val (.int p2), .val (.int p3)] [(.ref b2)]))
    have OLD_K3 := f1.keep K3 (allS ge_b2 all0)
    have f7 := f2.trans K3 (allS (Or.inr sz_b2) all0)
    have f8 := Nat.le_trans f3 K3.1
    have f9 := A2.keep K3
    exact Goes.retA X3 hx Bd.returns rfl rfl (hb hby d6_22) hlk (by exact ⟨b2, rfl, N3, f7, E3, F3, G3, H3⟩) (by decide) (by decide)
theorem d5_0 : decode jdk_2336_method_5_code 0 = .ok (.iload_n 0, 1) := by decide +kernel
theorem d5_1 : decode jdk_2336_method_5_code 1 = .ok (.iload_n 1, 1) := by decide +kernel
theorem d5_2 : decode jdk_2336_method_5_code 2 = .ok (.iload_n 2, 1) := by decide +kernel
theorem d5_3 : decode jdk_2336_method_5_code 3 = .ok (.invokestatic 1, 3) := by decide +kernel
theorem d5_6 : decode jdk_2336_method_5_code 6 = .ok (.areturn, 1) := by decide +kernel
theorem ef_rm5 (m : MethodId) (x0 : Int32) (x1 : Int32) (x2 : Int32) : entryFrame m #[(.int x0), (.int x1), (.int x2)] 3 = mkF m 0 #[.val (.int x0), .val (.int x1), .val (.int x2)] [] := by first | (simp [entryFrame, mkF, argsToLocals, Value.category]; done) | rfl
set_option maxRecDepth 65536 in
set_option maxHeartbeats 40000000 in
theorem rm5 (l : Launch) (Z : State) (a0 : Array Value) (hw : ∀ d ∈ tables_1, d.before a0 Z = true) (ws : List Jvm.Cond) (p1 p2 p3 : Int32) (wZ : Addr) (h0 : Heap) (n0 : Nat) (Z0 : n0 ≤ h0.size) (O0 : Old Z n0 h0) (SZ : Sta Z Z.heap "java/time/Period" "ZERO" "Ljava/time/Period;" (.ref wZ)) (EZ : Exa Z Z.heap wZ "java/time/Period") (Fy : Fld Z Z.heap wZ "java/time/Period" "years" "I" (.int 0)) (Fm : Fld Z Z.heap wZ "java/time/Period" "months" "I" (.int 0)) (Fd : Fld Z Z.heap wZ "java/time/Period" "days" "I" (.int 0)) :
    MetFree l (⟨"java/time/Period", "of", "(III)Ljava/time/Period;"⟩ : MethodName) (head1 (Jvm.Cond.code (⟨"java/time/Period", "of", "(III)Ljava/time/Period;"⟩ : MethodName) jdk_2336_method_5_code 3 (some (.object "java/time/Period")) :: ws) ({ frames := 3, cells := 1, slots := 3, locals := 42 } : Room)) (fun a U => a = #[(.int p1), (.int p2), (.int p3)] ∧ Z.Warmed39 U.vm ∧ U.heap = h0) (fun _ _ _ _ _ => True) (fun _ U o U' => ∃ v L, o = .returned v ∧ (QP Z p1 p2 p3 h0 n0) v U'.heap L ∧ FrameEnd U o U' L ({ frames := 3, cells := 1, slots := 3, locals := 42 } : Room).cells ({ frames := 3, cells := 1, slots := 3, locals := 42 } : Room).slots) := by
  refine MetFree.of_bodySF (plainFor_of_name pn_2) hisR ?_
  intro p e s m args below meth c s₁ Bd hml0 hP hK
  obtain ⟨rfl, hZ, hh⟩ := hP
  have hx := Bd.exec
  have hby := Bd.bytes
  have hlk : meth.locks = false := BodyLoose.notSynchronized Bd
  have hml : c.maxLocals = 3 := hml0
  have hown : s.vm.findClass "java/time/Period" = some m.cls := findClass_of_methodNamed Bd.named
  have hnm := (name_of_methodNamed Bd.named Bd.method).1
  have X0 : Stand p l e ({ frames := 3, cells := 1, slots := 3, locals := 42 } : Room) s m #[(.int p1), (.int p2), (.int p3)] below meth c s₁ [] 0 0 := Stand.of_body Bd
  have e0 : s₁.heap = h0 := by rw [← hh, Bd.state]; rfl
  have N0 := Fr.nil n0
  show Goes p e below s (QP Z p1 p2 p3 h0 n0) ({ frames := 3, cells := 1, slots := 3, locals := 42 } : Room).cells ({ frames := 3, cells := 1, slots := 3, locals := 42 } : Room).slots (s₁.setTop (entryFrame m #[(.int p1), (.int p2), (.int p3)] 3))
  refine Goes.by (fun t k => castTop (ef_rm5 m p1 p2 p3) k) ?_
  show Goes p e below s _ _ _ (s₁.setTop (mkF m 0 #[.val (.int p1), .val (.int p2), .val (.int p3)] []))
  refine Goes.by (fun t k => XS.iloadN X0.here hx rfl (hb hby d5_0) rfl k) ?_
  show Goes p e below s _ _ _ (s₁.setTop (mkF m 1 #[.val (.int p1), .val (.int p2), .val (.int p3)] [(.int p1)]))
  refine Goes.by (fun t k => XS.iloadN X0.here hx rfl (hb hby d5_1) rfl k) ?_
  show Goes p e below s _ _ _ (s₁.setTop (mkF m 2 #[.val (.int p1), .val (.int p2), .val (.int p3)] [(.int p2), (.int p1)]))
  refine Goes.by (fun t k => XS.iloadN X0.here hx rfl (hb hby d5_2) rfl k) ?_
  show Goes p e below s _ _ _ (s₁.setTop (mkF m 3 #[.val (.int p1), .val (.int p2), .val (.int p3)] [(.int p3), (.int p2), (.int p1)]))
  obtain ⟨_, _, ⟨T1, L1, k1, n1⟩, -, X1, ⟨Lc1, hQ1, l1, y1, z1⟩, st1⟩ := Jvm.LawKit.callS X0 hx (y := (⟨"java/time/Period", "create", "(III)Ljava/time/Period;"⟩ : MethodName)) hown (mvT hZ (hw _ (List.mem_of_getElem? (i := 30) rfl))) (mvT hZ (hw _ (List.mem_of_getElem? (i := 31) rfl))) (mvT hZ (hw _ (List.mem_of_getElem? (i := 28) rfl))) (mvT hZ (hw _ (List.mem_of_getElem? (i := 32) rfl))) (by decide) (backOf (W := 0) (rm6 l Z a0 hw [] p1 p2 p3 wZ h0 n0 Z0 O0 SZ EZ Fy Fm Fd) hZ (hw _ (List.mem_of_getElem? (i := 32) rfl)) (hw _ (List.mem_of_getElem? (i := 28) rfl)) (by decide) (by decide)) (g := (mkF m 3 #[.val (.int p1), .val (.int p2), .val (.int p3)] [(.int p3), (.int p2), (.int p1)])) rfl (by rw [hml]; rfl) (argsL := [(.int p1), (.int p2), (.int p3)]) (rest := []) (lenOf pd_3 rfl) rfl (by show 2 * 0 + _ ≤ _; exact Nat.le_of_eq rfl) (hb hby d5_3) (fun _ _ => ⟨rfl, e0, (by decide : 0 + 1 ≤ _), (by decide : 0 + 3 ≤ _)⟩)
  dsimp only [Pt.U, Pt.locs, Pt.cells, Pt.slots] at X1 l1 y1 z1 st1 hQ1
  subst l1 y1 z1
  obtain ⟨r1, rfl, N1q, hQ1⟩ := hQ1
  have N1 := Fr.app N0 N1q
  refine Goes.by (fun t k => st1 _ k) ?_
  show Goes p e below s _ _ _ (T1.setTop (mkF m 6 #[.val (.int p1), .val (.int p2), .val (.int p3)] [(.ref r1)]))
  exact Goes.retA X1 hx Bd.returns rfl rfl (hb hby d5_6) hlk (by exact ⟨r1, rfl, N1, hQ1⟩) (by decide) (by decide)
def Q4n (h0 : Heap) (n0 : Nat) (v : Option Value) (h : Heap) (L : List Loc) : Prop := v = some .null ∧ Fr n0 L ∧ h = h0
theorem d4_0 : decode prog_35_method_4_code 0 = .ok (.aload_n 0, 1) := by decide +kernel
theorem d4_1 : decode prog_35_method_4_code 1 = .ok (.getfield 16, 3) := by decide +kernel
theorem d4_4 : decode prog_35_method_4_code 4 = .ok (.lconst 0, 1) := by decide +kernel
theorem d4_5 : decode prog_35_method_4_code 5 = .ok (.lcmp, 1) := by decide +kernel
theorem d4_6 : decode prog_35_method_4_code 6 = .ok (.ifCond .eq 7, 3) := by decide +kernel
theorem d4_9 : decode prog_35_method_4_code 9 = .ok (.aconst_null, 1) := by decide +kernel
theorem d4_10 : decode prog_35_method_4_code 10 = .ok (.goto 29, 3) := by decide +kernel
theorem d4_13 : decode prog_35_method_4_code 13 = .ok (.aload_n 0, 1) := by decide +kernel
theorem d4_14 : decode prog_35_method_4_code 14 = .ok (.getfield 9, 3) := by decide +kernel
theorem d4_17 : decode prog_35_method_4_code 17 = .ok (.ldc2_w 69, 3) := by decide +kernel
theorem d4_20 : decode prog_35_method_4_code 20 = .ok (.ldiv, 1) := by decide +kernel
theorem d4_21 : decode prog_35_method_4_code 21 = .ok (.l2i, 1) := by decide +kernel
theorem d4_22 : decode prog_35_method_4_code 22 = .ok (.aload_n 0, 1) := by decide +kernel
theorem d4_23 : decode prog_35_method_4_code 23 = .ok (.getfield 9, 3) := by decide +kernel
theorem d4_26 : decode prog_35_method_4_code 26 = .ok (.ldc2_w 69, 3) := by decide +kernel
theorem d4_29 : decode prog_35_method_4_code 29 = .ok (.lrem, 1) := by decide +kernel
theorem d4_30 : decode prog_35_method_4_code 30 = .ok (.l2i, 1) := by decide +kernel
theorem d4_31 : decode prog_35_method_4_code 31 = .ok (.aload_n 0, 1) := by decide +kernel
theorem d4_32 : decode prog_35_method_4_code 32 = .ok (.getfield 13, 3) := by decide +kernel
theorem d4_35 : decode prog_35_method_4_code 35 = .ok (.l2i, 1) := by decide +kernel
theorem d4_36 : decode prog_35_method_4_code 36 = .ok (.invokestatic 71, 3) := by decide +kernel
theorem d4_39 : decode prog_35_method_4_code 39 = .ok (.areturn, 1) := by decide +kernel
theorem ef_rm4n (m : MethodId) (x0 : Addr) : entryFrame m #[(.ref x0)] 1 = mkF m 0 #[.val (.ref x0)] [] := by first | (simp [entryFrame, mkF, argsToLocals, Value.category]; done) | rfl
set_option maxRecDepth 65536 in
set_option maxHeartbeats 40000000 in
theorem rm4n (l : Launch) (Z : State) (a0 : Array Value) (hw : ∀ d ∈ tables_1, d.before a0 Z = true) (ws : List Jvm.Cond) (a1 : Addr) (x1 x2 x3 : Int64) (h0 : Heap) (n0 : Nat) (Z0 : n0 ≤ h0.size) (F1 : Fld Z h0 a1 "com/example/libtxsession/libtxsession/internal/session/PostgresInterval" "months" "J" (.long x1)) (F2 : Fld Z h0 a1 "com/example/libtxsession/libtxsession/internal/session/PostgresInterval" "days" "J" (.long x2)) (F3 : Fld Z h0 a1 "com/example/libtxsession/libtxsession/internal/session/PostgresInterval" "micros" "J" (.long x3)) (hm : ¬ x3 = 0) :
    MetFree l (⟨"com/example/libtxsession/libtxsession/internal/session/PostgresInterval", "period", "()Ljava/time/Period;"⟩ : MethodName) (head1 (Jvm.Cond.code (⟨"com/example/libtxsession/libtxsession/internal/session/PostgresInterval", "period", "()Ljava/time/Period;"⟩ : MethodName) prog_35_method_4_code 1 (some (.object "java/time/Period")) :: ws) ({ frames := 4, cells := 1, slots := 3, locals := 56 } : Room)) (fun a U => a = #[(.ref a1)] ∧ Z.Warmed39 U.vm ∧ U.heap = h0) (fun _ _ _ _ _ => True) (fun _ U o U' => ∃ v L, o = .returned v ∧ (Q4n h0 n0) v U'.heap L ∧ FrameEnd U o U' L ({ frames := 4, cells := 1, slots := 3, locals := 56 } : Room).cells ({ frames := 4, cells := 1, slots := 3, locals := 56 } : Room).slots) := by
  refine MetFree.of_bodySF (plainFor_of_name pn_1) hisR ?_
  intro p e s m args below meth c s₁ Bd hml0 hP hK
  obtain ⟨rfl, hZ, hh⟩ := hP
  have hx := Bd.exec
  have hby := Bd.bytes
  have hlk : meth.locks = false := BodyLoose.notSynchronized Bd
  have hml : c.maxLocals = 1 := hml0
  have hown : s.vm.findClass "com/example/libtxsession/libtxsession/internal/session/PostgresInterval" = some m.cls := findClass_of_methodNamed Bd.named
  have hnm := (name_of_methodNamed Bd.named Bd.method).1
  have X0 : Stand p l e ({ frames := 4, cells := 1, slots := 3, locals := 56 } : Room) s m #[(.ref a1)] below meth c s₁ [] 0 0 := Stand.of_body Bd
  have e0 : s₁.heap = h0 := by rw [← hh, Bd.state]; rfl
  have N0 := Fr.nil n0
  show Goes p e below s (Q4n h0 n0) ({ frames := 4, cells := 1, slots := 3, locals := 56 } : Room).cells ({ frames := 4, cells := 1, slots := 3, locals := 56 } : Room).slots (s₁.setTop (entryFrame m #[(.ref a1)] 1))
  refine Goes.by (fun t k => castTop (ef_rm4n m a1) k) ?_
  show Goes p e below s _ _ _ (s₁.setTop (mkF m 0 #[.val (.ref a1)] []))
  refine Goes.by (fun t k => XS.aloadN X0.here hx rfl (hb hby d4_0) rfl rfl k) ?_
  show Goes p e below s _ _ _ (s₁.setTop (mkF m 1 #[.val (.ref a1)] [(.ref a1)]))
  obtain ⟨T1, X1, e1, st1⟩ := getF X0 hx hZ hown (host := "") (Or.inl (hw _ (List.mem_of_getElem? (i := 18) rfl))) Via.refl e0 (F3) (g := (mkF m 1 #[.val (.ref a1)] [(.ref a1)])) rfl rfl (hb hby d4_1)
  refine Goes.by (fun t k => st1 t k) ?_
  show Goes p e below s _ _ _ (T1.setTop (mkF m 4 #[.val (.ref a1)] [(.long x3)]))
  refine Goes.by (fun t k => XS.lconst X1.here hx rfl (hb hby d4_4) k) ?_
  show Goes p e below s _ _ _ (T1.setTop (mkF m 5 #[.val (.ref a1)] [(.long (0 : Int64)), (.long x3)]))
  refine Goes.by (fun t k => XS.lcmp X1.here hx rfl (hb hby d4_5) rfl k) ?_
  show Goes p e below s _ _ _ (T1.setTop (mkF m 6 #[.val (.ref a1)] [(.int (lcmpW x3 (0 : Int64)))]))
  refine Goes.by (fun t k => XS.ifNo X1.here hx rfl (hb hby d4_6) rfl ((if0 _ _).trans (feq (fun h => hm ((lw_eq _ _).mp h))).1) k) ?_
  show Goes p e below s _ _ _ (T1.setTop (mkF m 9 #[.val (.ref a1)] []))
  refine Goes.by (fun t k => XS.aconstNull X1.here hx rfl (hb hby d4_9) k) ?_
  show Goes p e below s _ _ _ (T1.setTop (mkF m 10 #[.val (.ref a1)] [.null]))
  refine Goes.by (fun t k => XS.goto X1.here hx rfl (pc0 := 10) (pc' := 39) rfl (hb hby d4_10) (by decide) (by decide) k) ?_
  show Goes p e below s _ _ _ (T1.setTop (mkF m 39 #[.val (.ref a1)] [.null]))
  exact Goes.retA X1 hx Bd.returns rfl rfl (hb hby d4_39) hlk (by rw [e1]; exact ⟨rfl, N0, rfl⟩) (by decide) (by decide)
theorem ef_rm4z (m : MethodId) (x0 : Addr) : entryFrame m #[(.ref x0)] 1 = mkF m 0 #[.val (.ref x0)] [] := by first | (simp [entryFrame, mkF, argsToLocals, Value.category]; done) | rfl
set_option maxRecDepth 65536 in
set_option maxHeartbeats 40000000 in
theorem rm4z (l : Launch) (Z : State) (a0 : Array Value) (hw : ∀ d ∈ tables_1, d.before a0 Z = true) (ws : List Jvm.Cond) (a1 : Addr) (x1 x2 x3 : Int64) (wZ : Addr) (h0 : Heap) (n0 : Nat) (Z0 : n0 ≤ h0.size) (O0 : Old Z n0 h0) (SZ : Sta Z Z.heap "java/time/Period" "ZERO" "Ljava/time/Period;" (.ref wZ)) (EZ : Exa Z Z.heap wZ "java/time/Period") (Fy : Fld Z Z.heap wZ "java/time/Period" "years" "I" (.int 0)) (Fm : Fld Z Z.heap wZ "java/time/Period" "months" "I" (.int 0)) (Fd : Fld Z Z.heap wZ "java/time/Period" "days" "I" (.int 0)) (F1 : Fld Z h0 a1 "com/example/libtxsession/libtxsession/internal/session/PostgresInterval" "months" "J" (.long x1)) (F2 : Fld Z h0 a1 "com/example/libtxsession/libtxsession/internal/session/PostgresInterval" "days" "J" (.long x2)) (F3 : Fld Z h0 a1 "com/example/libtxsession/libtxsession/internal/session/PostgresInterval" "micros" "J" (.long x3)) (hm : x3 = 0) :
    MetFree l (⟨"com/example/libtxsession/libtxsession/internal/session/PostgresInterval", "period", "()Ljava/time/Period;"⟩ : MethodName) (head1 (Jvm.Cond.code (⟨"com/example/libtxsession/libtxsession/internal/session/PostgresInterval", "period", "()Ljava/time/Period;"⟩ : MethodName) prog_35_method_4_code 1 (some (.object "java/time/Period")) :: ws) ({ frames := 4, cells := 1, slots := 3, locals := 56 } : Room)) (fun a U => a = #[(.ref a1)] ∧ Z.Warmed39 U.vm ∧ U.heap = h0) (fun _ _ _ _ _ => True) (fun _ U o U' => ∃ v L, o = .returned v ∧ (QP Z (x1 / 12).toInt32 (x1 - x1 / 12 * 12).toInt32 x2.toInt32 h0 n0) v U'.heap L ∧ FrameEnd U o U' L ({ frames := 4, cells := 1, slots := 3, locals := 56 } : Room).cells ({ frames := 4, cells := 1, slots := 3, locals := 56 } : Room).slots) := by
  refine MetFree.of_bodySF (plainFor_of_name pn_1) hisR ?_
  intro p e s m args below meth c s₁ Bd hml0 hP hK
  obtain ⟨rfl, hZ, hh⟩ := hP
  have hx := Bd.exec
  have hby := Bd.bytes
  have hlk : meth.locks = false := BodyLoose.notSynchronized Bd
  have hml : c.maxLocals = 1 := hml0
  have hown : s.vm.findClass "com/example/libtxsession/libtxsession/internal/session/PostgresInterval" = some m.cls := findClass_of_methodNamed Bd.named
  have hnm := (name_of_methodNamed Bd.named Bd.method).1
  have X0 : Stand p l e ({ frames := 4, cells := 1, slots := 3, locals := 56 } : Room) s m #[(.ref a1)] below meth c s₁ [] 0 0 := Stand.of_body Bd
  have e0 : s₁.heap = h0 := by rw [← hh, Bd.state]; rfl
  have N0 := Fr.nil n0
  show Goes p e below s (QP Z (x1 / 12).toInt32 (x1 - x1 / 12 * 12).toInt32 x2.toInt32 h0 n0) ({ frames := 4, cells := 1, slots := 3, locals := 56 } : Room).cells ({ frames := 4, cells := 1, slots := 3, locals := 56 } : Room).slots (s₁.setTop (entryFrame m #[(.ref a1)] 1))
  refine Goes.by (fun t k => castTop (ef_rm4z m a1) k) ?_
  show Goes p e below s _ _ _ (s₁.setTop (mkF m 0 #[.val (.ref a1)] []))
  refine Goes.by (fun t k => XS.aloadN X0.here hx rfl (hb hby d4_0) rfl rfl k) ?_
  show Goes p e below s _ _ _ (s₁.setTop (mkF m 1 #[.val (.ref a1)] [(.ref a1)]))
  obtain ⟨T1, X1, e1, st1⟩ := getF X0 hx hZ hown (host := "") (Or.inl (hw _ (List.mem_of_getElem? (i := 18) rfl))) Via.refl e0 (F3) (g := (mkF m 1 #[.val (.ref a1)] [(.ref a1)])) rfl rfl (hb hby d4_1)
  refine Goes.by (fun t k => st1 t k) ?_
  show Goes p e below s _ _ _ (T1.setTop (mkF m 4 #[.val (.ref a1)] [(.long x3)]))
  refine Goes.by (fun t k => XS.lconst X1.here hx rfl (hb hby d4_4) k) ?_
  show Goes p e below s _ _ _ (T1.setTop (mkF m 5 #[.val (.ref a1)] [(.long (0 : Int64)), (.long x3)]))
  refine Goes.by (fun t k => XS.lcmp X1.here hx rfl (hb hby d4_5) rfl k) ?_
  show Goes p e below s _ _ _ (T1.setTop (mkF m 6 #[.val (.ref a1)] [(.int (lcmpW x3 (0 : Int64)))]))
  refine Goes.by (fun t k => XS.ifYes X1.here hx rfl (pc0 := 6) (pc' := 13) rfl (hb hby d4_6) rfl ((if0 _ _).trans (teq ((lw_eq _ _).mpr hm)).1) (by decide) (by decide) k) ?_
  show Goes p e below s _ _ _ (T1.setTop (mkF m 13 #[.val (.ref a1)] []))
  refine Goes.by (fun t k => XS.aloadN X1.here hx rfl (hb hby d4_13) rfl rfl k) ?_
  show Goes p e below s _ _ _ (T1.setTop (mkF m 14 #[.val (.ref a1)] [(.ref a1)]))
  obtain ⟨T2, X2, e2, st2⟩ := getF X1 hx hZ hown (host := "") (Or.inl (hw _ (List.mem_of_getElem? (i := 14) rfl))) Via.refl e1 (F1) (g := (mkF m 14 #[.val (.ref a1)] [(.ref a1)])) rfl rfl (hb hby d4_14)
  refine Goes.by (fun t k => st2 t k) ?_
  show Goes p e below s _ _ _ (T2.setTop (mkF m 17 #[.val (.ref a1)] [(.long x1)]))
  refine Goes.by (fun t k => X2.ldc2Long hx hown (mvT hZ (hw _ (List.mem_of_getElem? (i := 25) rfl))) (g := (mkF m 17 #[.val (.ref a1)] [(.long x1)])) rfl (hb hby d4_17) _ k) ?_
  show Goes p e below s _ _ _ (T2.setTop (mkF m 20 #[.val (.ref a1)] [(.long (12 : Int64)), (.long x1)]))
  refine Goes.by (fun t k => XS.ldiv X2.here hx rfl (hb hby d4_20) rfl (by decide) k) ?_
  show Goes p e below s _ _ _ (T2.setTop (mkF m 21 #[.val (.ref a1)] [(.long (x1 / (12 : Int64)))]))
  refine Goes.by (fun t k => XS.l2i X2.here hx rfl (hb hby d4_21) rfl k) ?_
  show Goes p e below s _ _ _ (T2.setTop (mkF m 22 #[.val (.ref a1)] [(.int ((x1 / (12 : Int64)).toInt32))]))
  refine Goes.by (fun t k => XS.aloadN X2.here hx rfl (hb hby d4_22) rfl rfl k) ?_
  show Goes p e below s _ _ _ (T2.setTop (mkF m 23 #[.val (.ref a1)] [(.ref a1), (.int ((x1 / (12 : Int64)).toInt32))]))
  obtain ⟨T3, X3, e3, st3⟩ := getF X2 hx hZ hown (host := "") (Or.inl (hw _ (List.mem_of_getElem? (i := 14) rfl))) Via.refl e2 (F1) (g := (mkF m 23 #[.val (.ref a1)] [(.ref a1), (.int ((x1 / (12 : Int64)).toInt32))])) rfl rfl (hb hby d4_23)
  refine Goes.by (fun t k => st3 t k) ?_
  show Goes p e below s _ _ _ (T3.setTop (mkF m 26 #[.val (.ref a1)] [(.long x1), (.int ((x1 / (12 : Int64)).toInt32))]))
  refine Goes.by (fun t k => X3.ldc2Long hx hown (mvT hZ (hw _ (List.mem_of_getElem? (i := 25) rfl))) (g := (mkF m 26 #[.val (.ref a1)] [(.long x1), (.int ((x1 / (12 : Int64)).toInt32))])) rfl (hb hby d4_26) _ k) ?_
  show Goes p e below s _ _ _ (T3.setTop (mkF m 29 #[.val (.ref a1)] [(.long (12 : Int64)), (.long x1), (.int ((x1 / (12 : Int64)).toInt32))]))
  refine Goes.by (fun t k => XS.lrem X3.here hx rfl (hb hby d4_29) rfl (by decide) k) ?_
  show Goes p e below s _ _ _ (T3.setTop (mkF m 30 #[.val (.ref a1)] [(.long (x1 - x1 / (12 : Int64) * (12 : Int64))), (.int ((x1 / (12 : Int64)).toInt32))]))
  refine Goes.by (fun t k => XS.l2i X3.here hx rfl (hb hby d4_30) rfl k) ?_
  show Goes p e below s _ _ _ (T3.setTop (mkF m 31 #[.val (.ref a1)] [(.int ((x1 - x1 / (12 : Int64) * (12 : Int64)).toInt32)), (.int ((x1 / (12 : Int64)).toInt32))]))
  refine Goes.by (fun t k => XS.aloadN X3.here hx rfl (hb hby d4_31) rfl rfl k) ?_
  show Goes p e below s _ _ _ (T3.setTop (mkF m 32 #[.val (.ref a1)] [(.ref a1), (.int ((x1 - x1 / (12 : Int64) * (12 : Int64)).toInt32)), (.int ((x1 / (12 : Int64)).toInt32))]))
  obtain ⟨T4, X4, e4, st4⟩ := getF X3 hx hZ hown (host := "") (Or.inl (hw _ (List.mem_of_getElem? (i := 16) rfl))) Via.refl e3 (F2) (g := (mkF m 32 #[.val (.ref a1)] [(.ref a1), (.int ((x1 - x1 / (12 : Int64) * (12 : Int64)).toInt32)), (.int ((x1 / (12 : Int64)).toInt32))])) rfl rfl (hb hby d4_32)
  refine Goes.by (fun t k => st4 t k) ?_
  show Goes p e below s _ _ _ (T4.setTop (mkF m 35 #[.val (.ref a1)] [(.long x2), (.int ((x1 - x1 / (12 : Int64) * (12 : Int64)).toInt32)), (.int ((x1 / (12 : Int64)).toInt32))]))
  refine Goes.by (fun t k => XS.l2i X4.here hx rfl (hb hby d4_35) rfl k) ?_
  show Goes p e below s _ _ _ (T4.setTop (mkF m 36 #[.val (.ref a1)] [(.int (x2.toInt32)), (.int ((x1 - x1 / (12 : Int64) * (12 : Int64)).toInt32)), (.int ((x1 / (12 : Int64)).toInt32))]))
  obtain ⟨_, _, ⟨T5, L5, k5, n5⟩, -, X5, ⟨Lc5, hQ5, l5, y5, z5⟩, st5⟩ := Jvm.LawKit.callS X4 hx (y := (⟨"java/time/Period", "of", "(III)Ljava/time/Period;"⟩ : MethodName)) hown (mvT hZ (hw _ (List.mem_of_getElem? (i := 26) rfl))) (mvT hZ (hw _ (List.mem_of_getElem? (i := 27) rfl))) (mvT hZ (hw _ (List.mem_of_getElem? (i := 28) rfl))) (mvT hZ (hw _ (List.mem_of_getElem? (i := 29) rfl))) (by decide) (backOf (W := 0) (rm5 l Z a0 hw [] _ _ _ wZ h0 n0 Z0 O0 SZ EZ Fy Fm Fd) hZ (hw _ (List.mem_of_getElem? (i := 29) rfl)) (hw _ (List.mem_of_getElem? (i := 28) rfl)) (by decide) (by decide)) (g := (mkF m 36 #[.val (.ref a1)] [(.int (x2.toInt32)), (.int ((x1 - x1 / (12 : Int64) * (12 : Int64)).toInt32)), (.int ((x1 / (12 : Int64)).toInt32))])) rfl (by rw [hml]; rfl) (argsL := [(.int ((x1 / (12 : Int64)).toInt32)), (.int ((x1 - x1 / (12 : Int64) * (12 : Int64)).toInt32)), (.int (x2.toInt32))]) (rest := []) (lenOf pd_3 rfl) rfl (by show 2 * 0 + _ ≤ _; exact Nat.le_of_eq rfl) (hb hby d4_36) (fun _ _ => ⟨rfl, e4, (by decide : 0 + 1 ≤ _), (by decide : 0 + 3 ≤ _)⟩)
  dsimp only [Pt.U, Pt.locs, Pt.cells, Pt.slots] at X5 l5 y5 z5 st5 hQ5
  subst l5 y5 z5
  obtain ⟨r5, rfl, N5q, hQ5⟩ := hQ5
  have N5 := Fr.app N0 N5q
  refine Goes.by (fun t k => st5 _ k) ?_
  show Goes p e below s _ _ _ (T5.setTop (mkF m 39 #[.val (.ref a1)] [(.ref r5)]))
  exact Goes.retA X5 hx Bd.returns rfl rfl (hb hby d4_39) hlk (by exact ⟨r5, rfl, N5, hQ5⟩) (by decide) (by decide)
def Q0 (n0 : Nat) (v : Option Value) (h : Heap) (L : List Loc) : Prop := v = some (.int 1) ∧ Fr n0 L
theorem pn_3 : plainName "com/example/libtxsession/libtxsession/internal/session/PostgresIntervalPeriodPinLaw" = true := by first | (simp [plainName, overriddenIn]; done) | decide +kernel
theorem ef_rm0 (m : MethodId) (x0 : Int32) (x1 : Int32) (x2 : Int64) (x3 : Int32) : entryFrame m #[(.int x0), (.int x1), (.long x2), (.int x3)] maxLocals = mkF m 0 #[.val (.int x0), .val (.int x1), .val (.long x2), .second, .val (.int x3), .unset, .unset, .unset, .unset, .unset, .unset, .unset, .unset, .unset, .unset, .unset, .unset] [] := by first | (simp [entryFrame, mkF, argsToLocals, Value.category, maxLocals]; done) | rfl
set_option maxRecDepth 65536 in
set_option maxHeartbeats 40000000 in
theorem rm0 (l : Launch) (Z : State) (a0 : Array Value) (hw : ∀ d ∈ tables_1, d.before a0 Z = true) (ws : List Jvm.Cond) (p0 p1 : Int32) (q2 : Int64) (p3 : Int32) (wZ : Addr) (h0 : Heap) (n0 : Nat) (Z0 : n0 ≤ h0.size) (O0 : Old Z n0 h0) (SZ : Sta Z Z.heap "java/time/Period" "ZERO" "Ljava/time/Period;" (.ref wZ)) (EZ : Exa Z Z.heap wZ "java/time/Period") (Fy : Fld Z Z.heap wZ "java/time/Period" "years" "I" (.int 0)) (Fm : Fld Z Z.heap wZ "java/time/Period" "months" "I" (.int 0)) (Fd : Fld Z Z.heap wZ "java/time/Period" "days" "I" (.int 0)) :
    MetFree l x (head1 (Jvm.Cond.code x code maxLocals ret :: ws) room_1) (fun a U => a = #[(.int p0), (.int p1), (.long q2), (.int p3)] ∧ Z.Warmed39 U.vm ∧ U.heap = h0) (fun _ _ _ _ _ => True) (fun _ U o U' => ∃ v L, o = .returned v ∧ (Q0 n0) v U'.heap L ∧ FrameEnd U o U' L room_1.cells room_1.slots) := by
  refine MetFree.of_bodySF (plainFor_of_name pn_3) hisR ?_
  intro p e s m args below meth c s₁ Bd hml0 hP hK
  obtain ⟨rfl, hZ, hh⟩ := hP
  have hx := Bd.exec
  have hby := Bd.bytes
  have hlk : meth.locks = false := BodyLoose.notSynchronized Bd
  have hml : c.maxLocals = 17 := hml0
  have hown : s.vm.findClass "com/example/libtxsession/libtxsession/internal/session/PostgresIntervalPeriodPinLaw" = some m.cls := findClass_of_methodNamed Bd.named
  have hnm := (name_of_methodNamed Bd.named Bd.method).1
  have X0 : Stand p l e room_1 s m #[(.int p0), (.int p1), (.long q2), (.int p3)] below meth c s₁ [] 0 0 := Stand.of_body Bd
  have e0 : s₁.heap = h0 := by rw [← hh, Bd.state]; rfl
  have N0 := Fr.nil n0
  show Goes p e below s (Q0 n0) room_1.cells room_1.slots (s₁.setTop (entryFrame m #[(.int p0), (.int p1), (.long q2), (.int p3)] maxLocals))
  refine Goes.by (fun t k => castTop (ef_rm0 m p0 p1 q2 p3) k) ?_
  show Goes p e below s _ _ _ (s₁.setTop (mkF m 0 #[.val (.int p0), .val (.int p1), .val (.long q2), .second, .val (.int p3), .unset, .unset, .unset, .unset, .unset, .unset, .unset, .unset, .unset, .unset, .unset, .unset] []))
  refine Goes.by (fun t k => XS.iload X0.here hx rfl (hb hby at_0) rfl k) ?_
  show Goes p e below s _ _ _ (s₁.setTop (mkF m 2 #[.val (.int p0), .val (.int p1), .val (.long q2), .second, .val (.int p3), .unset, .unset, .unset, .unset, .unset, .unset, .unset, .unset, .unset, .unset, .unset, .unset] [(.int p3)]))
  refine Goes.by (fun t k => XS.iconst X0.here hx rfl (hb hby at_2) k) ?_
  show Goes p e below s _ _ _ (s₁.setTop (mkF m 3 #[.val (.int p0), .val (.int p1), .val (.long q2), .second, .val (.int p3), .unset, .unset, .unset, .unset, .unset, .unset, .unset, .unset, .unset, .unset, .unset, .unset] [(.int (1 : Int32)), (.int p3)]))
  refine Goes.by (fun t k => XS.iand X0.here hx rfl (hb hby at_3) rfl k) ?_
  show Goes p e below s _ _ _ (s₁.setTop (mkF m 4 #[.val (.int p0), .val (.int p1), .val (.long q2), .second, .val (.int p3), .unset, .unset, .unset, .unset, .unset, .unset, .unset, .unset, .unset, .unset, .unset, .unset] [(.int (p3 &&& (1 : Int32)))]))
  have J14 : ∀ mu : Int64, Goes p e below s (Q0 n0) room_1.cells room_1.slots (s₁.setTop (mkF m 14 #[.val (.int p0), .val (.int p1), .val (.long q2), .second, .val (.int p3), .val (.long mu), .second, .unset, .unset, .unset, .unset, .unset, .unset, .unset, .unset, .unset, .unset] [])) := by
    intro mu
    obtain ⟨T1, h1, X1, e1, E1, A1, D1, -, st1⟩ := newO X0 hx hZ hown (hw _ (List.mem_of_getElem? (i := 0) rfl)) (hw _ (List.mem_of_getElem? (i := 1) rfl)) (hw _ (List.mem_of_getElem? (i := 2) rfl)) e0 (g := (mkF m 14 #[.val (.int p0), .val (.int p1), .val (.long q2), .second, .val (.int p3), .val (.long mu), .second, .unset, .unset, .unset, .unset, .unset, .unset, .unset, .unset, .unset, .unset] [])) rfl (hb hby at_14) (by decide) (by decide)
    obtain ⟨b1, g1⟩ : ∃ z, z = h0.size := ⟨_, rfl⟩
    rw [← g1] at A1 D1 st1
    refine Goes.by (fun t k => st1 t k) ?_
    show Goes p e below s _ _ _ (T1.setTop (mkF m 17 #[.val (.int p0), .val (.int p1), .val (.long q2), .second, .val (.int p3), .val (.long mu), .second, .unset, .unset, .unset, .unset, .unset, .unset, .unset, .unset, .unset, .unset] [(.ref b1)]))
    have ge_b1 : n0 ≤ b1 := Nat.le_trans Z0 (Nat.le_of_eq g1.symm)
    have f1 := O0.ext E1
    have f2 := Nat.le_trans Z0 E1.1
    have f3 : Fld Z h1 b1 "com/example/libtxsession/libtxsession/internal/session/PostgresInterval" "months" "J" (.long (0 : Int64)) := D1 (Or.inr (hw _ (List.mem_of_getElem? (i := 15) rfl))) (ty := .long) (by decide)
    have f4 : Fld Z h1 b1 "com/example/libtxsession/libtxsession/internal/session/PostgresInterval" "days" "J" (.long (0 : Int64)) := D1 (Or.inr (hw _ (List.mem_of_getElem? (i := 17) rfl))) (ty := .long) (by decide)
    have f5 : Fld Z h1 b1 "com/example/libtxsession/libtxsession/internal/session/PostgresInterval" "micros" "J" (.long (0 : Int64)) := D1 (Or.inr (hw _ (List.mem_of_getElem? (i := 19) rfl))) (ty := .long) (by decide)
    refine Goes.by (fun t k => XS.dup X1.here hx rfl (hb hby at_17) rfl rfl k) ?_
    show Goes p e below s _ _ _ (T1.setTop (mkF m 18 #[.val (.int p0), .val (.int p1), .val (.long q2), .second, .val (.int p3), .val (.long mu), .second, .unset, .unset, .unset, .unset, .unset, .unset, .unset, .unset, .unset, .unset] [(.ref b1), (.ref b1)]))
    refine Goes.by (fun t k => XS.iloadN X1.here hx rfl (hb hby at_18) rfl k) ?_
    show Goes p e below s _ _ _ (T1.setTop (mkF m 19 #[.val (.int p0), .val (.int p1), .val (.long q2), .second, .val (.int p3), .val (.long mu), .second, .unset, .unset, .unset, .unset, .unset, .unset, .unset, .unset, .unset, .unset] [(.int p0), (.ref b1), (.ref b1)]))
    refine Goes.by (fun t k => XS.i2l X1.here hx rfl (hb hby at_19) rfl k) ?_
    show Goes p e below s _ _ _ (T1.setTop (mkF m 20 #[.val (.int p0), .val (.int p1), .val (.long q2), .second, .val (.int p3), .val (.long mu), .second, .unset, .unset, .unset, .unset, .unset, .unset, .unset, .unset, .unset, .unset] [(.long (p0.toInt64)), (.ref b1), (.ref b1)]))
    refine Goes.by (fun t k => XS.iloadN X1.here hx rfl (hb hby at_20) rfl k) ?_
    show Goes p e below s _ _ _ (T1.setTop (mkF m 21 #[.val (.int p0), .val (.int p1), .val (.long q2), .second, .val (.int p3), .val (.long mu), .second, .unset, .unset, .unset, .unset, .unset, .unset, .unset, .unset, .unset, .unset] [(.int p1), (.long (p0.toInt64)), (.ref b1), (.ref b1)]))
    refine Goes.by (fun t k => XS.i2l X1.here hx rfl (hb hby at_21) rfl k) ?_
    show Goes p e below s _ _ _ (T1.setTop (mkF m 22 #[.val (.int p0), .val (.int p1), .val (.long q2), .second, .val (.int p3), .val (.long mu), .second, .unset, .unset, .unset, .unset, .unset, .unset, .unset, .unset, .unset, .unset] [(.long (p1.toInt64)), (.long (p0.toInt64)), (.ref b1), (.ref b1)]))
    refine Goes.by (fun t k => XS.lload X1.here hx rfl (hb hby at_22) rfl k) ?_
    show Goes p e below s _ _ _ (T1.setTop (mkF m 24 #[.val (.int p0), .val (.int p1), .val (.long q2), .second, .val (.int p3), .val (.long mu), .second, .unset, .unset, .unset, .unset, .unset, .unset, .unset, .unset, .unset, .unset] [(.long mu), (.long (p1.toInt64)), (.long (p0.toInt64)), (.ref b1), (.ref b1)]))
    obtain ⟨_, _, ⟨T2, L2, k2, n2⟩, -, X2, ⟨Lc2, hQ2, l2, y2, z2⟩, st2⟩ := X1.specialBack hx (y := (⟨"com/example/libtxsession/libtxsession/internal/session/PostgresInterval", "<init>", "(JJJ)V"⟩ : MethodName)) rfl hown (mvT hZ (hw _ (List.mem_of_getElem? (i := 3) rfl))) (mvT hZ (hw _ (List.mem_of_getElem? (i := 4) rfl))) (mvT hZ (hw _ (List.mem_of_getElem? (i := 5) rfl))) (by decide) (backOf (W := 1) (rm1 l Z a0 hw [] b1 p0.toInt64 p1.toInt64 mu _ _ _ h1 n0 f2 f3 f4 f5 A1 ge_b1) hZ (hw _ (List.mem_of_getElem? (i := 5) rfl)) (hw _ (List.mem_of_getElem? (i := 2) rfl)) (by decide) (by decide)) (g := (mkF m 24 #[.val (.int p0), .val (.int p1), .val (.long q2), .second, .val (.int p3), .val (.long mu), .second, .unset, .unset, .unset, .unset, .unset, .unset, .unset, .unset, .unset, .unset] [(.long mu), (.long (p1.toInt64)), (.long (p0.toInt64)), (.ref b1), (.ref b1)])) rfl (by rw [hml]; rfl) (Steps.refl _) (a := b1) (argsL := [(.long (p0.toInt64)), (.long (p1.toInt64)), (.long mu)]) (rest := [(.ref b1)]) (lenOf pd_1 rfl) rfl (by show 2 * 0 + _ ≤ _; exact Nat.le_of_eq rfl) (hb hby at_24) (fun _ _ => ⟨rfl, e1, (by decide : 1 + 0 ≤ _), (by decide : 3 + 0 ≤ _)⟩)
    dsimp only [Pt.U, Pt.locs, Pt.cells, Pt.slots] at X2 l2 y2 z2 st2 hQ2
    subst l2 y2 z2
    obtain ⟨rfl, N2q, K2, E2, F2, G2, H2⟩ := hQ2
    have N2 := Fr.app N0 N2q
    refine Goes.by (fun t k => st2.trans k) ?_
    show Goes p e below s _ _ _ (T2.setTop (mkF m 27 #[.val (.int p0), .val (.int p1), .val (.long q2), .second, .val (.int p3), .val (.long mu), .second, .unset, .unset, .unset, .unset, .unset, .unset, .unset, .unset, .unset, .unset] [(.ref b1)]))
    have OLD_K2 := f1.keep K2 (allS ge_b1 all0)
    have f6 := Nat.le_trans f2 K2.1
    have f7 := A1.keep K2
    refine Goes.by (fun t k => XS.astore X2.here hx rfl (hb hby at_27) rfl rfl (l' := #[.val (.int p0), .val (.int p1), .val (.long q2), .second, .val (.int p3), .val (.long mu), .second, .val (.ref b1), .unset, .unset, .unset, .unset, .unset, .unset, .unset, .unset, .unset]) rfl k) ?_
    show Goes p e below s _ _ _ (T2.setTop (mkF m 29 #[.val (.int p0), .val (.int p1), .val (.long q2), .second, .val (.int p3), .val (.long mu), .second, .val (.ref b1), .unset, .unset, .unset, .unset, .unset, .unset, .unset, .unset, .unset] []))
    refine Goes.by (fun t k => XS.aload X2.here hx rfl (hb hby at_29) rfl rfl k) ?_
    show Goes p e below s _ _ _ (T2.setTop (mkF m 31 #[.val (.int p0), .val (.int p1), .val (.long q2), .second, .val (.int p3), .val (.long mu), .second, .val (.ref b1), .unset, .unset, .unset, .unset, .unset, .unset, .unset, .unset, .unset] [(.ref b1)]))
    by_cases hmu : mu = 0
    · skip
      obtain ⟨cq3, kq3, q3a, q3b, q3c⟩ := isOf hZ rfl (E2)
      obtain ⟨_, _, ⟨T3, L3, k3, n3⟩, -, X3, ⟨Lc3, hQ3, l3, y3, z3⟩, st3⟩ := X2.virtualBack hx (y := (⟨"com/example/libtxsession/libtxsession/internal/session/PostgresInterval", "period", "()Ljava/time/Period;"⟩ : MethodName)) (z := (⟨"com/example/libtxsession/libtxsession/internal/session/PostgresInterval", "period", "()Ljava/time/Period;"⟩ : MethodName)) hown (mvT hZ (hw _ (List.mem_of_getElem? (i := 20) rfl))) (mvT hZ (hw _ (List.mem_of_getElem? (i := 21) rfl))) (notFace_of_selects (args := #[]) (mvT hZ (hw _ (List.mem_of_getElem? (i := 23) rfl)))) (mvT hZ (hw _ (List.mem_of_getElem? (i := 23) rfl))) (mvT hZ (hw _ (List.mem_of_getElem? (i := 22) rfl))) (by decide) (backOf (W := 0) (rm4z l Z a0 hw [] b1 p0.toInt64 p1.toInt64 mu wZ _ n0 f6 OLD_K2 SZ EZ Fy Fm Fd F2 G2 H2 hmu) hZ (hw _ (List.mem_of_getElem? (i := 24) rfl)) (hw _ (List.mem_of_getElem? (i := 2) rfl)) (by decide) (by decide)) q3a q3c (g := (mkF m 31 #[.val (.int p0), .val (.int p1), .val (.long q2), .second, .val (.int p3), .val (.long mu), .second, .val (.ref b1), .unset, .unset, .unset, .unset, .unset, .unset, .unset, .unset, .unset] [(.ref b1)])) rfl (by rw [hml]; rfl) (Steps.refl _) (argsL := []) (rest := []) (lenOf pd_2 rfl) rfl (by show 2 * 0 + _ ≤ _; exact Nat.le_of_eq rfl) (hb hby at_31) (fun _ _ => ⟨rfl, rfl, (by decide : 1 + 1 ≤ _), (by decide : 3 + 3 ≤ _)⟩)
      dsimp only [Pt.U, Pt.locs, Pt.cells, Pt.slots] at X3 l3 y3 z3 st3 hQ3
      subst l3 y3 z3
      obtain ⟨r3, rfl, N3q, K3, E3, F3, G3, H3⟩ := hQ3
      have N3 := Fr.app N2 N3q
      refine Goes.by (fun t k => st3.trans k) ?_
      show Goes p e below s _ _ _ (T3.setTop (mkF m 34 #[.val (.int p0), .val (.int p1), .val (.long q2), .second, .val (.int p3), .val (.long mu), .second, .val (.ref b1), .unset, .unset, .unset, .unset, .unset, .unset, .unset, .unset, .unset] [(.ref r3)]))
      have OLD_K3 := OLD_K2.keep K3 all0
      have f8 := Nat.le_trans f6 K3.1
      have f9 := E2.keep K3
      have f10 := F2.keep K3 nin0
      have f11 := G2.keep K3 nin0
      have f12 := H2.keep K3 nin0
      refine Goes.by (fun t k => XS.astore X3.here hx rfl (hb hby at_34) rfl rfl (l' := #[.val (.int p0), .val (.int p1), .val (.long q2), .second, .val (.int p3), .val (.long mu), .second, .val (.ref b1), .val (.ref r3), .unset, .unset, .unset, .unset, .unset, .unset, .unset, .unset]) rfl k) ?_
      show Goes p e below s _ _ _ (T3.setTop (mkF m 36 #[.val (.int p0), .val (.int p1), .val (.long q2), .second, .val (.int p3), .val (.long mu), .second, .val (.ref b1), .val (.ref r3), .unset, .unset, .unset, .unset, .unset, .unset, .unset, .unset] []))
      refine Goes.by (fun t k => XS.lload X3.here hx rfl (hb hby at_36) rfl k) ?_
      show Goes p e below s _ _ _ (T3.setTop (mkF m 38 #[.val (.int p0), .val (.int p1), .val (.long q2), .second, .val (.int p3), .val (.long mu), .second, .val (.ref b1), .val (.ref r3), .unset, .unset, .unset, .unset, .unset, .unset, .unset, .unset] [(.long mu)]))
      refine Goes.by (fun t k => XS.lconst X3.here hx rfl (hb hby at_38) k) ?_
      show Goes p e below s _ _ _ (T3.setTop (mkF m 39 #[.val (.int p0), .val (.int p1), .val (.long q2), .second, .val (.int p3), .val (.long mu), .second, .val (.ref b1), .val (.ref r3), .unset, .unset, .unset, .unset, .unset, .unset, .unset, .unset] [(.long (0 : Int64)), (.long mu)]))
      refine Goes.by (fun t k => XS.lcmp X3.here hx rfl (hb hby at_39) rfl k) ?_
      show Goes p e below s _ _ _ (T3.setTop (mkF m 40 #[.val (.int p0), .val (.int p1), .val (.long q2), .second, .val (.int p3), .val (.long mu), .second, .val (.ref b1), .val (.ref r3), .unset, .unset, .unset, .unset, .unset, .unset, .unset, .unset] [(.int (lcmpW mu (0 : Int64)))]))
      refine Goes.by (fun t k => XS.ifYes X3.here hx rfl (pc0 := 40) (pc' := 54) rfl (hb hby at_40) rfl ((if0 _ _).trans (teq ((lw_eq _ _).mpr hmu)).1) (by decide) (by decide) k) ?_
      show Goes p e below s _ _ _ (T3.setTop (mkF m 54 #[.val (.int p0), .val (.int p1), .val (.long q2), .second, .val (.int p3), .val (.long mu), .second, .val (.ref b1), .val (.ref r3), .unset, .unset, .unset, .unset, .unset, .unset, .unset, .unset] []))
      refine Goes.by (fun t k => XS.aload X3.here hx rfl (hb hby at_54) rfl rfl k) ?_
      show Goes p e below s _ _ _ (T3.setTop (mkF m 56 #[.val (.int p0), .val (.int p1), .val (.long q2), .second, .val (.int p3), .val (.long mu), .second, .val (.ref b1), .val (.ref r3), .unset, .unset, .unset, .unset, .unset, .unset, .unset, .unset] [(.ref r3)]))
      refine Goes.by (fun t k => XS.ifnonnullYes X3.here hx rfl (pc0 := 56) (pc' := 61) rfl (hb hby at_56) rfl (by decide) (by decide) k) ?_
      show Goes p e below s _ _ _ (T3.setTop (mkF m 61 #[.val (.int p0), .val (.int p1), .val (.long q2), .second, .val (.int p3), .val (.long mu), .second, .val (.ref b1), .val (.ref r3), .unset, .unset, .unset, .unset, .unset, .unset, .unset, .unset] []))
      refine Goes.by (fun t k => XS.aload X3.here hx rfl (hb hby at_61) rfl rfl k) ?_
      show Goes p e below s _ _ _ (T3.setTop (mkF m 63 #[.val (.int p0), .val (.int p1), .val (.long q2), .second, .val (.int p3), .val (.long mu), .second, .val (.ref b1), .val (.ref r3), .unset, .unset, .unset, .unset, .unset, .unset, .unset, .unset] [(.ref r3)]))
      obtain ⟨cq4, kq4, q4a, q4b, q4c⟩ := isOf hZ rfl (E3)
      obtain ⟨_, _, ⟨T4, L4, k4, n4⟩, -, X4, ⟨Lc4, hQ4, l4, y4, z4⟩, st4⟩ := X3.virtualBack hx (y := (⟨"java/time/Period", "getYears", "()I"⟩ : MethodName)) (z := (⟨"java/time/Period", "getYears", "()I"⟩ : MethodName)) hown (mvT hZ (hw _ (List.mem_of_getElem? (i := 46) rfl))) (mvT hZ (hw _ (List.mem_of_getElem? (i := 47) rfl))) (notFace_of_selects (args := #[]) (mvT hZ (hw _ (List.mem_of_getElem? (i := 49) rfl)))) (mvT hZ (hw _ (List.mem_of_getElem? (i := 49) rfl))) (mvT hZ (hw _ (List.mem_of_getElem? (i := 48) rfl))) (by decide) (backOf (W := 0) (rm8 l Z a0 hw [] r3 (p0.toInt64 / 12).toInt32 _ n0 f8 F3) hZ (hw _ (List.mem_of_getElem? (i := 50) rfl)) (hw _ (List.mem_of_getElem? (i := 28) rfl)) (by decide) (by decide)) q4a q4c (g := (mkF m 63 #[.val (.int p0), .val (.int p1), .val (.long q2), .second, .val (.int p3), .val (.long mu), .second, .val (.ref b1), .val (.ref r3), .unset, .unset, .unset, .unset, .unset, .unset, .unset, .unset] [(.ref r3)])) rfl (by rw [hml]; rfl) (Steps.refl _) (argsL := []) (rest := []) (lenOf pd_5 rfl) rfl (by show 2 * 0 + _ ≤ _; exact Nat.le_of_eq rfl) (hb hby at_63) (fun _ _ => ⟨rfl, rfl, (by decide : 2 + 0 ≤ _), (by decide : 6 + 0 ≤ _)⟩)
      dsimp only [Pt.U, Pt.locs, Pt.cells, Pt.slots] at X4 l4 y4 z4 st4 hQ4
      subst l4 y4 z4
      obtain ⟨rfl, N4q, hh4⟩ := hQ4
      have N4 := Fr.app N3 N4q
      refine Goes.by (fun t k => st4.trans k) ?_
      show Goes p e below s _ _ _ (T4.setTop (mkF m 66 #[.val (.int p0), .val (.int p1), .val (.long q2), .second, .val (.int p3), .val (.long mu), .second, .val (.ref b1), .val (.ref r3), .unset, .unset, .unset, .unset, .unset, .unset, .unset, .unset] [(.int (p0.toInt64 / 12).toInt32)]))
      have KK4 : Keep (T3.heap) T4.heap [] := by rw [hh4]; exact Keep.refl _ _
      have OLD_KK4 := OLD_K3.keep KK4 all0
      have f13 := Nat.le_trans f8 KK4.1
      have f14 := f9.keep KK4
      have f15 := f10.keep KK4 nin0
      have f16 := f11.keep KK4 nin0
      have f17 := f12.keep KK4 nin0
      have f18 := E3.keep KK4
      have f19 := F3.keep KK4 nin0
      have f20 := G3.keep KK4 nin0
      have f21 := H3.keep KK4 nin0
      refine Goes.by (fun t k => XS.i2l X4.here hx rfl (hb hby at_66) rfl k) ?_
      show Goes p e below s _ _ _ (T4.setTop (mkF m 67 #[.val (.int p0), .val (.int p1), .val (.long q2), .second, .val (.int p3), .val (.long mu), .second, .val (.ref b1), .val (.ref r3), .unset, .unset, .unset, .unset, .unset, .unset, .unset, .unset] [(.long ((p0.toInt64 / 12).toInt32.toInt64))]))
      refine Goes.by (fun t k => XS.lstore X4.here hx rfl (hb hby at_67) rfl (l' := #[.val (.int p0), .val (.int p1), .val (.long q2), .second, .val (.int p3), .val (.long mu), .second, .val (.ref b1), .val (.ref r3), .val (.long ((p0.toInt64 / 12).toInt32.toInt64)), .second, .unset, .unset, .unset, .unset, .unset, .unset]) rfl k) ?_
      show Goes p e below s _ _ _ (T4.setTop (mkF m 69 #[.val (.int p0), .val (.int p1), .val (.long q2), .second, .val (.int p3), .val (.long mu), .second, .val (.ref b1), .val (.ref r3), .val (.long ((p0.toInt64 / 12).toInt32.toInt64)), .second, .unset, .unset, .unset, .unset, .unset, .unset] []))
      refine Goes.by (fun t k => XS.aload X4.here hx rfl (hb hby at_69) rfl rfl k) ?_
      show Goes p e below s _ _ _ (T4.setTop (mkF m 71 #[.val (.int p0), .val (.int p1), .val (.long q2), .second, .val (.int p3), .val (.long mu), .second, .val (.ref b1), .val (.ref r3), .val (.long ((p0.toInt64 / 12).toInt32.toInt64)), .second, .unset, .unset, .unset, .unset, .unset, .unset] [(.ref r3)]))
      obtain ⟨cq5, kq5, q5a, q5b, q5c⟩ := isOf hZ rfl (f18)
      obtain ⟨_, _, ⟨T5, L5, k5, n5⟩, -, X5, ⟨Lc5, hQ5, l5, y5, z5⟩, st5⟩ := X4.virtualBack hx (y := (⟨"java/time/Period", "getMonths", "()I"⟩ : MethodName)) (z := (⟨"java/time/Period", "getMonths", "()I"⟩ : MethodName)) hown (mvT hZ (hw _ (List.mem_of_getElem? (i := 51) rfl))) (mvT hZ (hw _ (List.mem_of_getElem? (i := 52) rfl))) (notFace_of_selects (args := #[]) (mvT hZ (hw _ (List.mem_of_getElem? (i := 54) rfl)))) (mvT hZ (hw _ (List.mem_of_getElem? (i := 54) rfl))) (mvT hZ (hw _ (List.mem_of_getElem? (i := 53) rfl))) (by decide) (backOf (W := 0) (rm9 l Z a0 hw [] r3 (p0.toInt64 - p0.toInt64 / 12 * 12).toInt32 _ n0 f13 f20) hZ (hw _ (List.mem_of_getElem? (i := 55) rfl)) (hw _ (List.mem_of_getElem? (i := 28) rfl)) (by decide) (by decide)) q5a q5c (g := (mkF m 71 #[.val (.int p0), .val (.int p1), .val (.long q2), .second, .val (.int p3), .val (.long mu), .second, .val (.ref b1), .val (.ref r3), .val (.long ((p0.toInt64 / 12).toInt32.toInt64)), .second, .unset, .unset, .unset, .unset, .unset, .unset] [(.ref r3)])) rfl (by rw [hml]; rfl) (Steps.refl _) (argsL := []) (rest := []) (lenOf pd_5 rfl) rfl (by show 2 * 0 + _ ≤ _; exact Nat.le_of_eq rfl) (hb hby at_71) (fun _ _ => ⟨rfl, rfl, (by decide : 2 + 0 ≤ _), (by decide : 6 + 0 ≤ _)⟩)
      dsimp only [Pt.U, Pt.locs, Pt.cells, Pt.slots] at X5 l5 y5 z5 st5 hQ5
      subst l5 y5 z5
      obtain ⟨rfl, N5q, hh5⟩ := hQ5
      have N5 := Fr.app N4 N5q
      refine Goes.by (fun t k => st5.trans k) ?_
      show Goes p e below s _ _ _ (T5.setTop (mkF m 74 #[.val (.int p0), .val (.int p1), .val (.long q2), .second, .val (.int p3), .val (.long mu), .second, .val (.ref b1), .val (.ref r3), .val (.long ((p0.toInt64 / 12).toInt32.toInt64)), .second, .unset, .unset, .unset, .unset, .unset, .unset] [(.int (p0.toInt64 - p0.toInt64 / 12 * 12).toInt32)]))
      have KK5 : Keep (T4.heap) T5.heap [] := by rw [hh5]; exact Keep.refl _ _
      have OLD_KK5 := OLD_KK4.keep KK5 all0
      have f22 := Nat.le_trans f13 KK5.1
      have f23 := f14.keep KK5
      have f24 := f15.keep KK5 nin0
      have f25 := f16.keep KK5 nin0
      have f26 := f17.keep KK5 nin0
      have f27 := f18.keep KK5
      have f28 := f19.keep KK5 nin0
      have f29 := f20.keep KK5 nin0
      have f30 := f21.keep KK5 nin0
      refine Goes.by (fun t k => XS.i2l X5.here hx rfl (hb hby at_74) rfl k) ?_
      show Goes p e below s _ _ _ (T5.setTop (mkF m 75 #[.val (.int p0), .val (.int p1), .val (.long q2), .second, .val (.int p3), .val (.long mu), .second, .val (.ref b1), .val (.ref r3), .val (.long ((p0.toInt64 / 12).toInt32.toInt64)), .second, .unset, .unset, .unset, .unset, .unset, .unset] [(.long ((p0.toInt64 - p0.toInt64 / 12 * 12).toInt32.toInt64))]))
      refine Goes.by (fun t k => XS.lstore X5.here hx rfl (hb hby at_75) rfl (l' := #[.val (.int p0), .val (.int p1), .val (.long q2), .second, .val (.int p3), .val (.long mu), .second, .val (.ref b1), .val (.ref r3), .val (.long ((p0.toInt64 / 12).toInt32.toInt64)), .second, .val (.long ((p0.toInt64 - p0.toInt64 / 12 * 12).toInt32.toInt64)), .second, .unset, .unset, .unset, .unset]) rfl k) ?_
      show Goes p e below s _ _ _ (T5.setTop (mkF m 77 #[.val (.int p0), .val (.int p1), .val (.long q2), .second, .val (.int p3), .val (.long mu), .second, .val (.ref b1), .val (.ref r3), .val (.long ((p0.toInt64 / 12).toInt32.toInt64)), .second, .val (.long ((p0.toInt64 - p0.toInt64 / 12 * 12).toInt32.toInt64)), .second, .unset, .unset, .unset, .unset] []))
      refine Goes.by (fun t k => XS.aload X5.here hx rfl (hb hby at_77) rfl rfl k) ?_
      show Goes p e below s _ _ _ (T5.setTop (mkF m 79 #[.val (.int p0), .val (.int p1), .val (.long q2), .second, .val (.int p3), .val (.long mu), .second, .val (.ref b1), .val (.ref r3), .val (.long ((p0.toInt64 / 12).toInt32.toInt64)), .second, .val (.long ((p0.toInt64 - p0.toInt64 / 12 * 12).toInt32.toInt64)), .second, .unset, .unset, .unset, .unset] [(.ref r3)]))
      obtain ⟨cq6, kq6, q6a, q6b, q6c⟩ := isOf hZ rfl (f27)
      obtain ⟨_, _, ⟨T6, L6, k6, n6⟩, -, X6, ⟨Lc6, hQ6, l6, y6, z6⟩, st6⟩ := X5.virtualBack hx (y := (⟨"java/time/Period", "getDays", "()I"⟩ : MethodName)) (z := (⟨"java/time/Period", "getDays", "()I"⟩ : MethodName)) hown (mvT hZ (hw _ (List.mem_of_getElem? (i := 56) rfl))) (mvT hZ (hw _ (List.mem_of_getElem? (i := 57) rfl))) (notFace_of_selects (args := #[]) (mvT hZ (hw _ (List.mem_of_getElem? (i := 59) rfl)))) (mvT hZ (hw _ (List.mem_of_getElem? (i := 59) rfl))) (mvT hZ (hw _ (List.mem_of_getElem? (i := 58) rfl))) (by decide) (backOf (W := 0) (rm10 l Z a0 hw [] r3 p1.toInt64.toInt32 _ n0 f22 f30) hZ (hw _ (List.mem_of_getElem? (i := 60) rfl)) (hw _ (List.mem_of_getElem? (i := 28) rfl)) (by decide) (by decide)) q6a q6c (g := (mkF m 79 #[.val (.int p0), .val (.int p1), .val (.long q2), .second, .val (.int p3), .val (.long mu), .second, .val (.ref b1), .val (.ref r3), .val (.long ((p0.toInt64 / 12).toInt32.toInt64)), .second, .val (.long ((p0.toInt64 - p0.toInt64 / 12 * 12).toInt32.toInt64)), .second, .unset, .unset, .unset, .unset] [(.ref r3)])) rfl (by rw [hml]; rfl) (Steps.refl _) (argsL := []) (rest := []) (lenOf pd_5 rfl) rfl (by show 2 * 0 + _ ≤ _; exact Nat.le_of_eq rfl) (hb hby at_79) (fun _ _ => ⟨rfl, rfl, (by decide : 2 + 0 ≤ _), (by decide : 6 + 0 ≤ _)⟩)
      dsimp only [Pt.U, Pt.locs, Pt.cells, Pt.slots] at X6 l6 y6 z6 st6 hQ6
      subst l6 y6 z6
      obtain ⟨rfl, N6q, hh6⟩ := hQ6
      have N6 := Fr.app N5 N6q
      refine Goes.by (fun t k => st6.trans k) ?_
      show Goes p e below s _ _ _ (T6.setTop (mkF m 82 #[.val (.int p0), .val (.int p1), .val (.long q2), .second, .val (.int p3), .val (.long mu), .second, .val (.ref b1), .val (.ref r3), .val (.long ((p0.toInt64 / 12).toInt32.toInt64)), .second, .val (.long ((p0.toInt64 - p0.toInt64 / 12 * 12).toInt32.toInt64)), .second, .unset, .unset, .unset, .unset] [(.int p1.toInt64.toInt32)]))
      have KK6 : Keep (T5.heap) T6.heap [] := by rw [hh6]; exact Keep.refl _ _
      have OLD_KK6 := OLD_KK5.keep KK6 all0
      have f31 := Nat.le_trans f22 KK6.1
      have f32 := f23.keep KK6
      have f33 := f24.keep KK6 nin0
      have f34 := f25.keep KK6 nin0
      have f35 := f26.keep KK6 nin0
      have f36 := f27.keep KK6
      have f37 := f28.keep KK6 nin0
      have f38 := f29.keep KK6 nin0
      have f39 := f30.keep KK6 nin0
      refine Goes.by (fun t k => XS.i2l X6.here hx rfl (hb hby at_82) rfl k) ?_
      show Goes p e below s _ _ _ (T6.setTop (mkF m 83 #[.val (.int p0), .val (.int p1), .val (.long q2), .second, .val (.int p3), .val (.long mu), .second, .val (.ref b1), .val (.ref r3), .val (.long ((p0.toInt64 / 12).toInt32.toInt64)), .second, .val (.long ((p0.toInt64 - p0.toInt64 / 12 * 12).toInt32.toInt64)), .second, .unset, .unset, .unset, .unset] [(.long (p1.toInt64.toInt32.toInt64))]))
      refine Goes.by (fun t k => XS.lstore X6.here hx rfl (hb hby at_83) rfl (l' := #[.val (.int p0), .val (.int p1), .val (.long q2), .second, .val (.int p3), .val (.long mu), .second, .val (.ref b1), .val (.ref r3), .val (.long ((p0.toInt64 / 12).toInt32.toInt64)), .second, .val (.long ((p0.toInt64 - p0.toInt64 / 12 * 12).toInt32.toInt64)), .second, .val (.long (p1.toInt64.toInt32.toInt64)), .second, .unset, .unset]) rfl k) ?_
      show Goes p e below s _ _ _ (T6.setTop (mkF m 85 #[.val (.int p0), .val (.int p1), .val (.long q2), .second, .val (.int p3), .val (.long mu), .second, .val (.ref b1), .val (.ref r3), .val (.long ((p0.toInt64 / 12).toInt32.toInt64)), .second, .val (.long ((p0.toInt64 - p0.toInt64 / 12 * 12).toInt32.toInt64)), .second, .val (.long (p1.toInt64.toInt32.toInt64)), .second, .unset, .unset] []))
      obtain ⟨hs1, hs2, hs3⟩ := own_per p0
      have hdd := own_days p1
      generalize ((p0.toInt64 / 12).toInt32.toInt64) = y at hs1 hs2 hs3 hdd ⊢
      show Goes p e below s _ _ _ (T6.setTop (mkF m 85 #[.val (.int p0), .val (.int p1), .val (.long q2), .second, .val (.int p3), .val (.long mu), .second, .val (.ref b1), .val (.ref r3), .val (.long y), .second, .val (.long ((p0.toInt64 - p0.toInt64 / 12 * 12).toInt32.toInt64)), .second, .val (.long (p1.toInt64.toInt32.toInt64)), .second, .unset, .unset] []))
      generalize ((p0.toInt64 - p0.toInt64 / 12 * 12).toInt32.toInt64) = mo at hs1 hs2 hs3 hdd ⊢
      show Goes p e below s _ _ _ (T6.setTop (mkF m 85 #[.val (.int p0), .val (.int p1), .val (.long q2), .second, .val (.int p3), .val (.long mu), .second, .val (.ref b1), .val (.ref r3), .val (.long y), .second, .val (.long mo), .second, .val (.long (p1.toInt64.toInt32.toInt64)), .second, .unset, .unset] []))
      generalize (p1.toInt64.toInt32.toInt64) = dd at hs1 hs2 hs3 hdd ⊢
      show Goes p e below s _ _ _ (T6.setTop (mkF m 85 #[.val (.int p0), .val (.int p1), .val (.long q2), .second, .val (.int p3), .val (.long mu), .second, .val (.ref b1), .val (.ref r3), .val (.long y), .second, .val (.long mo), .second, .val (.long dd), .second, .unset, .unset] []))
      refine Goes.by (fun t k => XS.lload X6.here hx rfl (hb hby at_85) rfl k) ?_
      show Goes p e below s _ _ _ (T6.setTop (mkF m 87 #[.val (.int p0), .val (.int p1), .val (.long q2), .second, .val (.int p3), .val (.long mu), .second, .val (.ref b1), .val (.ref r3), .val (.long y), .second, .val (.long mo), .second, .val (.long dd), .second, .unset, .unset] [(.long y)]))
      refine Goes.by (fun t k => X6.ldc2Long hx hown (mvT hZ (hw _ (List.mem_of_getElem? (i := 61) rfl))) (g := (mkF m 87 #[.val (.int p0), .val (.int p1), .val (.long q2), .second, .val (.int p3), .val (.long mu), .second, .val (.ref b1), .val (.ref r3), .val (.long y), .second, .val (.long mo), .second, .val (.long dd), .second, .unset, .unset] [(.long y)])) rfl (hb hby at_87) _ k) ?_
      show Goes p e below s _ _ _ (T6.setTop (mkF m 90 #[.val (.int p0), .val (.int p1), .val (.long q2), .second, .val (.int p3), .val (.long mu), .second, .val (.ref b1), .val (.ref r3), .val (.long y), .second, .val (.long mo), .second, .val (.long dd), .second, .unset, .unset] [(.long (12 : Int64)), (.long y)]))
      refine Goes.by (fun t k => XS.lmul X6.here hx rfl (hb hby at_90) rfl k) ?_
      show Goes p e below s _ _ _ (T6.setTop (mkF m 91 #[.val (.int p0), .val (.int p1), .val (.long q2), .second, .val (.int p3), .val (.long mu), .second, .val (.ref b1), .val (.ref r3), .val (.long y), .second, .val (.long mo), .second, .val (.long dd), .second, .unset, .unset] [(.long (y * (12 : Int64)))]))
      refine Goes.by (fun t k => XS.lload X6.here hx rfl (hb hby at_91) rfl k) ?_
      show Goes p e below s _ _ _ (T6.setTop (mkF m 93 #[.val (.int p0), .val (.int p1), .val (.long q2), .second, .val (.int p3), .val (.long mu), .second, .val (.ref b1), .val (.ref r3), .val (.long y), .second, .val (.long mo), .second, .val (.long dd), .second, .unset, .unset] [(.long mo), (.long (y * (12 : Int64)))]))
      refine Goes.by (fun t k => XS.ladd X6.here hx rfl (hb hby at_93) rfl k) ?_
      show Goes p e below s _ _ _ (T6.setTop (mkF m 94 #[.val (.int p0), .val (.int p1), .val (.long q2), .second, .val (.int p3), .val (.long mu), .second, .val (.ref b1), .val (.ref r3), .val (.long y), .second, .val (.long mo), .second, .val (.long dd), .second, .unset, .unset] [(.long ((y * (12 : Int64)) + mo))]))
      refine Goes.by (fun t k => XS.iloadN X6.here hx rfl (hb hby at_94) rfl k) ?_
      show Goes p e below s _ _ _ (T6.setTop (mkF m 95 #[.val (.int p0), .val (.int p1), .val (.long q2), .second, .val (.int p3), .val (.long mu), .second, .val (.ref b1), .val (.ref r3), .val (.long y), .second, .val (.long mo), .second, .val (.long dd), .second, .unset, .unset] [(.int p0), (.long ((y * (12 : Int64)) + mo))]))
      refine Goes.by (fun t k => XS.i2l X6.here hx rfl (hb hby at_95) rfl k) ?_
      show Goes p e below s _ _ _ (T6.setTop (mkF m 96 #[.val (.int p0), .val (.int p1), .val (.long q2), .second, .val (.int p3), .val (.long mu), .second, .val (.ref b1), .val (.ref r3), .val (.long y), .second, .val (.long mo), .second, .val (.long dd), .second, .unset, .unset] [(.long (p0.toInt64)), (.long ((y * (12 : Int64)) + mo))]))
      refine Goes.by (fun t k => XS.lcmp X6.here hx rfl (hb hby at_96) rfl k) ?_
      show Goes p e below s _ _ _ (T6.setTop (mkF m 97 #[.val (.int p0), .val (.int p1), .val (.long q2), .second, .val (.int p3), .val (.long mu), .second, .val (.ref b1), .val (.ref r3), .val (.long y), .second, .val (.long mo), .second, .val (.long dd), .second, .unset, .unset] [(.int (lcmpW ((y * (12 : Int64)) + mo) (p0.toInt64)))]))
      refine Goes.by (fun t k => XS.ifNo X6.here hx rfl (hb hby at_97) rfl ((if0 _ _).trans (teq ((lw_eq _ _).mpr hs1)).2) k) ?_
      show Goes p e below s _ _ _ (T6.setTop (mkF m 100 #[.val (.int p0), .val (.int p1), .val (.long q2), .second, .val (.int p3), .val (.long mu), .second, .val (.ref b1), .val (.ref r3), .val (.long y), .second, .val (.long mo), .second, .val (.long dd), .second, .unset, .unset] []))
      refine Goes.by (fun t k => XS.iconst X6.here hx rfl (hb hby at_100) k) ?_
      show Goes p e below s _ _ _ (T6.setTop (mkF m 101 #[.val (.int p0), .val (.int p1), .val (.long q2), .second, .val (.int p3), .val (.long mu), .second, .val (.ref b1), .val (.ref r3), .val (.long y), .second, .val (.long mo), .second, .val (.long dd), .second, .unset, .unset] [(.int (1 : Int32))]))
      refine Goes.by (fun t k => XS.goto X6.here hx rfl (pc0 := 101) (pc' := 105) rfl (hb hby at_101) (by decide) (by decide) k) ?_
      show Goes p e below s _ _ _ (T6.setTop (mkF m 105 #[.val (.int p0), .val (.int p1), .val (.long q2), .second, .val (.int p3), .val (.long mu), .second, .val (.ref b1), .val (.ref r3), .val (.long y), .second, .val (.long mo), .second, .val (.long dd), .second, .unset, .unset] [(.int (1 : Int32))]))
      refine Goes.by (fun t k => XS.istore X6.here hx rfl (hb hby at_105) rfl (l' := #[.val (.int p0), .val (.int p1), .val (.long q2), .second, .val (.int p3), .val (.long mu), .second, .val (.ref b1), .val (.ref r3), .val (.long y), .second, .val (.long mo), .second, .val (.long dd), .second, .val (.int (1 : Int32)), .unset]) rfl k) ?_
      show Goes p e below s _ _ _ (T6.setTop (mkF m 107 #[.val (.int p0), .val (.int p1), .val (.long q2), .second, .val (.int p3), .val (.long mu), .second, .val (.ref b1), .val (.ref r3), .val (.long y), .second, .val (.long mo), .second, .val (.long dd), .second, .val (.int (1 : Int32)), .unset] []))
      refine Goes.by (fun t k => XS.iloadN X6.here hx rfl (hb hby at_107) rfl k) ?_
      show Goes p e below s _ _ _ (T6.setTop (mkF m 108 #[.val (.int p0), .val (.int p1), .val (.long q2), .second, .val (.int p3), .val (.long mu), .second, .val (.ref b1), .val (.ref r3), .val (.long y), .second, .val (.long mo), .second, .val (.long dd), .second, .val (.int (1 : Int32)), .unset] [(.int p0)]))
      by_cases hm : p0 < (0 : Int32)
      · skip
        refine Goes.by (fun t k => XS.ifYes X6.here hx rfl (pc0 := 108) (pc' := 135) rfl (hb hby at_108) rfl ((if0 _ _).trans (tlt (hm)).1) (by decide) (by decide) k) ?_
        show Goes p e below s _ _ _ (T6.setTop (mkF m 135 #[.val (.int p0), .val (.int p1), .val (.long q2), .second, .val (.int p3), .val (.long mu), .second, .val (.ref b1), .val (.ref r3), .val (.long y), .second, .val (.long mo), .second, .val (.long dd), .second, .val (.int (1 : Int32)), .unset] []))
        refine Goes.by (fun t k => XS.lload X6.here hx rfl (hb hby at_135) rfl k) ?_
        show Goes p e below s _ _ _ (T6.setTop (mkF m 137 #[.val (.int p0), .val (.int p1), .val (.long q2), .second, .val (.int p3), .val (.long mu), .second, .val (.ref b1), .val (.ref r3), .val (.long y), .second, .val (.long mo), .second, .val (.long dd), .second, .val (.int (1 : Int32)), .unset] [(.long mo)]))
        refine Goes.by (fun t k => XS.lconst X6.here hx rfl (hb hby at_137) k) ?_
        show Goes p e below s _ _ _ (T6.setTop (mkF m 138 #[.val (.int p0), .val (.int p1), .val (.long q2), .second, .val (.int p3), .val (.long mu), .second, .val (.ref b1), .val (.ref r3), .val (.long y), .second, .val (.long mo), .second, .val (.long dd), .second, .val (.int (1 : Int32)), .unset] [(.long (0 : Int64)), (.long mo)]))
        refine Goes.by (fun t k => XS.lcmp X6.here hx rfl (hb hby at_138) rfl k) ?_
        show Goes p e below s _ _ _ (T6.setTop (mkF m 139 #[.val (.int p0), .val (.int p1), .val (.long q2), .second, .val (.int p3), .val (.long mu), .second, .val (.ref b1), .val (.ref r3), .val (.long y), .second, .val (.long mo), .second, .val (.long dd), .second, .val (.int (1 : Int32)), .unset] [(.int (lcmpW mo (0 : Int64)))]))
        refine Goes.by (fun t k => XS.ifNo X6.here hx rfl (hb hby at_139) rfl ((if0 _ _).trans (flt (fun h => (hs3 hm).1 ((lw_gt _ _).mp h))).2.2.1) k) ?_
        show Goes p e below s _ _ _ (T6.setTop (mkF m 142 #[.val (.int p0), .val (.int p1), .val (.long q2), .second, .val (.int p3), .val (.long mu), .second, .val (.ref b1), .val (.ref r3), .val (.long y), .second, .val (.long mo), .second, .val (.long dd), .second, .val (.int (1 : Int32)), .unset] []))
        refine Goes.by (fun t k => XS.lload X6.here hx rfl (hb hby at_142) rfl k) ?_
        show Goes p e below s _ _ _ (T6.setTop (mkF m 144 #[.val (.int p0), .val (.int p1), .val (.long q2), .second, .val (.int p3), .val (.long mu), .second, .val (.ref b1), .val (.ref r3), .val (.long y), .second, .val (.long mo), .second, .val (.long dd), .second, .val (.int (1 : Int32)), .unset] [(.long mo)]))
        refine Goes.by (fun t k => X6.ldc2Long hx hown (mvT hZ (hw _ (List.mem_of_getElem? (i := 63) rfl))) (g := (mkF m 144 #[.val (.int p0), .val (.int p1), .val (.long q2), .second, .val (.int p3), .val (.long mu), .second, .val (.ref b1), .val (.ref r3), .val (.long y), .second, .val (.long mo), .second, .val (.long dd), .second, .val (.int (1 : Int32)), .unset] [(.long mo)])) rfl (hb hby at_144) _ k) ?_
        show Goes p e below s _ _ _ (T6.setTop (mkF m 147 #[.val (.int p0), .val (.int p1), .val (.long q2), .second, .val (.int p3), .val (.long mu), .second, .val (.ref b1), .val (.ref r3), .val (.long y), .second, .val (.long mo), .second, .val (.long dd), .second, .val (.int (1 : Int32)), .unset] [(.long (-11 : Int64)), (.long mo)]))
        refine Goes.by (fun t k => XS.lcmp X6.here hx rfl (hb hby at_147) rfl k) ?_
        show Goes p e below s _ _ _ (T6.setTop (mkF m 148 #[.val (.int p0), .val (.int p1), .val (.long q2), .second, .val (.int p3), .val (.long mu), .second, .val (.ref b1), .val (.ref r3), .val (.long y), .second, .val (.long mo), .second, .val (.long dd), .second, .val (.int (1 : Int32)), .unset] [(.int (lcmpW mo (-11 : Int64)))]))
        refine Goes.by (fun t k => XS.ifNo X6.here hx rfl (hb hby at_148) rfl ((if0 _ _).trans (flt (fun h => (hs3 hm).2 ((lw_lt _ _).mp h))).1) k) ?_
        show Goes p e below s _ _ _ (T6.setTop (mkF m 151 #[.val (.int p0), .val (.int p1), .val (.long q2), .second, .val (.int p3), .val (.long mu), .second, .val (.ref b1), .val (.ref r3), .val (.long y), .second, .val (.long mo), .second, .val (.long dd), .second, .val (.int (1 : Int32)), .unset] []))
        refine Goes.by (fun t k => XS.iconst X6.here hx rfl (hb hby at_151) k) ?_
        show Goes p e below s _ _ _ (T6.setTop (mkF m 152 #[.val (.int p0), .val (.int p1), .val (.long q2), .second, .val (.int p3), .val (.long mu), .second, .val (.ref b1), .val (.ref r3), .val (.long y), .second, .val (.long mo), .second, .val (.long dd), .second, .val (.int (1 : Int32)), .unset] [(.int (1 : Int32))]))
        refine Goes.by (fun t k => XS.goto X6.here hx rfl (pc0 := 152) (pc' := 156) rfl (hb hby at_152) (by decide) (by decide) k) ?_
        show Goes p e below s _ _ _ (T6.setTop (mkF m 156 #[.val (.int p0), .val (.int p1), .val (.long q2), .second, .val (.int p3), .val (.long mu), .second, .val (.ref b1), .val (.ref r3), .val (.long y), .second, .val (.long mo), .second, .val (.long dd), .second, .val (.int (1 : Int32)), .unset] [(.int (1 : Int32))]))
        refine Goes.by (fun t k => XS.istore X6.here hx rfl (hb hby at_156) rfl (l' := #[.val (.int p0), .val (.int p1), .val (.long q2), .second, .val (.int p3), .val (.long mu), .second, .val (.ref b1), .val (.ref r3), .val (.long y), .second, .val (.long mo), .second, .val (.long dd), .second, .val (.int (1 : Int32)), .val (.int (1 : Int32))]) rfl k) ?_
        show Goes p e below s _ _ _ (T6.setTop (mkF m 158 #[.val (.int p0), .val (.int p1), .val (.long q2), .second, .val (.int p3), .val (.long mu), .second, .val (.ref b1), .val (.ref r3), .val (.long y), .second, .val (.long mo), .second, .val (.long dd), .second, .val (.int (1 : Int32)), .val (.int (1 : Int32))] []))
        refine Goes.by (fun t k => XS.iload X6.here hx rfl (hb hby at_158) rfl k) ?_
        show Goes p e below s _ _ _ (T6.setTop (mkF m 160 #[.val (.int p0), .val (.int p1), .val (.long q2), .second, .val (.int p3), .val (.long mu), .second, .val (.ref b1), .val (.ref r3), .val (.long y), .second, .val (.long mo), .second, .val (.long dd), .second, .val (.int (1 : Int32)), .val (.int (1 : Int32))] [(.int (1 : Int32))]))
        refine Goes.by (fun t k => XS.ifNo X6.here hx rfl (hb hby at_160) rfl ((if0 _ _).trans (feq (by decide)).1) k) ?_
        show Goes p e below s _ _ _ (T6.setTop (mkF m 163 #[.val (.int p0), .val (.int p1), .val (.long q2), .second, .val (.int p3), .val (.long mu), .second, .val (.ref b1), .val (.ref r3), .val (.long y), .second, .val (.long mo), .second, .val (.long dd), .second, .val (.int (1 : Int32)), .val (.int (1 : Int32))] []))
        refine Goes.by (fun t k => XS.iload X6.here hx rfl (hb hby at_163) rfl k) ?_
        show Goes p e below s _ _ _ (T6.setTop (mkF m 165 #[.val (.int p0), .val (.int p1), .val (.long q2), .second, .val (.int p3), .val (.long mu), .second, .val (.ref b1), .val (.ref r3), .val (.long y), .second, .val (.long mo), .second, .val (.long dd), .second, .val (.int (1 : Int32)), .val (.int (1 : Int32))] [(.int (1 : Int32))]))
        refine Goes.by (fun t k => XS.ifNo X6.here hx rfl (hb hby at_165) rfl ((if0 _ _).trans (feq (by decide)).1) k) ?_
        show Goes p e below s _ _ _ (T6.setTop (mkF m 168 #[.val (.int p0), .val (.int p1), .val (.long q2), .second, .val (.int p3), .val (.long mu), .second, .val (.ref b1), .val (.ref r3), .val (.long y), .second, .val (.long mo), .second, .val (.long dd), .second, .val (.int (1 : Int32)), .val (.int (1 : Int32))] []))
        refine Goes.by (fun t k => XS.lload X6.here hx rfl (hb hby at_168) rfl k) ?_
        show Goes p e below s _ _ _ (T6.setTop (mkF m 170 #[.val (.int p0), .val (.int p1), .val (.long q2), .second, .val (.int p3), .val (.long mu), .second, .val (.ref b1), .val (.ref r3), .val (.long y), .second, .val (.long mo), .second, .val (.long dd), .second, .val (.int (1 : Int32)), .val (.int (1 : Int32))] [(.long dd)]))
        refine Goes.by (fun t k => XS.iloadN X6.here hx rfl (hb hby at_170) rfl k) ?_
        show Goes p e below s _ _ _ (T6.setTop (mkF m 171 #[.val (.int p0), .val (.int p1), .val (.long q2), .second, .val (.int p3), .val (.long mu), .second, .val (.ref b1), .val (.ref r3), .val (.long y), .second, .val (.long mo), .second, .val (.long dd), .second, .val (.int (1 : Int32)), .val (.int (1 : Int32))] [(.int p1), (.long dd)]))
        refine Goes.by (fun t k => XS.i2l X6.here hx rfl (hb hby at_171) rfl k) ?_
        show Goes p e below s _ _ _ (T6.setTop (mkF m 172 #[.val (.int p0), .val (.int p1), .val (.long q2), .second, .val (.int p3), .val (.long mu), .second, .val (.ref b1), .val (.ref r3), .val (.long y), .second, .val (.long mo), .second, .val (.long dd), .second, .val (.int (1 : Int32)), .val (.int (1 : Int32))] [(.long (p1.toInt64)), (.long dd)]))
        refine Goes.by (fun t k => XS.lcmp X6.here hx rfl (hb hby at_172) rfl k) ?_
        show Goes p e below s _ _ _ (T6.setTop (mkF m 173 #[.val (.int p0), .val (.int p1), .val (.long q2), .second, .val (.int p3), .val (.long mu), .second, .val (.ref b1), .val (.ref r3), .val (.long y), .second, .val (.long mo), .second, .val (.long dd), .second, .val (.int (1 : Int32)), .val (.int (1 : Int32))] [(.int (lcmpW dd (p1.toInt64)))]))
        refine Goes.by (fun t k => XS.ifNo X6.here hx rfl (hb hby at_173) rfl ((if0 _ _).trans (teq ((lw_eq _ _).mpr hdd)).2) k) ?_
        show Goes p e below s _ _ _ (T6.setTop (mkF m 176 #[.val (.int p0), .val (.int p1), .val (.long q2), .second, .val (.int p3), .val (.long mu), .second, .val (.ref b1), .val (.ref r3), .val (.long y), .second, .val (.long mo), .second, .val (.long dd), .second, .val (.int (1 : Int32)), .val (.int (1 : Int32))] []))
        refine Goes.by (fun t k => XS.iconst X6.here hx rfl (hb hby at_176) k) ?_
        show Goes p e below s _ _ _ (T6.setTop (mkF m 177 #[.val (.int p0), .val (.int p1), .val (.long q2), .second, .val (.int p3), .val (.long mu), .second, .val (.ref b1), .val (.ref r3), .val (.long y), .second, .val (.long mo), .second, .val (.long dd), .second, .val (.int (1 : Int32)), .val (.int (1 : Int32))] [(.int (1 : Int32))]))
        refine Goes.by (fun t k => XS.goto X6.here hx rfl (pc0 := 177) (pc' := 181) rfl (hb hby at_177) (by decide) (by decide) k) ?_
        show Goes p e below s _ _ _ (T6.setTop (mkF m 181 #[.val (.int p0), .val (.int p1), .val (.long q2), .second, .val (.int p3), .val (.long mu), .second, .val (.ref b1), .val (.ref r3), .val (.long y), .second, .val (.long mo), .second, .val (.long dd), .second, .val (.int (1 : Int32)), .val (.int (1 : Int32))] [(.int (1 : Int32))]))
        exact Goes.retN X6 hx Bd.returns rfl (hb hby at_181) hlk (by exact ⟨rfl, N6⟩) (by decide) (by decide)
      · skip
        refine Goes.by (fun t k => XS.ifNo X6.here hx rfl (hb hby at_108) rfl ((if0 _ _).trans (flt (hm)).1) k) ?_
        show Goes p e below s _ _ _ (T6.setTop (mkF m 111 #[.val (.int p0), .val (.int p1), .val (.long q2), .second, .val (.int p3), .val (.long mu), .second, .val (.ref b1), .val (.ref r3), .val (.long y), .second, .val (.long mo), .second, .val (.long dd), .second, .val (.int (1 : Int32)), .unset] []))
        refine Goes.by (fun t k => XS.lload X6.here hx rfl (hb hby at_111) rfl k) ?_
        show Goes p e below s _ _ _ (T6.setTop (mkF m 113 #[.val (.int p0), .val (.int p1), .val (.long q2), .second, .val (.int p3), .val (.long mu), .second, .val (.ref b1), .val (.ref r3), .val (.long y), .second, .val (.long mo), .second, .val (.long dd), .second, .val (.int (1 : Int32)), .unset] [(.long mo)]))
        refine Goes.by (fun t k => XS.lconst X6.here hx rfl (hb hby at_113) k) ?_
        show Goes p e below s _ _ _ (T6.setTop (mkF m 114 #[.val (.int p0), .val (.int p1), .val (.long q2), .second, .val (.int p3), .val (.long mu), .second, .val (.ref b1), .val (.ref r3), .val (.long y), .second, .val (.long mo), .second, .val (.long dd), .second, .val (.int (1 : Int32)), .unset] [(.long (0 : Int64)), (.long mo)]))
        refine Goes.by (fun t k => XS.lcmp X6.here hx rfl (hb hby at_114) rfl k) ?_
        show Goes p e below s _ _ _ (T6.setTop (mkF m 115 #[.val (.int p0), .val (.int p1), .val (.long q2), .second, .val (.int p3), .val (.long mu), .second, .val (.ref b1), .val (.ref r3), .val (.long y), .second, .val (.long mo), .second, .val (.long dd), .second, .val (.int (1 : Int32)), .unset] [(.int (lcmpW mo (0 : Int64)))]))
        refine Goes.by (fun t k => XS.ifNo X6.here hx rfl (hb hby at_115) rfl ((if0 _ _).trans (flt (fun h => (hs2 hm).1 ((lw_lt _ _).mp h))).1) k) ?_
        show Goes p e below s _ _ _ (T6.setTop (mkF m 118 #[.val (.int p0), .val (.int p1), .val (.long q2), .second, .val (.int p3), .val (.long mu), .second, .val (.ref b1), .val (.ref r3), .val (.long y), .second, .val (.long mo), .second, .val (.long dd), .second, .val (.int (1 : Int32)), .unset] []))
        refine Goes.by (fun t k => XS.lload X6.here hx rfl (hb hby at_118) rfl k) ?_
        show Goes p e below s _ _ _ (T6.setTop (mkF m 120 #[.val (.int p0), .val (.int p1), .val (.long q2), .second, .val (.int p3), .val (.long mu), .second, .val (.ref b1), .val (.ref r3), .val (.long y), .second, .val (.long mo), .second, .val (.long dd), .second, .val (.int (1 : Int32)), .unset] [(.long mo)]))
        refine Goes.by (fun t k => X6.ldc2Long hx hown (mvT hZ (hw _ (List.mem_of_getElem? (i := 62) rfl))) (g := (mkF m 120 #[.val (.int p0), .val (.int p1), .val (.long q2), .second, .val (.int p3), .val (.long mu), .second, .val (.ref b1), .val (.ref r3), .val (.long y), .second, .val (.long mo), .second, .val (.long dd), .second, .val (.int (1 : Int32)), .unset] [(.long mo)])) rfl (hb hby at_120) _ k) ?_
        show Goes p e below s _ _ _ (T6.setTop (mkF m 123 #[.val (.int p0), .val (.int p1), .val (.long q2), .second, .val (.int p3), .val (.long mu), .second, .val (.ref b1), .val (.ref r3), .val (.long y), .second, .val (.long mo), .second, .val (.long dd), .second, .val (.int (1 : Int32)), .unset] [(.long (11 : Int64)), (.long mo)]))
        refine Goes.by (fun t k => XS.lcmp X6.here hx rfl (hb hby at_123) rfl k) ?_
        show Goes p e below s _ _ _ (T6.setTop (mkF m 124 #[.val (.int p0), .val (.int p1), .val (.long q2), .second, .val (.int p3), .val (.long mu), .second, .val (.ref b1), .val (.ref r3), .val (.long y), .second, .val (.long mo), .second, .val (.long dd), .second, .val (.int (1 : Int32)), .unset] [(.int (lcmpW mo (11 : Int64)))]))
        refine Goes.by (fun t k => XS.ifNo X6.here hx rfl (hb hby at_124) rfl ((if0 _ _).trans (flt (fun h => (hs2 hm).2 ((lw_gt _ _).mp h))).2.2.1) k) ?_
        show Goes p e below s _ _ _ (T6.setTop (mkF m 127 #[.val (.int p0), .val (.int p1), .val (.long q2), .second, .val (.int p3), .val (.long mu), .second, .val (.ref b1), .val (.ref r3), .val (.long y), .second, .val (.long mo), .second, .val (.long dd), .second, .val (.int (1 : Int32)), .unset] []))
        refine Goes.by (fun t k => XS.iconst X6.here hx rfl (hb hby at_127) k) ?_
        show Goes p e below s _ _ _ (T6.setTop (mkF m 128 #[.val (.int p0), .val (.int p1), .val (.long q2), .second, .val (.int p3), .val (.long mu), .second, .val (.ref b1), .val (.ref r3), .val (.long y), .second, .val (.long mo), .second, .val (.long dd), .second, .val (.int (1 : Int32)), .unset] [(.int (1 : Int32))]))
        refine Goes.by (fun t k => XS.goto X6.here hx rfl (pc0 := 128) (pc' := 156) rfl (hb hby at_128) (by decide) (by decide) k) ?_
        show Goes p e below s _ _ _ (T6.setTop (mkF m 156 #[.val (.int p0), .val (.int p1), .val (.long q2), .second, .val (.int p3), .val (.long mu), .second, .val (.ref b1), .val (.ref r3), .val (.long y), .second, .val (.long mo), .second, .val (.long dd), .second, .val (.int (1 : Int32)), .unset] [(.int (1 : Int32))]))
        refine Goes.by (fun t k => XS.istore X6.here hx rfl (hb hby at_156) rfl (l' := #[.val (.int p0), .val (.int p1), .val (.long q2), .second, .val (.int p3), .val (.long mu), .second, .val (.ref b1), .val (.ref r3), .val (.long y), .second, .val (.long mo), .second, .val (.long dd), .second, .val (.int (1 : Int32)), .val (.int (1 : Int32))]) rfl k) ?_
        show Goes p e below s _ _ _ (T6.setTop (mkF m 158 #[.val (.int p0), .val (.int p1), .val (.long q2), .second, .val (.int p3), .val (.long mu), .second, .val (.ref b1), .val (.ref r3), .val (.long y), .second, .val (.long mo), .second, .val (.long dd), .second, .val (.int (1 : Int32)), .val (.int (1 : Int32))] []))
        refine Goes.by (fun t k => XS.iload X6.here hx rfl (hb hby at_158) rfl k) ?_
        show Goes p e below s _ _ _ (T6.setTop (mkF m 160 #[.val (.int p0), .val (.int p1), .val (.long q2), .second, .val (.int p3), .val (.long mu), .second, .val (.ref b1), .val (.ref r3), .val (.long y), .second, .val (.long mo), .second, .val (.long dd), .second, .val (.int (1 : Int32)), .val (.int (1 : Int32))] [(.int (1 : Int32))]))
        refine Goes.by (fun t k => XS.ifNo X6.here hx rfl (hb hby at_160) rfl ((if0 _ _).trans (feq (by decide)).1) k) ?_
        show Goes p e below s _ _ _ (T6.setTop (mkF m 163 #[.val (.int p0), .val (.int p1), .val (.long q2), .second, .val (.int p3), .val (.long mu), .second, .val (.ref b1), .val (.ref r3), .val (.long y), .second, .val (.long mo), .second, .val (.long dd), .second, .val (.int (1 : Int32)), .val (.int (1 : Int32))] []))
        refine Goes.by (fun t k => XS.iload X6.here hx rfl (hb hby at_163) rfl k) ?_
        show Goes p e below s _ _ _ (T6.setTop (mkF m 165 #[.val (.int p0), .val (.int p1), .val (.long q2), .second, .val (.int p3), .val (.long mu), .second, .val (.ref b1), .val (.ref r3), .val (.long y), .second, .val (.long mo), .second, .val (.long dd), .second, .val (.int (1 : Int32)), .val (.int (1 : Int32))] [(.int (1 : Int32))]))
        refine Goes.by (fun t k => XS.ifNo X6.here hx rfl (hb hby at_165) rfl ((if0 _ _).trans (feq (by decide)).1) k) ?_
        show Goes p e below s _ _ _ (T6.setTop (mkF m 168 #[.val (.int p0), .val (.int p1), .val (.long q2), .second, .val (.int p3), .val (.long mu), .second, .val (.ref b1), .val (.ref r3), .val (.long y), .second, .val (.long mo), .second, .val (.long dd), .second, .val (.int (1 : Int32)), .val (.int (1 : Int32))] []))
        refine Goes.by (fun t k => XS.lload X6.here hx rfl (hb hby at_168) rfl k) ?_
        show Goes p e below s _ _ _ (T6.setTop (mkF m 170 #[.val (.int p0), .val (.int p1), .val (.long q2), .second, .val (.int p3), .val (.long mu), .second, .val (.ref b1), .val (.ref r3), .val (.long y), .second, .val (.long mo), .second, .val (.long dd), .second, .val (.int (1 : Int32)), .val (.int (1 : Int32))] [(.long dd)]))
        refine Goes.by (fun t k => XS.iloadN X6.here hx rfl (hb hby at_170) rfl k) ?_
        show Goes p e below s _ _ _ (T6.setTop (mkF m 171 #[.val (.int p0), .val (.int p1), .val (.long q2), .second, .val (.int p3), .val (.long mu), .second, .val (.ref b1), .val (.ref r3), .val (.long y), .second, .val (.long mo), .second, .val (.long dd), .second, .val (.int (1 : Int32)), .val (.int (1 : Int32))] [(.int p1), (.long dd)]))
        refine Goes.by (fun t k => XS.i2l X6.here hx rfl (hb hby at_171) rfl k) ?_
        show Goes p e below s _ _ _ (T6.setTop (mkF m 172 #[.val (.int p0), .val (.int p1), .val (.long q2), .second, .val (.int p3), .val (.long mu), .second, .val (.ref b1), .val (.ref r3), .val (.long y), .second, .val (.long mo), .second, .val (.long dd), .second, .val (.int (1 : Int32)), .val (.int (1 : Int32))] [(.long (p1.toInt64)), (.long dd)]))
        refine Goes.by (fun t k => XS.lcmp X6.here hx rfl (hb hby at_172) rfl k) ?_
        show Goes p e below s _ _ _ (T6.setTop (mkF m 173 #[.val (.int p0), .val (.int p1), .val (.long q2), .second, .val (.int p3), .val (.long mu), .second, .val (.ref b1), .val (.ref r3), .val (.long y), .second, .val (.long mo), .second, .val (.long dd), .second, .val (.int (1 : Int32)), .val (.int (1 : Int32))] [(.int (lcmpW dd (p1.toInt64)))]))
        refine Goes.by (fun t k => XS.ifNo X6.here hx rfl (hb hby at_173) rfl ((if0 _ _).trans (teq ((lw_eq _ _).mpr hdd)).2) k) ?_
        show Goes p e below s _ _ _ (T6.setTop (mkF m 176 #[.val (.int p0), .val (.int p1), .val (.long q2), .second, .val (.int p3), .val (.long mu), .second, .val (.ref b1), .val (.ref r3), .val (.long y), .second, .val (.long mo), .second, .val (.long dd), .second, .val (.int (1 : Int32)), .val (.int (1 : Int32))] []))
        refine Goes.by (fun t k => XS.iconst X6.here hx rfl (hb hby at_176) k) ?_
        show Goes p e below s _ _ _ (T6.setTop (mkF m 177 #[.val (.int p0), .val (.int p1), .val (.long q2), .second, .val (.int p3), .val (.long mu), .second, .val (.ref b1), .val (.ref r3), .val (.long y), .second, .val (.long mo), .second, .val (.long dd), .second, .val (.int (1 : Int32)), .val (.int (1 : Int32))] [(.int (1 : Int32))]))
        refine Goes.by (fun t k => XS.goto X6.here hx rfl (pc0 := 177) (pc' := 181) rfl (hb hby at_177) (by decide) (by decide) k) ?_
        show Goes p e below s _ _ _ (T6.setTop (mkF m 181 #[.val (.int p0), .val (.int p1), .val (.long q2), .second, .val (.int p3), .val (.long mu), .second, .val (.ref b1), .val (.ref r3), .val (.long y), .second, .val (.long mo), .second, .val (.long dd), .second, .val (.int (1 : Int32)), .val (.int (1 : Int32))] [(.int (1 : Int32))]))
        exact Goes.retN X6 hx Bd.returns rfl (hb hby at_181) hlk (by exact ⟨rfl, N6⟩) (by decide) (by decide)
    · skip
      obtain ⟨cq7, kq7, q7a, q7b, q7c⟩ := isOf hZ rfl (E2)
      obtain ⟨_, _, ⟨T7, L7, k7, n7⟩, -, X7, ⟨Lc7, hQ7, l7, y7, z7⟩, st7⟩ := X2.virtualBack hx (y := (⟨"com/example/libtxsession/libtxsession/internal/session/PostgresInterval", "period", "()Ljava/time/Period;"⟩ : MethodName)) (z := (⟨"com/example/libtxsession/libtxsession/internal/session/PostgresInterval", "period", "()Ljava/time/Period;"⟩ : MethodName)) hown (mvT hZ (hw _ (List.mem_of_getElem? (i := 20) rfl))) (mvT hZ (hw _ (List.mem_of_getElem? (i := 21) rfl))) (notFace_of_selects (args := #[]) (mvT hZ (hw _ (List.mem_of_getElem? (i := 23) rfl)))) (mvT hZ (hw _ (List.mem_of_getElem? (i := 23) rfl))) (mvT hZ (hw _ (List.mem_of_getElem? (i := 22) rfl))) (by decide) (backOf (W := 0) (rm4n l Z a0 hw [] b1 p0.toInt64 p1.toInt64 mu _ n0 f6 F2 G2 H2 hmu) hZ (hw _ (List.mem_of_getElem? (i := 24) rfl)) (hw _ (List.mem_of_getElem? (i := 2) rfl)) (by decide) (by decide)) q7a q7c (g := (mkF m 31 #[.val (.int p0), .val (.int p1), .val (.long q2), .second, .val (.int p3), .val (.long mu), .second, .val (.ref b1), .unset, .unset, .unset, .unset, .unset, .unset, .unset, .unset, .unset] [(.ref b1)])) rfl (by rw [hml]; rfl) (Steps.refl _) (argsL := []) (rest := []) (lenOf pd_2 rfl) rfl (by show 2 * 0 + _ ≤ _; exact Nat.le_of_eq rfl) (hb hby at_31) (fun _ _ => ⟨rfl, rfl, (by decide : 1 + 1 ≤ _), (by decide : 3 + 3 ≤ _)⟩)
      dsimp only [Pt.U, Pt.locs, Pt.cells, Pt.slots] at X7 l7 y7 z7 st7 hQ7
      subst l7 y7 z7
      obtain ⟨rfl, N7q, hh7⟩ := hQ7
      have N7 := Fr.app N2 N7q
      refine Goes.by (fun t k => st7.trans k) ?_
      show Goes p e below s _ _ _ (T7.setTop (mkF m 34 #[.val (.int p0), .val (.int p1), .val (.long q2), .second, .val (.int p3), .val (.long mu), .second, .val (.ref b1), .unset, .unset, .unset, .unset, .unset, .unset, .unset, .unset, .unset] [.null]))
      refine Goes.by (fun t k => XS.astore X7.here hx rfl (hb hby at_34) rfl rfl (l' := #[.val (.int p0), .val (.int p1), .val (.long q2), .second, .val (.int p3), .val (.long mu), .second, .val (.ref b1), .val .null, .unset, .unset, .unset, .unset, .unset, .unset, .unset, .unset]) rfl k) ?_
      show Goes p e below s _ _ _ (T7.setTop (mkF m 36 #[.val (.int p0), .val (.int p1), .val (.long q2), .second, .val (.int p3), .val (.long mu), .second, .val (.ref b1), .val .null, .unset, .unset, .unset, .unset, .unset, .unset, .unset, .unset] []))
      refine Goes.by (fun t k => XS.lload X7.here hx rfl (hb hby at_36) rfl k) ?_
      show Goes p e below s _ _ _ (T7.setTop (mkF m 38 #[.val (.int p0), .val (.int p1), .val (.long q2), .second, .val (.int p3), .val (.long mu), .second, .val (.ref b1), .val .null, .unset, .unset, .unset, .unset, .unset, .unset, .unset, .unset] [(.long mu)]))
      refine Goes.by (fun t k => XS.lconst X7.here hx rfl (hb hby at_38) k) ?_
      show Goes p e below s _ _ _ (T7.setTop (mkF m 39 #[.val (.int p0), .val (.int p1), .val (.long q2), .second, .val (.int p3), .val (.long mu), .second, .val (.ref b1), .val .null, .unset, .unset, .unset, .unset, .unset, .unset, .unset, .unset] [(.long (0 : Int64)), (.long mu)]))
      refine Goes.by (fun t k => XS.lcmp X7.here hx rfl (hb hby at_39) rfl k) ?_
      show Goes p e below s _ _ _ (T7.setTop (mkF m 40 #[.val (.int p0), .val (.int p1), .val (.long q2), .second, .val (.int p3), .val (.long mu), .second, .val (.ref b1), .val .null, .unset, .unset, .unset, .unset, .unset, .unset, .unset, .unset] [(.int (lcmpW mu (0 : Int64)))]))
      refine Goes.by (fun t k => XS.ifNo X7.here hx rfl (hb hby at_40) rfl ((if0 _ _).trans (feq (fun h => hmu ((lw_eq _ _).mp h))).1) k) ?_
      show Goes p e below s _ _ _ (T7.setTop (mkF m 43 #[.val (.int p0), .val (.int p1), .val (.long q2), .second, .val (.int p3), .val (.long mu), .second, .val (.ref b1), .val .null, .unset, .unset, .unset, .unset, .unset, .unset, .unset, .unset] []))
      refine Goes.by (fun t k => XS.aload X7.here hx rfl (hb hby at_43) rfl rfl k) ?_
      show Goes p e below s _ _ _ (T7.setTop (mkF m 45 #[.val (.int p0), .val (.int p1), .val (.long q2), .second, .val (.int p3), .val (.long mu), .second, .val (.ref b1), .val .null, .unset, .unset, .unset, .unset, .unset, .unset, .unset, .unset] [.null]))
      refine Goes.by (fun t k => XS.ifnonnullNo X7.here hx rfl (hb hby at_45) rfl k) ?_
      show Goes p e below s _ _ _ (T7.setTop (mkF m 48 #[.val (.int p0), .val (.int p1), .val (.long q2), .second, .val (.int p3), .val (.long mu), .second, .val (.ref b1), .val .null, .unset, .unset, .unset, .unset, .unset, .unset, .unset, .unset] []))
      refine Goes.by (fun t k => XS.iconst X7.here hx rfl (hb hby at_48) k) ?_
      show Goes p e below s _ _ _ (T7.setTop (mkF m 49 #[.val (.int p0), .val (.int p1), .val (.long q2), .second, .val (.int p3), .val (.long mu), .second, .val (.ref b1), .val .null, .unset, .unset, .unset, .unset, .unset, .unset, .unset, .unset] [(.int (1 : Int32))]))
      refine Goes.by (fun t k => XS.goto X7.here hx rfl (pc0 := 49) (pc' := 53) rfl (hb hby at_49) (by decide) (by decide) k) ?_
      show Goes p e below s _ _ _ (T7.setTop (mkF m 53 #[.val (.int p0), .val (.int p1), .val (.long q2), .second, .val (.int p3), .val (.long mu), .second, .val (.ref b1), .val .null, .unset, .unset, .unset, .unset, .unset, .unset, .unset, .unset] [(.int (1 : Int32))]))
      exact Goes.retN X7 hx Bd.returns rfl (hb hby at_53) hlk (by exact ⟨rfl, N7⟩) (by decide) (by decide)
  by_cases hc : (p3 &&& (1 : Int32)) = (0 : Int32)
  · skip
    refine Goes.by (fun t k => XS.ifYes X0.here hx rfl (pc0 := 4) (pc' := 11) rfl (hb hby at_4) rfl ((if0 _ _).trans (teq (hc)).1) (by decide) (by decide) k) ?_
    show Goes p e below s _ _ _ (s₁.setTop (mkF m 11 #[.val (.int p0), .val (.int p1), .val (.long q2), .second, .val (.int p3), .unset, .unset, .unset, .unset, .unset, .unset, .unset, .unset, .unset, .unset, .unset, .unset] []))
    refine Goes.by (fun t k => XS.lloadN X0.here hx rfl (hb hby at_11) rfl k) ?_
    show Goes p e below s _ _ _ (s₁.setTop (mkF m 12 #[.val (.int p0), .val (.int p1), .val (.long q2), .second, .val (.int p3), .unset, .unset, .unset, .unset, .unset, .unset, .unset, .unset, .unset, .unset, .unset, .unset] [(.long q2)]))
    refine Goes.by (fun t k => XS.lstore X0.here hx rfl (hb hby at_12) rfl (l' := #[.val (.int p0), .val (.int p1), .val (.long q2), .second, .val (.int p3), .val (.long q2), .second, .unset, .unset, .unset, .unset, .unset, .unset, .unset, .unset, .unset, .unset]) rfl k) ?_
    show Goes p e below s _ _ _ (s₁.setTop (mkF m 14 #[.val (.int p0), .val (.int p1), .val (.long q2), .second, .val (.int p3), .val (.long q2), .second, .unset, .unset, .unset, .unset, .unset, .unset, .unset, .unset, .unset, .unset] []))
    exact J14 _
  · skip
    refine Goes.by (fun t k => XS.ifNo X0.here hx rfl (hb hby at_4) rfl ((if0 _ _).trans (feq (hc)).1) k) ?_
    show Goes p e below s _ _ _ (s₁.setTop (mkF m 7 #[.val (.int p0), .val (.int p1), .val (.long q2), .second, .val (.int p3), .unset, .unset, .unset, .unset, .unset, .unset, .unset, .unset, .unset, .unset, .unset, .unset] []))
    refine Goes.by (fun t k => XS.lconst X0.here hx rfl (hb hby at_7) k) ?_
    show Goes p e below s _ _ _ (s₁.setTop (mkF m 8 #[.val (.int p0), .val (.int p1), .val (.long q2), .second, .val (.int p3), .unset, .unset, .unset, .unset, .unset, .unset, .unset, .unset, .unset, .unset, .unset, .unset] [(.long (0 : Int64))]))
    refine Goes.by (fun t k => XS.goto X0.here hx rfl (pc0 := 8) (pc' := 12) rfl (hb hby at_8) (by decide) (by decide) k) ?_
    show Goes p e below s _ _ _ (s₁.setTop (mkF m 12 #[.val (.int p0), .val (.int p1), .val (.long q2), .second, .val (.int p3), .unset, .unset, .unset, .unset, .unset, .unset, .unset, .unset, .unset, .unset, .unset, .unset] [(.long (0 : Int64))]))
    refine Goes.by (fun t k => XS.lstore X0.here hx rfl (hb hby at_12) rfl (l' := #[.val (.int p0), .val (.int p1), .val (.long q2), .second, .val (.int p3), .val (.long (0 : Int64)), .second, .unset, .unset, .unset, .unset, .unset, .unset, .unset, .unset, .unset, .unset]) rfl k) ?_
    show Goes p e below s _ _ _ (s₁.setTop (mkF m 14 #[.val (.int p0), .val (.int p1), .val (.long q2), .second, .val (.int p3), .val (.long (0 : Int64)), .second, .unset, .unset, .unset, .unset, .unset, .unset, .unset, .unset, .unset, .unset] []))
    exact J14 _
theorem own_eqInt {t : Term} {k : Int32} {args : Array Value} {s : State} {v : Option Value} (he : t.eval args s none [] s = v) (h : (Jvm.Cond.eq t (.int k)).value args s none s [] = some true) : v = some (.int k) := by
  subst he
  obtain ⟨x, y, h1, h2, h3, -⟩ := cmp_v (Or.inl h)
  rw [Term.int_eval] at h2
  obtain rfl := Option.some.inj h2
  cases x <;> simp [Kin, Value.isRef] at h3
  rename_i z
  have := gotT (P := z = k) (by simp [Cond.value, h1, Term.int_eval]) h
  rw [h1, this]
set_option maxRecDepth 65536 in
set_option maxHeartbeats 40000000 in
theorem comes_1 {Post : Tables → Env → Array Value → State → Outcome → State → Prop} (hpost : ∀ tb e args s v u, (limb_1_1.after args s (.returned v) u = true ∧ limb_1_2.after args s (.returned v) u = true ∧ True) → FrameEnd s (.returned v) u (Jvm.fieldLocs frame_1_writes args s ++ Jvm.arrayLocs frame_1_arrays args s ++ Jvm.staticLocs frame_1_statics s) 16 128 → Post tb e args s (.returned v) u) :
    ArmFor flags0 classFile x code maxLocals ret World_1 tables_1 room_1 Calls_1 rest_1 Pre_1 Post := by
  intro l hfl _ _ p e ha hc hk s m args below hf hA hF happ hP
  obtain ⟨hcalls, hrest, hpre⟩ := hP
  obtain ⟨-, -, -, hnamed, -, -, -, hat⟩ := (Spec.applies_iff hf).mp happ
  obtain ⟨hg, hn⟩ := and_e (Cond.before_iff.mp (show (Jvm.Cond.and given_1 narrow_1).before args s = true from hpre))
  obtain ⟨hcnt, hg⟩ := and_e hg
  obtain ⟨ga0, hg⟩ := and_e hg
  obtain ⟨ga1, hg⟩ := and_e hg
  obtain ⟨ga2, hg⟩ := and_e hg
  have ga3 := hg
  obtain ⟨w0, w1, w2, w3, rfl⟩ : ∃ w0 w1 w2 w3 : Value, args = #[w0, w1, w2, w3] := by
    have hs : args.size = 4 := by simpa [Cond.value, given_1] using hcnt
    obtain ⟨L⟩ := args
    match L, hs with
    | [w0, w1, w2, w3], _ => exact ⟨w0, w1, w2, w3, rfl⟩
  have hw := fun d (hd : d ∈ tables_1) => atoms_spec (ws := Jvm.Cond.code x code maxLocals ret :: tables_1) hat d (List.mem_cons_of_mem _ hd)
  obtain ⟨i0, ei0⟩ := is_v ga0
  obtain rfl : w0 = (.int i0) := Option.some.inj ei0
  obtain ⟨i1, ei1⟩ := is_v ga1
  obtain rfl : w1 = (.int i1) := Option.some.inj ei1
  obtain ⟨i2, ei2⟩ := isL_v ga2
  obtain rfl : w2 = (.long i2) := Option.some.inj ei2
  obtain ⟨i3, ei3⟩ := is_v ga3
  obtain rfl : w3 = (.int i3) := Option.some.inj ei3
  obtain ⟨hsets, hown0⟩ := atoms_of _ (rest_1_c_eq ▸ (show rest_1_c.before _ s = true from hrest))
  have nZ := Cond.before_iff.mp (hsets _ (List.mem_of_getElem? (i := 2) rfl))
  obtain ⟨wZ, ev⟩ := exa_v nZ
  have EZ := Exa.start ev nZ
  have SZ := Sta.start ev (Or.inl (hsets _ (List.mem_of_getElem? (i := 1) rfl)))
  have Fy : s.fieldOf? wZ "java/time/Period" "years" "I" = some (.int 0) := own_eqInt (t := .field (Jvm.Term.static "java/time/Period" "ZERO" "Ljava/time/Period;") "java/time/Period" "years" "I") (fld_at ev) (Cond.before_iff.mp (hsets _ (List.mem_of_getElem? (i := 3) rfl)))
  have Fm : s.fieldOf? wZ "java/time/Period" "months" "I" = some (.int 0) := own_eqInt (t := .field (Jvm.Term.static "java/time/Period" "ZERO" "Ljava/time/Period;") "java/time/Period" "months" "I") (fld_at ev) (Cond.before_iff.mp (hsets _ (List.mem_of_getElem? (i := 4) rfl)))
  have Fd : s.fieldOf? wZ "java/time/Period" "days" "I" = some (.int 0) := own_eqInt (t := .field (Jvm.Term.static "java/time/Period" "ZERO" "Ljava/time/Period;") "java/time/Period" "days" "I") (fld_at ev) (Cond.before_iff.mp (hsets _ (List.mem_of_getElem? (i := 5) rfl)))
  obtain ⟨n, o, h1, h2, h3, _, L, rfl, ⟨rfl, N⟩, hq⟩ := rm0 l s _ hw tables_1 i0 i1 i2 i3 wZ s.heap s.heap.size (Nat.le_refl _) (Old.start s) SZ EZ (Fld.start Fy) (Fld.start Fm) (Fld.start Fd) p e ha hc hk s m _ below hf ((Spec.applies_iff_loose hf).mp happ).1 ⟨rfl, State.Warmed39.refl s, rfl⟩ trivial
  refine ⟨n, _, h1, h2, h3, hpost _ _ _ _ _ _ ⟨Cond.after_iff.mpr rfl, Cond.after_iff.mpr (eq_i res_at (Term.int_eval (1)) rfl), trivial⟩ ⟨hq.1, hq.2.1, (hq.2.2.sift fun y hy => Or.inr (N y hy)).mono (by decide) (by decide)⟩⟩
theorem main_1_1 : Claimed_1_1 := comes_1 fun _ _ _ _ _ _ h hF => ⟨h.1, hF⟩
theorem main_1_2 : Claimed_1_2 := comes_1 fun _ _ _ _ _ _ h hF => ⟨h.2.1, hF⟩
end Jvm.Pilot.@@N@@
namespace Jvm.Pilot.@@N@@
open Jvm Jvm.ClassFile Sem Op Lib Jvm.Free Jvm.Stand Jvm.Pilot.@@N@@.Jvm.D
/-! MADE BY PROGRAM (witnessworld.py) out of the Statement's table words and the real class files: 13 classes; the members and pool entries that the words name. The judged class is class 1, her method 1. -/
namespace start1
open Jvm.ClassFile
def u (s : String) : CpInfo := .utf8 (stringToUtf16 s)
/-- a pool by its gaps: so many unusable entries, then the entry; so many at the end -/
def gap : Nat → List CpInfo → List CpInfo
  | 0, r => r
  | n + 1, r => .unusable :: gap n r
def poolList (es : List (Nat × CpInfo)) (last : Nat) : List CpInfo := es.foldr (fun e r => gap e.1 (e.2 :: r)) (gap last [])
def pool (es : List (Nat × CpInfo)) (last : Nat) : Array CpInfo := ⟨poolList es last⟩
def fileOf (pool : Array CpInfo) (this : Nat) (attrs : Array Attribute := #[]) (ms : Array MethodInfo := #[]) (fl : Nat := 33) (sup : Nat := 0) (ifs : Array Nat := #[]) (fds : Array FieldInfo := #[]) : ClassFile where
  minorVersion := 0
  majorVersion := 65
  constantPool := pool
  accessFlags := fl
  thisClass := this
  superClass := sup
  interfaces := ifs
  fields := fds
  methods := ms
  attributes := attrs
def plain (name : String) (sup : Option ClassId) : Class where
  name := name
  kind := .ordinary
  loader := none
  accessFlags := 33
  super := sup
  interfaces := #[]
  cf := none
  fields := #[]
  methods := #[]
  instanceTypes := #[]
  staticTypes := #[]
  resolved := #[]
  callSites := []
  init := .initialized
  statics := none
  mirror := none

def pool0 : Array CpInfo := pool [(5, u "<init>"), (0, u "()V"), (1, .class_ 10), (1, u "java/lang/Object")] 113

def k0c0 : Code := { maxStack := 0, maxLocals := 1, code := object_method_1_code, exceptionTable := #[], attributes := #[] }
def k0m0 : Method := { name := "<init>", desc := "()V", sig := { parameters := [], returnType := none }, accessFlags := 1, code := some k0c0 }
/-- java/lang/Object -/
def k0 : Class := { plain "java/lang/Object" none with
  accessFlags := 33
  interfaces := #[]
  cf := some (fileOf pool0 8 #[] #[{ accessFlags := 1, nameIndex := 5, descriptorIndex := 6, attributes := #[] }] 33 0 #[] #[])
  fields := #[]
  methods := #[k0m0]
  instanceTypes := #[]
  staticTypes := #[]
  resolved := Array.replicate 124 none
  statics := none }

def pool1 : Array CpInfo := pool [(2, .class_ 4), (1, u "java/lang/Object"), (0, u "<init>"), (0, u "()V"), (0, .class_ 8), (0, u "com/example/libtxsession/libtxsession/internal/session/PostgresInterval"), (0, .methodref 7 10), (0, .nameAndType 5 11), (0, u "(JJJ)V"), (0, .methodref 7 13), (0, .nameAndType 14 15), (0, u "period"), (0, u "()Ljava/time/Period;"), (0, .methodref 17 18), (0, .class_ 19), (0, .nameAndType 20 21), (0, u "java/time/Period"), (0, u "getYears"), (0, u "()I"), (0, .methodref 17 23), (0, .nameAndType 24 21), (0, u "getMonths"), (0, .methodref 17 26), (0, .nameAndType 27 21), (0, u "getDays"), (0, .long 12), (1, .long 11), (1, .long 18446744073709551605), (1, .class_ 35), (0, u "com/example/libtxsession/libtxsession/internal/session/PostgresIntervalPeriodPinLaw"), (2, u "law"), (0, u "(IIJI)Z")] 3

def k1m0 : Method := { name := "<init>", desc := "()V", sig := { parameters := [], returnType := none }, accessFlags := 1, code := none }
def k1c1 : Code := { maxStack := 8, maxLocals := 17, code := code, exceptionTable := #[], attributes := #[] }
def k1m1 : Method := { name := "law", desc := "(IIJI)Z", sig := { parameters := [.int, .int, .long, .int], returnType := some .boolean }, accessFlags := 9, code := some k1c1 }
/-- com/example/libtxsession/libtxsession/internal/session/PostgresIntervalPeriodPinLaw -/
def k1 : Class := { plain "com/example/libtxsession/libtxsession/internal/session/PostgresIntervalPeriodPinLaw" (some 0) with
  accessFlags := 49
  interfaces := #[]
  cf := some (fileOf pool1 34 #[] #[{ accessFlags := 1, nameIndex := 5, descriptorIndex := 6, attributes := #[] }, { accessFlags := 9, nameIndex := 38, descriptorIndex := 39, attributes := #[] }] 49 2 #[] #[])
  fields := #[]
  methods := #[k1m0, k1m1]
  instanceTypes := #[]
  staticTypes := #[]
  resolved := Array.replicate 43 none
  statics := none }

def pool2 : Array CpInfo := pool [(1, .methodref 2 3), (0, .class_ 4), (0, .nameAndType 5 6), (0, u "java/lang/Object"), (0, u "<init>"), (0, u "()V"), (0, .class_ 8), (0, u "java/lang/Record")] 13

def k2c0 : Code := { maxStack := 1, maxLocals := 1, code := jdk_30_method_1_code, exceptionTable := #[], attributes := #[] }
def k2m0 : Method := { name := "<init>", desc := "()V", sig := { parameters := [], returnType := none }, accessFlags := 4, code := some k2c0 }
/-- java/lang/Record -/
def k2 : Class := { plain "java/lang/Record" (some 0) with
  accessFlags := 1057
  interfaces := #[]
  cf := some (fileOf pool2 7 #[] #[{ accessFlags := 4, nameIndex := 5, descriptorIndex := 6, attributes := #[] }] 1057 2 #[] #[])
  fields := #[]
  methods := #[k2m0]
  instanceTypes := #[]
  staticTypes := #[]
  resolved := Array.replicate 22 none
  statics := none }

def pool3 : Array CpInfo := pool [(1, .class_ 2), (0, u "com/example/libtxsession/libtxsession/internal/session/PostgresInterval"), (0, .methodref 4 5), (0, .class_ 6), (0, .nameAndType 7 8), (0, u "java/lang/Record"), (0, u "<init>"), (0, u "()V"), (0, .fieldref 1 10), (0, .nameAndType 11 12), (0, u "months"), (0, u "J"), (0, .fieldref 1 14), (0, .nameAndType 15 12), (0, u "days"), (0, .fieldref 1 17), (0, .nameAndType 18 12), (0, u "micros"), (50, .long 12), (1, .methodref 72 73), (0, .class_ 74), (0, .nameAndType 75 76), (0, u "java/time/Period"), (0, u "of"), (0, u "(III)Ljava/time/Period;"), (0, .class_ 78), (0, u "com/example/libtxsession/libtxsession/internal/session/PostgresInterval$Sum"), (41, u "ZERO"), (0, u "Lcom/example/libtxsession/libtxsession/internal/session/PostgresInterval;"), (82, u "(JJJ)V"), (0, u "YEARS"), (0, u "I"), (2, u "MONTHS"), (1, u "DAYS"), (1, u "HOURS"), (1, u "MINUTES"), (1, u "SECONDS"), (1, u "MICROS_PER_SECOND"), (0, u "MICROS_PER_MINUTE"), (0, u "MICROS_PER_HOUR"), (2, u "FRACTION_DIGITS"), (12, u "period"), (0, u "()Ljava/time/Period;")] 27

def k3c0 : Code := { maxStack := 3, maxLocals := 7, code := prog_35_method_1_code, exceptionTable := #[], attributes := #[] }
def k3m0 : Method := { name := "<init>", desc := "(JJJ)V", sig := { parameters := [.long, .long, .long], returnType := none }, accessFlags := 0, code := some k3c0 }
def k3c1 : Code := { maxStack := 5, maxLocals := 1, code := prog_35_method_4_code, exceptionTable := #[], attributes := #[] }
def k3m1 : Method := { name := "period", desc := "()Ljava/time/Period;", sig := { parameters := [], returnType := some (.object "java/time/Period") }, accessFlags := 0, code := some k3c1 }
/-- com/example/libtxsession/libtxsession/internal/session/PostgresInterval -/
def k3 : Class := { plain "com/example/libtxsession/libtxsession/internal/session/PostgresInterval" (some 2) with
  accessFlags := 48
  interfaces := #[]
  cf := some (fileOf pool3 1 #[.nestMembers #[77]] #[{ accessFlags := 0, nameIndex := 7, descriptorIndex := 204, attributes := #[] }, { accessFlags := 0, nameIndex := 237, descriptorIndex := 238, attributes := #[] }] 48 4 #[] #[{ accessFlags := 18, nameIndex := 11, descriptorIndex := 12, attributes := #[] }, { accessFlags := 18, nameIndex := 15, descriptorIndex := 12, attributes := #[] }, { accessFlags := 18, nameIndex := 18, descriptorIndex := 12, attributes := #[] }, { accessFlags := 26, nameIndex := 205, descriptorIndex := 206, attributes := #[] }, { accessFlags := 26, nameIndex := 209, descriptorIndex := 206, attributes := #[] }, { accessFlags := 26, nameIndex := 211, descriptorIndex := 206, attributes := #[] }, { accessFlags := 26, nameIndex := 213, descriptorIndex := 206, attributes := #[] }, { accessFlags := 26, nameIndex := 215, descriptorIndex := 206, attributes := #[] }, { accessFlags := 26, nameIndex := 217, descriptorIndex := 206, attributes := #[] }, { accessFlags := 26, nameIndex := 219, descriptorIndex := 12, attributes := #[] }, { accessFlags := 26, nameIndex := 220, descriptorIndex := 12, attributes := #[] }, { accessFlags := 26, nameIndex := 221, descriptorIndex := 12, attributes := #[] }, { accessFlags := 26, nameIndex := 224, descriptorIndex := 206, attributes := #[] }, { accessFlags := 26, nameIndex := 120, descriptorIndex := 121, attributes := #[] }])
  fields := #[{ name := "months", type := .long, accessFlags := 18, slot := 0, constantValue := 0 }, { name := "days", type := .long, accessFlags := 18, slot := 1, constantValue := 0 }, { name := "micros", type := .long, accessFlags := 18, slot := 2, constantValue := 0 }, { name := "YEARS", type := .int, accessFlags := 26, slot := 0, constantValue := 0 }, { name := "MONTHS", type := .int, accessFlags := 26, slot := 1, constantValue := 0 }, { name := "DAYS", type := .int, accessFlags := 26, slot := 2, constantValue := 0 }, { name := "HOURS", type := .int, accessFlags := 26, slot := 3, constantValue := 0 }, { name := "MINUTES", type := .int, accessFlags := 26, slot := 4, constantValue := 0 }, { name := "SECONDS", type := .int, accessFlags := 26, slot := 5, constantValue := 0 }, { name := "MICROS_PER_SECOND", type := .long, accessFlags := 26, slot := 6, constantValue := 0 }, { name := "MICROS_PER_MINUTE", type := .long, accessFlags := 26, slot := 7, constantValue := 0 }, { name := "MICROS_PER_HOUR", type := .long, accessFlags := 26, slot := 8, constantValue := 0 }, { name := "FRACTION_DIGITS", type := .int, accessFlags := 26, slot := 9, constantValue := 0 }, { name := "ZERO", type := (.object "com/example/libtxsession/libtxsession/internal/session/PostgresInterval"), accessFlags := 26, slot := 10, constantValue := 0 }]
  methods := #[k3m0, k3m1]
  instanceTypes := #[.long, .long, .long]
  staticTypes := #[.int, .int, .int, .int, .int, .int, .long, .long, .long, .int, (.object "com/example/libtxsession/libtxsession/internal/session/PostgresInterval")]
  resolved := Array.replicate 266 none
  statics := none }

def pool4 : Array CpInfo := pool [(1, .class_ 2), (0, u "java/time/temporal/TemporalAmount"), (0, .class_ 4), (0, u "java/lang/Object")] 11

/-- java/time/temporal/TemporalAmount -/
def k4 : Class := { plain "java/time/temporal/TemporalAmount" (some 0) with
  accessFlags := 1537
  interfaces := #[]
  cf := some (fileOf pool4 1 #[] #[] 1537 3 #[] #[])
  fields := #[]
  methods := #[]
  instanceTypes := #[]
  staticTypes := #[]
  resolved := Array.replicate 16 none
  statics := none }

def pool5 : Array CpInfo := pool [(18, .class_ 20), (1, u "java/time/chrono/ChronoPeriod"), (28, .class_ 50), (0, u "java/lang/Object"), (0, .class_ 52), (0, u "java/time/temporal/TemporalAmount")] 34

/-- java/time/chrono/ChronoPeriod -/
def k5 : Class := { plain "java/time/chrono/ChronoPeriod" (some 0) with
  accessFlags := 1537
  interfaces := #[4]
  cf := some (fileOf pool5 18 #[] #[] 1537 49 #[51] #[])
  fields := #[]
  methods := #[]
  instanceTypes := #[]
  staticTypes := #[]
  resolved := Array.replicate 87 none
  statics := none }

def pool6 : Array CpInfo := pool [(1, .class_ 2), (0, u "java/io/Serializable"), (0, .class_ 4), (0, u "java/lang/Object")] 2

/-- java/io/Serializable -/
def k6 : Class := { plain "java/io/Serializable" (some 0) with
  accessFlags := 1537
  interfaces := #[]
  cf := some (fileOf pool6 1 #[] #[] 1537 3 #[] #[])
  fields := #[]
  methods := #[]
  instanceTypes := #[]
  staticTypes := #[]
  resolved := Array.replicate 7 none
  statics := none }

def pool7 : Array CpInfo := pool [(1, .methodref 2 3), (0, .class_ 4), (0, .nameAndType 5 6), (0, u "java/time/Period"), (0, u "create"), (0, u "(III)Ljava/time/Period;"), (6, .class_ 14), (0, u "java/time/chrono/ChronoPeriod"), (19, .nameAndType 35 36), (0, u "<init>"), (0, u "()V"), (74, u "PATTERN"), (0, u "Ljava/util/regex/Pattern;"), (60, .fieldref 2 174), (0, .nameAndType 175 176), (0, u "ZERO"), (0, u "Ljava/time/Period;"), (0, .methodref 2 178), (0, .nameAndType 35 179), (0, u "(III)V"), (0, .methodref 181 34), (0, .class_ 182), (0, u "java/lang/Object"), (0, .fieldref 2 184), (0, .nameAndType 185 186), (0, u "years"), (0, u "I"), (0, .fieldref 2 188), (0, .nameAndType 189 186), (0, u "months"), (0, .fieldref 2 191), (0, .nameAndType 192 186), (0, u "days"), (2, u "getYears"), (0, u "()I"), (2, u "getMonths"), (2, u "getDays"), (7, u "SUPPORTED_UNITS"), (0, u "Ljava/util/List;"), (104, u "of"), (23, .class_ 341), (0, u "java/io/Serializable"), (0, u "serialVersionUID"), (0, u "J")] 103

def k7c0 : Code := { maxStack := 3, maxLocals := 3, code := jdk_2336_method_5_code, exceptionTable := #[], attributes := #[] }
def k7m0 : Method := { name := "of", desc := "(III)Ljava/time/Period;", sig := { parameters := [.int, .int, .int], returnType := some (.object "java/time/Period") }, accessFlags := 9, code := some k7c0 }
def k7c1 : Code := { maxStack := 5, maxLocals := 3, code := jdk_2336_method_11_code, exceptionTable := #[], attributes := #[] }
def k7m1 : Method := { name := "create", desc := "(III)Ljava/time/Period;", sig := { parameters := [.int, .int, .int], returnType := some (.object "java/time/Period") }, accessFlags := 10, code := some k7c1 }
def k7c2 : Code := { maxStack := 2, maxLocals := 4, code := jdk_2336_method_12_code, exceptionTable := #[], attributes := #[] }
def k7m2 : Method := { name := "<init>", desc := "(III)V", sig := { parameters := [.int, .int, .int], returnType := none }, accessFlags := 2, code := some k7c2 }
def k7c3 : Code := { maxStack := 1, maxLocals := 1, code := jdk_2336_method_18_code, exceptionTable := #[], attributes := #[] }
def k7m3 : Method := { name := "getYears", desc := "()I", sig := { parameters := [], returnType := some .int }, accessFlags := 1, code := some k7c3 }
def k7c4 : Code := { maxStack := 1, maxLocals := 1, code := jdk_2336_method_19_code, exceptionTable := #[], attributes := #[] }
def k7m4 : Method := { name := "getMonths", desc := "()I", sig := { parameters := [], returnType := some .int }, accessFlags := 1, code := some k7c4 }
def k7c5 : Code := { maxStack := 1, maxLocals := 1, code := jdk_2336_method_20_code, exceptionTable := #[], attributes := #[] }
def k7m5 : Method := { name := "getDays", desc := "()I", sig := { parameters := [], returnType := some .int }, accessFlags := 1, code := some k7c5 }
/-- java/time/Period -/
def k7 : Class := { plain "java/time/Period" (some 0) with
  accessFlags := 49
  interfaces := #[5, 6]
  cf := some (fileOf pool7 2 #[] #[{ accessFlags := 9, nameIndex := 316, descriptorIndex := 6, attributes := #[] }, { accessFlags := 10, nameIndex := 5, descriptorIndex := 6, attributes := #[] }, { accessFlags := 2, nameIndex := 35, descriptorIndex := 179, attributes := #[] }, { accessFlags := 1, nameIndex := 195, descriptorIndex := 196, attributes := #[] }, { accessFlags := 1, nameIndex := 199, descriptorIndex := 196, attributes := #[] }, { accessFlags := 1, nameIndex := 202, descriptorIndex := 196, attributes := #[] }] 49 181 #[13, 340] #[{ accessFlags := 25, nameIndex := 175, descriptorIndex := 176, attributes := #[] }, { accessFlags := 26, nameIndex := 342, descriptorIndex := 343, attributes := #[] }, { accessFlags := 26, nameIndex := 111, descriptorIndex := 112, attributes := #[] }, { accessFlags := 26, nameIndex := 210, descriptorIndex := 211, attributes := #[] }, { accessFlags := 18, nameIndex := 185, descriptorIndex := 186, attributes := #[] }, { accessFlags := 18, nameIndex := 189, descriptorIndex := 186, attributes := #[] }, { accessFlags := 18, nameIndex := 192, descriptorIndex := 186, attributes := #[] }])
  fields := #[{ name := "ZERO", type := (.object "java/time/Period"), accessFlags := 25, slot := 0, constantValue := 0 }, { name := "serialVersionUID", type := .long, accessFlags := 26, slot := 1, constantValue := 0 }, { name := "PATTERN", type := (.object "java/util/regex/Pattern"), accessFlags := 26, slot := 2, constantValue := 0 }, { name := "SUPPORTED_UNITS", type := (.object "java/util/List"), accessFlags := 26, slot := 3, constantValue := 0 }, { name := "years", type := .int, accessFlags := 18, slot := 0, constantValue := 0 }, { name := "months", type := .int, accessFlags := 18, slot := 1, constantValue := 0 }, { name := "days", type := .int, accessFlags := 18, slot := 2, constantValue := 0 }]
  methods := #[k7m0, k7m1, k7m2, k7m3, k7m4, k7m5]
  instanceTypes := #[.int, .int, .int]
  staticTypes := #[(.object "java/time/Period"), .long, (.object "java/util/regex/Pattern"), (.object "java/util/List")]
  resolved := Array.replicate 447 none
  statics := some 0 }

def pool8 : Array CpInfo := pool [(1, u "java/lang/Cloneable"), (0, .class_ 1), (0, u "java/lang/Object"), (0, .class_ 3)] 3

/-- java/lang/Cloneable -/
def k8 : Class := { plain "java/lang/Cloneable" (some 0) with
  accessFlags := 1537
  interfaces := #[]
  cf := some (fileOf pool8 2 #[] #[] 1537 4 #[] #[])
  fields := #[]
  methods := #[]
  instanceTypes := #[]
  staticTypes := #[]
  resolved := Array.replicate 8 none
  statics := none }

/-- the primitive byte -/
def k9 : Class := { plain "byte" none with kind := .primitive 'B', accessFlags := 0x411 }
/-- [B -/
def k10 : Class := { plain "[B" (some 0) with kind := .array 9 .byte, interfaces := #[8, 6], accessFlags := 1041 }

/-- the primitive int -/
def k11 : Class := { plain "int" none with kind := .primitive 'I', accessFlags := 0x411 }
/-- [I -/
def k12 : Class := { plain "[I" (some 0) with kind := .array 11 .int, interfaces := #[8, 6], accessFlags := 1041 }

def heap : Heap := #[{ cls := 7, slots := #[.ref 1, .long 0, .null, .null], vm := .statics 7 },
  { cls := 7, slots := #[.int 0, .int 0, .int 0], vm := .none }]
def classes : Array Class := #[k0, k1, k2, k3, k4, k5, k6, k7, k8, k9, k10, k11, k12]
def interned : List (Array UInt16 × Addr) := []
def slotsUsed : Nat := 7
def theMethod : MethodId := ⟨1, 1⟩
def args0 : Array Value := #[.int 5, .int 7, .long 2, .int 1]
def aboutOver (below : List Frame) : State where
  vm := { classes := classes, interned := interned.toArray }
  heap := heap
  slotsUsed := slotsUsed
  threads := #[{ frames := .invoking theMethod args0 :: below }]
def below0 : List Frame := [.native { method := ⟨0, 0⟩, args := #[] }]
def about1 : State := aboutOver below0
def p0 : Program := .bare "" "" ""
def e0 : Env := launch0.env 0 0 0
theorem w_frames : about1.frames = Frame.invoking theMethod args0 :: below0 := rfl
set_option maxRecDepth 65536 in
theorem w_args : argsFit about1.vm theMethod args0 = true := by decide +kernel
set_option maxRecDepth 65536 in
theorem w_heap : heapFits about1 = true := by decide +kernel
set_option maxRecDepth 65536 in
theorem w_runnable : about1.curStatus? = some .runnable := by decide +kernel
set_option maxRecDepth 65536 in
theorem w_alone : about1.alone = true := by decide +kernel
set_option maxRecDepth 65536 in
theorem w_named : about1.methodNamed? x = some theMethod := by decide +kernel
set_option maxRecDepth 65536 in
theorem w_hears : about1.hears theMethod below0 = true := by decide +kernel
set_option maxRecDepth 65536 in
theorem w_ripe : about1.ripe theMethod args0 below0 = true := by decide +kernel
theorem w_running : about1.status = .running := rfl
set_option maxRecDepth 65536 in
theorem w_room : about1.hasRoom e0.platform room_1 = true :=
  launch0.hasRoom_least _ room_1 (by decide +kernel) (by decide +kernel) (by decide +kernel) (by decide +kernel) (by decide +kernel) (by decide +kernel)
theorem allAtoms_all (ts : List Jvm.Cond) (a : Array Jvm.Value) (st : Jvm.State) : (allAtoms ts).before a st = ts.all (fun c => c.before a st) := by
  induction ts with
  | nil => rfl
  | cons c t ih =>
    show (Jvm.Cond.and c (allAtoms t)).before a st = _
    rw [Jvm.Cond.before_and, ih, List.all_cons]
def words1 : List Jvm.Cond := Jvm.Cond.code x code maxLocals ret :: tables_1
/-- a 'code' word, met by the world's own term for the bytes: nothing is compared byte by byte -/
theorem code_word {y : MethodName} {bytes : ByteArray} {mx : Nat} {rt : Option FieldType} {a : Array Value} {s : State} {m : MethodId} {meth : Method} {c : Code} (h1 : s.methodNamed? y = some m) (h2 : s.vm.method? m = some meth) (h3 : meth.code = some c) (h4 : c.code = bytes)
    (h5 : (c.maxLocals == mx && c.exceptionTable.isEmpty && decide (c.maxStack ≤ mostOperands) && decide (meth.sig.returnType = rt) && !meth.locks && decide (parseMethodDescriptor y.desc = some meth.sig)) = true) : (Jvm.Cond.code y bytes mx rt).before a s = true := by
  simp only [Bool.and_eq_true, beq_iff_eq, Bool.not_eq_true', decide_eq_true_eq] at h5
  obtain ⟨⟨⟨⟨⟨g1, g2⟩, g3⟩, g4⟩, g5⟩, g6⟩ := h5
  simp [Cond.before, Cond.holds, Cond.value, h1, h2, h3, h4, g1, g2, g3, g4, g5, g6]
def isCode : Jvm.Cond → Bool
  | .code _ _ _ _ => true
  | _ => false
theorem all_split {L : List Jvm.Cond} {P : Jvm.Cond → Bool} (h1 : L.all (fun c => isCode c || P c) = true) (h2 : ∀ c ∈ L.filter isCode, P c = true) : L.all P = true := by
  refine List.all_eq_true.mpr fun c hc => ?_
  have h := List.all_eq_true.mp h1 c hc
  rcases Bool.eq_false_or_eq_true (isCode c) with hi | hi
  · exact h2 c (List.mem_filter.mpr ⟨hc, hi⟩)
  · simpa [hi] using h
set_option maxRecDepth 65536 in
theorem w_c0 : (Jvm.Cond.code x code maxLocals ret).before args0 about1 = true := code_word (m := ⟨1, 1⟩) (meth := k1m1) (c := k1c1) (by decide +kernel) rfl rfl rfl (by decide +kernel)
set_option maxRecDepth 65536 in
theorem w_c1 : (Jvm.Cond.code ({ cls := "com/example/libtxsession/libtxsession/internal/session/PostgresInterval", name := "<init>", desc := "(JJJ)V" } : Jvm.MethodName) prog_35_method_1_code (7 : Nat) (Option.none : Option Jvm.ClassFile.FieldType)).before args0 about1 = true := code_word (m := ⟨3, 0⟩) (meth := k3m0) (c := k3c0) (by decide +kernel) rfl rfl rfl (by decide +kernel)
set_option maxRecDepth 65536 in
theorem w_c2 : (Jvm.Cond.code ({ cls := "java/lang/Record", name := "<init>", desc := "()V" } : Jvm.MethodName) jdk_30_method_1_code (1 : Nat) (Option.none : Option Jvm.ClassFile.FieldType)).before args0 about1 = true := code_word (m := ⟨2, 0⟩) (meth := k2m0) (c := k2c0) (by decide +kernel) rfl rfl rfl (by decide +kernel)
set_option maxRecDepth 65536 in
theorem w_c3 : (Jvm.Cond.code ({ cls := "java/lang/Object", name := "<init>", desc := "()V" } : Jvm.MethodName) object_method_1_code (1 : Nat) (Option.none : Option Jvm.ClassFile.FieldType)).before args0 about1 = true := code_word (m := ⟨0, 0⟩) (meth := k0m0) (c := k0c0) (by decide +kernel) rfl rfl rfl (by decide +kernel)
set_option maxRecDepth 65536 in
theorem w_c4 : (Jvm.Cond.code ({ cls := "com/example/libtxsession/libtxsession/internal/session/PostgresInterval", name := "period", desc := "()Ljava/time/Period;" } : Jvm.MethodName) prog_35_method_4_code (1 : Nat) (Option.some (Jvm.ClassFile.FieldType.object "java/time/Period"))).before args0 about1 = true := code_word (m := ⟨3, 1⟩) (meth := k3m1) (c := k3c1) (by decide +kernel) rfl rfl rfl (by decide +kernel)
set_option maxRecDepth 65536 in
theorem w_c5 : (Jvm.Cond.code ({ cls := "java/time/Period", name := "of", desc := "(III)Ljava/time/Period;" } : Jvm.MethodName) jdk_2336_method_5_code (3 : Nat) (Option.some (Jvm.ClassFile.FieldType.object "java/time/Period"))).before args0 about1 = true := code_word (m := ⟨7, 0⟩) (meth := k7m0) (c := k7c0) (by decide +kernel) rfl rfl rfl (by decide +kernel)
set_option maxRecDepth 65536 in
theorem w_c6 : (Jvm.Cond.code ({ cls := "java/time/Period", name := "create", desc := "(III)Ljava/time/Period;" } : Jvm.MethodName) jdk_2336_method_11_code (3 : Nat) (Option.some (Jvm.ClassFile.FieldType.object "java/time/Period"))).before args0 about1 = true := code_word (m := ⟨7, 1⟩) (meth := k7m1) (c := k7c1) (by decide +kernel) rfl rfl rfl (by decide +kernel)
set_option maxRecDepth 65536 in
theorem w_c7 : (Jvm.Cond.code ({ cls := "java/time/Period", name := "<init>", desc := "(III)V" } : Jvm.MethodName) jdk_2336_method_12_code (4 : Nat) (Option.none : Option Jvm.ClassFile.FieldType)).before args0 about1 = true := code_word (m := ⟨7, 2⟩) (meth := k7m2) (c := k7c2) (by decide +kernel) rfl rfl rfl (by decide +kernel)
set_option maxRecDepth 65536 in
theorem w_c8 : (Jvm.Cond.code ({ cls := "java/time/Period", name := "getYears", desc := "()I" } : Jvm.MethodName) jdk_2336_method_18_code (1 : Nat) (Option.some Jvm.ClassFile.FieldType.int)).before args0 about1 = true := code_word (m := ⟨7, 3⟩) (meth := k7m3) (c := k7c3) (by decide +kernel) rfl rfl rfl (by decide +kernel)
set_option maxRecDepth 65536 in
theorem w_c9 : (Jvm.Cond.code ({ cls := "java/time/Period", name := "getMonths", desc := "()I" } : Jvm.MethodName) jdk_2336_method_19_code (1 : Nat) (Option.some Jvm.ClassFile.FieldType.int)).before args0 about1 = true := code_word (m := ⟨7, 4⟩) (meth := k7m4) (c := k7c4) (by decide +kernel) rfl rfl rfl (by decide +kernel)
set_option maxRecDepth 65536 in
theorem w_c10 : (Jvm.Cond.code ({ cls := "java/time/Period", name := "getDays", desc := "()I" } : Jvm.MethodName) jdk_2336_method_20_code (1 : Nat) (Option.some Jvm.ClassFile.FieldType.int)).before args0 about1 = true := code_word (m := ⟨7, 5⟩) (meth := k7m5) (c := k7c5) (by decide +kernel) rfl rfl rfl (by decide +kernel)
def codes1 : List Jvm.Cond := [Jvm.Cond.code x code maxLocals ret, Jvm.Cond.code ({ cls := "com/example/libtxsession/libtxsession/internal/session/PostgresInterval", name := "<init>", desc := "(JJJ)V" } : Jvm.MethodName) prog_35_method_1_code (7 : Nat) (Option.none : Option Jvm.ClassFile.FieldType), Jvm.Cond.code ({ cls := "java/lang/Record", name := "<init>", desc := "()V" } : Jvm.MethodName) jdk_30_method_1_code (1 : Nat) (Option.none : Option Jvm.ClassFile.FieldType), Jvm.Cond.code ({ cls := "java/lang/Object", name := "<init>", desc := "()V" } : Jvm.MethodName) object_method_1_code (1 : Nat) (Option.none : Option Jvm.ClassFile.FieldType), Jvm.Cond.code ({ cls := "com/example/libtxsession/libtxsession/internal/session/PostgresInterval", name := "period", desc := "()Ljava/time/Period;" } : Jvm.MethodName) prog_35_method_4_code (1 : Nat) (Option.some (Jvm.ClassFile.FieldType.object "java/time/Period")), Jvm.Cond.code ({ cls := "java/time/Period", name := "of", desc := "(III)Ljava/time/Period;" } : Jvm.MethodName) jdk_2336_method_5_code (3 : Nat) (Option.some (Jvm.ClassFile.FieldType.object "java/time/Period")), Jvm.Cond.code ({ cls := "java/time/Period", name := "create", desc := "(III)Ljava/time/Period;" } : Jvm.MethodName) jdk_2336_method_11_code (3 : Nat) (Option.some (Jvm.ClassFile.FieldType.object "java/time/Period")), Jvm.Cond.code ({ cls := "java/time/Period", name := "<init>", desc := "(III)V" } : Jvm.MethodName) jdk_2336_method_12_code (4 : Nat) (Option.none : Option Jvm.ClassFile.FieldType), Jvm.Cond.code ({ cls := "java/time/Period", name := "getYears", desc := "()I" } : Jvm.MethodName) jdk_2336_method_18_code (1 : Nat) (Option.some Jvm.ClassFile.FieldType.int), Jvm.Cond.code ({ cls := "java/time/Period", name := "getMonths", desc := "()I" } : Jvm.MethodName) jdk_2336_method_19_code (1 : Nat) (Option.some Jvm.ClassFile.FieldType.int), Jvm.Cond.code ({ cls := "java/time/Period", name := "getDays", desc := "()I" } : Jvm.MethodName) jdk_2336_method_20_code (1 : Nat) (Option.some Jvm.ClassFile.FieldType.int)]
set_option maxRecDepth 65536 in
theorem codes_eq : words1.filter isCode = codes1 := rfl
theorem w_codes : ∀ c ∈ words1.filter isCode, c.before args0 about1 = true := by
  rw [codes_eq]
  intro c hc
  simp only [codes1, List.mem_cons, List.not_mem_nil, or_false] at hc
  rcases hc with rfl | rfl | rfl | rfl | rfl | rfl | rfl | rfl | rfl | rfl | rfl
  · exact w_c0
  · exact w_c1
  · exact w_c2
  · exact w_c3
  · exact w_c4
  · exact w_c5
  · exact w_c6
  · exact w_c7
  · exact w_c8
  · exact w_c9
  · exact w_c10
set_option maxRecDepth 65536 in
theorem w_t1 : (words1.take 24).all (fun c => isCode c || c.before args0 about1) = true := by decide +kernel
set_option maxRecDepth 65536 in
theorem w_t2 : ((words1.drop 24).take 24).all (fun c => isCode c || c.before args0 about1) = true := by decide +kernel
set_option maxRecDepth 65536 in
theorem w_t3 : ((words1.drop 24).drop 24).all (fun c => isCode c || c.before args0 about1) = true := by decide +kernel
theorem w_tables : (allAtoms (Jvm.Cond.code x code maxLocals ret :: tables_1)).before args0 about1 = true := by
  rw [allAtoms_all]
  show words1.all (fun c => c.before args0 about1) = true
  refine all_split ?_ w_codes
  rw [← List.take_append_drop 24 words1, List.all_append, w_t1, ← List.take_append_drop 24 (words1.drop 24), List.all_append, w_t2, w_t3]
  rfl
set_option maxRecDepth 65536 in
theorem w_rest : rest_1_c.before args0 about1 = true := by decide +kernel
set_option maxRecDepth 65536 in
theorem w_case : (Jvm.Cond.and given_1 narrow_1).before args0 about1 = true := by decide +kernel
theorem w_applies : (headSpec (Jvm.Cond.code x code maxLocals ret :: tables_1) room_1).applies x e0.platform about1 = true :=
  (Spec.applies_iff w_frames).mpr ⟨w_running, w_runnable, w_alone, w_named, w_hears, w_ripe, w_room, w_tables⟩
theorem atStart : AtStart classFile x code maxLocals ret World_1 tables_1 room_1 Calls_1 rest_1 Pre_1 launch0 p0 e0 about1 theMethod args0 below0 :=
  ⟨lists_1, trivial, launch0.admits_env _ _ _, launch0.least_env, fairChoices_fair.cas, fairChoices_fair.clock, w_frames, w_args, w_heap, w_applies, trivial, w_rest, w_case⟩
end start1
theorem witness_1 : WitnessClaimed_1 := ⟨start1.p0, start1.e0, start1.about1, start1.theMethod, start1.args0, start1.below0, start1.atStart⟩
end Jvm.Pilot.@@N@@
