import JvmDerived
import JvmDerived.Pilot.@@N@@Statement
import JvmDerived.Pilot.@@N@@Code
set_option linter.unusedVariables false
set_option linter.unusedSimpArgs false
namespace Jvm.Pilot.@@N@@
open Jvm Jvm.ClassFile Sem Op Lib Jvm.Free Jvm.Stand Jvm.LawKit Jvm.RoadKit Bundle Jvm.Pilot.@@N@@.Jvm.D
/-! a run that ends as a contract says: forks and joins go by it -/
def Goes (p : Program) (e : Env) (below : List Frame) (s : State) (Q : Option Value → Heap → List Loc → Prop) (kc ks : Nat) (A : State) : Prop :=
  ∃ s₂ o, Steps p.tables e below A s₂ ∧ s₂.status = .running ∧ Ended s₂ below o ∧ ∃ v L, o = .returned v ∧ Q v s₂.heap L ∧ FrameEnd s o s₂ L kc ks
section Go
variable {p : Program} {l : Launch} {e : Env} {R : Room} {s : State} {m : MethodId} {args : Array Value} {below : List Frame} {meth : Method} {c : Code} {T : State} {locs : List Loc} {cells slots kc ks : Nat} {Q : Option Value → Heap → List Loc → Prop}
theorem Goes.by {A B : State} (h : ∀ t, Steps p.tables e below B t → Steps p.tables e below A t) (k : Goes p e below s Q kc ks B) : Goes p e below s Q kc ks A := by
  obtain ⟨s₂, o, h1, h2⟩ := k
  exact ⟨s₂, o, h _ h1, h2⟩
theorem Goes.out (X : Stand p l e R s m args below meth c T locs cells slots) (hx : p.tables.exec = Jvm.exec) {pc : Nat} {Ls : Array Slot} {w : Value} {t : FieldType} {i : Instr} {rest : List Value} (hret : meth.sig.returnType = some t) (hn : narrow t w = w)
    (hi : (i = .ireturn ∧ (t = .int ∨ t = .boolean ∨ t = .byte ∨ t = .char ∨ t = .short) ∧ ∃ z, w = .int z) ∨ (i = .lreturn ∧ t = .long ∧ ∃ z, w = .long z) ∨ (i = .dreturn ∧ t = .double ∧ ∃ z, w = .double z) ∨ (i = .freturn ∧ t = .float ∧ ∃ z, w = .float z) ∨ (i = .areturn ∧ t.isReference = true ∧ w.isRef = true))
    (hd : decode c.code pc = .ok (i, 1)) (hlk : meth.locks = false) (hQ : Q (some w) T.heap locs) (hc : cells ≤ kc) (hs : slots ≤ ks) : Goes p e below s Q kc ks (T.setTop (mkF m pc Ls (w :: rest))) := by
  obtain ⟨fs, hr, hrun, hended, hW, hsame⟩ := X.leave (v := some w) (fun h => by rw [hret] at h; cases h) hlk
  exact ⟨_, _, retOut X hx hret hn hi hd hr, hrun, hended, _, _, rfl, hQ, ⟨_, rfl⟩, hW, hsame.mono hc hs⟩
theorem Goes.retI (X : Stand p l e R s m args below meth c T locs cells slots) (hx : p.tables.exec = Jvm.exec) {pc : Nat} {Ls : Array Slot} {z : Int32} {rest : List Value} (hret : meth.sig.returnType = some .int) (hn : True) (hd : decode c.code pc = .ok (.ireturn, 1)) (hlk : meth.locks = false) (hQ : Q (some (.int z)) T.heap locs) (hc : cells ≤ kc) (hs : slots ≤ ks) :
    Goes p e below s Q kc ks (T.setTop (mkF m pc Ls (.int z :: rest))) := Goes.out X hx hret rfl (Or.inl ⟨rfl, Or.inl rfl, z, rfl⟩) hd hlk hQ hc hs
theorem Goes.retN (X : Stand p l e R s m args below meth c T locs cells slots) (hx : p.tables.exec = Jvm.exec) {pc : Nat} {Ls : Array Slot} {z : Int32} {rest : List Value} (hret : meth.sig.returnType = some .boolean) (hn : narrow .boolean (.int z) = .int z) (hd : decode c.code pc = .ok (.ireturn, 1)) (hlk : meth.locks = false) (hQ : Q (some (.int z)) T.heap locs) (hc : cells ≤ kc) (hs : slots ≤ ks) :
    Goes p e below s Q kc ks (T.setTop (mkF m pc Ls (.int z :: rest))) := Goes.out X hx hret hn (Or.inl ⟨rfl, Or.inr (Or.inl rfl), z, rfl⟩) hd hlk hQ hc hs
theorem Goes.retL (X : Stand p l e R s m args below meth c T locs cells slots) (hx : p.tables.exec = Jvm.exec) {pc : Nat} {Ls : Array Slot} {z : Int64} {rest : List Value} (hret : meth.sig.returnType = some .long) (hn : True) (hd : decode c.code pc = .ok (.lreturn, 1)) (hlk : meth.locks = false) (hQ : Q (some (.long z)) T.heap locs) (hc : cells ≤ kc) (hs : slots ≤ ks) :
    Goes p e below s Q kc ks (T.setTop (mkF m pc Ls (.long z :: rest))) := Goes.out X hx hret rfl (Or.inr (Or.inl ⟨rfl, rfl, z, rfl⟩)) hd hlk hQ hc hs
theorem Goes.retD (X : Stand p l e R s m args below meth c T locs cells slots) (hx : p.tables.exec = Jvm.exec) {pc : Nat} {Ls : Array Slot} {z : UInt64} {rest : List Value} (hret : meth.sig.returnType = some .double) (hn : True) (hd : decode c.code pc = .ok (.dreturn, 1)) (hlk : meth.locks = false) (hQ : Q (some (.double z)) T.heap locs) (hc : cells ≤ kc) (hs : slots ≤ ks) :
    Goes p e below s Q kc ks (T.setTop (mkF m pc Ls (.double z :: rest))) := Goes.out X hx hret rfl (Or.inr (Or.inr (Or.inl ⟨rfl, rfl, z, rfl⟩))) hd hlk hQ hc hs
theorem Goes.retA (X : Stand p l e R s m args below meth c T locs cells slots) (hx : p.tables.exec = Jvm.exec) {pc : Nat} {Ls : Array Slot} {w : Value} {t : FieldType} {rest : List Value} (hret : meth.sig.returnType = some t) (ht : t.isReference = true) (hw : w.isRef = true) (hd : decode c.code pc = .ok (.areturn, 1)) (hlk : meth.locks = false) (hQ : Q (some w) T.heap locs) (hc : cells ≤ kc) (hs : slots ≤ ks) :
    Goes p e below s Q kc ks (T.setTop (mkF m pc Ls (w :: rest))) := Goes.out X hx hret (by rcases ref_cases hw with rfl | ⟨a, rfl⟩ <;> cases t <;> first | rfl | (simp [FieldType.isReference] at ht)) (Or.inr (Or.inr (Or.inr (Or.inr ⟨rfl, ht, hw⟩)))) hd hlk hQ hc hs
theorem Goes.retV (X : Stand p l e R s m args below meth c T locs cells slots) (hx : p.tables.exec = Jvm.exec) {pc : Nat} {Ls : Array Slot} (hret : meth.sig.returnType = none) (hd : decode c.code pc = .ok (.return_, 1)) (hlk : meth.locks = false) (hQ : Q none T.heap locs) (hc : cells ≤ kc) (hs : slots ≤ ks) :
    Goes p e below s Q kc ks (T.setTop (mkF m pc Ls [])) := by
  obtain ⟨fs, hr, hrun, hended, hW, hsame⟩ := X.leave (v := none) (fun _ => rfl) hlk
  exact ⟨_, _, X.returnOut hx hret hd hr, hrun, hended, _, _, rfl, hQ, ⟨_, rfl⟩, hW, hsame.mono hc hs⟩
end Go
theorem pd_0 : parseMethodDescriptor "(II)I" = some ⟨[.int, .int], some .int⟩ := by decide +kernel
theorem own_o1 : (1 : Int32).toInt = 1 := by decide
theorem own_left (seat pl left : Int32) (h1 : 0 ≤ seat.toInt) (h2 : seat.toInt < pl.toInt) (h3 : pl.toInt ≤ 1073741824) (hl : (seat = pl - 1 ∧ left = 0) ∨ (¬ seat = pl - 1 ∧ left = seat + 1)) : left = (seat + 1) % pl := by
  have a := c_iadd seat 1
  have b := c_isub pl 1
  have r1 := rng32 (seat + 1)
  have r2 := rng32 (pl - 1)
  have q := (c_iremV (seat + 1) pl).1
  have o1 := own_o1
  have o0 : (0 : Int32).toInt = 0 := by decide
  apply Int32.toInt_inj.mp
  rcases hl with ⟨e, rfl⟩ | ⟨e, rfl⟩
  · have e' := congrArg Int32.toInt e
    omega
  · have e' : seat.toInt ≠ (pl - 1).toInt := fun h => e (Int32.toInt_inj.mp h)
    omega
theorem own_right (seat pl right : Int32) (h1 : 0 ≤ seat.toInt) (h2 : seat.toInt < pl.toInt) (h3 : pl.toInt ≤ 1073741824) (hl : (seat = 0 ∧ right = pl - 1) ∨ (¬ seat = 0 ∧ right = seat - 1)) : right = (seat + pl - 1) % pl := by
  have a := c_iadd seat pl
  have b := c_isub (seat + pl) 1
  have b2 := c_isub pl 1
  have b3 := c_isub seat 1
  have r1 := rng32 (seat + pl)
  have r2 := rng32 (seat + pl - 1)
  have r3 := rng32 (pl - 1)
  have r4 := rng32 (seat - 1)
  have q := (c_iremV (seat + pl - 1) pl).1
  have o1 := own_o1
  have o0 : (0 : Int32).toInt = 0 := by decide
  apply Int32.toInt_inj.mp
  rcases hl with ⟨e, rfl⟩ | ⟨e, rfl⟩
  · have e' := congrArg Int32.toInt e
    omega
  · have e' : seat.toInt ≠ (0 : Int32).toInt := fun h => e (Int32.toInt_inj.mp h)
    omega
theorem own_pl (p : Int32) : 1 ≤ ((p &&& 1073741823) + 1).toInt ∧ ((p &&& 1073741823) + 1).toInt ≤ 1073741824 := by
  have a := c_mask p 1073741823 30 (by decide) (by decide)
  have b := c_iadd (p &&& 1073741823) 1
  have r := rng32 ((p &&& 1073741823) + 1)
  have o1 := own_o1
  omega
theorem own_last (pl : Int32) (h1 : 1 ≤ pl.toInt) (h3 : pl.toInt ≤ 1073741824) : 0 ≤ (pl - 1).toInt ∧ (pl - 1).toInt < pl.toInt := by
  have b := c_isub pl 1
  have r := rng32 (pl - 1)
  have o1 := own_o1
  omega
theorem own_rem (s pl : Int32) (h1 : 1 ≤ pl.toInt) : 0 ≤ ((s &&& 2147483647) % pl).toInt ∧ ((s &&& 2147483647) % pl).toInt < pl.toInt := by
  have a := c_mask s 2147483647 31 (by decide) (by decide)
  have q := (c_iremV (s &&& 2147483647) pl).1
  omega
theorem own_nz (pl : Int32) (h1 : 1 ≤ pl.toInt) : ¬ pl = 0 := fun e => by
  subst e
  have o0 : (0 : Int32).toInt = 0 := by decide
  omega
def Q1 (r : Int32) (h0 : Heap) (n0 : Nat) (v : Option Value) (h : Heap) (L : List Loc) : Prop := v = some (.int r) ∧ Fr n0 L ∧ h = h0
theorem d1_0 : decode prog_21_method_6_code 0 = .ok (.aload_n 0, 1) := by decide +kernel
theorem d1_1 : decode prog_21_method_6_code 1 = .ok (.getstatic 3, 3) := by decide +kernel
theorem d1_4 : decode prog_21_method_6_code 4 = .ok (.if_acmp .ne 11, 3) := by decide +kernel
theorem d1_7 : decode prog_21_method_6_code 7 = .ok (.iload_n 1, 1) := by decide +kernel
theorem d1_8 : decode prog_21_method_6_code 8 = .ok (.iconst 1, 1) := by decide +kernel
theorem d1_9 : decode prog_21_method_6_code 9 = .ok (.iadd, 1) := by decide +kernel
theorem d1_10 : decode prog_21_method_6_code 10 = .ok (.iload_n 2, 1) := by decide +kernel
theorem d1_11 : decode prog_21_method_6_code 11 = .ok (.irem, 1) := by decide +kernel
theorem d1_12 : decode prog_21_method_6_code 12 = .ok (.goto 10, 3) := by decide +kernel
theorem d1_15 : decode prog_21_method_6_code 15 = .ok (.iload_n 1, 1) := by decide +kernel
theorem d1_16 : decode prog_21_method_6_code 16 = .ok (.iload_n 2, 1) := by decide +kernel
theorem d1_17 : decode prog_21_method_6_code 17 = .ok (.iadd, 1) := by decide +kernel
theorem d1_18 : decode prog_21_method_6_code 18 = .ok (.iconst 1, 1) := by decide +kernel
theorem d1_19 : decode prog_21_method_6_code 19 = .ok (.isub, 1) := by decide +kernel
theorem d1_20 : decode prog_21_method_6_code 20 = .ok (.iload_n 2, 1) := by decide +kernel
theorem d1_21 : decode prog_21_method_6_code 21 = .ok (.irem, 1) := by decide +kernel
theorem d1_22 : decode prog_21_method_6_code 22 = .ok (.ireturn, 1) := by decide +kernel
theorem pn_0 : plainName "com/example/lastpip/lastpip/pot/Neighbour" = true := by first | (simp [plainName, overriddenIn]; done) | decide +kernel
theorem ef_rm1 (m : MethodId) (x0 : Addr) (x1 : Int32) (x2 : Int32) : entryFrame m #[(.ref x0), (.int x1), (.int x2)] 3 = mkF m 0 #[.val (.ref x0), .val (.int x1), .val (.int x2)] [] := by first | (simp [entryFrame, mkF, argsToLocals, Value.category]; done) | rfl
set_option maxRecDepth 65536 in
set_option maxHeartbeats 40000000 in
theorem rm1 (l : Launch) (Z : State) (a0 : Array Value) (hw : ∀ d ∈ tables_1, d.before a0 Z = true) (ws : List Jvm.Cond) (a1 : Addr) (p2 p3 : Int32) (wL : Addr) (r : Int32) (h0 : Heap) (n0 : Nat) (Z0 : n0 ≤ h0.size) (SL : Sta Z h0 "com/example/lastpip/lastpip/pot/Neighbour" "LEFT" "Lcom/example/lastpip/lastpip/pot/Neighbour;" (.ref wL)) (hz : ¬ p3 = 0) (hr : r = if a1 = wL then (p2 + 1) % p3 else (p2 + p3 - 1) % p3) :
    MetFree l (⟨"com/example/lastpip/lastpip/pot/Neighbour", "seatOf", "(II)I"⟩ : MethodName) (head1 (Jvm.Cond.code (⟨"com/example/lastpip/lastpip/pot/Neighbour", "seatOf", "(II)I"⟩ : MethodName) prog_21_method_6_code 3 (some .int) :: ws) ({ frames := 0, cells := 0, slots := 0, locals := 0 } : Room)) (fun a U => a = #[(.ref a1), (.int p2), (.int p3)] ∧ Z.Warmed39 U.vm ∧ U.heap = h0) (fun _ _ _ _ _ => True) (fun _ U o U' => ∃ v L, o = .returned v ∧ (Q1 r h0 n0) v U'.heap L ∧ FrameEnd U o U' L ({ frames := 0, cells := 0, slots := 0, locals := 0 } : Room).cells ({ frames := 0, cells := 0, slots := 0, locals := 0 } : Room).slots) := by
  refine MetFree.of_bodySF (plainFor_of_name pn_0) hisR ?_
  intro p e s m args below meth c s₁ Bd hml0 hP hK
  obtain ⟨rfl, hZ, hh⟩ := hP
  have hx := Bd.exec
  have hby := Bd.bytes
  have hlk : meth.locks = false := BodyLoose.notSynchronized Bd
  have hml : c.maxLocals = 3 := hml0
  have hown : s.vm.findClass "com/example/lastpip/lastpip/pot/Neighbour" = some m.cls := findClass_of_methodNamed Bd.named
  have hnm := (name_of_methodNamed Bd.named Bd.method).1
  have X0 : Stand p l e ({ frames := 0, cells := 0, slots := 0, locals := 0 } : Room) s m #[(.ref a1), (.int p2), (.int p3)] below meth c s₁ [] 0 0 := Stand.of_body Bd
  have e0 : s₁.heap = h0 := by rw [← hh, Bd.state]; rfl
  have N0 := Fr.nil n0
  show Goes p e below s (Q1 r h0 n0) ({ frames := 0, cells := 0, slots := 0, locals := 0 } : Room).cells ({ frames := 0, cells := 0, slots := 0, locals := 0 } : Room).slots (s₁.setTop (entryFrame m #[(.ref a1), (.int p2), (.int p3)] 3))
  refine Goes.by (fun t k => castTop (ef_rm1 m a1 p2 p3) k) ?_
  show Goes p e below s _ _ _ (s₁.setTop (mkF m 0 #[.val (.ref a1), .val (.int p2), .val (.int p3)] []))
  refine Goes.by (fun t k => XS.aloadN X0.here hx rfl (hb hby d1_0) rfl rfl k) ?_
  show Goes p e below s _ _ _ (s₁.setTop (mkF m 1 #[.val (.ref a1), .val (.int p2), .val (.int p3)] [(.ref a1)]))
  obtain ⟨T1, X1, e1, st1⟩ := getS2 X0 hx hZ hown (host := "") (Or.inl (hw _ (List.mem_of_getElem? (i := 10) rfl))) Via.refl e0 SL (g := (mkF m 1 #[.val (.ref a1), .val (.int p2), .val (.int p3)] [(.ref a1)])) rfl (hb hby d1_1)
  refine Goes.by (fun t k => st1 t k) ?_
  show Goes p e below s _ _ _ (T1.setTop (mkF m 4 #[.val (.ref a1), .val (.int p2), .val (.int p3)] [(.ref wL), (.ref a1)]))
  by_cases ha : a1 = wL
  · rw [if_pos ha] at hr
    refine Goes.by (fun t k => Jvm.RoadKit.acmp (g := (mkF m 4 #[.val (.ref a1), .val (.int p2), .val (.int p3)] [(.ref wL), (.ref a1)])) X1 hx rfl rfl rfl (pc0 := 4) (pc' := 7) (same := true) rfl (hb hby d1_4) rfl (decide_eq_true (congrArg Value.ref ha)) (by decide) (by decide) k) ?_
    show Goes p e below s _ _ _ (T1.setTop (mkF m 7 #[.val (.ref a1), .val (.int p2), .val (.int p3)] []))
    refine Goes.by (fun t k => XS.iloadN X1.here hx rfl (hb hby d1_7) rfl k) ?_
    show Goes p e below s _ _ _ (T1.setTop (mkF m 8 #[.val (.ref a1), .val (.int p2), .val (.int p3)] [(.int p2)]))
    refine Goes.by (fun t k => XS.iconst X1.here hx rfl (hb hby d1_8) k) ?_
    show Goes p e below s _ _ _ (T1.setTop (mkF m 9 #[.val (.ref a1), .val (.int p2), .val (.int p3)] [(.int (1 : Int32)), (.int p2)]))
    refine Goes.by (fun t k => XS.iadd X1.here hx rfl (hb hby d1_9) rfl k) ?_
    show Goes p e below s _ _ _ (T1.setTop (mkF m 10 #[.val (.ref a1), .val (.int p2), .val (.int p3)] [(.int (p2 + (1 : Int32)))]))
    refine Goes.by (fun t k => XS.iloadN X1.here hx rfl (hb hby d1_10) rfl k) ?_
    show Goes p e below s _ _ _ (T1.setTop (mkF m 11 #[.val (.ref a1), .val (.int p2), .val (.int p3)] [(.int p3), (.int (p2 + (1 : Int32)))]))
    refine Goes.by (fun t k => Jvm.RoadKit.iremM X1 hx rfl (hb hby d1_11) rfl (hz) k) ?_
    show Goes p e below s _ _ _ (T1.setTop (mkF m 12 #[.val (.ref a1), .val (.int p2), .val (.int p3)] [(.int ((p2 + (1 : Int32)) % p3))]))
    refine Goes.by (fun t k => XS.goto X1.here hx rfl (pc0 := 12) (pc' := 22) rfl (hb hby d1_12) (by decide) (by decide) k) ?_
    show Goes p e below s _ _ _ (T1.setTop (mkF m 22 #[.val (.ref a1), .val (.int p2), .val (.int p3)] [(.int ((p2 + (1 : Int32)) % p3))]))
    exact Goes.retI X1 hx Bd.returns trivial (hb hby d1_22) hlk (by rw [e1]; exact ⟨by rw [hr], N0, rfl⟩) (by decide) (by decide)
  · rw [if_neg ha] at hr
    refine Goes.by (fun t k => Jvm.RoadKit.acmp (g := (mkF m 4 #[.val (.ref a1), .val (.int p2), .val (.int p3)] [(.ref wL), (.ref a1)])) X1 hx rfl rfl rfl (pc0 := 4) (pc' := 15) (same := false) rfl (hb hby d1_4) rfl (decide_eq_false fun q => ha (Value.ref.inj q)) (by decide) (by decide) k) ?_
    show Goes p e below s _ _ _ (T1.setTop (mkF m 15 #[.val (.ref a1), .val (.int p2), .val (.int p3)] []))
    refine Goes.by (fun t k => XS.iloadN X1.here hx rfl (hb hby d1_15) rfl k) ?_
    show Goes p e below s _ _ _ (T1.setTop (mkF m 16 #[.val (.ref a1), .val (.int p2), .val (.int p3)] [(.int p2)]))
    refine Goes.by (fun t k => XS.iloadN X1.here hx rfl (hb hby d1_16) rfl k) ?_
    show Goes p e below s _ _ _ (T1.setTop (mkF m 17 #[.val (.ref a1), .val (.int p2), .val (.int p3)] [(.int p3), (.int p2)]))
    refine Goes.by (fun t k => XS.iadd X1.here hx rfl (hb hby d1_17) rfl k) ?_
    show Goes p e below s _ _ _ (T1.setTop (mkF m 18 #[.val (.ref a1), .val (.int p2), .val (.int p3)] [(.int (p2 + p3))]))
    refine Goes.by (fun t k => XS.iconst X1.here hx rfl (hb hby d1_18) k) ?_
    show Goes p e below s _ _ _ (T1.setTop (mkF m 19 #[.val (.ref a1), .val (.int p2), .val (.int p3)] [(.int (1 : Int32)), (.int (p2 + p3))]))
    refine Goes.by (fun t k => XS.isub X1.here hx rfl (hb hby d1_19) rfl k) ?_
    show Goes p e below s _ _ _ (T1.setTop (mkF m 20 #[.val (.ref a1), .val (.int p2), .val (.int p3)] [(.int ((p2 + p3) - (1 : Int32)))]))
    refine Goes.by (fun t k => XS.iloadN X1.here hx rfl (hb hby d1_20) rfl k) ?_
    show Goes p e below s _ _ _ (T1.setTop (mkF m 21 #[.val (.ref a1), .val (.int p2), .val (.int p3)] [(.int p3), (.int ((p2 + p3) - (1 : Int32)))]))
    refine Goes.by (fun t k => Jvm.RoadKit.iremM X1 hx rfl (hb hby d1_21) rfl (hz) k) ?_
    show Goes p e below s _ _ _ (T1.setTop (mkF m 22 #[.val (.ref a1), .val (.int p2), .val (.int p3)] [(.int (((p2 + p3) - (1 : Int32)) % p3))]))
    exact Goes.retI X1 hx Bd.returns trivial (hb hby d1_22) hlk (by rw [e1]; exact ⟨by rw [hr], N0, rfl⟩) (by decide) (by decide)
def Q0 (n0 : Nat) (v : Option Value) (h : Heap) (L : List Loc) : Prop := v = some (.int 1) ∧ Fr n0 L
theorem pn_1 : plainName "com/example/lastpip/lastpip/pot/NeighbourSeatOfPinLaw" = true := by first | (simp [plainName, overriddenIn]; done) | decide +kernel
theorem ef_rm0 (m : MethodId) (x0 : Int32) (x1 : Int32) (x2 : Int32) : entryFrame m #[(.int x0), (.int x1), (.int x2)] maxLocals = mkF m 0 #[.val (.int x0), .val (.int x1), .val (.int x2), .unset, .unset, .unset, .unset, .unset] [] := by first | (simp [entryFrame, mkF, argsToLocals, Value.category, maxLocals]; done) | rfl
set_option maxRecDepth 65536 in
set_option maxHeartbeats 40000000 in
theorem rm0 (l : Launch) (Z : State) (a0 : Array Value) (hw : ∀ d ∈ tables_1, d.before a0 Z = true) (ws : List Jvm.Cond) (p0 p1 p2 : Int32) (wL wR : Addr) (h0 : Heap) (n0 : Nat) (Z0 : n0 ≤ h0.size) (SL : Sta Z h0 "com/example/lastpip/lastpip/pot/Neighbour" "LEFT" "Lcom/example/lastpip/lastpip/pot/Neighbour;" (.ref wL)) (SR : Sta Z h0 "com/example/lastpip/lastpip/pot/Neighbour" "RIGHT" "Lcom/example/lastpip/lastpip/pot/Neighbour;" (.ref wR)) (EL : Exa Z h0 wL "com/example/lastpip/lastpip/pot/Neighbour") (ER : Exa Z h0 wR "com/example/lastpip/lastpip/pot/Neighbour") (hne : wR ≠ wL) :
    MetFree l x (head1 (Jvm.Cond.code x code maxLocals ret :: ws) room_1) (fun a U => a = #[(.int p0), (.int p1), (.int p2)] ∧ Z.Warmed39 U.vm ∧ U.heap = h0) (fun _ _ _ _ _ => True) (fun _ U o U' => ∃ v L, o = .returned v ∧ (Q0 n0) v U'.heap L ∧ FrameEnd U o U' L room_1.cells room_1.slots) := by
  refine MetFree.of_bodySF (plainFor_of_name pn_1) hisR ?_
  intro p e s m args below meth c s₁ Bd hml0 hP hK
  obtain ⟨rfl, hZ, hh⟩ := hP
  have hx := Bd.exec
  have hby := Bd.bytes
  have hlk : meth.locks = false := BodyLoose.notSynchronized Bd
  have hml : c.maxLocals = 8 := hml0
  have hown : s.vm.findClass "com/example/lastpip/lastpip/pot/NeighbourSeatOfPinLaw" = some m.cls := findClass_of_methodNamed Bd.named
  have hnm := (name_of_methodNamed Bd.named Bd.method).1
  have X0 : Stand p l e room_1 s m #[(.int p0), (.int p1), (.int p2)] below meth c s₁ [] 0 0 := Stand.of_body Bd
  have e0 : s₁.heap = h0 := by rw [← hh, Bd.state]; rfl
  have N0 := Fr.nil n0
  show Goes p e below s (Q0 n0) room_1.cells room_1.slots (s₁.setTop (entryFrame m #[(.int p0), (.int p1), (.int p2)] maxLocals))
  refine Goes.by (fun t k => castTop (ef_rm0 m p0 p1 p2) k) ?_
  show Goes p e below s _ _ _ (s₁.setTop (mkF m 0 #[.val (.int p0), .val (.int p1), .val (.int p2), .unset, .unset, .unset, .unset, .unset] []))
  refine Goes.by (fun t k => XS.iloadN X0.here hx rfl (hb hby at_0) rfl k) ?_
  show Goes p e below s _ _ _ (s₁.setTop (mkF m 1 #[.val (.int p0), .val (.int p1), .val (.int p2), .unset, .unset, .unset, .unset, .unset] [(.int p1)]))
  refine Goes.by (fun t k => X0.ldcInt hx hown (mvT hZ (hw _ (List.mem_of_getElem? (i := 0) rfl))) (g := (mkF m 1 #[.val (.int p0), .val (.int p1), .val (.int p2), .unset, .unset, .unset, .unset, .unset] [(.int p1)])) rfl (hb hby at_1) _ k) ?_
  show Goes p e below s _ _ _ (s₁.setTop (mkF m 3 #[.val (.int p0), .val (.int p1), .val (.int p2), .unset, .unset, .unset, .unset, .unset] [(.int (1073741823 : Int32)), (.int p1)]))
  refine Goes.by (fun t k => XS.iand X0.here hx rfl (hb hby at_3) rfl k) ?_
  show Goes p e below s _ _ _ (s₁.setTop (mkF m 4 #[.val (.int p0), .val (.int p1), .val (.int p2), .unset, .unset, .unset, .unset, .unset] [(.int (p1 &&& (1073741823 : Int32)))]))
  refine Goes.by (fun t k => XS.iconst X0.here hx rfl (hb hby at_4) k) ?_
  show Goes p e below s _ _ _ (s₁.setTop (mkF m 5 #[.val (.int p0), .val (.int p1), .val (.int p2), .unset, .unset, .unset, .unset, .unset] [(.int (1 : Int32)), (.int (p1 &&& (1073741823 : Int32)))]))
  refine Goes.by (fun t k => XS.iadd X0.here hx rfl (hb hby at_5) rfl k) ?_
  show Goes p e below s _ _ _ (s₁.setTop (mkF m 6 #[.val (.int p0), .val (.int p1), .val (.int p2), .unset, .unset, .unset, .unset, .unset] [(.int ((p1 &&& (1073741823 : Int32)) + (1 : Int32)))]))
  refine Goes.by (fun t k => XS.istoreN X0.here hx rfl (hb hby at_6) rfl (l' := #[.val (.int p0), .val (.int p1), .val (.int p2), .val (.int ((p1 &&& (1073741823 : Int32)) + (1 : Int32))), .unset, .unset, .unset, .unset]) rfl k) ?_
  show Goes p e below s _ _ _ (s₁.setTop (mkF m 7 #[.val (.int p0), .val (.int p1), .val (.int p2), .val (.int ((p1 &&& (1073741823 : Int32)) + (1 : Int32))), .unset, .unset, .unset, .unset] []))
  have hpp := own_pl p1
  generalize ((p1 &&& (1073741823 : Int32)) + (1 : Int32)) = pl at hpp ⊢
  obtain ⟨hp1, hp2⟩ := hpp
  show Goes p e below s _ _ _ (s₁.setTop (mkF m 7 #[.val (.int p0), .val (.int p1), .val (.int p2), .val (.int pl), .unset, .unset, .unset, .unset] []))
  refine Goes.by (fun t k => XS.iloadN X0.here hx rfl (hb hby at_7) rfl k) ?_
  show Goes p e below s _ _ _ (s₁.setTop (mkF m 8 #[.val (.int p0), .val (.int p1), .val (.int p2), .val (.int pl), .unset, .unset, .unset, .unset] [(.int p2)]))
  refine Goes.by (fun t k => XS.iconst X0.here hx rfl (hb hby at_8) k) ?_
  show Goes p e below s _ _ _ (s₁.setTop (mkF m 9 #[.val (.int p0), .val (.int p1), .val (.int p2), .val (.int pl), .unset, .unset, .unset, .unset] [(.int (3 : Int32)), (.int p2)]))
  refine Goes.by (fun t k => XS.iand X0.here hx rfl (hb hby at_9) rfl k) ?_
  show Goes p e below s _ _ _ (s₁.setTop (mkF m 10 #[.val (.int p0), .val (.int p1), .val (.int p2), .val (.int pl), .unset, .unset, .unset, .unset] [(.int (p2 &&& (3 : Int32)))]))
  refine Goes.by (fun t k => XS.istore X0.here hx rfl (hb hby at_10) rfl (l' := #[.val (.int p0), .val (.int p1), .val (.int p2), .val (.int pl), .val (.int (p2 &&& (3 : Int32))), .unset, .unset, .unset]) rfl k) ?_
  show Goes p e below s _ _ _ (s₁.setTop (mkF m 12 #[.val (.int p0), .val (.int p1), .val (.int p2), .val (.int pl), .val (.int (p2 &&& (3 : Int32))), .unset, .unset, .unset] []))
  generalize hmd : (p2 &&& (3 : Int32)) = md
  show Goes p e below s _ _ _ (s₁.setTop (mkF m 12 #[.val (.int p0), .val (.int p1), .val (.int p2), .val (.int pl), .val (.int md), .unset, .unset, .unset] []))
  have J84 : ∀ seat left right : Int32, 0 ≤ seat.toInt → seat.toInt < pl.toInt → ((seat = pl - 1 ∧ left = 0) ∨ (¬ seat = pl - 1 ∧ left = seat + 1)) → ((seat = 0 ∧ right = pl - 1) ∨ (¬ seat = 0 ∧ right = seat - 1)) → Goes p e below s (Q0 n0) room_1.cells room_1.slots (s₁.setTop (mkF m 84 #[.val (.int p0), .val (.int p1), .val (.int p2), .val (.int pl), .val (.int md), .val (.int seat), .val (.int left), .val (.int right)] [])) := by
    intro seat left right k1 k2 k3 k4
    obtain ⟨T1, X1, e1, st1⟩ := getS2 X0 hx hZ hown (host := "") (Or.inl (hw _ (List.mem_of_getElem? (i := 2) rfl))) Via.refl e0 SL (g := (mkF m 84 #[.val (.int p0), .val (.int p1), .val (.int p2), .val (.int pl), .val (.int md), .val (.int seat), .val (.int left), .val (.int right)] [])) rfl (hb hby at_84)
    refine Goes.by (fun t k => st1 t k) ?_
    show Goes p e below s _ _ _ (T1.setTop (mkF m 87 #[.val (.int p0), .val (.int p1), .val (.int p2), .val (.int pl), .val (.int md), .val (.int seat), .val (.int left), .val (.int right)] [(.ref wL)]))
    refine Goes.by (fun t k => XS.iload X1.here hx rfl (hb hby at_87) rfl k) ?_
    show Goes p e below s _ _ _ (T1.setTop (mkF m 89 #[.val (.int p0), .val (.int p1), .val (.int p2), .val (.int pl), .val (.int md), .val (.int seat), .val (.int left), .val (.int right)] [(.int seat), (.ref wL)]))
    refine Goes.by (fun t k => XS.iloadN X1.here hx rfl (hb hby at_89) rfl k) ?_
    show Goes p e below s _ _ _ (T1.setTop (mkF m 90 #[.val (.int p0), .val (.int p1), .val (.int p2), .val (.int pl), .val (.int md), .val (.int seat), .val (.int left), .val (.int right)] [(.int pl), (.int seat), (.ref wL)]))
    obtain ⟨cq2, kq2, q2a, q2b, q2c⟩ := isOf hZ e1 (EL)
    obtain ⟨_, _, ⟨T2, L2, k2, n2⟩, -, X2, ⟨Lc2, hQ2, l2, y2, z2⟩, st2⟩ := X1.virtualBack hx (y := (⟨"com/example/lastpip/lastpip/pot/Neighbour", "seatOf", "(II)I"⟩ : MethodName)) (z := (⟨"com/example/lastpip/lastpip/pot/Neighbour", "seatOf", "(II)I"⟩ : MethodName)) hown (mvT hZ (hw _ (List.mem_of_getElem? (i := 5) rfl))) (mvT hZ (hw _ (List.mem_of_getElem? (i := 6) rfl))) (notFace_of_selects (args := #[]) (mvT hZ (hw _ (List.mem_of_getElem? (i := 8) rfl)))) (mvT hZ (hw _ (List.mem_of_getElem? (i := 8) rfl))) (mvT hZ (hw _ (List.mem_of_getElem? (i := 7) rfl))) (by decide) (backOf (W := 0) (rm1 l Z a0 hw [] wL seat pl wL left h0 n0 Z0 SL (own_nz pl hp1) (by rw [if_pos rfl]; exact own_left seat pl left k1 k2 hp2 k3)) hZ (hw _ (List.mem_of_getElem? (i := 9) rfl)) (hw _ (List.mem_of_getElem? (i := 3) rfl)) (by decide) (by decide)) q2a q2c (g := (mkF m 90 #[.val (.int p0), .val (.int p1), .val (.int p2), .val (.int pl), .val (.int md), .val (.int seat), .val (.int left), .val (.int right)] [(.int pl), (.int seat), (.ref wL)])) rfl (by rw [hml]; rfl) (Steps.refl _) (argsL := [(.int seat), (.int pl)]) (rest := []) (lenOf pd_0 rfl) rfl (by show 2 * 0 + _ ≤ _; exact Nat.le_of_eq rfl) (hb hby at_90) (fun _ _ => ⟨rfl, e1, (by decide : 0 + 0 ≤ _), (by decide : 0 + 0 ≤ _)⟩)
    dsimp only [Pt.U, Pt.locs, Pt.cells, Pt.slots] at X2 l2 y2 z2 st2 hQ2
    subst l2 y2 z2
    obtain ⟨rfl, N2q, hh2⟩ := hQ2
    have N2 := Fr.app N0 N2q
    refine Goes.by (fun t k => st2.trans k) ?_
    show Goes p e below s _ _ _ (T2.setTop (mkF m 93 #[.val (.int p0), .val (.int p1), .val (.int p2), .val (.int pl), .val (.int md), .val (.int seat), .val (.int left), .val (.int right)] [(.int left)]))
    refine Goes.by (fun t k => XS.iload X2.here hx rfl (hb hby at_93) rfl k) ?_
    show Goes p e below s _ _ _ (T2.setTop (mkF m 95 #[.val (.int p0), .val (.int p1), .val (.int p2), .val (.int pl), .val (.int md), .val (.int seat), .val (.int left), .val (.int right)] [(.int left), (.int left)]))
    refine Goes.by (fun t k => XS.icmpNo X2.here hx rfl (hb hby at_95) rfl (teq (rfl)).2 k) ?_
    show Goes p e below s _ _ _ (T2.setTop (mkF m 98 #[.val (.int p0), .val (.int p1), .val (.int p2), .val (.int pl), .val (.int md), .val (.int seat), .val (.int left), .val (.int right)] []))
    obtain ⟨T3, X3, e3, st3⟩ := getS2 X2 hx hZ hown (host := "") (Or.inl (hw _ (List.mem_of_getElem? (i := 11) rfl))) Via.refl rfl (by rw [hh2]; exact SR) (g := (mkF m 98 #[.val (.int p0), .val (.int p1), .val (.int p2), .val (.int pl), .val (.int md), .val (.int seat), .val (.int left), .val (.int right)] [])) rfl (hb hby at_98)
    refine Goes.by (fun t k => st3 t k) ?_
    show Goes p e below s _ _ _ (T3.setTop (mkF m 101 #[.val (.int p0), .val (.int p1), .val (.int p2), .val (.int pl), .val (.int md), .val (.int seat), .val (.int left), .val (.int right)] [(.ref wR)]))
    refine Goes.by (fun t k => XS.iload X3.here hx rfl (hb hby at_101) rfl k) ?_
    show Goes p e below s _ _ _ (T3.setTop (mkF m 103 #[.val (.int p0), .val (.int p1), .val (.int p2), .val (.int pl), .val (.int md), .val (.int seat), .val (.int left), .val (.int right)] [(.int seat), (.ref wR)]))
    refine Goes.by (fun t k => XS.iloadN X3.here hx rfl (hb hby at_103) rfl k) ?_
    show Goes p e below s _ _ _ (T3.setTop (mkF m 104 #[.val (.int p0), .val (.int p1), .val (.int p2), .val (.int pl), .val (.int md), .val (.int seat), .val (.int left), .val (.int right)] [(.int pl), (.int seat), (.ref wR)]))
    obtain ⟨cq4, kq4, q4a, q4b, q4c⟩ := isOf hZ e3 (show Exa Z T2.heap wR _ by rw [hh2]; exact ER)
    obtain ⟨_, _, ⟨T4, L4, k4, n4⟩, -, X4, ⟨Lc4, hQ4, l4, y4, z4⟩, st4⟩ := X3.virtualBack hx (y := (⟨"com/example/lastpip/lastpip/pot/Neighbour", "seatOf", "(II)I"⟩ : MethodName)) (z := (⟨"com/example/lastpip/lastpip/pot/Neighbour", "seatOf", "(II)I"⟩ : MethodName)) hown (mvT hZ (hw _ (List.mem_of_getElem? (i := 5) rfl))) (mvT hZ (hw _ (List.mem_of_getElem? (i := 6) rfl))) (notFace_of_selects (args := #[]) (mvT hZ (hw _ (List.mem_of_getElem? (i := 8) rfl)))) (mvT hZ (hw _ (List.mem_of_getElem? (i := 8) rfl))) (mvT hZ (hw _ (List.mem_of_getElem? (i := 7) rfl))) (by decide) (backOf (W := 0) (rm1 l Z a0 hw [] wR seat pl wL right T2.heap n0 (by rw [hh2]; exact Z0) (by rw [hh2]; exact SL) (own_nz pl hp1) (by rw [if_neg hne]; exact own_right seat pl right k1 k2 hp2 k4)) hZ (hw _ (List.mem_of_getElem? (i := 9) rfl)) (hw _ (List.mem_of_getElem? (i := 3) rfl)) (by decide) (by decide)) q4a q4c (g := (mkF m 104 #[.val (.int p0), .val (.int p1), .val (.int p2), .val (.int pl), .val (.int md), .val (.int seat), .val (.int left), .val (.int right)] [(.int pl), (.int seat), (.ref wR)])) rfl (by rw [hml]; rfl) (Steps.refl _) (argsL := [(.int seat), (.int pl)]) (rest := []) (lenOf pd_0 rfl) rfl (by show 2 * 0 + _ ≤ _; exact Nat.le_of_eq rfl) (hb hby at_104) (fun _ _ => ⟨rfl, e3, (by decide : 0 + 0 ≤ _), (by decide : 0 + 0 ≤ _)⟩)
    dsimp only [Pt.U, Pt.locs, Pt.cells, Pt.slots] at X4 l4 y4 z4 st4 hQ4
    subst l4 y4 z4
    obtain ⟨rfl, N4q, hk4⟩ := hQ4
    have N4 := Fr.app N2 N4q
    refine Goes.by (fun t k => st4.trans k) ?_
    show Goes p e below s _ _ _ (T4.setTop (mkF m 107 #[.val (.int p0), .val (.int p1), .val (.int p2), .val (.int pl), .val (.int md), .val (.int seat), .val (.int left), .val (.int right)] [(.int right)]))
    refine Goes.by (fun t k => XS.iload X4.here hx rfl (hb hby at_107) rfl k) ?_
    show Goes p e below s _ _ _ (T4.setTop (mkF m 109 #[.val (.int p0), .val (.int p1), .val (.int p2), .val (.int pl), .val (.int md), .val (.int seat), .val (.int left), .val (.int right)] [(.int right), (.int right)]))
    refine Goes.by (fun t k => XS.icmpNo X4.here hx rfl (hb hby at_109) rfl (teq (rfl)).2 k) ?_
    show Goes p e below s _ _ _ (T4.setTop (mkF m 112 #[.val (.int p0), .val (.int p1), .val (.int p2), .val (.int pl), .val (.int md), .val (.int seat), .val (.int left), .val (.int right)] []))
    refine Goes.by (fun t k => XS.iconst X4.here hx rfl (hb hby at_112) k) ?_
    show Goes p e below s _ _ _ (T4.setTop (mkF m 113 #[.val (.int p0), .val (.int p1), .val (.int p2), .val (.int pl), .val (.int md), .val (.int seat), .val (.int left), .val (.int right)] [(.int (1 : Int32))]))
    refine Goes.by (fun t k => XS.goto X4.here hx rfl (pc0 := 113) (pc' := 117) rfl (hb hby at_113) (by decide) (by decide) k) ?_
    show Goes p e below s _ _ _ (T4.setTop (mkF m 117 #[.val (.int p0), .val (.int p1), .val (.int p2), .val (.int pl), .val (.int md), .val (.int seat), .val (.int left), .val (.int right)] [(.int (1 : Int32))]))
    exact Goes.retN X4 hx Bd.returns rfl (hb hby at_117) hlk (by exact ⟨rfl, N4⟩) (by decide) (by decide)
  have J65 : ∀ seat left : Int32, 0 ≤ seat.toInt → seat.toInt < pl.toInt → ((seat = pl - 1 ∧ left = 0) ∨ (¬ seat = pl - 1 ∧ left = seat + 1)) → Goes p e below s (Q0 n0) room_1.cells room_1.slots (s₁.setTop (mkF m 65 #[.val (.int p0), .val (.int p1), .val (.int p2), .val (.int pl), .val (.int md), .val (.int seat), .val (.int left), .unset] [])) := by
    intro seat left k1 k2 k3
    refine Goes.by (fun t k => XS.iload X0.here hx rfl (hb hby at_65) rfl k) ?_
    show Goes p e below s _ _ _ (s₁.setTop (mkF m 67 #[.val (.int p0), .val (.int p1), .val (.int p2), .val (.int pl), .val (.int md), .val (.int seat), .val (.int left), .unset] [(.int seat)]))
    by_cases hc : seat = (0 : Int32)
    · skip
      refine Goes.by (fun t k => XS.ifNo X0.here hx rfl (hb hby at_67) rfl ((if0 _ _).trans (teq (hc)).2) k) ?_
      show Goes p e below s _ _ _ (s₁.setTop (mkF m 70 #[.val (.int p0), .val (.int p1), .val (.int p2), .val (.int pl), .val (.int md), .val (.int seat), .val (.int left), .unset] []))
      refine Goes.by (fun t k => XS.iloadN X0.here hx rfl (hb hby at_70) rfl k) ?_
      show Goes p e below s _ _ _ (s₁.setTop (mkF m 71 #[.val (.int p0), .val (.int p1), .val (.int p2), .val (.int pl), .val (.int md), .val (.int seat), .val (.int left), .unset] [(.int pl)]))
      refine Goes.by (fun t k => XS.iconst X0.here hx rfl (hb hby at_71) k) ?_
      show Goes p e below s _ _ _ (s₁.setTop (mkF m 72 #[.val (.int p0), .val (.int p1), .val (.int p2), .val (.int pl), .val (.int md), .val (.int seat), .val (.int left), .unset] [(.int (1 : Int32)), (.int pl)]))
      refine Goes.by (fun t k => XS.isub X0.here hx rfl (hb hby at_72) rfl k) ?_
      show Goes p e below s _ _ _ (s₁.setTop (mkF m 73 #[.val (.int p0), .val (.int p1), .val (.int p2), .val (.int pl), .val (.int md), .val (.int seat), .val (.int left), .unset] [(.int (pl - (1 : Int32)))]))
      refine Goes.by (fun t k => XS.istore X0.here hx rfl (hb hby at_73) rfl (l' := #[.val (.int p0), .val (.int p1), .val (.int p2), .val (.int pl), .val (.int md), .val (.int seat), .val (.int left), .val (.int (pl - (1 : Int32)))]) rfl k) ?_
      show Goes p e below s _ _ _ (s₁.setTop (mkF m 75 #[.val (.int p0), .val (.int p1), .val (.int p2), .val (.int pl), .val (.int md), .val (.int seat), .val (.int left), .val (.int (pl - (1 : Int32)))] []))
      refine Goes.by (fun t k => XS.goto X0.here hx rfl (pc0 := 75) (pc' := 84) rfl (hb hby at_75) (by decide) (by decide) k) ?_
      show Goes p e below s _ _ _ (s₁.setTop (mkF m 84 #[.val (.int p0), .val (.int p1), .val (.int p2), .val (.int pl), .val (.int md), .val (.int seat), .val (.int left), .val (.int (pl - (1 : Int32)))] []))
      exact J84 _ _ _ k1 k2 k3 (Or.inl ⟨hc, rfl⟩)
    · skip
      refine Goes.by (fun t k => XS.ifYes X0.here hx rfl (pc0 := 67) (pc' := 78) rfl (hb hby at_67) rfl ((if0 _ _).trans (feq (hc)).2) (by decide) (by decide) k) ?_
      show Goes p e below s _ _ _ (s₁.setTop (mkF m 78 #[.val (.int p0), .val (.int p1), .val (.int p2), .val (.int pl), .val (.int md), .val (.int seat), .val (.int left), .unset] []))
      refine Goes.by (fun t k => XS.iload X0.here hx rfl (hb hby at_78) rfl k) ?_
      show Goes p e below s _ _ _ (s₁.setTop (mkF m 80 #[.val (.int p0), .val (.int p1), .val (.int p2), .val (.int pl), .val (.int md), .val (.int seat), .val (.int left), .unset] [(.int seat)]))
      refine Goes.by (fun t k => XS.iconst X0.here hx rfl (hb hby at_80) k) ?_
      show Goes p e below s _ _ _ (s₁.setTop (mkF m 81 #[.val (.int p0), .val (.int p1), .val (.int p2), .val (.int pl), .val (.int md), .val (.int seat), .val (.int left), .unset] [(.int (1 : Int32)), (.int seat)]))
      refine Goes.by (fun t k => XS.isub X0.here hx rfl (hb hby at_81) rfl k) ?_
      show Goes p e below s _ _ _ (s₁.setTop (mkF m 82 #[.val (.int p0), .val (.int p1), .val (.int p2), .val (.int pl), .val (.int md), .val (.int seat), .val (.int left), .unset] [(.int (seat - (1 : Int32)))]))
      refine Goes.by (fun t k => XS.istore X0.here hx rfl (hb hby at_82) rfl (l' := #[.val (.int p0), .val (.int p1), .val (.int p2), .val (.int pl), .val (.int md), .val (.int seat), .val (.int left), .val (.int (seat - (1 : Int32)))]) rfl k) ?_
      show Goes p e below s _ _ _ (s₁.setTop (mkF m 84 #[.val (.int p0), .val (.int p1), .val (.int p2), .val (.int pl), .val (.int md), .val (.int seat), .val (.int left), .val (.int (seat - (1 : Int32)))] []))
      exact J84 _ _ _ k1 k2 k3 (Or.inr ⟨hc, rfl⟩)
  have J45 : ∀ seat : Int32, 0 ≤ seat.toInt → seat.toInt < pl.toInt → Goes p e below s (Q0 n0) room_1.cells room_1.slots (s₁.setTop (mkF m 45 #[.val (.int p0), .val (.int p1), .val (.int p2), .val (.int pl), .val (.int md), .val (.int seat), .unset, .unset] [])) := by
    intro seat k1 k2
    refine Goes.by (fun t k => XS.iload X0.here hx rfl (hb hby at_45) rfl k) ?_
    show Goes p e below s _ _ _ (s₁.setTop (mkF m 47 #[.val (.int p0), .val (.int p1), .val (.int p2), .val (.int pl), .val (.int md), .val (.int seat), .unset, .unset] [(.int seat)]))
    refine Goes.by (fun t k => XS.iloadN X0.here hx rfl (hb hby at_47) rfl k) ?_
    show Goes p e below s _ _ _ (s₁.setTop (mkF m 48 #[.val (.int p0), .val (.int p1), .val (.int p2), .val (.int pl), .val (.int md), .val (.int seat), .unset, .unset] [(.int pl), (.int seat)]))
    refine Goes.by (fun t k => XS.iconst X0.here hx rfl (hb hby at_48) k) ?_
    show Goes p e below s _ _ _ (s₁.setTop (mkF m 49 #[.val (.int p0), .val (.int p1), .val (.int p2), .val (.int pl), .val (.int md), .val (.int seat), .unset, .unset] [(.int (1 : Int32)), (.int pl), (.int seat)]))
    refine Goes.by (fun t k => XS.isub X0.here hx rfl (hb hby at_49) rfl k) ?_
    show Goes p e below s _ _ _ (s₁.setTop (mkF m 50 #[.val (.int p0), .val (.int p1), .val (.int p2), .val (.int pl), .val (.int md), .val (.int seat), .unset, .unset] [(.int (pl - (1 : Int32))), (.int seat)]))
    by_cases hc : seat = (pl - (1 : Int32))
    · skip
      refine Goes.by (fun t k => XS.icmpNo X0.here hx rfl (hb hby at_50) rfl (teq (hc)).2 k) ?_
      show Goes p e below s _ _ _ (s₁.setTop (mkF m 53 #[.val (.int p0), .val (.int p1), .val (.int p2), .val (.int pl), .val (.int md), .val (.int seat), .unset, .unset] []))
      refine Goes.by (fun t k => XS.iconst X0.here hx rfl (hb hby at_53) k) ?_
      show Goes p e below s _ _ _ (s₁.setTop (mkF m 54 #[.val (.int p0), .val (.int p1), .val (.int p2), .val (.int pl), .val (.int md), .val (.int seat), .unset, .unset] [(.int (0 : Int32))]))
      refine Goes.by (fun t k => XS.istore X0.here hx rfl (hb hby at_54) rfl (l' := #[.val (.int p0), .val (.int p1), .val (.int p2), .val (.int pl), .val (.int md), .val (.int seat), .val (.int (0 : Int32)), .unset]) rfl k) ?_
      show Goes p e below s _ _ _ (s₁.setTop (mkF m 56 #[.val (.int p0), .val (.int p1), .val (.int p2), .val (.int pl), .val (.int md), .val (.int seat), .val (.int (0 : Int32)), .unset] []))
      refine Goes.by (fun t k => XS.goto X0.here hx rfl (pc0 := 56) (pc' := 65) rfl (hb hby at_56) (by decide) (by decide) k) ?_
      show Goes p e below s _ _ _ (s₁.setTop (mkF m 65 #[.val (.int p0), .val (.int p1), .val (.int p2), .val (.int pl), .val (.int md), .val (.int seat), .val (.int (0 : Int32)), .unset] []))
      exact J65 _ _ k1 k2 (Or.inl ⟨hc, rfl⟩)
    · skip
      refine Goes.by (fun t k => XS.icmpYes X0.here hx rfl (pc0 := 50) (pc' := 59) rfl (hb hby at_50) rfl (feq (hc)).2 (by decide) (by decide) k) ?_
      show Goes p e below s _ _ _ (s₁.setTop (mkF m 59 #[.val (.int p0), .val (.int p1), .val (.int p2), .val (.int pl), .val (.int md), .val (.int seat), .unset, .unset] []))
      refine Goes.by (fun t k => XS.iload X0.here hx rfl (hb hby at_59) rfl k) ?_
      show Goes p e below s _ _ _ (s₁.setTop (mkF m 61 #[.val (.int p0), .val (.int p1), .val (.int p2), .val (.int pl), .val (.int md), .val (.int seat), .unset, .unset] [(.int seat)]))
      refine Goes.by (fun t k => XS.iconst X0.here hx rfl (hb hby at_61) k) ?_
      show Goes p e below s _ _ _ (s₁.setTop (mkF m 62 #[.val (.int p0), .val (.int p1), .val (.int p2), .val (.int pl), .val (.int md), .val (.int seat), .unset, .unset] [(.int (1 : Int32)), (.int seat)]))
      refine Goes.by (fun t k => XS.iadd X0.here hx rfl (hb hby at_62) rfl k) ?_
      show Goes p e below s _ _ _ (s₁.setTop (mkF m 63 #[.val (.int p0), .val (.int p1), .val (.int p2), .val (.int pl), .val (.int md), .val (.int seat), .unset, .unset] [(.int (seat + (1 : Int32)))]))
      refine Goes.by (fun t k => XS.istore X0.here hx rfl (hb hby at_63) rfl (l' := #[.val (.int p0), .val (.int p1), .val (.int p2), .val (.int pl), .val (.int md), .val (.int seat), .val (.int (seat + (1 : Int32))), .unset]) rfl k) ?_
      show Goes p e below s _ _ _ (s₁.setTop (mkF m 65 #[.val (.int p0), .val (.int p1), .val (.int p2), .val (.int pl), .val (.int md), .val (.int seat), .val (.int (seat + (1 : Int32))), .unset] []))
      exact J65 _ _ k1 k2 (Or.inr ⟨hc, rfl⟩)
  refine Goes.by (fun t k => XS.iload X0.here hx rfl (hb hby at_12) rfl k) ?_
  show Goes p e below s _ _ _ (s₁.setTop (mkF m 14 #[.val (.int p0), .val (.int p1), .val (.int p2), .val (.int pl), .val (.int md), .unset, .unset, .unset] [(.int md)]))
  by_cases hc : md = (0 : Int32)
  · skip
    refine Goes.by (fun t k => XS.ifNo X0.here hx rfl (hb hby at_14) rfl ((if0 _ _).trans (teq (hc)).2) k) ?_
    show Goes p e below s _ _ _ (s₁.setTop (mkF m 17 #[.val (.int p0), .val (.int p1), .val (.int p2), .val (.int pl), .val (.int md), .unset, .unset, .unset] []))
    refine Goes.by (fun t k => XS.iconst X0.here hx rfl (hb hby at_17) k) ?_
    show Goes p e below s _ _ _ (s₁.setTop (mkF m 18 #[.val (.int p0), .val (.int p1), .val (.int p2), .val (.int pl), .val (.int md), .unset, .unset, .unset] [(.int (0 : Int32))]))
    refine Goes.by (fun t k => XS.istore X0.here hx rfl (hb hby at_18) rfl (l' := #[.val (.int p0), .val (.int p1), .val (.int p2), .val (.int pl), .val (.int md), .val (.int (0 : Int32)), .unset, .unset]) rfl k) ?_
    show Goes p e below s _ _ _ (s₁.setTop (mkF m 20 #[.val (.int p0), .val (.int p1), .val (.int p2), .val (.int pl), .val (.int md), .val (.int (0 : Int32)), .unset, .unset] []))
    refine Goes.by (fun t k => XS.goto X0.here hx rfl (pc0 := 20) (pc' := 45) rfl (hb hby at_20) (by decide) (by decide) k) ?_
    show Goes p e below s _ _ _ (s₁.setTop (mkF m 45 #[.val (.int p0), .val (.int p1), .val (.int p2), .val (.int pl), .val (.int md), .val (.int (0 : Int32)), .unset, .unset] []))
    exact J45 _ (by decide) (Int.lt_of_lt_of_le (by decide) hp1)
  · skip
    refine Goes.by (fun t k => XS.ifYes X0.here hx rfl (pc0 := 14) (pc' := 23) rfl (hb hby at_14) rfl ((if0 _ _).trans (feq (hc)).2) (by decide) (by decide) k) ?_
    show Goes p e below s _ _ _ (s₁.setTop (mkF m 23 #[.val (.int p0), .val (.int p1), .val (.int p2), .val (.int pl), .val (.int md), .unset, .unset, .unset] []))
    refine Goes.by (fun t k => XS.iload X0.here hx rfl (hb hby at_23) rfl k) ?_
    show Goes p e below s _ _ _ (s₁.setTop (mkF m 25 #[.val (.int p0), .val (.int p1), .val (.int p2), .val (.int pl), .val (.int md), .unset, .unset, .unset] [(.int md)]))
    refine Goes.by (fun t k => XS.iconst X0.here hx rfl (hb hby at_25) k) ?_
    show Goes p e below s _ _ _ (s₁.setTop (mkF m 26 #[.val (.int p0), .val (.int p1), .val (.int p2), .val (.int pl), .val (.int md), .unset, .unset, .unset] [(.int (1 : Int32)), (.int md)]))
    by_cases hd : md = (1 : Int32)
    · skip
      refine Goes.by (fun t k => XS.icmpNo X0.here hx rfl (hb hby at_26) rfl (teq (hd)).2 k) ?_
      show Goes p e below s _ _ _ (s₁.setTop (mkF m 29 #[.val (.int p0), .val (.int p1), .val (.int p2), .val (.int pl), .val (.int md), .unset, .unset, .unset] []))
      refine Goes.by (fun t k => XS.iloadN X0.here hx rfl (hb hby at_29) rfl k) ?_
      show Goes p e below s _ _ _ (s₁.setTop (mkF m 30 #[.val (.int p0), .val (.int p1), .val (.int p2), .val (.int pl), .val (.int md), .unset, .unset, .unset] [(.int pl)]))
      refine Goes.by (fun t k => XS.iconst X0.here hx rfl (hb hby at_30) k) ?_
      show Goes p e below s _ _ _ (s₁.setTop (mkF m 31 #[.val (.int p0), .val (.int p1), .val (.int p2), .val (.int pl), .val (.int md), .unset, .unset, .unset] [(.int (1 : Int32)), (.int pl)]))
      refine Goes.by (fun t k => XS.isub X0.here hx rfl (hb hby at_31) rfl k) ?_
      show Goes p e below s _ _ _ (s₁.setTop (mkF m 32 #[.val (.int p0), .val (.int p1), .val (.int p2), .val (.int pl), .val (.int md), .unset, .unset, .unset] [(.int (pl - (1 : Int32)))]))
      refine Goes.by (fun t k => XS.istore X0.here hx rfl (hb hby at_32) rfl (l' := #[.val (.int p0), .val (.int p1), .val (.int p2), .val (.int pl), .val (.int md), .val (.int (pl - (1 : Int32))), .unset, .unset]) rfl k) ?_
      show Goes p e below s _ _ _ (s₁.setTop (mkF m 34 #[.val (.int p0), .val (.int p1), .val (.int p2), .val (.int pl), .val (.int md), .val (.int (pl - (1 : Int32))), .unset, .unset] []))
      refine Goes.by (fun t k => XS.goto X0.here hx rfl (pc0 := 34) (pc' := 45) rfl (hb hby at_34) (by decide) (by decide) k) ?_
      show Goes p e below s _ _ _ (s₁.setTop (mkF m 45 #[.val (.int p0), .val (.int p1), .val (.int p2), .val (.int pl), .val (.int md), .val (.int (pl - (1 : Int32))), .unset, .unset] []))
      exact J45 _ (own_last pl hp1 hp2).1 (own_last pl hp1 hp2).2
    · skip
      refine Goes.by (fun t k => XS.icmpYes X0.here hx rfl (pc0 := 26) (pc' := 37) rfl (hb hby at_26) rfl (feq (hd)).2 (by decide) (by decide) k) ?_
      show Goes p e below s _ _ _ (s₁.setTop (mkF m 37 #[.val (.int p0), .val (.int p1), .val (.int p2), .val (.int pl), .val (.int md), .unset, .unset, .unset] []))
      refine Goes.by (fun t k => XS.iloadN X0.here hx rfl (hb hby at_37) rfl k) ?_
      show Goes p e below s _ _ _ (s₁.setTop (mkF m 38 #[.val (.int p0), .val (.int p1), .val (.int p2), .val (.int pl), .val (.int md), .unset, .unset, .unset] [(.int p0)]))
      refine Goes.by (fun t k => X0.ldcInt hx hown (mvT hZ (hw _ (List.mem_of_getElem? (i := 1) rfl))) (g := (mkF m 38 #[.val (.int p0), .val (.int p1), .val (.int p2), .val (.int pl), .val (.int md), .unset, .unset, .unset] [(.int p0)])) rfl (hb hby at_38) _ k) ?_
      show Goes p e below s _ _ _ (s₁.setTop (mkF m 40 #[.val (.int p0), .val (.int p1), .val (.int p2), .val (.int pl), .val (.int md), .unset, .unset, .unset] [(.int (2147483647 : Int32)), (.int p0)]))
      refine Goes.by (fun t k => XS.iand X0.here hx rfl (hb hby at_40) rfl k) ?_
      show Goes p e below s _ _ _ (s₁.setTop (mkF m 41 #[.val (.int p0), .val (.int p1), .val (.int p2), .val (.int pl), .val (.int md), .unset, .unset, .unset] [(.int (p0 &&& (2147483647 : Int32)))]))
      refine Goes.by (fun t k => XS.iloadN X0.here hx rfl (hb hby at_41) rfl k) ?_
      show Goes p e below s _ _ _ (s₁.setTop (mkF m 42 #[.val (.int p0), .val (.int p1), .val (.int p2), .val (.int pl), .val (.int md), .unset, .unset, .unset] [(.int pl), (.int (p0 &&& (2147483647 : Int32)))]))
      refine Goes.by (fun t k => Jvm.RoadKit.iremM X0 hx rfl (hb hby at_42) rfl (own_nz pl hp1) k) ?_
      show Goes p e below s _ _ _ (s₁.setTop (mkF m 43 #[.val (.int p0), .val (.int p1), .val (.int p2), .val (.int pl), .val (.int md), .unset, .unset, .unset] [(.int ((p0 &&& (2147483647 : Int32)) % pl))]))
      refine Goes.by (fun t k => XS.istore X0.here hx rfl (hb hby at_43) rfl (l' := #[.val (.int p0), .val (.int p1), .val (.int p2), .val (.int pl), .val (.int md), .val (.int ((p0 &&& (2147483647 : Int32)) % pl)), .unset, .unset]) rfl k) ?_
      show Goes p e below s _ _ _ (s₁.setTop (mkF m 45 #[.val (.int p0), .val (.int p1), .val (.int p2), .val (.int pl), .val (.int md), .val (.int ((p0 &&& (2147483647 : Int32)) % pl)), .unset, .unset] []))
      exact J45 _ (own_rem p0 pl hp1).1 (own_rem p0 pl hp1).2
theorem own_eqInt {t : Term} {k : Int32} {args : Array Value} {s : State} {v : Option Value} (he : t.eval args s none [] s = v) (h : (Jvm.Cond.eq t (.int k)).value args s none s [] = some true) : v = some (.int k) := by
  subst he
  obtain ⟨x, y, h1, h2, h3, -⟩ := cmp_v (Or.inl h)
  rw [Term.int_eval] at h2
  obtain rfl := Option.some.inj h2
  cases x <;> simp [Kin, Value.isRef] at h3
  rename_i z
  have := gotT (P := z = k) (by simp [Cond.value, h1, Term.int_eval]) h
  rw [h1, this]
set_option maxRecDepth 65536 in
set_option maxHeartbeats 40000000 in
theorem comes_1 {Post : Tables → Env → Array Value → State → Outcome → State → Prop} (hpost : ∀ tb e args s v u, (limb_1_1.after args s (.returned v) u = true ∧ limb_1_2.after args s (.returned v) u = true ∧ True) → FrameEnd s (.returned v) u (Jvm.fieldLocs frame_1_writes args s ++ Jvm.arrayLocs frame_1_arrays args s ++ Jvm.staticLocs frame_1_statics s) 0 0 → Post tb e args s (.returned v) u) :
    ArmFor flags0 classFile x code maxLocals ret World_1 tables_1 room_1 Calls_1 rest_1 Pre_1 Post := by
  intro l hfl _ _ p e ha hc hk s m args below hf hA hF happ hP
  obtain ⟨hcalls, hrest, hpre⟩ := hP
  obtain ⟨-, -, -, hnamed, -, -, -, hat⟩ := (Spec.applies_iff hf).mp happ
  obtain ⟨hg, hn⟩ := and_e (Cond.before_iff.mp (show (Jvm.Cond.and given_1 narrow_1).before args s = true from hpre))
  obtain ⟨hcnt, hg⟩ := and_e hg
  obtain ⟨ga0, hg⟩ := and_e hg
  obtain ⟨ga1, hg⟩ := and_e hg
  have ga2 := hg
  obtain ⟨w0, w1, w2, rfl⟩ : ∃ w0 w1 w2 : Value, args = #[w0, w1, w2] := by
    have hs : args.size = 3 := by simpa [Cond.value, given_1] using hcnt
    obtain ⟨L⟩ := args
    match L, hs with
    | [w0, w1, w2], _ => exact ⟨w0, w1, w2, rfl⟩
  have hw := fun d (hd : d ∈ tables_1) => atoms_spec (ws := Jvm.Cond.code x code maxLocals ret :: tables_1) hat d (List.mem_cons_of_mem _ hd)
  obtain ⟨i0, ei0⟩ := is_v ga0
  obtain rfl : w0 = (.int i0) := Option.some.inj ei0
  obtain ⟨i1, ei1⟩ := is_v ga1
  obtain rfl : w1 = (.int i1) := Option.some.inj ei1
  obtain ⟨i2, ei2⟩ := is_v ga2
  obtain rfl : w2 = (.int i2) := Option.some.inj ei2
  obtain ⟨nL, hn⟩ := and_e hn
  obtain ⟨nR, hn⟩ := and_e hn
  obtain ⟨oR, oL⟩ := and_e hn
  obtain ⟨wL, evL⟩ := exa_v nL
  obtain ⟨wR, evR⟩ := exa_v nR
  have EL := Exa.start evL nL
  have ER := Exa.start evR nR
  have SL := Sta.start evL (Or.inr ⟨(hw _ (List.mem_of_getElem? (i := 3) rfl)), (hw _ (List.mem_of_getElem? (i := 4) rfl))⟩)
  have SR := Sta.start evR (Or.inr ⟨(hw _ (List.mem_of_getElem? (i := 3) rfl)), (hw _ (List.mem_of_getElem? (i := 12) rfl))⟩)
  have fL : s.fieldOf? wL "java/lang/Enum" "ordinal" "I" = some (.int 0) := own_eqInt (t := .field (Jvm.Term.static "com/example/lastpip/lastpip/pot/Neighbour" "LEFT" "Lcom/example/lastpip/lastpip/pot/Neighbour;") "java/lang/Enum" "ordinal" "I") (fld_at evL) oL
  have fR : s.fieldOf? wR "java/lang/Enum" "ordinal" "I" = some (.int 1) := own_eqInt (t := .field (Jvm.Term.static "com/example/lastpip/lastpip/pot/Neighbour" "RIGHT" "Lcom/example/lastpip/lastpip/pot/Neighbour;") "java/lang/Enum" "ordinal" "I") (fld_at evR) oR
  have hne : wR ≠ wL := Fld.ne (Fld.start fR) (Fld.start fL) (by simp)
  obtain ⟨n, o, h1, h2, h3, _, L, rfl, ⟨rfl, N⟩, hq⟩ := rm0 l s _ hw tables_1 i0 i1 i2 wL wR s.heap s.heap.size (Nat.le_refl _) SL SR EL ER hne p e ha hc hk s m _ below hf ((Spec.applies_iff_loose hf).mp happ).1 ⟨rfl, State.Warmed39.refl s, rfl⟩ trivial
  refine ⟨n, _, h1, h2, h3, hpost _ _ _ _ _ _ ⟨Cond.after_iff.mpr rfl, Cond.after_iff.mpr (eq_i res_at (Term.int_eval (1)) rfl), trivial⟩ ⟨hq.1, hq.2.1, (hq.2.2.sift fun y hy => Or.inr (N y hy)).mono (by decide) (by decide)⟩⟩
theorem main_1_1 : Claimed_1_1 := comes_1 fun _ _ _ _ _ _ h hF => ⟨h.1, hF⟩
theorem main_1_2 : Claimed_1_2 := comes_1 fun _ _ _ _ _ _ h hF => ⟨h.2.1, hF⟩
end Jvm.Pilot.@@N@@
namespace Jvm.Pilot.@@N@@
open Jvm Jvm.ClassFile Sem Op Lib Jvm.Free Jvm.Stand Jvm.Pilot.@@N@@.Jvm.D
/-! MADE BY PROGRAM (witnessworld.py) out of the Statement's table words and the real class files: 12 classes; the members and pool entries that the words name. The judged class is class 1, her method 1. -/
namespace start1
open Jvm.ClassFile
def u (s : String) : CpInfo := .utf8 (stringToUtf16 s)
/-- a pool by its gaps: so many unusable entries, then the entry; so many at the end -/
def gap : Nat → List CpInfo → List CpInfo
  | 0, r => r
  | n + 1, r => .unusable :: gap n r
def poolList (es : List (Nat × CpInfo)) (last : Nat) : List CpInfo := es.foldr (fun e r => gap e.1 (e.2 :: r)) (gap last [])
def pool (es : List (Nat × CpInfo)) (last : Nat) : Array CpInfo := ⟨poolList es last⟩
def fileOf (pool : Array CpInfo) (this : Nat) (attrs : Array Attribute := #[]) (ms : Array MethodInfo := #[]) (fl : Nat := 33) (sup : Nat := 0) (ifs : Array Nat := #[]) (fds : Array FieldInfo := #[]) : ClassFile where
  minorVersion := 0
  majorVersion := 65
  constantPool := pool
  accessFlags := fl
  thisClass := this
  superClass := sup
  interfaces := ifs
  fields := fds
  methods := ms
  attributes := attrs
def plain (name : String) (sup : Option ClassId) : Class where
  name := name
  kind := .ordinary
  loader := none
  accessFlags := 33
  super := sup
  interfaces := #[]
  cf := none
  fields := #[]
  methods := #[]
  instanceTypes := #[]
  staticTypes := #[]
  resolved := #[]
  callSites := []
  init := .initialized
  statics := none
  mirror := none

def pool0 : Array CpInfo := pool [(5, u "<init>"), (0, u "()V"), (1, .class_ 10), (1, u "java/lang/Object")] 113

def k0m0 : Method := { name := "<init>", desc := "()V", sig := { parameters := [], returnType := none }, accessFlags := 1, code := none }
/-- java/lang/Object -/
def k0 : Class := { plain "java/lang/Object" none with
  accessFlags := 33
  interfaces := #[]
  cf := some (fileOf pool0 8 #[] #[{ accessFlags := 1, nameIndex := 5, descriptorIndex := 6, attributes := #[] }] 33 0 #[] #[])
  fields := #[]
  methods := #[k0m0]
  instanceTypes := #[]
  staticTypes := #[]
  resolved := Array.replicate 124 none
  statics := none }

def pool1 : Array CpInfo := pool [(2, .class_ 4), (1, u "java/lang/Object"), (0, u "<init>"), (0, u "()V"), (0, .integer 1073741823), (0, .integer 2147483647), (0, .fieldref 10 11), (0, .class_ 12), (0, .nameAndType 13 14), (0, u "com/example/lastpip/lastpip/pot/Neighbour"), (0, u "LEFT"), (0, u "Lcom/example/lastpip/lastpip/pot/Neighbour;"), (0, .methodref 10 16), (0, .nameAndType 17 18), (0, u "seatOf"), (0, u "(II)I"), (0, .fieldref 10 20), (0, .nameAndType 21 14), (0, u "RIGHT"), (0, .class_ 23), (0, u "com/example/lastpip/lastpip/pot/NeighbourSeatOfPinLaw"), (2, u "law"), (0, u "(III)Z")] 3

def k1m0 : Method := { name := "<init>", desc := "()V", sig := { parameters := [], returnType := none }, accessFlags := 1, code := none }
def k1c1 : Code := { maxStack := 3, maxLocals := 8, code := code, exceptionTable := #[], attributes := #[] }
def k1m1 : Method := { name := "law", desc := "(III)Z", sig := { parameters := [.int, .int, .int], returnType := some .boolean }, accessFlags := 9, code := some k1c1 }
/-- com/example/lastpip/lastpip/pot/NeighbourSeatOfPinLaw -/
def k1 : Class := { plain "com/example/lastpip/lastpip/pot/NeighbourSeatOfPinLaw" (some 0) with
  accessFlags := 49
  interfaces := #[]
  cf := some (fileOf pool1 22 #[] #[{ accessFlags := 1, nameIndex := 5, descriptorIndex := 6, attributes := #[] }, { accessFlags := 9, nameIndex := 26, descriptorIndex := 27, attributes := #[] }] 49 2 #[] #[])
  fields := #[]
  methods := #[k1m0, k1m1]
  instanceTypes := #[]
  staticTypes := #[]
  resolved := Array.replicate 31 none
  statics := none }

def pool2 : Array CpInfo := pool [(1, .class_ 2), (0, u "java/lang/constant/Constable"), (0, .class_ 4), (0, u "java/lang/Object")] 6

/-- java/lang/constant/Constable -/
def k2 : Class := { plain "java/lang/constant/Constable" (some 0) with
  accessFlags := 1537
  interfaces := #[]
  cf := some (fileOf pool2 1 #[] #[] 1537 3 #[] #[])
  fields := #[]
  methods := #[]
  instanceTypes := #[]
  staticTypes := #[]
  resolved := Array.replicate 11 none
  statics := none }

def pool3 : Array CpInfo := pool [(1, .class_ 2), (0, u "java/lang/Comparable"), (0, .class_ 4), (0, u "java/lang/Object")] 7

/-- java/lang/Comparable -/
def k3 : Class := { plain "java/lang/Comparable" (some 0) with
  accessFlags := 1537
  interfaces := #[]
  cf := some (fileOf pool3 1 #[] #[] 1537 3 #[] #[])
  fields := #[]
  methods := #[]
  instanceTypes := #[]
  staticTypes := #[]
  resolved := Array.replicate 12 none
  statics := none }

def pool4 : Array CpInfo := pool [(1, .class_ 2), (0, u "java/io/Serializable"), (0, .class_ 4), (0, u "java/lang/Object")] 2

/-- java/io/Serializable -/
def k4 : Class := { plain "java/io/Serializable" (some 0) with
  accessFlags := 1537
  interfaces := #[]
  cf := some (fileOf pool4 1 #[] #[] 1537 3 #[] #[])
  fields := #[]
  methods := #[]
  instanceTypes := #[]
  staticTypes := #[]
  resolved := Array.replicate 7 none
  statics := none }

def pool5 : Array CpInfo := pool [(2, .class_ 4), (1, u "java/lang/Enum"), (0, u "name"), (0, u "Ljava/lang/String;"), (2, u "ordinal"), (0, u "I"), (1, .class_ 14), (1, u "java/lang/Object"), (4, u "hash"), (86, .class_ 108), (1, u "java/lang/Enum$EnumDesc"), (2, .class_ 112), (0, u "java/lang/constant/Constable"), (0, .class_ 114), (0, u "java/lang/Comparable"), (0, .class_ 116), (0, u "java/io/Serializable")] 87

/-- java/lang/Enum -/
def k5 : Class := { plain "java/lang/Enum" (some 0) with
  accessFlags := 1057
  interfaces := #[2, 3, 4]
  cf := some (fileOf pool5 2 #[.nestMembers #[106]] #[] 1057 12 #[111, 113, 115] #[{ accessFlags := 18, nameIndex := 5, descriptorIndex := 6, attributes := #[] }, { accessFlags := 18, nameIndex := 9, descriptorIndex := 10, attributes := #[] }, { accessFlags := 2, nameIndex := 19, descriptorIndex := 10, attributes := #[] }])
  fields := #[{ name := "name", type := (.object "java/lang/String"), accessFlags := 18, slot := 0, constantValue := 0 }, { name := "ordinal", type := .int, accessFlags := 18, slot := 1, constantValue := 0 }, { name := "hash", type := .int, accessFlags := 2, slot := 2, constantValue := 0 }]
  methods := #[]
  instanceTypes := #[(.object "java/lang/String"), .int, .int]
  staticTypes := #[]
  resolved := Array.replicate 204 none
  statics := none }

def pool6 : Array CpInfo := pool [(1, .class_ 2), (0, u "com/example/lastpip/lastpip/pot/Neighbour"), (0, .fieldref 1 4), (0, .nameAndType 5 6), (0, u "LEFT"), (0, u "Lcom/example/lastpip/lastpip/pot/Neighbour;"), (2, u "RIGHT"), (2, u "$VALUES"), (0, u "[Lcom/example/lastpip/lastpip/pot/Neighbour;"), (6, .class_ 22), (1, u "java/lang/Enum"), (58, u "seatOf"), (0, u "(II)I")] 4

def k6c0 : Code := { maxStack := 2, maxLocals := 3, code := prog_21_method_6_code, exceptionTable := #[], attributes := #[] }
def k6m0 : Method := { name := "seatOf", desc := "(II)I", sig := { parameters := [.int, .int], returnType := some .int }, accessFlags := 1, code := some k6c0 }
/-- com/example/lastpip/lastpip/pot/Neighbour -/
def k6 : Class := { plain "com/example/lastpip/lastpip/pot/Neighbour" (some 5) with
  accessFlags := 16433
  interfaces := #[]
  cf := some (fileOf pool6 1 #[] #[{ accessFlags := 1, nameIndex := 81, descriptorIndex := 82, attributes := #[] }] 16433 20 #[] #[{ accessFlags := 16409, nameIndex := 5, descriptorIndex := 6, attributes := #[] }, { accessFlags := 16409, nameIndex := 9, descriptorIndex := 6, attributes := #[] }, { accessFlags := 4122, nameIndex := 12, descriptorIndex := 13, attributes := #[] }])
  fields := #[{ name := "LEFT", type := (.object "com/example/lastpip/lastpip/pot/Neighbour"), accessFlags := 16409, slot := 0, constantValue := 0 }, { name := "RIGHT", type := (.object "com/example/lastpip/lastpip/pot/Neighbour"), accessFlags := 16409, slot := 1, constantValue := 0 }, { name := "$VALUES", type := (.array (.object "com/example/lastpip/lastpip/pot/Neighbour")), accessFlags := 4122, slot := 2, constantValue := 0 }]
  methods := #[k6m0]
  instanceTypes := #[(.object "java/lang/String"), .int, .int]
  staticTypes := #[(.object "com/example/lastpip/lastpip/pot/Neighbour"), (.object "com/example/lastpip/lastpip/pot/Neighbour"), (.array (.object "com/example/lastpip/lastpip/pot/Neighbour"))]
  resolved := Array.replicate 87 none
  statics := some 0 }

def pool7 : Array CpInfo := pool [(1, u "java/lang/Cloneable"), (0, .class_ 1), (0, u "java/lang/Object"), (0, .class_ 3)] 3

/-- java/lang/Cloneable -/
def k7 : Class := { plain "java/lang/Cloneable" (some 0) with
  accessFlags := 1537
  interfaces := #[]
  cf := some (fileOf pool7 2 #[] #[] 1537 4 #[] #[])
  fields := #[]
  methods := #[]
  instanceTypes := #[]
  staticTypes := #[]
  resolved := Array.replicate 8 none
  statics := none }

/-- the primitive byte -/
def k8 : Class := { plain "byte" none with kind := .primitive 'B', accessFlags := 0x411 }
/-- [B -/
def k9 : Class := { plain "[B" (some 0) with kind := .array 8 .byte, interfaces := #[7, 4], accessFlags := 1041 }

/-- the primitive int -/
def k10 : Class := { plain "int" none with kind := .primitive 'I', accessFlags := 0x411 }
/-- [I -/
def k11 : Class := { plain "[I" (some 0) with kind := .array 10 .int, interfaces := #[7, 4], accessFlags := 1041 }

def heap : Heap := #[{ cls := 6, slots := #[.ref 1, .ref 2, .null], vm := .statics 6 },
  { cls := 6, slots := #[.null, .int 0, .int 0], vm := .none },
  { cls := 6, slots := #[.null, .int 1, .int 0], vm := .none }]
def classes : Array Class := #[k0, k1, k2, k3, k4, k5, k6, k7, k8, k9, k10, k11]
def interned : List (Array UInt16 × Addr) := []
def slotsUsed : Nat := 9
def theMethod : MethodId := ⟨1, 1⟩
def args0 : Array Value := #[.int 5, .int 7, .int 2]
def aboutOver (below : List Frame) : State where
  vm := { classes := classes, interned := interned.toArray }
  heap := heap
  slotsUsed := slotsUsed
  threads := #[{ frames := .invoking theMethod args0 :: below }]
def below0 : List Frame := [.native { method := ⟨0, 0⟩, args := #[] }]
def about1 : State := aboutOver below0
def p0 : Program := .bare "" "" ""
def e0 : Env := launch0.env 0 0 0
theorem w_frames : about1.frames = Frame.invoking theMethod args0 :: below0 := rfl
set_option maxRecDepth 65536 in
theorem w_args : argsFit about1.vm theMethod args0 = true := by decide +kernel
set_option maxRecDepth 65536 in
theorem w_heap : heapFits about1 = true := by decide +kernel
set_option maxRecDepth 65536 in
theorem w_runnable : about1.curStatus? = some .runnable := by decide +kernel
set_option maxRecDepth 65536 in
theorem w_alone : about1.alone = true := by decide +kernel
set_option maxRecDepth 65536 in
theorem w_named : about1.methodNamed? x = some theMethod := by decide +kernel
set_option maxRecDepth 65536 in
theorem w_hears : about1.hears theMethod below0 = true := by decide +kernel
set_option maxRecDepth 65536 in
theorem w_ripe : about1.ripe theMethod args0 below0 = true := by decide +kernel
theorem w_running : about1.status = .running := rfl
set_option maxRecDepth 65536 in
theorem w_room : about1.hasRoom e0.platform room_1 = true :=
  launch0.hasRoom_least _ room_1 (by decide +kernel) (by decide +kernel) (by decide +kernel) (by decide +kernel) (by decide +kernel) (by decide +kernel)
theorem allAtoms_all (ts : List Jvm.Cond) (a : Array Jvm.Value) (st : Jvm.State) : (allAtoms ts).before a st = ts.all (fun c => c.before a st) := by
  induction ts with
  | nil => rfl
  | cons c t ih =>
    show (Jvm.Cond.and c (allAtoms t)).before a st = _
    rw [Jvm.Cond.before_and, ih, List.all_cons]
def words1 : List Jvm.Cond := Jvm.Cond.code x code maxLocals ret :: tables_1
/-- a 'code' word, met by the world's own term for the bytes: nothing is compared byte by byte -/
theorem code_word {y : MethodName} {bytes : ByteArray} {mx : Nat} {rt : Option FieldType} {a : Array Value} {s : State} {m : MethodId} {meth : Method} {c : Code} (h1 : s.methodNamed? y = some m) (h2 : s.vm.method? m = some meth) (h3 : meth.code = some c) (h4 : c.code = bytes)
    (h5 : (c.maxLocals == mx && c.exceptionTable.isEmpty && decide (c.maxStack ≤ mostOperands) && decide (meth.sig.returnType = rt) && !meth.locks && decide (parseMethodDescriptor y.desc = some meth.sig)) = true) : (Jvm.Cond.code y bytes mx rt).before a s = true := by
  simp only [Bool.and_eq_true, beq_iff_eq, Bool.not_eq_true', decide_eq_true_eq] at h5
  obtain ⟨⟨⟨⟨⟨g1, g2⟩, g3⟩, g4⟩, g5⟩, g6⟩ := h5
  simp [Cond.before, Cond.holds, Cond.value, h1, h2, h3, h4, g1, g2, g3, g4, g5, g6]
def isCode : Jvm.Cond → Bool
  | .code _ _ _ _ => true
  | _ => false
theorem all_split {L : List Jvm.Cond} {P : Jvm.Cond → Bool} (h1 : L.all (fun c => isCode c || P c) = true) (h2 : ∀ c ∈ L.filter isCode, P c = true) : L.all P = true := by
  refine List.all_eq_true.mpr fun c hc => ?_
  have h := List.all_eq_true.mp h1 c hc
  rcases Bool.eq_false_or_eq_true (isCode c) with hi | hi
  · exact h2 c (List.mem_filter.mpr ⟨hc, hi⟩)
  · simpa [hi] using h
set_option maxRecDepth 65536 in
theorem w_c0 : (Jvm.Cond.code x code maxLocals ret).before args0 about1 = true := code_word (m := ⟨1, 1⟩) (meth := k1m1) (c := k1c1) (by decide +kernel) rfl rfl rfl (by decide +kernel)
set_option maxRecDepth 65536 in
theorem w_c1 : (Jvm.Cond.code ({ cls := "com/example/lastpip/lastpip/pot/Neighbour", name := "seatOf", desc := "(II)I" } : Jvm.MethodName) prog_21_method_6_code (3 : Nat) (Option.some Jvm.ClassFile.FieldType.int)).before args0 about1 = true := code_word (m := ⟨6, 0⟩) (meth := k6m0) (c := k6c0) (by decide +kernel) rfl rfl rfl (by decide +kernel)
def codes1 : List Jvm.Cond := [Jvm.Cond.code x code maxLocals ret, Jvm.Cond.code ({ cls := "com/example/lastpip/lastpip/pot/Neighbour", name := "seatOf", desc := "(II)I" } : Jvm.MethodName) prog_21_method_6_code (3 : Nat) (Option.some Jvm.ClassFile.FieldType.int)]
set_option maxRecDepth 65536 in
theorem codes_eq : words1.filter isCode = codes1 := rfl
theorem w_codes : ∀ c ∈ words1.filter isCode, c.before args0 about1 = true := by
  rw [codes_eq]
  intro c hc
  simp only [codes1, List.mem_cons, List.not_mem_nil, or_false] at hc
  rcases hc with rfl | rfl
  · exact w_c0
  · exact w_c1
set_option maxRecDepth 65536 in
theorem w_t1 : words1.all (fun c => isCode c || c.before args0 about1) = true := by decide +kernel
theorem w_tables : (allAtoms (Jvm.Cond.code x code maxLocals ret :: tables_1)).before args0 about1 = true := by
  rw [allAtoms_all]
  show words1.all (fun c => c.before args0 about1) = true
  refine all_split ?_ w_codes
  rw [w_t1]
set_option maxRecDepth 65536 in
theorem w_case : (Jvm.Cond.and given_1 narrow_1).before args0 about1 = true := by decide +kernel
theorem w_applies : (headSpec (Jvm.Cond.code x code maxLocals ret :: tables_1) room_1).applies x e0.platform about1 = true :=
  (Spec.applies_iff w_frames).mpr ⟨w_running, w_runnable, w_alone, w_named, w_hears, w_ripe, w_room, w_tables⟩
theorem atStart : AtStart classFile x code maxLocals ret World_1 tables_1 room_1 Calls_1 rest_1 Pre_1 launch0 p0 e0 about1 theMethod args0 below0 :=
  ⟨lists_1, trivial, launch0.admits_env _ _ _, launch0.least_env, fairChoices_fair.cas, fairChoices_fair.clock, w_frames, w_args, w_heap, w_applies, trivial, trivial, w_case⟩
end start1
theorem witness_1 : WitnessClaimed_1 := ⟨start1.p0, start1.e0, start1.about1, start1.theMethod, start1.args0, start1.below0, start1.atStart⟩
end Jvm.Pilot.@@N@@
