import JvmDerived
import JvmDerived.Pilot.@@N@@Statement
import JvmDerived.Pilot.@@N@@Code
set_option linter.unusedVariables false
set_option linter.unusedSimpArgs false
/- laws to paste: Road.backV, Road.eqW, Road.codOf (cut by pick.py; bodies as the Statement names them) -/
namespace Jvm.Pilot.@@N@@
namespace StrChars
open Jvm Sem ClassFile Op Lib Jvm.Stand Jvm.Free.XT Jvm.Free.ALB Jvm.Free.JM Jvm.Free
open Jvm.Lib.Cold (StaticIs)
/-- a char array whose places are chars -/
def Ch (a : Addr) (A : Cell) (U : State) : Prop := Arr .char a A U ∧ Typed .char A
theorem Ch.mv {a : Addr} {A : Cell} {U U' : State} (h : Ch a A U) (hal : U.vm.Alike U'.vm) (hh : U'.heap = U.heap) : Ch a A U' := ⟨h.1.mv hal hh, h.2⟩
theorem Ch.keep {a : Addr} {A : Cell} {U U' : State} (h : Ch a A U) (hal : U.vm.Alike U'.vm) (hk : U'.heap[a]? = some A) : Ch a A U' := ⟨h.1.keep hal hk, h.2⟩
/-- what place i of a char[]'s cell holds -/
def cv (A : Cell) (i : Nat) : Int32 := match A.slots[i]? with | some (.int x) => x | _ => 0
theorem Ch.get {a : Addr} {A : Cell} {U : State} (h : Ch a A U) {i : Nat} (hi : i < A.slots.size) : A.slots[i]? = some (.int (cv A i)) := by
  have e := Array.getElem?_eq_getElem hi
  have f := h.2 i _ e
  unfold cv; rw [e]
  generalize A.slots[i] = v at f
  cases v <;> simp [fits] at f ⊢
/-- the byte that i2b leaves of a char -/
def lo8 (x : Int32) : Int32 := x.toInt8.toInt32
theorem fits_lo8 (y : Int32) : fits .byte (.int (lo8 y)) = true := by
  have h1 := y.toInt8.le_toInt
  have h2 := y.toInt8.toInt_lt
  simp only [lo8, fits, Bool.and_eq_true, decide_eq_true_eq, Int32.le_iff_toInt_le, Int8.toInt_toInt32, show (-128 : Int32).toInt = -128 from by decide, show (127 : Int32).toInt = 127 from by decide]
  omega
/-- A' is A but that each place j of lo .. hi - 1 holds f j -/
def Laid (A A' : Cell) (lo hi : Nat) (f : Nat → Value) : Prop := A'.cls = A.cls ∧ A'.vm = A.vm ∧ A'.slots.size = A.slots.size ∧ ∀ i, A'.slots[i]? = if lo ≤ i ∧ i < hi then some (f i) else A.slots[i]?
theorem Laid.zero (A : Cell) (lo : Nat) (f : Nat → Value) : Laid A A lo (lo + 0) f := ⟨rfl, rfl, rfl, fun i => by rw [if_neg (by omega)]⟩
theorem Laid.step {A Ak : Cell} {lo k : Nat} {f : Nat → Value} {v : Value} (h : Laid A Ak lo k f) (hlo : lo ≤ k) (hk : k < Ak.slots.size) (hv : v = f k) : Laid A (Ak.setSlot k v) lo (k + 1) f := by
  refine ⟨h.1, h.2.1, by simpa [Cell.setSlot] using h.2.2.1, fun i => ?_⟩
  by_cases e : k = i
  · subst e; rw [Cell.slots_setSlot_self v hk, if_pos (by omega), hv]
  · rw [Cell.slots_setSlot_ne v e, h.2.2.2 i]
    by_cases q : lo ≤ i ∧ i < k
    · rw [if_pos q, if_pos (by omega)]
    · rw [if_neg q, if_neg (by omega)]
def U16 : String := "java/lang/StringUTF16"
namespace Cmp5
def yN : MethodName := ⟨"java/lang/StringUTF16", "compress", "([CI[BII)I"⟩
abbrev yB : ByteArray := jdk_52_method_21_code
theorem d0 : decode yB 0 = .ok (.iconst 0, 1) := by decide +kernel
theorem d1 : decode yB 1 = .ok (.istore 5, 2) := by decide +kernel
theorem d3 : decode yB 3 = .ok (.iload 5, 2) := by decide +kernel
theorem d5 : decode yB 5 = .ok (.iload 4, 2) := by decide +kernel
theorem d7 : decode yB 7 = .ok (.if_icmp (.ge) 37, 3) := by decide +kernel
theorem d10 : decode yB 10 = .ok (.aload_n 0, 1) := by decide +kernel
theorem d11 : decode yB 11 = .ok (.iload_n 1, 1) := by decide +kernel
theorem d12 : decode yB 12 = .ok (.caload, 1) := by decide +kernel
theorem d13 : decode yB 13 = .ok (.istore 6, 2) := by decide +kernel
theorem d15 : decode yB 15 = .ok (.iload 6, 2) := by decide +kernel
theorem d17 : decode yB 17 = .ok (.sipush 255, 3) := by decide +kernel
theorem d20 : decode yB 20 = .ok (.if_icmp (.le) 6, 3) := by decide +kernel
theorem d26 : decode yB 26 = .ok (.aload_n 2, 1) := by decide +kernel
theorem d27 : decode yB 27 = .ok (.iload_n 3, 1) := by decide +kernel
theorem d28 : decode yB 28 = .ok (.iload 6, 2) := by decide +kernel
theorem d30 : decode yB 30 = .ok (.i2b, 1) := by decide +kernel
theorem d31 : decode yB 31 = .ok (.bastore, 1) := by decide +kernel
theorem d32 : decode yB 32 = .ok (.iinc 1 1, 3) := by decide +kernel
theorem d35 : decode yB 35 = .ok (.iinc 3 1, 3) := by decide +kernel
theorem d38 : decode yB 38 = .ok (.iinc 5 1, 3) := by decide +kernel
theorem d41 : decode yB 41 = .ok (.goto (-38), 3) := by decide +kernel
theorem d44 : decode yB 44 = .ok (.iload 4, 2) := by decide +kernel
theorem d46 : decode yB 46 = .ok (.ireturn, 1) := by decide +kernel
def site : List Cond := []
def tab : Cond := tabOf yN yB 7 (some .int) site
def P (b : Addr) (A : Cell) (d : Addr) (B : Cell) (o q len : Nat) (args : Array Value) (s : State) : Prop := args = #[.ref b, .int (Int32.ofNat o), .ref d, .int (Int32.ofNat q), .int (Int32.ofNat len)] ∧ Ch b A s ∧ Arr .byte d B s ∧ b ≠ d ∧ o + len ≤ A.slots.size ∧ q + len ≤ B.slots.size ∧ ∀ i, i < len → ¬ 255 < cv A (o + i)
def E (b : Addr) (A : Cell) (d : Addr) (B : Cell) (o q len : Nat) (r : Option Value) (s u : State) : Prop := r = some (.int (Int32.ofNat len)) ∧ ∃ B', Put d B' s u ∧ Laid B B' q (q + len) (fun j => Value.int (lo8 (cv A (o + (j - q)))))
/-- no char of the range above 255: len; the places written hold each char's low byte -/
theorem law (l : Launch) (b : Addr) (A : Cell) (d : Addr) (B : Cell) (o q len : Nat) : Law l yN 5 5 0 0 yB 7 (some .int) site (P b A d B o q len) (E b A d B o q len) (copyLocs d q len) 0 0 := by
  refine Law.of_walk (plainFor_of_name (by decide +kernel)) (by decide +kernel) (by decide +kernel) (by decide) (fun _ _ h => by rw [h.1]; rfl) (fun _ U U' hal hh h => ⟨h.1, h.2.1.mv hal hh, h.2.2.1.mv hal hh, h.2.2.2⟩) (fun r U U' V V' h1 hal h2 h => ⟨h.1, h.2.elim fun B' q => ⟨B', q.1.mv h1 h2, q.2⟩⟩) ?_
  intro p e s m args below meth c s₁ X0 hexec hbytes hml hret hlk hnm hown hh0 W hP
  obtain ⟨rfl, hA, hB, hne, l1, l2, hp⟩ := hP
  have c1 : Steps p.tables e below (s₁.setTop (entryFrame m #[.ref b, .int (Int32.ofNat o), .ref d, .int (Int32.ofNat q), .int (Int32.ofNat len)] 7)) (s₁.setTop (mkF m 0 #[.val (.ref b), .val (.int (Int32.ofNat o)), .val (.ref d), .val (.int (Int32.ofNat q)), .val (.int (Int32.ofNat len)), .unset, .unset] [])) := entry rfl
  have hA0 := hA.1.mv X0.warmed.alike hh0
  have hB0 := hB.mv X0.warmed.alike hh0
  have a31 := hA.1.2.2.2
  have c2 : Steps p.tables e below (s₁.setTop (entryFrame m #[.ref b, .int (Int32.ofNat o), .ref d, .int (Int32.ofNat q), .int (Int32.ofNat len)] 7)) (s₁.setTop (mkF m 3 #[.val (.ref b), .val (.int (Int32.ofNat o)), .val (.ref d), .val (.int (Int32.ofNat q)), .val (.int (Int32.ofNat len)), .val (.int 0), .unset] [])) := c1.trans (by
    refine iconstV X0.here hexec rfl 0 (hb hbytes d0) (by decide) ?_
    refine XS.istore X0.here hexec rfl (hb hbytes d1) rfl rfl ?_
    exact Steps.refl _)
  have loop : ∀ (r i : Nat), i + r = len → ∀ (z : Slot), (z = .unset ∨ ∃ w, z = .val w ∧ w.category = 1) → ∀ (Tl : State) (Bk : Cell), Stand p l e { frames := 0, locals := 0, cells := 0, slots := 0 } s m #[.ref b, .int (Int32.ofNat o), .ref d, .int (Int32.ofNat q), .int (Int32.ofNat len)] below meth c Tl ([] ++ copyLocs d q i) 0 0 → Put d Bk s₁ Tl → Laid B Bk q (q + i) (fun j => Value.int (lo8 (cv A (o + (j - q))))) →
      Steps p.tables e below (s₁.setTop (entryFrame m #[.ref b, .int (Int32.ofNat o), .ref d, .int (Int32.ofNat q), .int (Int32.ofNat len)] 7)) (Tl.setTop (mkF m 3 #[.val (.ref b), .val (.int (Int32.ofNat (o + i))), .val (.ref d), .val (.int (Int32.ofNat (q + i))), .val (.int (Int32.ofNat len)), .val (.int (Int32.ofNat i)), z] [])) → ∃ (T' : State) (B' : Cell) (z' : Slot), Stand p l e { frames := 0, locals := 0, cells := 0, slots := 0 } s m #[.ref b, .int (Int32.ofNat o), .ref d, .int (Int32.ofNat q), .int (Int32.ofNat len)] below meth c T' ([] ++ copyLocs d q len) 0 0 ∧ Put d B' s₁ T' ∧ Laid B B' q (q + len) (fun j => Value.int (lo8 (cv A (o + (j - q))))) ∧
      Steps p.tables e below (s₁.setTop (entryFrame m #[.ref b, .int (Int32.ofNat o), .ref d, .int (Int32.ofNat q), .int (Int32.ofNat len)] 7)) (T'.setTop (mkF m 3 #[.val (.ref b), .val (.int (Int32.ofNat (o + len))), .val (.ref d), .val (.int (Int32.ofNat (q + len))), .val (.int (Int32.ofNat len)), .val (.int (Int32.ofNat len)), z'] [])) := by
    intro r
    induction r with
    | zero =>
      intro i hi z hz Tl Bk Xl pl fl cl
      have hil : i = len := by omega
      rw [hil] at Xl fl cl
      exact ⟨Tl, Bk, z, Xl, pl, fl, cl⟩
    | succ r ih =>
      intro i hi z hz Tl Bk Xl pl fl cl
      have all := X0.warmed.alike.symm.trans Xl.warmed.alike
      have hAl := hA0.keep all (pl.other hne hA0.1)
      have hBk := hB0.like all pl.1 fl.1 fl.2.1 fl.2.2.1
      have hlt : q + i < Bk.slots.size := by rw [fl.2.2.1]; omega
      have c3 : Steps p.tables e below (s₁.setTop (entryFrame m #[.ref b, .int (Int32.ofNat o), .ref d, .int (Int32.ofNat q), .int (Int32.ofNat len)] 7)) (Tl.setTop (mkF m 12 #[.val (.ref b), .val (.int (Int32.ofNat (o + i))), .val (.ref d), .val (.int (Int32.ofNat (q + i))), .val (.int (Int32.ofNat len)), .val (.int (Int32.ofNat i)), z] [.int (Int32.ofNat (o + i)), .ref b])) := cl.trans (by
        refine XS.iload Xl.here hexec rfl (hb hbytes d3) rfl ?_
        refine XS.iload Xl.here hexec rfl (hb hbytes d5) rfl ?_
        refine XS.icmpNo Xl.here hexec rfl (hb hbytes d7) rfl (ii_ge_f (lt32 (by omega) (by omega))) ?_
        refine XS.aloadN Xl.here hexec rfl (hb hbytes d10) rfl rfl ?_
        refine XS.iloadN Xl.here hexec rfl (hb hbytes d11) rfl ?_
        exact Steps.refl _)
      have c4 : Steps p.tables e below (s₁.setTop (entryFrame m #[.ref b, .int (Int32.ofNat o), .ref d, .int (Int32.ofNat q), .int (Int32.ofNat len)] 7)) (Tl.setTop (mkF m 13 #[.val (.ref b), .val (.int (Int32.ofNat (o + i))), .val (.ref d), .val (.int (Int32.ofNat (q + i))), .val (.int (Int32.ofNat len)), .val (.int (Int32.ofNat i)), z] [.int (cv A (o + i))])) := c3.trans (by
        refine Xl.aget hexec hAl rfl (hA.get (i := o + i) (by omega)) rfl rfl (hb hbytes d12) ?_
        exact Steps.refl _)
      have c5 : Steps p.tables e below (s₁.setTop (entryFrame m #[.ref b, .int (Int32.ofNat o), .ref d, .int (Int32.ofNat q), .int (Int32.ofNat len)] 7)) (Tl.setTop (mkF m 15 #[.val (.ref b), .val (.int (Int32.ofNat (o + i))), .val (.ref d), .val (.int (Int32.ofNat (q + i))), .val (.int (Int32.ofNat len)), .val (.int (Int32.ofNat i)), .val (.int (cv A (o + i)))] [])) := c4.trans (by
        refine XS.istoreS Xl.here hexec rfl (hb hbytes d13) rfl rfl hz ?_
        exact Steps.refl _)
      have c6 : Steps p.tables e below (s₁.setTop (entryFrame m #[.ref b, .int (Int32.ofNat o), .ref d, .int (Int32.ofNat q), .int (Int32.ofNat len)] 7)) (Tl.setTop (mkF m 31 #[.val (.ref b), .val (.int (Int32.ofNat (o + i))), .val (.ref d), .val (.int (Int32.ofNat (q + i))), .val (.int (Int32.ofNat len)), .val (.int (Int32.ofNat i)), .val (.int (cv A (o + i)))] [.int (lo8 (cv A (o + i))), .int (Int32.ofNat (q + i)), .ref d])) := c5.trans (by
        refine XS.iload Xl.here hexec rfl (hb hbytes d15) rfl ?_
        refine sipushV Xl.here hexec rfl 255 (hb hbytes d17) (by decide) ?_
        refine XS.icmpYes Xl.here hexec rfl (pc0 := 20) rfl (hb hbytes d20) rfl (ii_le_t (hp i (by omega))) (by decide) rfl ?_
        refine XS.aloadN Xl.here hexec rfl (hb hbytes d26) rfl rfl ?_
        refine XS.iloadN Xl.here hexec rfl (hb hbytes d27) rfl ?_
        refine XS.iload Xl.here hexec rfl (hb hbytes d28) rfl ?_
        refine i2b Xl.here hexec rfl (hb hbytes d30) rfl ?_
        exact Steps.refl _)
      obtain ⟨T7, X7, p7, st7⟩ := Xl.aput hexec hBk rfl hlt rfl (fits_lo8 (cv A (o + i))) (g := (mkF m 31 #[.val (.ref b), .val (.int (Int32.ofNat (o + i))), .val (.ref d), .val (.int (Int32.ofNat (q + i))), .val (.int (Int32.ofNat len)), .val (.int (Int32.ofNat i)), .val (.int (cv A (o + i)))] [.int (lo8 (cv A (o + i))), .int (Int32.ofNat (q + i)), .ref d])) rfl (rest := []) rfl (hb hbytes d31)
      have c8 : Steps p.tables e below (s₁.setTop (entryFrame m #[.ref b, .int (Int32.ofNat o), .ref d, .int (Int32.ofNat q), .int (Int32.ofNat len)] 7)) (T7.setTop (mkF m 32 #[.val (.ref b), .val (.int (Int32.ofNat (o + i))), .val (.ref d), .val (.int (Int32.ofNat (q + i))), .val (.int (Int32.ofNat len)), .val (.int (Int32.ofNat i)), .val (.int (cv A (o + i)))] [])) := c6.trans (st7 _ (Steps.refl _))
      have c9 : Steps p.tables e below (s₁.setTop (entryFrame m #[.ref b, .int (Int32.ofNat o), .ref d, .int (Int32.ofNat q), .int (Int32.ofNat len)] 7)) (T7.setTop (mkF m 3 #[.val (.ref b), .val (.int (Int32.ofNat (o + i) + 1)), .val (.ref d), .val (.int (Int32.ofNat (q + i) + 1)), .val (.int (Int32.ofNat len)), .val (.int (Int32.ofNat i + 1)), .val (.int (cv A (o + i)))] [])) := c8.trans (by
        refine iincV X7.here hexec rfl 1 (hb hbytes d32) (by decide) rfl rfl ?_
        refine iincV X7.here hexec rfl 1 (hb hbytes d35) (by decide) rfl rfl ?_
        refine iincV X7.here hexec rfl 1 (hb hbytes d38) (by decide) rfl rfl ?_
        refine XS.goto X7.here hexec rfl (pc0 := 41) rfl (hb hbytes d41) (by decide) rfl ?_
        exact Steps.refl _)
      have c10 : Steps p.tables e below (s₁.setTop (entryFrame m #[.ref b, .int (Int32.ofNat o), .ref d, .int (Int32.ofNat q), .int (Int32.ofNat len)] 7)) (T7.setTop (mkF m 3 #[.val (.ref b), .val (.int (Int32.ofNat (o + (i + 1)))), .val (.ref d), .val (.int (Int32.ofNat (q + (i + 1)))), .val (.int (Int32.ofNat len)), .val (.int (Int32.ofNat (i + 1))), .val (.int (cv A (o + i)))] [])) := by
        have := c9
        rw [succ32, succ32, succ32] at this
        exact this
      exact ih (i + 1) (by omega) _ (Or.inr ⟨_, rfl, rfl⟩) T7 _ (by rw [copyLocs_step, ← List.append_assoc]; exact X7) (pl.trans p7) (fl.step (by omega) hlt (by simp)) c10
  obtain ⟨T9, B9, z9, X9, p9, f9, g9⟩ := loop len 0 (by omega) .unset (Or.inl rfl) s₁ B (by simpa [copyLocs] using X0) ⟨hB0.1, fun _ _ => rfl, rfl⟩ (Laid.zero _ _ _) c2
  have c11 : Steps p.tables e below (s₁.setTop (entryFrame m #[.ref b, .int (Int32.ofNat o), .ref d, .int (Int32.ofNat q), .int (Int32.ofNat len)] 7)) (T9.setTop (mkF m 46 #[.val (.ref b), .val (.int (Int32.ofNat (o + len))), .val (.ref d), .val (.int (Int32.ofNat (q + len))), .val (.int (Int32.ofNat len)), .val (.int (Int32.ofNat len)), z9] [.int (Int32.ofNat len)])) := g9.trans (by
    refine XS.iload X9.here hexec rfl (hb hbytes d3) rfl ?_
    refine XS.iload X9.here hexec rfl (hb hbytes d5) rfl ?_
    refine XS.icmpYes X9.here hexec rfl (pc0 := 7) rfl (hb hbytes d7) rfl (ii_ge_t (nlt32 (by omega) (Nat.le_refl _))) (by decide) rfl ?_
    refine XS.iload X9.here hexec rfl (hb hbytes d44) rfl ?_
    exact Steps.refl _)
  exact ⟨T9, some (.int (Int32.ofNat len)), _, _, _, X9, by simp, rfl, rfl, (fun h => by cases h), ⟨rfl, B9, p9.from hh0, f9⟩, fun fs hl => c11.trans (X9.ireturnOut hexec hret rfl (Or.inl rfl) (hb hbytes d46) hl)⟩
end Cmp5
namespace Cmp3
def yN : MethodName := ⟨"java/lang/StringUTF16", "compress", "([CII)[B"⟩
abbrev yB : ByteArray := jdk_52_method_16_code
theorem d0 : decode yB 0 = .ok (.iload_n 2, 1) := by decide +kernel
theorem d1 : decode yB 1 = .ok (.newarray .byte, 2) := by decide +kernel
theorem d3 : decode yB 3 = .ok (.astore_n 3, 1) := by decide +kernel
theorem d4 : decode yB 4 = .ok (.aload_n 0, 1) := by decide +kernel
theorem d5 : decode yB 5 = .ok (.iload_n 1, 1) := by decide +kernel
theorem d6 : decode yB 6 = .ok (.aload_n 3, 1) := by decide +kernel
theorem d7 : decode yB 7 = .ok (.iconst 0, 1) := by decide +kernel
theorem d8 : decode yB 8 = .ok (.iload_n 2, 1) := by decide +kernel
theorem d9 : decode yB 9 = .ok (.invokestatic 115, 3) := by decide +kernel
theorem d12 : decode yB 12 = .ok (.istore 4, 2) := by decide +kernel
theorem d14 : decode yB 14 = .ok (.iload 4, 2) := by decide +kernel
theorem d16 : decode yB 16 = .ok (.iload_n 2, 1) := by decide +kernel
theorem d17 : decode yB 17 = .ok (.if_icmp (.eq) 40, 3) := by decide +kernel
theorem d57 : decode yB 57 = .ok (.aload_n 3, 1) := by decide +kernel
theorem d58 : decode yB 58 = .ok (.areturn, 1) := by decide +kernel
def site : List Cond := [.arrayClass .byte, Cmp5.tab] ++ staticW U16 115 Cmp5.yN
def tab : Cond := tabOf yN yB 6 (some (.array .byte)) site
def P (b : Addr) (A : Cell) (o len : Nat) (args : Array Value) (s : State) : Prop := args = #[.ref b, .int (Int32.ofNat o), .int (Int32.ofNat len)] ∧ Ch b A s ∧ o + len ≤ A.slots.size ∧ len ≤ 536870912 ∧ ∀ i, i < len → ¬ 255 < cv A (o + i)
def E (b : Addr) (A : Cell) (o len : Nat) (r : Option Value) (s u : State) : Prop := NewArr .byte "[B" len (fun j => .int (lo8 (cv A (o + j)))) r s u ∧ u.heap.size = s.heap.size + 1
/-- no char of the range above 255: a new byte[] of their low bytes -/
theorem law (l : Launch) (b : Addr) (A : Cell) (o len : Nat) : Law l yN 3 3 1 18 yB 6 (some (.array .byte)) site (P b A o len) (E b A o len) [] 1 len := by
  refine Law.of_walk (plainFor_of_name (by decide +kernel)) (by decide +kernel) (by decide +kernel) (by decide) (fun _ _ h => by rw [h.1]; rfl) (fun _ U U' hal hh h => ⟨h.1, h.2.1.mv hal hh, h.2.2⟩) (fun r U U' V V' h1 hal h2 h => ⟨NewArr.mv r U U' V V' h1 hal h2 h.1, by rw [h1, h2]; exact h.2⟩) ?_
  intro p e s m args below meth c s₁ X0 hexec hbytes hml hret hlk hnm hown hh0 W hP
  obtain ⟨rfl, hA, l1, l2, hp⟩ := hP
  have a31 := hA.1.2.2.2
  have c1 : Steps p.tables e below (s₁.setTop (entryFrame m #[.ref b, .int (Int32.ofNat o), .int (Int32.ofNat len)] 6)) (s₁.setTop (mkF m 0 #[.val (.ref b), .val (.int (Int32.ofNat o)), .val (.int (Int32.ofNat len)), .unset, .unset, .unset] [])) := entry rfl
  have c2 : Steps p.tables e below (s₁.setTop (entryFrame m #[.ref b, .int (Int32.ofNat o), .int (Int32.ofNat len)] 6)) (s₁.setTop (mkF m 1 #[.val (.ref b), .val (.int (Int32.ofNat o)), .val (.int (Int32.ofNat len)), .unset, .unset, .unset] [.int (Int32.ofNat len)])) := c1.trans (by
    refine XS.iloadN X0.here hexec rfl (hb hbytes d0) rfl ?_
    exact Steps.refl _)
  obtain ⟨T3, B3, X3, ba3, bs3, bv3, bh3, bf3, st3⟩ := X0.anew hexec (atype := .byte) (wk W (.arrayClass .byte)) rfl (by show len * 1 ≤ _; omega) (by omega) (g := (mkF m 1 #[.val (.ref b), .val (.int (Int32.ofNat o)), .val (.int (Int32.ofNat len)), .unset, .unset, .unset] [.int (Int32.ofNat len)])) rfl (hb hbytes d1) (rest := []) rfl (Nat.le_refl _) (by show 0 + len ≤ len; omega)
  rw [hh0] at ba3 st3
  have kp3 : XT.Kept s T3 := (XT.Kept.of_eq hh0).push bh3
  have hA3 := hA.keep X3.warmed.alike (kp3 _ _ hA.1.1)
  have hne : b ≠ s.heap.size := hA.1.ne
  have c4 : Steps p.tables e below (s₁.setTop (entryFrame m #[.ref b, .int (Int32.ofNat o), .int (Int32.ofNat len)] 6)) (T3.setTop (mkF m 3 #[.val (.ref b), .val (.int (Int32.ofNat o)), .val (.int (Int32.ofNat len)), .unset, .unset, .unset] [.ref s.heap.size])) := c2.trans (st3 _ (Steps.refl _))
  have c5 : Steps p.tables e below (s₁.setTop (entryFrame m #[.ref b, .int (Int32.ofNat o), .int (Int32.ofNat len)] 6)) (T3.setTop (mkF m 9 #[.val (.ref b), .val (.int (Int32.ofNat o)), .val (.int (Int32.ofNat len)), .val (.ref s.heap.size), .unset, .unset] [.int (Int32.ofNat len), .int 0, .ref s.heap.size, .int (Int32.ofNat o), .ref b])) := c4.trans (by
    refine XS.astoreN X3.here hexec rfl (hb hbytes d3) rfl rfl rfl ?_
    refine XS.aloadN X3.here hexec rfl (hb hbytes d4) rfl rfl ?_
    refine XS.iloadN X3.here hexec rfl (hb hbytes d5) rfl ?_
    refine XS.aloadN X3.here hexec rfl (hb hbytes d6) rfl rfl ?_
    refine iconstV X3.here hexec rfl 0 (hb hbytes d7) (by decide) ?_
    refine XS.iloadN X3.here hexec rfl (hb hbytes d8) rfl ?_
    exact Steps.refl _)
  obtain ⟨v6, T6, X6, E6, g6⟩ := X3.callS hexec (Cmp5.law l b A s.heap.size B3 o 0 len) hown (wks W (staticW U16 115 Cmp5.yN)) (wk W Cmp5.tab) (W := 0) (Nat.le_of_ble_eq_true rfl) (Nat.le_of_ble_eq_true rfl) (Nat.le_refl _) (by show 0 + len + 0 ≤ len; omega) (g := (mkF m 9 #[.val (.ref b), .val (.int (Int32.ofNat o)), .val (.int (Int32.ofNat len)), .val (.ref s.heap.size), .unset, .unset] [.int (Int32.ofNat len), .int (Int32.ofNat 0), .ref s.heap.size, .int (Int32.ofNat o), .ref b])) rfl (by rw [hml]; rfl) c5 (argsL := [.ref b, .int (Int32.ofNat o), .ref s.heap.size, .int (Int32.ofNat 0), .int (Int32.ofNat len)]) (rest := []) rfl rfl (by show 2 * 0 + 0 ≤ _; decide) (hb hbytes d9) (⟨rfl, hA3, ba3, hne, l1, by rw [bs3]; simp, hp⟩)
  obtain ⟨rfl, B6, p6, f6⟩ := E6
  have c7 : Steps p.tables e below (s₁.setTop (entryFrame m #[.ref b, .int (Int32.ofNat o), .int (Int32.ofNat len)] 6)) (T6.setTop (mkF m 12 #[.val (.ref b), .val (.int (Int32.ofNat o)), .val (.int (Int32.ofNat len)), .val (.ref s.heap.size), .unset, .unset] [.int (Int32.ofNat len)])) := g6
  have c8 : Steps p.tables e below (s₁.setTop (entryFrame m #[.ref b, .int (Int32.ofNat o), .int (Int32.ofNat len)] 6)) (T6.setTop (mkF m 58 #[.val (.ref b), .val (.int (Int32.ofNat o)), .val (.int (Int32.ofNat len)), .val (.ref s.heap.size), .val (.int (Int32.ofNat len)), .unset] [.ref s.heap.size])) := c7.trans (by
    refine XS.istore X6.here hexec rfl (hb hbytes d12) rfl rfl ?_
    refine XS.iload X6.here hexec rfl (hb hbytes d14) rfl ?_
    refine XS.iloadN X6.here hexec rfl (hb hbytes d16) rfl ?_
    refine XS.icmpYes X6.here hexec rfl (pc0 := 17) rfl (hb hbytes d17) rfl (ii_eq_t rfl) (by decide) rfl ?_
    refine XS.aloadN X6.here hexec rfl (hb hbytes d57) rfl rfl ?_
    exact Steps.refl _)
  have X8 := X6.wide (L' := []) (cells' := 1) (slots' := len) (fun x hx hlt => by
    simp only [List.nil_append, copyLocs, List.mem_map, List.mem_range] at hx
    obtain ⟨i, -, rfl⟩ := hx
    exact absurd hlt (Nat.lt_irrefl _)) (Nat.le_refl _) (by omega)
  exact ⟨T6, some (.ref s.heap.size), _, _, _, X8, rfl, rfl, rfl, (fun h => by cases h), ⟨⟨rfl, B6, ba3.like (X3.warmed.alike.symm.trans X6.warmed.alike) p6.1 f6.1 f6.2.1 f6.2.2.1, f6.2.1.trans bv3, by rw [X6.warmed.alike.findClass, f6.1]; exact bf3, by rw [f6.2.2.1, bs3]; simp, fun j hj => by rw [f6.2.2.2 j, if_pos (by omega)]; rfl, kp3.put p6 (Nat.le_refl _)⟩, by rw [p6.2.2, bh3, hh0]; simp⟩, fun fs hl => c8.trans (X8.areturnOut hexec rfl hret rfl (hb hbytes d58) hl)⟩
end Cmp3
namespace CodL
def yN : MethodName := ⟨"java/lang/StringUTF16", "coderFromArrayLen", "([BI)B"⟩
abbrev yB : ByteArray := jdk_52_method_15_code
theorem d0 : decode yB 0 = .ok (.iload_n 1, 1) := by decide +kernel
theorem d1 : decode yB 1 = .ok (.aload_n 0, 1) := by decide +kernel
theorem d2 : decode yB 2 = .ok (.arraylength, 1) := by decide +kernel
theorem d3 : decode yB 3 = .ok (.isub, 1) := by decide +kernel
theorem d4 : decode yB 4 = .ok (.bipush 31, 2) := by decide +kernel
theorem d6 : decode yB 6 = .ok (.iushr, 1) := by decide +kernel
theorem d7 : decode yB 7 = .ok (.i2b, 1) := by decide +kernel
theorem d8 : decode yB 8 = .ok (.ireturn, 1) := by decide +kernel
def site : List Cond := []
def tab : Cond := tabOf yN yB 2 (some .byte) site
def P (d : Addr) (B : Cell) (args : Array Value) (s : State) : Prop := args = #[.ref d, .int (Int32.ofNat B.slots.size)] ∧ Arr .byte d B s
def E (r : Option Value) (s u : State) : Prop := XT.PureE (some (.int 0)) r s u
/-- an array as long as the number of chars: LATIN1 -/
theorem law (l : Launch) (d : Addr) (B : Cell) : Law l yN 2 2 0 0 yB 2 (some .byte) site (P d B) E [] 0 0 := by
  refine Law.of_walk (plainFor_of_name (by decide +kernel)) (by decide +kernel) (by decide +kernel) (by decide) (fun _ _ h => by rw [h.1]; rfl) (fun _ U U' hal hh h => ⟨h.1, h.2.mv hal hh⟩) (fun r U U' V V' h1 hal h2 h => XT.PureE.mv r U U' V V' h1 hal h2 h) ?_
  intro p e s m args below meth c s₁ X0 hexec hbytes hml hret hlk hnm hown hh0 W hP
  obtain ⟨rfl, hB⟩ := hP
  have hB0 := hB.mv X0.warmed.alike hh0
  have c1 : Steps p.tables e below (s₁.setTop (entryFrame m #[.ref d, .int (Int32.ofNat B.slots.size)] 2)) (s₁.setTop (mkF m 0 #[.val (.ref d), .val (.int (Int32.ofNat B.slots.size))] [])) := entry rfl
  have c2 : Steps p.tables e below (s₁.setTop (entryFrame m #[.ref d, .int (Int32.ofNat B.slots.size)] 2)) (s₁.setTop (mkF m 2 #[.val (.ref d), .val (.int (Int32.ofNat B.slots.size))] [.ref d, .int (Int32.ofNat B.slots.size)])) := c1.trans (by
    refine XS.iloadN X0.here hexec rfl (hb hbytes d0) rfl ?_
    refine XS.aloadN X0.here hexec rfl (hb hbytes d1) rfl rfl ?_
    exact Steps.refl _)
  have c3 : Steps p.tables e below (s₁.setTop (entryFrame m #[.ref d, .int (Int32.ofNat B.slots.size)] 2)) (s₁.setTop (mkF m 8 #[.val (.ref d), .val (.int (Int32.ofNat B.slots.size))] [.int (lo8 (ushr (Int32.ofNat B.slots.size - Int32.ofNat B.slots.size) 31))])) := c2.trans (by
    refine X0.alen hexec hB0 rfl rfl (hb hbytes d2) ?_
    refine XS.isub X0.here hexec rfl (hb hbytes d3) rfl ?_
    refine bipushV X0.here hexec rfl 31 (hb hbytes d4) (by decide) ?_
    refine iushr X0.here hexec rfl (hb hbytes d6) rfl ?_
    refine i2b X0.here hexec rfl (hb hbytes d7) rfl ?_
    exact Steps.refl _)
  have e0 : lo8 (ushr (Int32.ofNat B.slots.size - Int32.ofNat B.slots.size) 31) = 0 := by rw [Int32.sub_self]; decide
  rw [e0] at c3
  exact ⟨s₁, some (.int 0), _, _, _, X0, rfl, rfl, rfl, (fun h => by cases h), ⟨rfl, hh0⟩, fun fs hl => c3.trans (X0.ireturnOut hexec hret rfl (Or.inr (Or.inr (Or.inl rfl))) (hb hbytes d8) hl)⟩
end CodL
/-- the String at a is Latin-1 over a new byte[] (the heap's one new cell): the low bytes of the len chars of A from o on; every cell but a is kept -/
def Got (a : Addr) (D : Cell) (fV fC : Field) (A : Cell) (o len : Nat) (r : Option Value) (s u : State) : Prop := r = none ∧ ∃ D' V : Cell, Blank "java/lang/String" a D' u ∧ Same D D' [fV.slot, fC.slot] ∧ D'.slots[fV.slot]? = some (.ref s.heap.size) ∧ D'.slots[fC.slot]? = some (.int 0) ∧ Arr .byte s.heap.size V u ∧ V.vm = .none ∧ u.vm.findClass "[B" = some V.cls ∧ V.slots.size = len ∧ (∀ j, j < len → V.slots[j]? = some (.int (lo8 (cv A (o + j))))) ∧ (∀ (y : Addr) (c : Cell), y ≠ a → s.heap[y]? = some c → u.heap[y]? = some c) ∧ u.heap.size = s.heap.size + 1
theorem Got.mv {a : Addr} {D A : Cell} {fV fC : Field} {o len : Nat} : ∀ r (U U' V V' : State), U'.heap = U.heap → V.vm.Alike V'.vm → V'.heap = V.heap → Got a D fV fC A o len r U V → Got a D fV fC A o len r U' V' :=
  fun r U U' V V' h1 hal h2 ⟨e0, D', X, a1, a2, a3, a4, a5, a6, a7, a8, a9, a10, a11⟩ => ⟨e0, D', X, a1.mv hal h2, a2, by rw [h1]; exact a3, a4, by rw [h1]; exact a5.mv hal h2, a6, by rw [hal.findClass]; exact a7, a8, a9, by rw [h1, h2]; exact a10, by rw [h1, h2]; exact a11⟩
namespace New4
def yN : MethodName := ⟨"java/lang/String", "<init>", "([CIILjava/lang/Void;)V"⟩
abbrev yB : ByteArray := jdk_42_method_149_code
theorem d0 : decode yB 0 = .ok (.aload_n 0, 1) := by decide +kernel
theorem d1 : decode yB 1 = .ok (.invokespecial 1, 3) := by decide +kernel
theorem d4 : decode yB 4 = .ok (.iload_n 3, 1) := by decide +kernel
theorem d5 : decode yB 5 = .ok (.ifCond (.ne) 22, 3) := by decide +kernel
theorem d27 : decode yB 27 = .ok (.getstatic 38, 3) := by decide +kernel
theorem d30 : decode yB 30 = .ok (.ifCond (.eq) 28, 3) := by decide +kernel
theorem d33 : decode yB 33 = .ok (.aload_n 1, 1) := by decide +kernel
theorem d34 : decode yB 34 = .ok (.iload_n 2, 1) := by decide +kernel
theorem d35 : decode yB 35 = .ok (.iload_n 3, 1) := by decide +kernel
theorem d36 : decode yB 36 = .ok (.invokestatic 177, 3) := by decide +kernel
theorem d39 : decode yB 39 = .ok (.astore 5, 2) := by decide +kernel
theorem d41 : decode yB 41 = .ok (.aload_n 0, 1) := by decide +kernel
theorem d42 : decode yB 42 = .ok (.aload 5, 2) := by decide +kernel
theorem d44 : decode yB 44 = .ok (.iload_n 3, 1) := by decide +kernel
theorem d45 : decode yB 45 = .ok (.invokestatic 47, 3) := by decide +kernel
theorem d48 : decode yB 48 = .ok (.putfield 15, 3) := by decide +kernel
theorem d51 : decode yB 51 = .ok (.aload_n 0, 1) := by decide +kernel
theorem d52 : decode yB 52 = .ok (.aload 5, 2) := by decide +kernel
theorem d54 : decode yB 54 = .ok (.putfield 9, 3) := by decide +kernel
theorem d57 : decode yB 57 = .ok (.return_, 1) := by decide +kernel
def site : List Cond := [.fieldLink "java/lang/String" 38 "java/lang/String" "COMPACT_STRINGS" "Z", Cmp3.tab, CodL.tab, .laysFinal "java/lang/String" "java/lang/String" "value" "[B", .fieldLink "java/lang/String" 9 "java/lang/String" "value" "[B", .laysFinal "java/lang/String" "java/lang/String" "coder" "B", .fieldLink "java/lang/String" 15 "java/lang/String" "coder" "B"] ++ objW "java/lang/String" 1 ++ staticW "java/lang/String" 177 Cmp3.yN ++ staticW "java/lang/String" 47 CodL.yN
def tab : Cond := tabOf yN yB 6 none site
def P (a : Addr) (D : Cell) (fV fC : Field) (b : Addr) (A : Cell) (z : Int32) (o len : Nat) (args : Array Value) (s : State) : Prop := args = #[.ref a, .ref b, .int (Int32.ofNat o), .int (Int32.ofNat len), .null] ∧ Blank "java/lang/String" a D s ∧ Found "java/lang/String" "value" "[B" fV s ∧ Found "java/lang/String" "coder" "B" fC s ∧ Ch b A s ∧ StaticIs s "java/lang/String" "COMPACT_STRINGS" "Z" (.int z) ∧ ¬ z = 0 ∧ 0 < len ∧ o + len ≤ A.slots.size ∧ len ≤ 536870912 ∧ ∀ i, i < len → ¬ 255 < cv A (o + i)
def E (a : Addr) (D : Cell) (fV fC : Field) (A : Cell) (o len : Nat) (r : Option Value) (s u : State) : Prop := Got a D fV fC A o len r s u
/-- len > 0, no char of the range above 255: a Latin-1 String of their low bytes -/
theorem law (l : Launch) (a : Addr) (D : Cell) (fV fC : Field) (b : Addr) (A : Cell) (z : Int32) (o len : Nat) : Law l yN 5 4 2 35 yB 6 none site (P a D fV fC b A z o len) (E a D fV fC A o len) [⟨a, fC.slot⟩, ⟨a, fV.slot⟩] 1 len := by
  refine Law.of_walk (plainFor_of_name (by decide +kernel)) (by decide +kernel) (by decide +kernel) (by decide) (fun _ _ h => by rw [h.1]; rfl) (fun _ U U' hal hh h => ⟨h.1, h.2.1.mv hal hh, h.2.2.1.al hal, h.2.2.2.1.al hal, h.2.2.2.2.1.mv hal hh, h.2.2.2.2.2.1.there hal hh, h.2.2.2.2.2.2⟩) (fun r U U' V V' h1 hal h2 h => Got.mv r U U' V V' h1 hal h2 h) ?_
  intro p e s m args below meth c s₁ X0 hexec hbytes hml hret hlk hnm hown hh0 W hP
  obtain ⟨rfl, hB, f1, f2, hA, s1, hz, l0, l1, l2, hp⟩ := hP
  have a31 := hA.1.2.2.2
  have c1 : Steps p.tables e below (s₁.setTop (entryFrame m #[.ref a, .ref b, .int (Int32.ofNat o), .int (Int32.ofNat len), .null] 6)) (s₁.setTop (mkF m 0 #[.val (.ref a), .val (.ref b), .val (.int (Int32.ofNat o)), .val (.int (Int32.ofNat len)), .val .null, .unset] [])) := entry rfl
  have c2 : Steps p.tables e below (s₁.setTop (entryFrame m #[.ref a, .ref b, .int (Int32.ofNat o), .int (Int32.ofNat len), .null] 6)) (s₁.setTop (mkF m 1 #[.val (.ref a), .val (.ref b), .val (.int (Int32.ofNat o)), .val (.int (Int32.ofNat len)), .val .null, .unset] [.ref a])) := c1.trans (by
    refine XS.aloadN X0.here hexec rfl (hb hbytes d0) rfl rfl ?_
    exact Steps.refl _)
  obtain ⟨T3, X3, q3, st3⟩ := X0.oinit hexec hown (wks W (objW "java/lang/String" 1)) (g := (mkF m 1 #[.val (.ref a), .val (.ref b), .val (.int (Int32.ofNat o)), .val (.int (Int32.ofNat len)), .val .null, .unset] [.ref a])) rfl (by rw [hml]; rfl) (rest := []) rfl (hb hbytes d1) (W := 0) (by show 2 * 0 + 0 ≤ _; decide) (Nat.le_of_ble_eq_true rfl) (Nat.le_of_ble_eq_true rfl)
  have hh3 := q3.trans hh0
  have c4 : Steps p.tables e below (s₁.setTop (entryFrame m #[.ref a, .ref b, .int (Int32.ofNat o), .int (Int32.ofNat len), .null] 6)) (T3.setTop (mkF m 27 #[.val (.ref a), .val (.ref b), .val (.int (Int32.ofNat o)), .val (.int (Int32.ofNat len)), .val .null, .unset] [])) := (c2.trans (st3 _ (Steps.refl _))).trans (by
    refine XS.iloadN X3.here hexec rfl (hb hbytes d4) rfl ?_
    refine XS.ifYes X3.here hexec rfl (pc0 := 5) rfl (hb hbytes d5) rfl (i0_ne_t (nz32 (by omega) l0)) (by decide) rfl ?_
    exact Steps.refl _)
  obtain ⟨T5, X5, q5, st5⟩ := X3.sget hexec hown (wk W (.fieldLink "java/lang/String" 38 "java/lang/String" "COMPACT_STRINGS" "Z")) s1 (fun _ _ h => by rw [hh3]; exact h) (g := (mkF m 27 #[.val (.ref a), .val (.ref b), .val (.int (Int32.ofNat o)), .val (.int (Int32.ofNat len)), .val .null, .unset] [])) rfl (hb hbytes d27)
  have hh5 := q5.trans hh3
  have c6 : Steps p.tables e below (s₁.setTop (entryFrame m #[.ref a, .ref b, .int (Int32.ofNat o), .int (Int32.ofNat len), .null] 6)) (T5.setTop (mkF m 30 #[.val (.ref a), .val (.ref b), .val (.int (Int32.ofNat o)), .val (.int (Int32.ofNat len)), .val .null, .unset] [.int z])) := c4.trans (st5 _ (Steps.refl _))
  have c7 : Steps p.tables e below (s₁.setTop (entryFrame m #[.ref a, .ref b, .int (Int32.ofNat o), .int (Int32.ofNat len), .null] 6)) (T5.setTop (mkF m 36 #[.val (.ref a), .val (.ref b), .val (.int (Int32.ofNat o)), .val (.int (Int32.ofNat len)), .val .null, .unset] [.int (Int32.ofNat len), .int (Int32.ofNat o), .ref b])) := c6.trans (by
    refine XS.ifNo X5.here hexec rfl (hb hbytes d30) rfl (i0_eq_f hz) ?_
    refine XS.aloadN X5.here hexec rfl (hb hbytes d33) rfl rfl ?_
    refine XS.iloadN X5.here hexec rfl (hb hbytes d34) rfl ?_
    refine XS.iloadN X5.here hexec rfl (hb hbytes d35) rfl ?_
    exact Steps.refl _)
  obtain ⟨v8, T8, X8, E8, g8⟩ := X5.callS hexec (Cmp3.law l b A o len) hown (wks W (staticW "java/lang/String" 177 Cmp3.yN)) (wk W Cmp3.tab) (W := 0) (Nat.le_of_ble_eq_true rfl) (Nat.le_of_ble_eq_true rfl) (Nat.le_refl _) (by show 0 + len ≤ len; omega) (g := (mkF m 36 #[.val (.ref a), .val (.ref b), .val (.int (Int32.ofNat o)), .val (.int (Int32.ofNat len)), .val .null, .unset] [.int (Int32.ofNat len), .int (Int32.ofNat o), .ref b])) rfl (by rw [hml]; rfl) c7 (argsL := [.ref b, .int (Int32.ofNat o), .int (Int32.ofNat len)]) (rest := []) rfl rfl (by show 2 * 0 + 0 ≤ _; decide) (hb hbytes d36) (⟨rfl, hA.mv X5.warmed.alike hh5, l1, l2, hp⟩)
  obtain ⟨e8, z8⟩ := E8
  obtain ⟨rfl, N, n1, n2, n3, n4, n5, n6⟩ := NewArr.mv _ T5 s _ _ hh5.symm (Vm.Alike.refl _) rfl e8
  rw [hh5] at z8
  have hB1 := hB.keep X8.warmed.alike (n6 _ _ hB.1)
  have hne : s.heap.size ≠ a := (Nat.ne_of_lt (Array.getElem?_eq_some_iff.mp hB.1).1).symm
  have c9 : Steps p.tables e below (s₁.setTop (entryFrame m #[.ref a, .ref b, .int (Int32.ofNat o), .int (Int32.ofNat len), .null] 6)) (T8.setTop (mkF m 39 #[.val (.ref a), .val (.ref b), .val (.int (Int32.ofNat o)), .val (.int (Int32.ofNat len)), .val .null, .unset] [.ref s.heap.size])) := g8
  have c10 : Steps p.tables e below (s₁.setTop (entryFrame m #[.ref a, .ref b, .int (Int32.ofNat o), .int (Int32.ofNat len), .null] 6)) (T8.setTop (mkF m 45 #[.val (.ref a), .val (.ref b), .val (.int (Int32.ofNat o)), .val (.int (Int32.ofNat len)), .val .null, .val (.ref s.heap.size)] [.int (Int32.ofNat N.slots.size), .ref s.heap.size, .ref a])) := by
    have hc : Steps p.tables e below (s₁.setTop (entryFrame m #[.ref a, .ref b, .int (Int32.ofNat o), .int (Int32.ofNat len), .null] 6)) (T8.setTop (mkF m 45 #[.val (.ref a), .val (.ref b), .val (.int (Int32.ofNat o)), .val (.int (Int32.ofNat len)), .val .null, .val (.ref s.heap.size)] [.int (Int32.ofNat len), .ref s.heap.size, .ref a])) := c9.trans (by
      refine XS.astore X8.here hexec rfl (hb hbytes d39) rfl rfl rfl ?_
      refine XS.aloadN X8.here hexec rfl (hb hbytes d41) rfl rfl ?_
      refine XS.aload X8.here hexec rfl (hb hbytes d42) rfl rfl ?_
      refine XS.iloadN X8.here hexec rfl (hb hbytes d44) rfl ?_
      exact Steps.refl _)
    rw [n4]; exact hc
  obtain ⟨v11, T11, X11, E11, g11⟩ := X8.callS hexec (CodL.law l s.heap.size N) hown (wks W (staticW "java/lang/String" 47 CodL.yN)) (wk W CodL.tab) (W := 1) (Nat.le_of_ble_eq_true rfl) (Nat.le_of_ble_eq_true rfl) (Nat.le_refl _) (by show 0 + len + 0 ≤ len; omega) (g := (mkF m 45 #[.val (.ref a), .val (.ref b), .val (.int (Int32.ofNat o)), .val (.int (Int32.ofNat len)), .val .null, .val (.ref s.heap.size)] [.int (Int32.ofNat N.slots.size), .ref s.heap.size, .ref a])) rfl (by rw [hml]; rfl) c10 (argsL := [.ref s.heap.size, .int (Int32.ofNat N.slots.size)]) (rest := [.ref a]) rfl rfl (by show 2 * 0 + (1 + 0) ≤ _; decide) (hb hbytes d45) (⟨rfl, n1⟩)
  obtain ⟨rfl, q11⟩ := E11
  have hB11 := hB1.mv (X8.warmed.alike.symm.trans X11.warmed.alike) q11
  have c12 : Steps p.tables e below (s₁.setTop (entryFrame m #[.ref a, .ref b, .int (Int32.ofNat o), .int (Int32.ofNat len), .null] 6)) (T11.setTop (mkF m 48 #[.val (.ref a), .val (.ref b), .val (.int (Int32.ofNat o)), .val (.int (Int32.ofNat len)), .val .null, .val (.ref s.heap.size)] [.int 0, .ref a])) := g11
  obtain ⟨T13, X13, p13, bl13, sl13, st13⟩ := X11.finit hexec hown (wk W (.fieldLink "java/lang/String" 15 "java/lang/String" "coder" "B")) (Or.inr ⟨_, (wk W (.laysFinal "java/lang/String" "java/lang/String" "coder" "B"))⟩) (Or.inl ⟨rfl, hnm⟩) f2 (Or.inl rfl) hB11 (t := .byte) (by decide +kernel) rfl (g := (mkF m 48 #[.val (.ref a), .val (.ref b), .val (.int (Int32.ofNat o)), .val (.int (Int32.ofNat len)), .val .null, .val (.ref s.heap.size)] [.int 0, .ref a])) rfl (rest := []) rfl (hb hbytes d48)
  have c14 : Steps p.tables e below (s₁.setTop (entryFrame m #[.ref a, .ref b, .int (Int32.ofNat o), .int (Int32.ofNat len), .null] 6)) (T13.setTop (mkF m 54 #[.val (.ref a), .val (.ref b), .val (.int (Int32.ofNat o)), .val (.int (Int32.ofNat len)), .val .null, .val (.ref s.heap.size)] [.ref s.heap.size, .ref a])) := (c12.trans (st13 _ (Steps.refl _))).trans (by
    refine XS.aloadN X13.here hexec rfl (hb hbytes d51) rfl rfl ?_
    refine XS.aload X13.here hexec rfl (hb hbytes d52) rfl rfl ?_
    exact Steps.refl _)
  obtain ⟨T15, X15, p15, bl15, sl15, st15⟩ := X13.finit hexec hown (wk W (.fieldLink "java/lang/String" 9 "java/lang/String" "value" "[B")) (Or.inr ⟨_, (wk W (.laysFinal "java/lang/String" "java/lang/String" "value" "[B"))⟩) (Or.inl ⟨rfl, hnm⟩) f1 (Or.inl rfl) bl13 (t := (.array .byte)) (by decide +kernel) rfl (g := (mkF m 54 #[.val (.ref a), .val (.ref b), .val (.int (Int32.ofNat o)), .val (.int (Int32.ofNat len)), .val .null, .val (.ref s.heap.size)] [.ref s.heap.size, .ref a])) rfl (rest := []) rfl (hb hbytes d54)
  have c16 : Steps p.tables e below (s₁.setTop (entryFrame m #[.ref a, .ref b, .int (Int32.ofNat o), .int (Int32.ofNat len), .null] 6)) (T15.setTop (mkF m 57 #[.val (.ref a), .val (.ref b), .val (.int (Int32.ofNat o)), .val (.int (Int32.ofNat len)), .val .null, .val (.ref s.heap.size)] [])) := c14.trans (st15 _ (Steps.refl _))
  have ap := apart (Or.inr ⟨_, (wk W (.laysFinal "java/lang/String" "java/lang/String" "value" "[B"))⟩) (Or.inr ⟨_, (wk W (.laysFinal "java/lang/String" "java/lang/String" "coder" "B"))⟩) f1 f2 (t₁ := .array .byte) (t₂ := .byte) (by decide +kernel) (by decide +kernel) (by decide)
  have al := X8.warmed.alike.symm.trans X15.warmed.alike
  have n7 : T11.heap[s.heap.size]? = some N := by rw [q11]; exact n1.1
  exact ⟨T15, none, _, _, _, X15, by simp, rfl, by omega, (fun _ => rfl), ⟨rfl, _, N, bl15, ((Same.refl D _).set _ (by simp)).set _ (by simp), sl15, (Cell.slots_setSlot_ne _ ap).trans sl13, n1.keep al (p15.other hne (p13.other hne n7)), n2, by rw [al.findClass]; exact n3, n4, n5, fun y c h1 h2 => p15.other h1 (p13.other h1 (by rw [q11]; exact n6 y c h2)), by rw [p15.2.2, p13.2.2, q11]; exact z8⟩, fun fs hl => c16.trans (X15.returnOut hexec hret (hb hbytes d57) hl)⟩
end New4
namespace New1
def yN : MethodName := ⟨"java/lang/String", "<init>", "([C)V"⟩
abbrev yB : ByteArray := jdk_42_method_3_code
theorem d0 : decode yB 0 = .ok (.aload_n 0, 1) := by decide +kernel
theorem d1 : decode yB 1 = .ok (.aload_n 1, 1) := by decide +kernel
theorem d2 : decode yB 2 = .ok (.iconst 0, 1) := by decide +kernel
theorem d3 : decode yB 3 = .ok (.aload_n 1, 1) := by decide +kernel
theorem d4 : decode yB 4 = .ok (.arraylength, 1) := by decide +kernel
theorem d5 : decode yB 5 = .ok (.aconst_null, 1) := by decide +kernel
theorem d6 : decode yB 6 = .ok (.invokespecial 27, 3) := by decide +kernel
theorem d9 : decode yB 9 = .ok (.return_, 1) := by decide +kernel
def site : List Cond := [New4.tab] ++ initW "java/lang/String" 27 New4.yN
def tab : Cond := tabOf yN yB 2 none site
def P (a : Addr) (D : Cell) (fV fC : Field) (b : Addr) (A : Cell) (z : Int32) (args : Array Value) (s : State) : Prop := args = #[.ref a, .ref b] ∧ Blank "java/lang/String" a D s ∧ Found "java/lang/String" "value" "[B" fV s ∧ Found "java/lang/String" "coder" "B" fC s ∧ Ch b A s ∧ StaticIs s "java/lang/String" "COMPACT_STRINGS" "Z" (.int z) ∧ ¬ z = 0 ∧ 0 < A.slots.size ∧ A.slots.size ≤ 536870912 ∧ ∀ i, i < A.slots.size → ¬ 255 < cv A i
def E (a : Addr) (D : Cell) (fV fC : Field) (A : Cell) (r : Option Value) (s u : State) : Prop := Got a D fV fC A 0 A.slots.size r s u
/-- new String(chars), not empty, no char above 255: a Latin-1 String of their low bytes -/
theorem law (l : Launch) (a : Addr) (D : Cell) (fV fC : Field) (b : Addr) (A : Cell) (z : Int32) : Law l yN 2 1 3 52 yB 2 none site (P a D fV fC b A z) (E a D fV fC A) [⟨a, fC.slot⟩, ⟨a, fV.slot⟩] 1 A.slots.size := by
  refine Law.of_walk (plainFor_of_name (by decide +kernel)) (by decide +kernel) (by decide +kernel) (by decide) (fun _ _ h => by rw [h.1]; rfl) (fun _ U U' hal hh h => ⟨h.1, h.2.1.mv hal hh, h.2.2.1.al hal, h.2.2.2.1.al hal, h.2.2.2.2.1.mv hal hh, h.2.2.2.2.2.1.there hal hh, h.2.2.2.2.2.2⟩) (fun r U U' V V' h1 hal h2 h => Got.mv r U U' V V' h1 hal h2 h) ?_
  intro p e s m args below meth c s₁ X0 hexec hbytes hml hret hlk hnm hown hh0 W hP
  obtain ⟨rfl, hB, f1, f2, hA, s1, hz, l0, l2, hp⟩ := hP
  have c1 : Steps p.tables e below (s₁.setTop (entryFrame m #[.ref a, .ref b] 2)) (s₁.setTop (mkF m 0 #[.val (.ref a), .val (.ref b)] [])) := entry rfl
  have c2 : Steps p.tables e below (s₁.setTop (entryFrame m #[.ref a, .ref b] 2)) (s₁.setTop (mkF m 6 #[.val (.ref a), .val (.ref b)] [.null, .int (Int32.ofNat A.slots.size), .int 0, .ref b, .ref a])) := c1.trans (by
    refine XS.aloadN X0.here hexec rfl (hb hbytes d0) rfl rfl ?_
    refine XS.aloadN X0.here hexec rfl (hb hbytes d1) rfl rfl ?_
    refine iconstV X0.here hexec rfl 0 (hb hbytes d2) (by decide) ?_
    refine XS.aloadN X0.here hexec rfl (hb hbytes d3) rfl rfl ?_
    refine X0.alen hexec (hA.1.mv X0.warmed.alike hh0) rfl rfl (hb hbytes d4) ?_
    refine XS.aconstNull X0.here hexec rfl (hb hbytes d5) ?_
    exact Steps.refl _)
  obtain ⟨v3, T3, X3, E3, g3⟩ := X0.callN hexec (New4.law l a D fV fC b A z 0 A.slots.size) rfl hown (wks W (initW "java/lang/String" 27 New4.yN)) (W New4.tab (by simp only [site, List.mem_cons, List.mem_append, true_or, or_true])) (W := 0) (Nat.le_of_ble_eq_true rfl) (Nat.le_of_ble_eq_true rfl) (Nat.le_refl _) (by show 0 + A.slots.size ≤ A.slots.size; omega) (g := (mkF m 6 #[.val (.ref a), .val (.ref b)] [.null, .int (Int32.ofNat A.slots.size), .int (Int32.ofNat 0), .ref b, .ref a])) rfl (by rw [hml]; rfl) c2 (argsL := [.ref b, .int (Int32.ofNat 0), .int (Int32.ofNat A.slots.size), .null]) (rest := []) rfl rfl (by show 2 * 0 + 0 ≤ _; decide) (hb hbytes d6) (⟨rfl, hB.mv X0.warmed.alike hh0, f1.al X0.warmed.alike, f2.al X0.warmed.alike, hA.mv X0.warmed.alike hh0, s1.there X0.warmed.alike hh0, hz, l0, by omega, l2, fun i hi => by rw [Nat.zero_add]; exact hp i hi⟩)
  have e0 := Got.mv _ s₁ s _ _ hh0.symm (Vm.Alike.refl _) rfl E3
  obtain rfl := e0.1
  have c4 : Steps p.tables e below (s₁.setTop (entryFrame m #[.ref a, .ref b] 2)) (T3.setTop (mkF m 9 #[.val (.ref a), .val (.ref b)] [])) := g3
  exact ⟨T3, none, _, _, _, X3, by simp, rfl, by omega, (fun _ => rfl), e0, fun fs hl => c4.trans (X3.returnOut hexec hret (hb hbytes d9) hl)⟩
theorem pays {l : Launch} {R : Room} {p : Program} {e : Env} {below : List Frame} {s : State} {sargs : Array Value} {len W : Nat} (a : Addr) (D : Cell) (fV fC : Field) (b : Addr) (A : Cell) (z : Int32) (htab : tab.before sargs s = true) (hfr : 4 ≤ R.frames) (hlo : W + 65 ≤ R.locals) :
    Back l R p e below s sargs yN len W (fun A₁ a₁ => A₁.cells + 1 ≤ R.cells ∧ A₁.slots + A.slots.size ≤ R.slots ∧ P a D fV fC b A z a₁ A₁.U) (fun A₁ _ v₁ B₁ => E a D fV fC A v₁ A₁.U B₁.U ∧ B₁.locs = A₁.locs ++ [⟨a, fC.slot⟩, ⟨a, fV.slot⟩] ∧ B₁.cells = A₁.cells + 1 ∧ B₁.slots = A₁.slots + A.slots.size) :=
  (law l a D fV fC b A z).pays htab hfr (by omega)
end New1
/-- the byte, read back as charAt reads it, is the char -/
theorem lo8_mask {x : Int32} (h0 : ¬ x < 0) (h1 : ¬ 255 < x) : lo8 x &&& 255 = x := by
  have t : ∀ k : Fin 256, lo8 (Int32.ofNat k.val) &&& 255 = Int32.ofNat k.val := by decide +kernel
  rw [Int32.lt_iff_toInt_lt] at h0 h1
  have e0 : (0 : Int32).toInt = 0 := rfl
  have e1 : (255 : Int32).toInt = 255 := rfl
  obtain ⟨k, hk⟩ : ∃ k : Nat, x.toInt = k := ⟨x.toInt.toNat, by omega⟩
  have hx : x = Int32.ofNat k := Int32.toInt_inj.mp (by rw [hk, Int32.toInt_ofNat_small (by omega)])
  rw [hx]
  exact t ⟨k, by omega⟩
end StrChars
namespace StrChars.Road
open Jvm Sem ClassFile Op Lib Jvm.Stand Jvm.Free Jvm.Free.XT
open Jvm.Lib.Cold (StaticIs)
abbrev ST : String := "java/lang/String"
/-- every table word that New1's law asks, flat -/
abbrev words : List Jvm.Cond := [.code New1.yN New1.yB 2 none, .initialized ST, .methodLink ST 27 New4.yN, .instanceMethod New4.yN,
  .code New4.yN New4.yB 6 none, .fieldLink ST 38 ST "COMPACT_STRINGS" "Z", .laysFinal ST ST "value" "[B", .fieldLink ST 9 ST "value" "[B", .laysFinal ST ST "coder" "B", .fieldLink ST 15 ST "coder" "B",
  .methodLink ST 1 Lib.objectInit, .instanceMethod Lib.objectInit, .code Lib.objectInit ⟨#[0xb1]⟩ 1 none, .methodLink ST 177 Cmp3.yN, .static Cmp3.yN, .methodLink ST 47 CodL.yN, .static CodL.yN,
  .code Cmp3.yN Cmp3.yB 6 (some (.array .byte)), .initialized U16, .arrayClass .byte, .methodLink U16 115 Cmp5.yN, .static Cmp5.yN, .code Cmp5.yN Cmp5.yB 7 (some .int), .code CodL.yN CodL.yB 2 (some .byte)]
theorem tab_of {a : Array Value} {s : State} (h : ∀ w ∈ words, w.before a s = true) : New1.tab.before a s = true := by
  have h5 : Cmp5.tab.before a s = true := unparts (wk h (.code Cmp5.yN Cmp5.yB 7 (some .int))) (wks h (.initialized Cmp5.yN.cls :: Cmp5.site))
  have hc : CodL.tab.before a s = true := unparts (wk h (.code CodL.yN CodL.yB 2 (some .byte))) (wks h (.initialized CodL.yN.cls :: CodL.site))
  have q5 : ∀ w ∈ Cmp5.tab :: words, w.before a s = true := fun w hw => (List.mem_cons.mp hw).elim (fun e => e ▸ h5) (h w)
  have h3 : Cmp3.tab.before a s = true := unparts (wk q5 (.code Cmp3.yN Cmp3.yB 6 (some (.array .byte)))) (wks q5 (.initialized Cmp3.yN.cls :: Cmp3.site))
  have q3 : ∀ w ∈ Cmp3.tab :: CodL.tab :: words, w.before a s = true := fun w hw => (List.mem_cons.mp hw).elim (fun e => e ▸ h3) fun hw => (List.mem_cons.mp hw).elim (fun e => e ▸ hc) (h w)
  have h4 : New4.tab.before a s = true := unparts (wk q3 (.code New4.yN New4.yB 6 none)) (wks q3 (.initialized New4.yN.cls :: New4.site))
  have q4 : ∀ w ∈ New4.tab :: words, w.before a s = true := fun w hw => (List.mem_cons.mp hw).elim (fun e => e ▸ h4) (h w)
  exact unparts (wk q4 (.code New1.yN New1.yB 2 none)) (wks q4 (.initialized New1.yN.cls :: New1.site))
/-- the words ride from the start Z to the walk's own state -/
theorem moved {Z s : State} {a0 args : Array Value} (hZ : Z.Warmed39 s.vm) (hw : ∀ d ∈ words, d.before a0 Z = true) : ∀ d ∈ words, d.before args s = true := fun d hd => by
  have q := hw d hd
  have t : ∀ d ∈ words, d = .arrayClass .byte ∨ (d.onTables && d.keepsFace) = true := by decide +kernel
  rcases t d hd with rfl | t
  · exact RoadKit.mvA hZ q
  · exact RoadKit.mv hZ q t
/-- WHAT COMES BACK, over the tables of the start Z: h the heap at the call, h' behind it -/
def Q (Z : State) (x : Addr) (A : Cell) (h : Heap) (v : Option Value) (h' : Heap) (L : List Loc) : Prop := v = none ∧ (∀ y ∈ L, y.base = x) ∧ RoadKit.Keep h h' [x] ∧ h'.size = h.size + 1 ∧ RoadKit.Exa Z h' x ST ∧ RoadKit.Fld Z h' x ST "value" "[B" (.ref h.size) ∧ RoadKit.Fld Z h' x ST "coder" "B" (.int 0) ∧
  (∃ V : Cell, RoadKit.Arr Z h' h.size V .byte ∧ V.vm = .none ∧ Z.vm.findClass "[B" = some V.cls ∧ V.slots.size = A.slots.size ∧ ∀ j, j < A.slots.size → V.slots[j]? = some (.int (lo8 (cv A j)))) ∧
  ∀ (O n d : String) (w : Value), RoadKit.Fld Z h x O n d w → RoadKit.slotOf Z O n d ≠ RoadKit.slotOf Z ST "value" "[B" → RoadKit.slotOf Z O n d ≠ RoadKit.slotOf Z ST "coder" "B" → RoadKit.Fld Z h' x O n d w
/-- **new String(chars) AT A CALL, IN THE ROAD'S FORM**: for specialBack behind newO: x the fresh String, b the char[] with the cell A -/
theorem back {p : Program} {l : Launch} {e : Env} {R : Room} {s : State} {args : Array Value} {below : List Frame} {len W : Nat} {Z : State} {a0 : Array Value} {h : Heap} (hZ : Z.Warmed39 s.vm) (hw : ∀ d ∈ words, d.before a0 Z = true) {kI : Nat} (wi : (Jvm.Cond.instantiable ST kI).before a0 Z = true)
    {x b : Addr} {A : Cell} {z : Int32} {v0 c0 : Value} (E : RoadKit.Exa Z h x ST) (V : RoadKit.Fld Z h x ST "value" "[B" v0) (C : RoadKit.Fld Z h x ST "coder" "B" c0) (K : RoadKit.Arr Z h b A .char) (hty : Typed .char A) (S : RoadKit.Sta Z h ST "COMPACT_STRINGS" "Z" (.int z)) (hz : ¬ z = 0)
    (l0 : 0 < A.slots.size) (l2 : A.slots.size ≤ 536870912) (hp : ∀ i, i < A.slots.size → ¬ 255 < cv A i) (hfr : 4 ≤ R.frames) (hlo : W + 65 ≤ R.locals) :
    Back l R p e below s args New1.yN len W (fun P a => a = #[.ref x, .ref b] ∧ P.U.heap = h ∧ P.cells + 1 ≤ R.cells ∧ P.slots + A.slots.size ≤ R.slots)
      (fun P _ v B => ∃ L, Q Z x A h v B.U.heap L ∧ B.locs = P.locs ++ L ∧ B.cells = P.cells + 1 ∧ B.slots = P.slots + A.slots.size) := by
  intro m meth c P g ig mk a X hg hsize hdg hW hn hp'
  obtain ⟨rfl, rfl, r1, r2⟩ := hp'
  have al : Z.vm.Alike P.U.vm := hZ.alike.trans X.warmed.alike
  obtain ⟨D, cfV, kV, iV, fV, hD, gV, stV, knV, obV, asV, slV⟩ := id V
  obtain ⟨D', cfC, kC, iC, fC, hD', gC, stC, -, -, asC, slC⟩ := id C
  cases hD.symm.trans hD'
  obtain ⟨D2, kD, e1, e2, e3, e4, e5⟩ := id E
  cases hD.symm.trans e1
  obtain ⟨c2, k2, i1, i2, i3, -⟩ := Cond.instantiable_spec wi
  cases e2.symm.trans i1
  cases e3.symm.trans i2
  obtain ⟨kU, u1, u2⟩ := al.2.2 _ _ e3
  have hB : Blank ST x D P.U := ⟨hD, ⟨knV, fun q hq => by rw [hq] at obV; cases obV⟩, by rw [al.findClass]; exact e2, kU, u1, by rw [u2]; exact i3, by rw [u2]; exact e5 i3⟩
  have F1 : Found ST "value" "[B" fV P.U := ⟨SBG.found_only al ⟨cfV, kV, iV, gV⟩, stV⟩
  have F2 : Found ST "coder" "B" fC P.U := ⟨SBG.found_only al ⟨cfC, kC, iC, gC⟩, stC⟩
  have hA : Ch b A P.U := ⟨⟨K.1, State.isArrayOf_alike al K.2.1, K.2.2, by omega⟩, hty⟩
  have hS : StaticIs P.U ST "COMPACT_STRINGS" "Z" (.int z) := by
    obtain ⟨cfS, iS, kS, fS, st, cS, t1, t2, t3, t4, t5, t6, t7⟩ := S
    exact StaticIs.there (s := { Z with heap := P.U.heap }) ⟨cfS, iS, kS, fS, st, cS, t1, t2, t3, t4, t5, (fun q => by rw [q] at t6; cases t6), t7⟩ al rfl
  obtain ⟨v, B, X', ⟨⟨hv, E', V', q1, q2, q3, q4, q5, q6, q7, q8, q9, q10, q11⟩, hl, hc, hs⟩, st⟩ := New1.pays x D fV fC b A z (tab_of (moved hZ hw)) hfr hlo m meth c P g ig mk _ X hg hsize hdg hW hn ⟨r1, r2, rfl, hB, F1, F2, hA, hS, hz, l0, l2, hp⟩
  have al' : Z.vm.Alike B.U.vm := hZ.alike.trans X'.warmed.alike
  have hsz : E'.slots.size = D.slots.size := by
    obtain ⟨-, -, -, kB, w1, w2, w3⟩ := q1
    obtain ⟨kB', y1, y2⟩ := al'.2.2 _ _ e3
    rw [q2.2.1] at w1
    cases w1.symm.trans y1
    rw [w3, e5 i3, y2]
  refine ⟨v, B, X', ⟨_, ⟨hv, ?_, ⟨by omega, fun y cy hy hn' => q10 y cy (by simpa using hn') hy, fun y cy hy => ?_⟩, q11, ⟨E', _, q1.1, by rw [q2.2.1]; exact e2, by rw [q2.2.1]; exact e3, by rw [q2.1]; exact obV, fun _ => by rw [hsz]; exact e5 i3⟩,
    ⟨E', cfV, kV, iV, fV, q1.1, gV, stV, by rw [q2.1]; exact knV, by rw [q2.1]; exact obV, by rw [q2.2.1]; exact asV, q3⟩, ⟨E', cfC, kC, iC, fC, q1.1, gC, stC, by rw [q2.1]; exact knV, by rw [q2.1]; exact obV, by rw [q2.2.1]; exact asC, q4⟩,
    ⟨V', ⟨q5.1, State.isArrayOf_alike al'.symm q5.2.1, q5.2.2.1⟩, q6, by rw [← al'.findClass]; exact q7, q8, fun j hj => by have := q9 j hj; rwa [Nat.zero_add] at this⟩, fun O n d w F n1 n2 => ?_⟩, hl, hc, hs⟩, st⟩
  · intro y hy
    simp only [List.mem_cons, List.not_mem_nil, or_false] at hy
    rcases hy with rfl | rfl <;> rfl
  · by_cases q : y = x
    · subst q
      cases hD.symm.trans hy
      exact ⟨E', q1.1, q2.2.1, q2.1, hsz⟩
    · exact ⟨cy, q10 y cy q hy, rfl, rfl, rfl⟩
  · obtain ⟨D3, cf, k, i, f, g1, g2, g3, g4, g5, g6, g7⟩ := F
    cases hD.symm.trans g1
    simp only [RoadKit.slotOf, g2, gV, gC, Option.map_some, Option.getD_some] at n1 n2
    exact ⟨E', cf, k, i, f, q1.1, g2, g3, by rw [q2.1]; exact g4, by rw [q2.1]; exact g5, by rw [q2.2.1]; exact g6, by rw [q2.2.2 f.slot (by simp [n1, n2])]; exact g7⟩
end StrChars.Road
namespace StrChars.Road
open Jvm Sem ClassFile Op Lib Jvm.Stand Jvm.Free Jvm.Free.XT
/-- WHAT COMES BACK, the byte[] as a list of values -/
def QA (Z : State) (x : Addr) (zn : Int32) (cs : List Int32) (h : Heap) (v : Option Value) (h' : Heap) (L : List Loc) : Prop := v = none ∧ (∀ y ∈ L, y.base = x) ∧ RoadKit.Keep h h' [x] ∧ h'.size = h.size + 1 ∧ RoadKit.Exa Z h' x ST ∧ RoadKit.Fld Z h' x ST "value" "[B" (.ref h.size) ∧ RoadKit.Fld Z h' x ST "coder" "B" (.int 0) ∧
  (∃ kb, Z.vm.findClass "[B" = some kb ∧ RoadKit.Arv Z h' h.size kb .byte zn (cs.map fun c => .int (lo8 c)) (.int 0)) ∧
  ∀ (O n d : String) (w : Value), RoadKit.Fld Z h x O n d w → RoadKit.slotOf Z O n d ≠ RoadKit.slotOf Z ST "value" "[B" → RoadKit.slotOf Z O n d ≠ RoadKit.slotOf Z ST "coder" "B" → RoadKit.Fld Z h' x O n d w
/-- **new String(chars) AT A CALL, THE ARRAYS AS LISTS**: the char[] at b holds cs, not empty, no char above 255 -/
theorem backArv {p : Program} {l : Launch} {e : Env} {R : Room} {s : State} {args : Array Value} {below : List Frame} {len W : Nat} {Z : State} {a0 : Array Value} {h : Heap} (hZ : Z.Warmed39 s.vm) (hw : ∀ d ∈ words, d.before a0 Z = true) {kI : Nat} (wi : (Jvm.Cond.instantiable ST kI).before a0 Z = true)
    {x b : Addr} {k : ClassId} {zn z : Int32} {cs : List Int32} {dv v0 c0 : Value} (E : RoadKit.Exa Z h x ST) (V : RoadKit.Fld Z h x ST "value" "[B" v0) (C : RoadKit.Fld Z h x ST "coder" "B" c0) (K : RoadKit.Arv Z h b k .char zn (cs.map Value.int) dv) (S : RoadKit.Sta Z h ST "COMPACT_STRINGS" "Z" (.int z)) (hz : ¬ z = 0)
    (hlen : zn.toNatClampNeg = cs.length) (h0 : 0 < cs.length) (hbig : cs.length ≤ 536870912) (hall : ∀ c ∈ cs, ¬ 255 < c) (hfr : 4 ≤ R.frames) (hlo : W + 65 ≤ R.locals) :
    Back l R p e below s args New1.yN len W (fun P a => a = #[.ref x, .ref b] ∧ P.U.heap = h ∧ P.cells + 1 ≤ R.cells ∧ P.slots + cs.length ≤ R.slots)
      (fun P _ v B => ∃ L, QA Z x zn cs h v B.U.heap L ∧ B.locs = P.locs ++ L ∧ B.cells = P.cells + 1 ∧ B.slots = P.slots + cs.length) := by
  obtain ⟨A, K1, K2, K3, K4, K5, K6⟩ := K
  have e : A.slots.size = cs.length := K3.trans hlen
  have hat : ∀ (i : Nat) (hi : i < cs.length), A.slots[i]? = some (.int cs[i]) := fun i hi => by rw [K5 i (by omega)]; simp [List.getD_eq_getElem?_getD, hi]
  have hcv : ∀ (i : Nat) (hi : i < cs.length), cv A i = cs[i] := fun i hi => by unfold cv; rw [hat i hi]
  have hty : Typed .char A := fun i v hv => by
    have hi : i < A.slots.size := (Array.getElem?_eq_some_iff.mp hv).1
    have q := K5 i hi
    rw [hv] at q
    rw [Option.some.inj q]
    exact K6 i hi
  refine Back.mono (back hZ hw wi E V C K1 hty S hz (by omega) (by omega) (fun i hi => by rw [hcv i (by omega)]; exact hall _ (List.getElem_mem _)) hfr hlo) (fun P a hp => ⟨hp.1, hp.2.1, hp.2.2.1, by rw [e]; exact hp.2.2.2⟩) (fun P a v B hp hq => ?_)
  obtain ⟨L, ⟨q1, q2, q3, q4, q5, q6, q7, ⟨V', v1, v2, v3, v4, v5⟩, q9⟩, hl, hc, hs⟩ := hq
  refine ⟨L, ⟨q1, q2, q3, q4, q5, q6, q7, ⟨V'.cls, v3, V', v1, rfl, by rw [v4, e, hlen], K4, fun i hi => ?_, fun i hi => ?_⟩, q9⟩, hl, hc, by rw [hs, e]⟩
  · have hi' : i < cs.length := by omega
    rw [v5 i (by omega), hcv i hi']; simp [List.getD_eq_getElem?_getD, hi']
  · have hi' : i < cs.length := by omega
    simp only [List.getD_eq_getElem?_getD, List.getElem?_map, List.getElem?_eq_getElem hi', Option.map_some, Option.getD_some]
    exact fits_lo8 _
end StrChars.Road
namespace StrChars.Road
open Jvm Sem ClassFile Op Lib Jvm.Stand Jvm.Free Jvm.Free.XT
/-- WHAT COMES BACK, in the writer's own shape -/
def QV (Z : State) (x : Addr) (N : Int32) (bs : List Int32) (h : Heap) (n0 : Nat) (v : Option Value) (h' : Heap) (L : List Loc) : Prop := v = none ∧ RoadKit.Fr n0 L ∧ RoadKit.Keep h h' [x] ∧ RoadKit.Exa Z h' x ST ∧ RoadKit.Fld Z h' x ST "coder" "B" (.int 0) ∧
  ∃ (t : Addr) (kb : ClassId), n0 ≤ t ∧ h.size ≤ t ∧ ¬ t = x ∧ RoadKit.Fld Z h' x ST "value" "[B" (.ref t) ∧ RoadKit.Arv Z h' t kb .byte N (bs.map Value.int) (.int 0)
/-- **new String(chars) AT A CALL, FOR THE WRITER**: a char[] of n known ints, each 0 to 255 -/
theorem backV {p : Program} {l : Launch} {e : Env} {R : Room} {s : State} {args : Array Value} {below : List Frame} {len W : Nat} {Z : State} {a0 : Array Value} {h : Heap} (hZ : Z.Warmed39 s.vm) (hw : ∀ d ∈ words, d.before a0 Z = true) {kI : Nat} (wi : (Jvm.Cond.instantiable ST kI).before a0 Z = true)
    {x b : Addr} {kC : ClassId} {cs bs : List Int32} {d v0 c0 : Value} {z N : Int32} {n n0 : Nat} (hx0 : n0 ≤ x) (hh0 : n0 ≤ h.size) (E : RoadKit.Exa Z h x ST) (V : RoadKit.Fld Z h x ST "value" "[B" v0) (C : RoadKit.Fld Z h x ST "coder" "B" c0) (K : RoadKit.Arv Z h b kC .char N (cs.map Value.int) d) (S : RoadKit.Sta Z h ST "COMPACT_STRINGS" "Z" (.int z)) (hz : ¬ z = 0)
    (hn : cs.length = n) (hN : N = Int32.ofNat n) (l0 : 0 < n) (l2 : n ≤ 4000) (hp : ∀ c ∈ cs, ¬ c < 0 ∧ ¬ (255 : Int32) < c) (hb : bs = cs.map (fun c => c.toInt8.toInt32)) (hfr : 4 ≤ R.frames) (hlo : W + 65 ≤ R.locals) :
    Back l R p e below s args (⟨"java/lang/String", "<init>", "([C)V"⟩ : MethodName) len W (fun P a => a = #[.ref x, .ref b] ∧ P.U.heap = h ∧ P.cells + 1 ≤ R.cells ∧ P.slots + n ≤ R.slots)
      (fun P _ v B => ∃ L, QV Z x N bs h n0 v B.U.heap L ∧ B.locs = P.locs ++ L ∧ B.cells = P.cells + 1 ∧ B.slots = P.slots + n) := by
  subst hn hN hb
  refine Back.mono (backArv hZ hw wi E V C K S hz (n32 (by omega)) l0 (by omega) (fun c hc => (hp c hc).2) hfr hlo) (fun P a hp => hp) (fun P a v B hp hq => ?_)
  obtain ⟨L, ⟨q1, q2, q3, q4, q5, q6, q7, ⟨kb, v1, v2⟩, q9⟩, hl, hc, hs⟩ := hq
  exact ⟨L, ⟨q1, fun y hy => by rw [q2 y hy]; exact hx0, q3, q5, q7, h.size, kb, hh0, Nat.le_refl _, Nat.ne_of_gt E.lt, q6, by rw [List.map_map]; exact v2⟩, hl, hc, hs⟩
end StrChars.Road
namespace StrChars
open Jvm Sem ClassFile Op Lib Jvm.Stand Jvm.Free.XT Jvm.Free.ALB Jvm.Free.JM Jvm.Free
open Jvm.Lib.Cold (StaticIs)
def hi8 (x : Int32) : Int32 := lo8 (x >>> ((8 : Int32) &&& 31))
/-- what StringUTF16.getChar makes of two bytes -/
def pairCh (u v : Int32) : Int32 := (((u &&& 255) <<< ((0 : Int32) &&& 31)) ||| ((v &&& 255) <<< ((8 : Int32) &&& 31))).toUInt32.toUInt16.toUInt32.toInt32
theorem lo8_and (x : Int32) : (lo8 x &&& 255).toBitVec.toNat = x.toBitVec.toNat % 256 := by
  have h : (lo8 x).toBitVec = (x.toBitVec.signExtend 8).signExtend 32 := by rw [lo8, Int8.toBitVec_toInt32, Int32.toBitVec_toInt8]
  rw [Int32.toBitVec_and, BitVec.toNat_and, h]
  have e : ((x.toBitVec.signExtend 8).signExtend 32).toNat % 256 = x.toBitVec.toNat % 256 := by
    rw [BitVec.toNat_signExtend]
    have hlt := x.toBitVec.isLt
    simp only [BitVec.toNat_setWidth, BitVec.toNat_signExtend]
    split <;> split <;> omega
  rw [← e]
  exact Nat.and_two_pow_sub_one_eq_mod _ 8
theorem pair_says {c : Int32} (h0 : ¬ c < 0) (h1 : ¬ 65535 < c) : pairCh (lo8 c) (hi8 c) = c := by
  rw [Int32.lt_iff_toInt_lt] at h0 h1
  have e0 : (0 : Int32).toInt = 0 := rfl
  have e1 : (65535 : Int32).toInt = 65535 := rfl
  have hc : c.toInt = c.toBitVec.toNat := by
    have := c.toBitVec.isLt
    have e : c.toInt = c.toBitVec.toInt := rfl
    rw [e] at h0 h1
    rw [e]
    rw [BitVec.toInt_eq_toNat_cond] at h0 h1 ⊢
    split at h0 <;> split <;> omega
  have hn : c.toBitVec.toNat < 65536 := by omega
  have a1 := lo8_and c
  have a2 : (hi8 c &&& 255).toBitVec.toNat = c.toBitVec.toNat / 256 := by
    rw [hi8, lo8_and]
    have e : ((8 : Int32) &&& 31) = 8 := by decide
    rw [e, Int32.toBitVec_shiftRight]
    have e2 : ((8 : Int32).toBitVec.smod 32) = 8#32 := by decide
    rw [e2, BitVec.sshiftRight_eq', BitVec.toNat_sshiftRight_of_msb_false (by rw [BitVec.msb_eq_false_iff_two_mul_lt]; omega)]
    show c.toBitVec.toNat >>> 8 % 256 = _
    rw [Nat.shiftRight_eq_div_pow]
    omega
  unfold pairCh
  apply Int32.toBitVec_inj.mp
  apply BitVec.eq_of_toNat_eq
  have f0 : ((0 : Int32) &&& 31) = 0 := by decide
  have f8 : ((8 : Int32) &&& 31) = 8 := by decide
  rw [f0, f8]
  have g : (((lo8 c &&& 255) <<< (0 : Int32)) ||| ((hi8 c &&& 255) <<< (8 : Int32))).toBitVec.toNat = c.toBitVec.toNat := by
    rw [Int32.toBitVec_or, Int32.toBitVec_shiftLeft, Int32.toBitVec_shiftLeft]
    have s0 : ((0 : Int32).toBitVec.smod 32) = 0#32 := by decide
    have s8 : ((8 : Int32).toBitVec.smod 32) = 8#32 := by decide
    rw [s0, s8, BitVec.toNat_or]
    simp only [BitVec.shiftLeft_eq', BitVec.toNat_shiftLeft, a1, a2]
    show (c.toBitVec.toNat % 256) <<< 0 % 2 ^ 32 ||| (c.toBitVec.toNat / 256) <<< 8 % 2 ^ 32 = _
    rw [Nat.shiftLeft_zero, Nat.mod_eq_of_lt (show c.toBitVec.toNat % 256 < 2 ^ 32 by omega), Nat.mod_eq_of_lt (show (c.toBitVec.toNat / 256) <<< 8 < 2 ^ 32 by rw [Nat.shiftLeft_eq]; omega), Nat.or_comm, ← Nat.shiftLeft_add_eq_or_of_lt (by omega), Nat.shiftLeft_eq]
    omega
  show BitVec.toNat (((((lo8 c &&& 255) <<< (0 : Int32)) ||| ((hi8 c &&& 255) <<< (8 : Int32))).toBitVec.setWidth 16).setWidth 32) = _
  rw [BitVec.toNat_setWidth, BitVec.toNat_setWidth, g]
  omega
end StrChars
namespace StrChars
open Jvm Sem ClassFile Op Lib Jvm.Stand Jvm.Free.XT Jvm.Free.ALB Jvm.Free.JM Jvm.Free
open Jvm.Lib.Cold (StaticIs)
/-- the array's cell V codes the n chars f 0 .. f (n - 1) by the coder cd, as the JDK does: coder 1 just where some char is above 255 -/
def Cod (cd : Int32) (n : Nat) (f : Nat → Int32) (V : Cell) : Prop := (cd = 0 ∧ V.slots.size = n ∧ ∀ j, j < n → V.slots[j]? = some (.int (lo8 (f j))) ∧ ¬ 255 < f j) ∨ (cd = 1 ∧ V.slots.size = 2 * n ∧ (∀ j, j < n → V.slots[2 * j]? = some (.int (lo8 (f j))) ∧ V.slots[2 * j + 1]? = some (.int (hi8 (f j)))) ∧ ∃ j, j < n ∧ 255 < f j)
/-- **x is a String of the n chars f 0 .. f (n - 1)**, Latin-1 or UTF-16; its array at t has the cell V -/
def Txt (x t : Addr) (V : Cell) (cd : Int32) (n : Nat) (f : Nat → Int32) (U : State) : Prop := Exact "java/lang/String" x U ∧ Has x "java/lang/String" "value" "[B" (.ref t) U ∧ Has x "java/lang/String" "coder" "B" (.int cd) U ∧ XT.Arr .byte t V U ∧ Cod cd n f V ∧ ∀ j, j < n → ¬ f j < 0 ∧ ¬ 65535 < f j
theorem Txt.mv {x t : Addr} {V : Cell} {cd : Int32} {n : Nat} {f : Nat → Int32} {U U' : State} (h : Txt x t V cd n f U) (hal : U.vm.Alike U'.vm) (hh : U'.heap = U.heap) : Txt x t V cd n f U' := ⟨h.1.mv hal hh, h.2.1.mv hal hh, h.2.2.1.mv hal hh, h.2.2.2.1.mv hal hh, h.2.2.2.2⟩
end StrChars
namespace StrChars.Road
open Jvm Sem ClassFile Op Lib Jvm.Stand Jvm.Free Jvm.Free.XT
open Jvm.Lib.Cold (StaticIs)
theorem consq {a : Array Value} {s : State} {c : Jvm.Cond} {L : List Jvm.Cond} (h0 : c.before a s = true) (h : ∀ w ∈ L, w.before a s = true) : ∀ w ∈ c :: L, w.before a s = true := fun w hw => (List.mem_cons.mp hw).elim (fun e => e ▸ h0) (h w)
/-- the bytes of the chars cs, low before high -/
def wideBytes : List Int32 → List Value
  | [] => []
  | c :: cs => .int (lo8 c) :: .int (hi8 c) :: wideBytes cs
theorem wide_lo (d : Value) : ∀ (cs : List Int32) (j : Nat), j < cs.length → (wideBytes cs).getD (2 * j) d = .int (lo8 (cs.getD j 0))
  | [], j, h => absurd h (Nat.not_lt_zero j)
  | c :: cs, 0, _ => rfl
  | c :: cs, j + 1, h => by
    have q := wide_lo d cs j (by simpa using h)
    rw [show 2 * (j + 1) = 2 * j + 1 + 1 from by omega]
    simpa [wideBytes] using q
theorem wide_hi (d : Value) : ∀ (cs : List Int32) (j : Nat), j < cs.length → (wideBytes cs).getD (2 * j + 1) d = .int (hi8 (cs.getD j 0))
  | [], j, h => absurd h (Nat.not_lt_zero j)
  | c :: cs, 0, _ => rfl
  | c :: cs, j + 1, h => by
    have q := wide_hi d cs j (by simpa using h)
    rw [show 2 * (j + 1) + 1 = 2 * j + 1 + 1 + 1 from by omega]
    simpa [wideBytes] using q
theorem low_at (d : Value) (cs : List Int32) (j : Nat) (h : j < cs.length) : (cs.map fun c => Value.int (lo8 c)).getD j d = .int (lo8 (cs.getD j 0)) := by
  simp [List.getD_eq_getElem?_getD, h]
/-- an array of N2 bytes vs codes the chars cs by the coder cd -/
def CodA (cs : List Int32) (cd N2 : Int32) (vs : List Value) : Prop := (cd = 0 ∧ N2 = Int32.ofNat cs.length ∧ vs = (cs.map fun c => Value.int (lo8 c)) ∧ ∀ c ∈ cs, ¬ 255 < c) ∨ (cd = 1 ∧ N2 = Int32.ofNat (2 * cs.length) ∧ vs = wideBytes cs ∧ ∃ c ∈ cs, 255 < c)
theorem CodA.cod {cs : List Int32} {cd N2 : Int32} {vs : List Value} {V : Cell} (h : CodA cs cd N2 vs) (hn : 2 * cs.length < 2 ^ 31) (hs : V.slots.size = N2.toNatClampNeg) (hv : RoadKit.Has V vs (.int 0)) : Cod cd cs.length (fun j => cs.getD j 0) V := by
  rcases h with ⟨rfl, rfl, rfl, h⟩ | ⟨rfl, rfl, rfl, c, hc, hw⟩
  · rw [n32 (by omega)] at hs
    exact Or.inl ⟨rfl, hs, fun j hj => ⟨by rw [hv j (by omega), low_at _ _ _ hj], by
      have e : cs.getD j 0 = cs[j] := by simp [List.getD_eq_getElem?_getD, hj]
      show ¬ 255 < cs.getD j 0
      rw [e]; exact h _ (List.getElem_mem _)⟩⟩
  · rw [n32 (by omega)] at hs
    obtain ⟨j, hj, rfl⟩ := List.getElem_of_mem hc
    exact Or.inr ⟨rfl, hs, fun j hj => ⟨by rw [hv _ (by omega), wide_lo _ _ _ hj], by rw [hv _ (by omega), wide_hi _ _ _ hj]⟩, j, hj, by
      have e : cs.getD j 0 = cs[j] := by simp [List.getD_eq_getElem?_getD, hj]
      show 255 < cs.getD j 0
      rw [e]; exact hw⟩
/-- an object of exactly java/lang/String, its two fields found: as the laws ask it -/
theorem strObj {Z U : State} {a0 : Array Value} {kI : Nat} (wi : (Jvm.Cond.instantiable ST kI).before a0 Z = true) (al : Z.vm.Alike U.vm) {x : Addr} {v0 c0 : Value} (E : RoadKit.Exa Z U.heap x ST) (V : RoadKit.Fld Z U.heap x ST "value" "[B" v0) (C : RoadKit.Fld Z U.heap x ST "coder" "B" c0) :
    ∃ (D : Cell) (fV fC : Field), Blank ST x D U ∧ Found ST "value" "[B" fV U ∧ Found ST "coder" "B" fC U ∧ D.slots[fV.slot]? = some v0 ∧ D.slots[fC.slot]? = some c0 ∧ RoadKit.slotOf Z ST "value" "[B" = fV.slot ∧ RoadKit.slotOf Z ST "coder" "B" = fC.slot := by
  obtain ⟨D, cfV, kV, iV, fV, hD, gV, stV, knV, obV, asV, slV⟩ := V
  obtain ⟨D', cfC, kC, iC, fC, hD', gC, stC, -, -, asC, slC⟩ := C
  cases hD.symm.trans hD'
  obtain ⟨D2, kD, e1, e2, e3, e4, e5⟩ := E
  cases hD.symm.trans e1
  obtain ⟨c2, k2, i1, i2, i3, -⟩ := Cond.instantiable_spec wi
  cases e2.symm.trans i1
  cases e3.symm.trans i2
  obtain ⟨kU, u1, u2⟩ := al.2.2 _ _ e3
  exact ⟨D, fV, fC, ⟨hD, ⟨knV, fun q hq => by rw [hq] at obV; cases obV⟩, by rw [al.findClass]; exact e2, kU, u1, by rw [u2]; exact i3, by rw [u2]; exact e5 i3⟩, ⟨SBG.found_only al ⟨cfV, kV, iV, gV⟩, stV⟩, ⟨SBG.found_only al ⟨cfC, kC, iC, gC⟩, stC⟩, slV, slC, by simp [RoadKit.slotOf, gV], by simp [RoadKit.slotOf, gC]⟩
theorem sta_is {Z U : State} (al : Z.vm.Alike U.vm) {C n d : String} {v : Value} (S : RoadKit.Sta Z U.heap C n d v) : StaticIs U C n d v := by
  obtain ⟨cfS, iS, kS, fS, st, cS, t1, t2, t3, t4, t5, t6, t7⟩ := S
  exact StaticIs.there (s := { Z with heap := U.heap }) ⟨cfS, iS, kS, fS, st, cS, t1, t2, t3, t4, t5, (fun q => by rw [q] at t6; cases t6), t7⟩ al rfl
end StrChars.Road
namespace StrChars
open Jvm Sem ClassFile Op Lib Jvm.Stand Jvm.Free.XT Jvm.Free.ALB Jvm.Free.JM Jvm.Free
open Jvm.Lib.Cold (StaticIs)
/-- what place i of a byte[]'s cell holds -/
def yv (A : Cell) (i : Nat) : Int32 := match A.slots[i]? with | some (.int x) => x | _ => 0
theorem yv_get {a : Addr} {A : Cell} {U : State} (h : XT.Arr .byte a A U) (ht : Typed .byte A) {i : Nat} (hi : i < A.slots.size) : A.slots[i]? = some (.int (yv A i)) := by
  have e := Array.getElem?_eq_getElem hi
  have f := ht i _ e
  unfold yv; rw [e]
  generalize A.slots[i] = v at f
  cases v <;> simp [fits] at f ⊢
/-- the two arrays are equal, place for place -/
def EqC (A B : Cell) : Prop := A.slots.size = B.slots.size ∧ ∀ i, i < A.slots.size → yv A i = yv B i
/-- a boolean that says whether p -/
def Says01 (q : Prop) (r : Option Value) (s u : State) : Prop := ∃ v : Int32, r = some (.int v) ∧ u.heap = s.heap ∧ ((v = 1 ∧ q) ∨ (v = 0 ∧ ¬ q))
theorem Says01.mv {q : Prop} : ∀ r (U U' V V' : State), U'.heap = U.heap → V.vm.Alike V'.vm → V'.heap = V.heap → Says01 q r U V → Says01 q r U' V' :=
  fun r U U' V V' h1 _ h2 ⟨v, a, b, c⟩ => ⟨v, a, by rw [h1, h2]; exact b, c⟩
namespace LEq
def yN : MethodName := ⟨"java/lang/StringLatin1", "equals", "([B[B)Z"⟩
abbrev yB : ByteArray := jdk_43_method_13_code
theorem d0 : decode yB 0 = .ok (.aload_n 0, 1) := by decide +kernel
theorem d1 : decode yB 1 = .ok (.arraylength, 1) := by decide +kernel
theorem d2 : decode yB 2 = .ok (.aload_n 1, 1) := by decide +kernel
theorem d3 : decode yB 3 = .ok (.arraylength, 1) := by decide +kernel
theorem d4 : decode yB 4 = .ok (.if_icmp (.ne) 30, 3) := by decide +kernel
theorem d7 : decode yB 7 = .ok (.iconst 0, 1) := by decide +kernel
theorem d8 : decode yB 8 = .ok (.istore_n 2, 1) := by decide +kernel
theorem d9 : decode yB 9 = .ok (.iload_n 2, 1) := by decide +kernel
theorem d10 : decode yB 10 = .ok (.aload_n 0, 1) := by decide +kernel
theorem d11 : decode yB 11 = .ok (.arraylength, 1) := by decide +kernel
theorem d12 : decode yB 12 = .ok (.if_icmp (.ge) 20, 3) := by decide +kernel
theorem d15 : decode yB 15 = .ok (.aload_n 0, 1) := by decide +kernel
theorem d16 : decode yB 16 = .ok (.iload_n 2, 1) := by decide +kernel
theorem d17 : decode yB 17 = .ok (.baload, 1) := by decide +kernel
theorem d18 : decode yB 18 = .ok (.aload_n 1, 1) := by decide +kernel
theorem d19 : decode yB 19 = .ok (.iload_n 2, 1) := by decide +kernel
theorem d20 : decode yB 20 = .ok (.baload, 1) := by decide +kernel
theorem d21 : decode yB 21 = .ok (.if_icmp (.eq) 5, 3) := by decide +kernel
theorem d24 : decode yB 24 = .ok (.iconst 0, 1) := by decide +kernel
theorem d25 : decode yB 25 = .ok (.ireturn, 1) := by decide +kernel
theorem d26 : decode yB 26 = .ok (.iinc 2 1, 3) := by decide +kernel
theorem d29 : decode yB 29 = .ok (.goto (-20), 3) := by decide +kernel
theorem d32 : decode yB 32 = .ok (.iconst 1, 1) := by decide +kernel
theorem d33 : decode yB 33 = .ok (.ireturn, 1) := by decide +kernel
theorem d34 : decode yB 34 = .ok (.iconst 0, 1) := by decide +kernel
theorem d35 : decode yB 35 = .ok (.ireturn, 1) := by decide +kernel
def site : List Cond := []
def tab : Cond := tabOf yN yB 3 (some .boolean) site
def P (a : Addr) (A : Cell) (b : Addr) (B : Cell) (args : Array Value) (s : State) : Prop := args = #[.ref a, .ref b] ∧ XT.Arr .byte a A s ∧ Typed .byte A ∧ XT.Arr .byte b B s ∧ Typed .byte B
/-- whether two byte[] are equal, place for place -/
theorem law (l : Launch) (a : Addr) (A : Cell) (b : Addr) (B : Cell) : Law l yN 2 2 0 0 yB 3 (some .boolean) site (P a A b B) (Says01 (EqC A B)) [] 0 0 := by
  refine Law.of_walk (plainFor_of_name (by decide +kernel)) (by decide +kernel) (by decide +kernel) (by decide) (fun _ _ h => by rw [h.1]; rfl) (fun _ U U' hal hh h => ⟨h.1, h.2.1.mv hal hh, h.2.2.1, h.2.2.2.1.mv hal hh, h.2.2.2.2⟩) (fun r U U' V V' h1 hal h2 h => Says01.mv r U U' V V' h1 hal h2 h) ?_
  intro p e s m args below meth c s₁ X0 hexec hbytes hml hret hlk hnm hown hh0 W hP
  obtain ⟨rfl, hA, tA, hB, tB⟩ := hP
  have a31 := hA.2.2.2
  have b31 := hB.2.2.2
  have hA0 := hA.mv X0.warmed.alike hh0
  have hB0 := hB.mv X0.warmed.alike hh0
  have c1 : Steps p.tables e below (s₁.setTop (entryFrame m #[.ref a, .ref b] 3)) (s₁.setTop (mkF m 0 #[.val (.ref a), .val (.ref b), .unset] [])) := entry rfl
  have c2 : Steps p.tables e below (s₁.setTop (entryFrame m #[.ref a, .ref b] 3)) (s₁.setTop (mkF m 4 #[.val (.ref a), .val (.ref b), .unset] [.int (Int32.ofNat B.slots.size), .int (Int32.ofNat A.slots.size)])) := c1.trans (by
    refine XS.aloadN X0.here hexec rfl (hb hbytes d0) rfl rfl ?_
    refine X0.alen hexec hA0 rfl rfl (hb hbytes d1) ?_
    refine XS.aloadN X0.here hexec rfl (hb hbytes d2) rfl rfl ?_
    refine X0.alen hexec hB0 rfl rfl (hb hbytes d3) ?_
    exact Steps.refl _)
  by_cases hs : A.slots.size = B.slots.size
  · have c3 : Steps p.tables e below (s₁.setTop (entryFrame m #[.ref a, .ref b] 3)) (s₁.setTop (mkF m 9 #[.val (.ref a), .val (.ref b), .val (.int 0)] [])) := c2.trans (by
      refine XS.icmpNo X0.here hexec rfl (hb hbytes d4) rfl (ii_ne_f (by rw [hs])) ?_
      refine iconstV X0.here hexec rfl 0 (hb hbytes d7) (by decide) ?_
      refine XS.istoreN X0.here hexec rfl (hb hbytes d8) rfl rfl ?_
      exact Steps.refl _)
    have loop : ∀ (r i : Nat), i + r = A.slots.size → (∀ j, j < i → yv A j = yv B j) → Steps p.tables e below (s₁.setTop (entryFrame m #[.ref a, .ref b] 3)) (s₁.setTop (mkF m 9 #[.val (.ref a), .val (.ref b), .val (.int (Int32.ofNat i))] [])) → ∃ (pc : Nat) (Ls : Array Slot) (v : Int32), (pc = 25 ∨ pc = 33) ∧ ((v = 1 ∧ EqC A B) ∨ (v = 0 ∧ ¬ EqC A B)) ∧ Steps p.tables e below (s₁.setTop (entryFrame m #[.ref a, .ref b] 3)) (s₁.setTop (mkF m pc Ls [.int v])) := by
      intro r
      induction r with
      | zero =>
        intro i hi he cl
        exact ⟨33, _, 1, Or.inr rfl, Or.inl ⟨rfl, hs, fun j hj => he j (by omega)⟩, cl.trans (by
          refine XS.iloadN X0.here hexec rfl (hb hbytes d9) rfl ?_
          refine XS.aloadN X0.here hexec rfl (hb hbytes d10) rfl rfl ?_
          refine X0.alen hexec hA0 rfl rfl (hb hbytes d11) ?_
          refine XS.icmpYes X0.here hexec rfl (pc0 := 12) rfl (hb hbytes d12) rfl (ii_ge_t (nlt32 (by omega) (by omega))) (by decide) rfl ?_
          refine iconstV X0.here hexec rfl 1 (hb hbytes d32) (by decide) ?_
          exact Steps.refl _)⟩
      | succ r ih =>
        intro i hi he cl
        have c4 : Steps p.tables e below (s₁.setTop (entryFrame m #[.ref a, .ref b] 3)) (s₁.setTop (mkF m 21 #[.val (.ref a), .val (.ref b), .val (.int (Int32.ofNat i))] [.int (yv B i), .int (yv A i)])) := cl.trans (by
          refine XS.iloadN X0.here hexec rfl (hb hbytes d9) rfl ?_
          refine XS.aloadN X0.here hexec rfl (hb hbytes d10) rfl rfl ?_
          refine X0.alen hexec hA0 rfl rfl (hb hbytes d11) ?_
          refine XS.icmpNo X0.here hexec rfl (hb hbytes d12) rfl (ii_ge_f (lt32 (by omega) (by omega))) ?_
          refine XS.aloadN X0.here hexec rfl (hb hbytes d15) rfl rfl ?_
          refine XS.iloadN X0.here hexec rfl (hb hbytes d16) rfl ?_
          refine X0.aget hexec hA0 rfl (yv_get hA tA (i := i) (by omega)) rfl rfl (hb hbytes d17) ?_
          refine XS.aloadN X0.here hexec rfl (hb hbytes d18) rfl rfl ?_
          refine XS.iloadN X0.here hexec rfl (hb hbytes d19) rfl ?_
          refine X0.aget hexec hB0 rfl (yv_get hB tB (i := i) (by omega)) rfl rfl (hb hbytes d20) ?_
          exact Steps.refl _)
        by_cases hv : yv A i = yv B i
        · have c5 : Steps p.tables e below (s₁.setTop (entryFrame m #[.ref a, .ref b] 3)) (s₁.setTop (mkF m 9 #[.val (.ref a), .val (.ref b), .val (.int (Int32.ofNat i + 1))] [])) := c4.trans (by
            refine XS.icmpYes X0.here hexec rfl (pc0 := 21) rfl (hb hbytes d21) rfl (ii_eq_t hv) (by decide) rfl ?_
            refine iincV X0.here hexec rfl 1 (hb hbytes d26) (by decide) rfl rfl ?_
            refine XS.goto X0.here hexec rfl (pc0 := 29) rfl (hb hbytes d29) (by decide) rfl ?_
            exact Steps.refl _)
          rw [succ32] at c5
          exact ih (i + 1) (by omega) (fun j hj => by
            by_cases e : j = i
            · rw [e]; exact hv
            · exact he j (by omega)) c5
        · exact ⟨25, _, 0, Or.inl rfl, Or.inr ⟨rfl, fun q => hv (q.2 i (by omega))⟩, c4.trans (by
            refine XS.icmpNo X0.here hexec rfl (hb hbytes d21) rfl (ii_eq_f hv) ?_
            refine iconstV X0.here hexec rfl 0 (hb hbytes d24) (by decide) ?_
            exact Steps.refl _)⟩
    obtain ⟨pc, Ls, v, hpc, hv, cz⟩ := loop A.slots.size 0 (by omega) (fun j hj => absurd hj (Nat.not_lt_zero j)) c3
    have nv : narrow .boolean (.int v) = .int v := by rcases hv with ⟨rfl, -⟩ | ⟨rfl, -⟩ <;> rfl
    rcases hpc with rfl | rfl
    · exact ⟨s₁, some (.int v), _, _, _, X0, rfl, rfl, rfl, (fun h => by cases h), ⟨v, rfl, hh0, hv⟩, fun fs hl => cz.trans (X0.ireturnOut hexec hret nv (Or.inr (Or.inl rfl)) (hb hbytes d25) hl)⟩
    · exact ⟨s₁, some (.int v), _, _, _, X0, rfl, rfl, rfl, (fun h => by cases h), ⟨v, rfl, hh0, hv⟩, fun fs hl => cz.trans (X0.ireturnOut hexec hret nv (Or.inr (Or.inl rfl)) (hb hbytes d33) hl)⟩
  · have c3 : Steps p.tables e below (s₁.setTop (entryFrame m #[.ref a, .ref b] 3)) (s₁.setTop (mkF m 35 #[.val (.ref a), .val (.ref b), .unset] [.int 0])) := c2.trans (by
      refine XS.icmpYes X0.here hexec rfl (pc0 := 4) rfl (hb hbytes d4) rfl (ii_ne_t (ne32 a31 b31 hs)) (by decide) rfl ?_
      refine iconstV X0.here hexec rfl 0 (hb hbytes d34) (by decide) ?_
      exact Steps.refl _)
    exact ⟨s₁, some (.int 0), _, _, _, X0, rfl, rfl, rfl, (fun h => by cases h), ⟨0, rfl, hh0, Or.inr ⟨rfl, fun q => hs q.1⟩⟩, fun fs hl => c3.trans (X0.ireturnOut hexec hret rfl (Or.inr (Or.inl rfl)) (hb hbytes d35) hl)⟩
end LEq
theorem Cod.ty {cd : Int32} {n : Nat} {f : Nat → Int32} {V : Cell} (h : Cod cd n f V) : Typed .byte V := fun i v hv => by
  have hi : i < V.slots.size := (Array.getElem?_eq_some_iff.mp hv).1
  rcases h with ⟨-, k1, k2⟩ | ⟨-, k1, k2, -⟩
  · rw [(k2 i (by omega)).1] at hv; cases hv; exact fits_lo8 _
  · rcases Nat.mod_two_eq_zero_or_one i with e | e
    · obtain ⟨j, rfl⟩ : ∃ j, i = 2 * j := ⟨i / 2, by omega⟩
      rw [(k2 j (by omega)).1] at hv; cases hv; exact fits_lo8 _
    · obtain ⟨j, rfl⟩ : ∃ j, i = 2 * j + 1 := ⟨i / 2, by omega⟩
      rw [(k2 j (by omega)).2] at hv; cases hv; exact fits_lo8 _
/-- the same text -/
def SameT (n : Nat) (f : Nat → Int32) (k : Nat) (g : Nat → Int32) : Prop := n = k ∧ ∀ j, j < n → f j = g j
theorem lo8_inj {x y : Int32} (h0 : ¬ x < 0) (h1 : ¬ 255 < x) (k0 : ¬ y < 0) (k1 : ¬ 255 < y) (h : lo8 x = lo8 y) : x = y := by
  rw [← lo8_mask h0 h1, ← lo8_mask k0 k1, h]
/-- arrays coded by one coder are equal just where the texts are -/
theorem Cod.eqv {cd : Int32} {n k : Nat} {f g : Nat → Int32} {V V' : Cell} (h : Cod cd n f V) (h' : Cod cd k g V') (hf : ∀ j, j < n → ¬ f j < 0 ∧ ¬ 65535 < f j) (hg : ∀ j, j < k → ¬ g j < 0 ∧ ¬ 65535 < g j) : EqC V V' ↔ SameT n f k g := by
  have yvv : ∀ {W : Cell} {i : Nat} {x : Int32}, W.slots[i]? = some (.int x) → yv W i = x := fun q => by unfold yv; rw [q]
  rcases h with ⟨rfl, k1, k2⟩ | ⟨rfl, k1, k2, -⟩
  · rcases h' with ⟨-, m1, m2⟩ | ⟨e, -⟩
    · constructor
      · rintro ⟨e1, e2⟩
        refine ⟨by omega, fun j hj => ?_⟩
        have q := e2 j (by omega)
        rw [yvv (k2 j hj).1, yvv (m2 j (by omega)).1] at q
        exact lo8_inj (hf j hj).1 (k2 j hj).2 (hg j (by omega)).1 (m2 j (by omega)).2 q
      · rintro ⟨rfl, e2⟩
        refine ⟨by omega, fun j hj => ?_⟩
        rw [yvv (k2 j (by omega)).1, yvv (m2 j (by omega)).1, e2 j (by omega)]
    · exact absurd e (by decide)
  · rcases h' with ⟨e, -⟩ | ⟨-, m1, m2, -⟩
    · exact absurd e (by decide)
    · constructor
      · rintro ⟨e1, e2⟩
        refine ⟨by omega, fun j hj => ?_⟩
        have q1 := e2 (2 * j) (by omega)
        have q2 := e2 (2 * j + 1) (by omega)
        rw [yvv (k2 j hj).1, yvv (m2 j (by omega)).1] at q1
        rw [yvv (k2 j hj).2, yvv (m2 j (by omega)).2] at q2
        rw [← pair_says (hf j hj).1 (hf j hj).2, ← pair_says (hg j (by omega)).1 (hg j (by omega)).2, q1, q2]
      · rintro ⟨rfl, e2⟩
        refine ⟨by omega, fun i hi => ?_⟩
        rcases Nat.mod_two_eq_zero_or_one i with e | e
        · obtain ⟨j, rfl⟩ : ∃ j, i = 2 * j := ⟨i / 2, by omega⟩
          rw [yvv (k2 j (by omega)).1, yvv (m2 j (by omega)).1, e2 j (by omega)]
        · obtain ⟨j, rfl⟩ : ∃ j, i = 2 * j + 1 := ⟨i / 2, by omega⟩
          rw [yvv (k2 j (by omega)).2, yvv (m2 j (by omega)).2, e2 j (by omega)]
/-- two codings differ: so do the texts -/
theorem Cod.dif {cd cd' : Int32} {n k : Nat} {f g : Nat → Int32} {V V' : Cell} (h : Cod cd n f V) (h' : Cod cd' k g V') (hne : ¬ cd = cd') : ¬ SameT n f k g := by
  rintro ⟨rfl, e⟩
  rcases h with ⟨rfl, -, k2⟩ | ⟨rfl, -, -, j, hj, hw⟩
  · rcases h' with ⟨rfl, -⟩ | ⟨-, -, -, j, hj, hw⟩
    · exact hne rfl
    · exact (k2 j hj).2 (by rw [e j hj]; exact hw)
  · rcases h' with ⟨-, -, m2⟩ | ⟨rfl, -⟩
    · exact (m2 j hj).2 (by rw [← e j hj]; exact hw)
    · exact hne rfl
/-- an object of exactly C is an instance of C -/
theorem cinst {p : Program} {l : Launch} {e : Env} {R : Room} {s : State} {m : MethodId} {args : Array Value} {below : List Frame} {meth : Method} {c : Code} {T : State} {locs : List Loc} {cells slots : Nat} (X : Stand p l e R s m args below meth c T locs cells slots) (hexec : p.tables.exec = Jvm.exec) {own C : String} {index : Nat} (hown : s.vm.findClass own = some m.cls) (hlink : (Cond.classLink own index C).before args s = true) {a : Addr} (hE : Exact C a T)
    {g : JFrame} (hg : g.method = m) {rest : List Value} (hstack : g.stack = .ref a :: rest) (hdg : decode c.code g.pc = .ok (.instanceof index, 3)) :
    ∃ T', Stand p l e R s m args below meth c T' locs cells slots ∧ T'.heap = T.heap ∧ ∀ target, Steps p.tables e below (T'.setTop { g with pc := g.pc + 3, stack := .int 1 :: rest }) target → Steps p.tables e below (T.setTop g) target := by
  obtain ⟨cB, h1, D, h2, h3, h4⟩ := hE
  have h1' : s.vm.findClass C = some cB := by rw [← X.warmed.alike.findClass]; exact h1
  obtain ⟨vm', X', st⟩ := X.instanceofYes hexec hown hlink h2 h4 h1' (by rw [h3]; exact Jvm.Free.SB.assignable_self _ _) hg hstack hdg
  exact ⟨_, X', rfl, st⟩
theorem cself {p : Program} {l : Launch} {e : Env} {R : Room} {s : State} {m : MethodId} {args : Array Value} {below : List Frame} {meth : Method} {c : Code} {T : State} {locs : List Loc} {cells slots : Nat} (X : Stand p l e R s m args below meth c T locs cells slots) (hexec : p.tables.exec = Jvm.exec) {own C : String} {index : Nat} (hown : s.vm.findClass own = some m.cls) (hlink : (Cond.classLink own index C).before args s = true) {a : Addr} (hE : Exact C a T)
    {g : JFrame} (hg : g.method = m) {rest : List Value} (hstack : g.stack = .ref a :: rest) (hdg : decode c.code g.pc = .ok (.checkcast index, 3)) :
    ∃ T', Stand p l e R s m args below meth c T' locs cells slots ∧ T'.heap = T.heap ∧ ∀ target, Steps p.tables e below (T'.setTop { g with pc := g.pc + 3, stack := .ref a :: rest }) target → Steps p.tables e below (T.setTop g) target := by
  obtain ⟨cB, h1, D, h2, h3, h4⟩ := hE
  have h1' : s.vm.findClass C = some cB := by rw [← X.warmed.alike.findClass]; exact h1
  obtain ⟨vm', X', st⟩ := X.checkcastYes hexec hown hlink h2 h4 h1' (by rw [h3]; exact Jvm.Free.SB.assignable_self _ _) hg hstack hdg
  exact ⟨_, X', rfl, fun t h => st t (by rw [← hstack] at h; exact h)⟩
namespace SEq
def yN : MethodName := ⟨"java/lang/String", "equals", "(Ljava/lang/Object;)Z"⟩
abbrev yB : ByteArray := jdk_42_method_66_code
theorem d0 : decode yB 0 = .ok (.aload_n 0, 1) := by decide +kernel
theorem d1 : decode yB 1 = .ok (.aload_n 1, 1) := by decide +kernel
theorem d2 : decode yB 2 = .ok (.if_acmp (.ne) 5, 3) := by decide +kernel
theorem d5 : decode yB 5 = .ok (.iconst 1, 1) := by decide +kernel
theorem d6 : decode yB 6 = .ok (.ireturn, 1) := by decide +kernel
theorem d7 : decode yB 7 = .ok (.aload_n 1, 1) := by decide +kernel
theorem d8 : decode yB 8 = .ok (.instanceof 10, 3) := by decide +kernel
theorem d11 : decode yB 11 = .ok (.ifCond (.eq) 43, 3) := by decide +kernel
theorem d14 : decode yB 14 = .ok (.aload_n 1, 1) := by decide +kernel
theorem d15 : decode yB 15 = .ok (.checkcast 10, 3) := by decide +kernel
theorem d18 : decode yB 18 = .ok (.astore_n 2, 1) := by decide +kernel
theorem d19 : decode yB 19 = .ok (.getstatic 38, 3) := by decide +kernel
theorem d22 : decode yB 22 = .ok (.ifCond (.eq) 14, 3) := by decide +kernel
theorem d25 : decode yB 25 = .ok (.aload_n 0, 1) := by decide +kernel
theorem d26 : decode yB 26 = .ok (.getfield 15, 3) := by decide +kernel
theorem d29 : decode yB 29 = .ok (.aload_n 2, 1) := by decide +kernel
theorem d30 : decode yB 30 = .ok (.getfield 15, 3) := by decide +kernel
theorem d33 : decode yB 33 = .ok (.if_icmp (.ne) 21, 3) := by decide +kernel
theorem d36 : decode yB 36 = .ok (.aload_n 0, 1) := by decide +kernel
theorem d37 : decode yB 37 = .ok (.getfield 9, 3) := by decide +kernel
theorem d40 : decode yB 40 = .ok (.aload_n 2, 1) := by decide +kernel
theorem d41 : decode yB 41 = .ok (.getfield 9, 3) := by decide +kernel
theorem d44 : decode yB 44 = .ok (.invokestatic 541, 3) := by decide +kernel
theorem d47 : decode yB 47 = .ok (.ifCond (.eq) 7, 3) := by decide +kernel
theorem d50 : decode yB 50 = .ok (.iconst 1, 1) := by decide +kernel
theorem d51 : decode yB 51 = .ok (.goto 4, 3) := by decide +kernel
theorem d54 : decode yB 54 = .ok (.iconst 0, 1) := by decide +kernel
theorem d55 : decode yB 55 = .ok (.ireturn, 1) := by decide +kernel
def site : List Cond := [.classLink "java/lang/String" 10 "java/lang/String", .fieldLink "java/lang/String" 38 "java/lang/String" "COMPACT_STRINGS" "Z", .fieldLink "java/lang/String" 15 "java/lang/String" "coder" "B", .fieldLink "java/lang/String" 9 "java/lang/String" "value" "[B", LEq.tab] ++ staticW "java/lang/String" 541 LEq.yN
def tab : Cond := tabOf yN yB 3 (some .boolean) site
def P (x t : Addr) (V : Cell) (cd : Int32) (n : Nat) (f : Nat → Int32) (y t' : Addr) (V' : Cell) (cd' : Int32) (k : Nat) (g : Nat → Int32) (z : Int32) (args : Array Value) (s : State) : Prop := args = #[.ref x, .ref y] ∧ Txt x t V cd n f s ∧ Txt y t' V' cd' k g s ∧ StaticIs s "java/lang/String" "COMPACT_STRINGS" "Z" (.int z) ∧ ¬ z = 0
/-- equals(Object) of two Strings: whether the texts are the same -/
theorem law (l : Launch) (x t : Addr) (V : Cell) (cd : Int32) (n : Nat) (f : Nat → Int32) (y t' : Addr) (V' : Cell) (cd' : Int32) (k : Nat) (g : Nat → Int32) (z : Int32) : Law l yN 2 1 1 14 yB 3 (some .boolean) site (P x t V cd n f y t' V' cd' k g z) (Says01 (SameT n f k g)) [] 0 0 := by
  refine Law.of_walk (plainFor_of_name (by decide +kernel)) (by decide +kernel) (by decide +kernel) (by decide) (fun _ _ h => by rw [h.1]; rfl) (fun _ U U' hal hh h => ⟨h.1, h.2.1.mv hal hh, h.2.2.1.mv hal hh, h.2.2.2.1.there hal hh, h.2.2.2.2⟩) (fun r U U' V V' h1 hal h2 h => Says01.mv r U U' V V' h1 hal h2 h) ?_
  intro p e s m args below meth c s₁ X0 hexec hbytes hml hret hlk hnm hown hh0 W hP
  obtain ⟨rfl, hx, hy, s1, hz⟩ := hP
  have c1 : Steps p.tables e below (s₁.setTop (entryFrame m #[.ref x, .ref y] 3)) (s₁.setTop (mkF m 2 #[.val (.ref x), .val (.ref y), .unset] [.ref y, .ref x])) := Steps.trans (entry rfl) (by
    show Steps p.tables e below (s₁.setTop (mkF m 0 #[.val (.ref x), .val (.ref y), .unset] [])) _
    refine XS.aloadN X0.here hexec rfl (hb hbytes d0) rfl rfl ?_
    refine XS.aloadN X0.here hexec rfl (hb hbytes d1) rfl rfl ?_
    exact Steps.refl _)
  by_cases hxy : x = y
  · have c2 : Steps p.tables e below (s₁.setTop (entryFrame m #[.ref x, .ref y] 3)) (s₁.setTop (mkF m 6 #[.val (.ref x), .val (.ref y), .unset] [.int 1])) := c1.trans (by
      refine acmpNo X0.here hexec rfl (hb hbytes d2) rfl rfl rfl (by simp [acmp, hxy]) ?_
      refine iconstV X0.here hexec rfl 1 (hb hbytes d5) (by decide) ?_
      exact Steps.refl _)
    subst hxy
    have ec : cd = cd' := by
      obtain ⟨D, fd, a1, a2, a3⟩ := hx.2.2.1
      obtain ⟨D', fd', b1, b2, b3⟩ := hy.2.2.1
      cases a1.symm.trans b1
      obtain ⟨q1, q2, q3, q4⟩ := a2.1
      obtain ⟨r1, r2, r3, r4⟩ := b2.1
      cases q4.symm.trans r4
      cases a3.symm.trans b3; rfl
    have et : t = t' := by
      obtain ⟨D, fd, a1, a2, a3⟩ := hx.2.1
      obtain ⟨D', fd', b1, b2, b3⟩ := hy.2.1
      cases a1.symm.trans b1
      obtain ⟨q1, q2, q3, q4⟩ := a2.1
      obtain ⟨r1, r2, r3, r4⟩ := b2.1
      cases q4.symm.trans r4
      cases a3.symm.trans b3; rfl
    subst ec et
    have ev : V = V' := by cases hx.2.2.2.1.1.symm.trans hy.2.2.2.1.1; rfl
    subst ev
    have hs : SameT n f k g := (Cod.eqv hx.2.2.2.2.1 hy.2.2.2.2.1 hx.2.2.2.2.2 hy.2.2.2.2.2).mp ⟨rfl, fun _ _ => rfl⟩
    exact ⟨s₁, some (.int 1), _, _, _, X0, rfl, rfl, rfl, (fun h => by cases h), ⟨1, rfl, hh0, Or.inl ⟨rfl, hs⟩⟩, fun fs hl => c2.trans (X0.ireturnOut hexec hret rfl (Or.inr (Or.inl rfl)) (hb hbytes d6) hl)⟩
  · have c2 : Steps p.tables e below (s₁.setTop (entryFrame m #[.ref x, .ref y] 3)) (s₁.setTop (mkF m 8 #[.val (.ref x), .val (.ref y), .unset] [.ref y])) := c1.trans (by
      refine acmpYes X0.here hexec rfl (pc0 := 2) rfl (hb hbytes d2) rfl rfl rfl (by simp [acmp, hxy]) (by decide) rfl ?_
      refine XS.aloadN X0.here hexec rfl (hb hbytes d7) rfl rfl ?_
      exact Steps.refl _)
    obtain ⟨T3, X3, q3, st3⟩ := cinst X0 hexec hown (wk W (.classLink "java/lang/String" 10 "java/lang/String")) (hy.mv X0.warmed.alike hh0).1 (g := (mkF m 8 #[.val (.ref x), .val (.ref y), .unset] [.ref y])) rfl (rest := []) rfl (hb hbytes d8)
    have hh3 := q3.trans hh0
    have c4 : Steps p.tables e below (s₁.setTop (entryFrame m #[.ref x, .ref y] 3)) (T3.setTop (mkF m 15 #[.val (.ref x), .val (.ref y), .unset] [.ref y])) := (c2.trans (st3 _ (Steps.refl _))).trans (by
      refine XS.ifNo X3.here hexec rfl (hb hbytes d11) rfl (i0_eq_f (by decide)) ?_
      refine XS.aloadN X3.here hexec rfl (hb hbytes d14) rfl rfl ?_
      exact Steps.refl _)
    obtain ⟨T5, X5, q5, st5⟩ := cself X3 hexec hown (wk W (.classLink "java/lang/String" 10 "java/lang/String")) (hy.mv X3.warmed.alike hh3).1 (g := (mkF m 15 #[.val (.ref x), .val (.ref y), .unset] [.ref y])) rfl (rest := []) rfl (hb hbytes d15)
    have hh5 := q5.trans hh3
    have c6 : Steps p.tables e below (s₁.setTop (entryFrame m #[.ref x, .ref y] 3)) (T5.setTop (mkF m 19 #[.val (.ref x), .val (.ref y), .val (.ref y)] [])) := (c4.trans (st5 _ (Steps.refl _))).trans (by
      refine XS.astoreN X5.here hexec rfl (hb hbytes d18) rfl rfl rfl ?_
      exact Steps.refl _)
    obtain ⟨T7, X7, q7, st7⟩ := X5.sget hexec hown (wk W (.fieldLink "java/lang/String" 38 "java/lang/String" "COMPACT_STRINGS" "Z")) s1 (fun _ _ h => by rw [hh5]; exact h) (g := (mkF m 19 #[.val (.ref x), .val (.ref y), .val (.ref y)] [])) rfl (hb hbytes d19)
    have hh7 := q7.trans hh5
    have c8 : Steps p.tables e below (s₁.setTop (entryFrame m #[.ref x, .ref y] 3)) (T7.setTop (mkF m 26 #[.val (.ref x), .val (.ref y), .val (.ref y)] [.ref x])) := (c6.trans (st7 _ (Steps.refl _))).trans (by
      refine XS.ifNo X7.here hexec rfl (hb hbytes d22) rfl (i0_eq_f hz) ?_
      refine XS.aloadN X7.here hexec rfl (hb hbytes d25) rfl rfl ?_
      exact Steps.refl _)
    obtain ⟨T9, X9, q9, st9⟩ := X7.hget hexec hown (wk W (.fieldLink "java/lang/String" 15 "java/lang/String" "coder" "B")) (hx.mv X7.warmed.alike hh7).2.2.1 (g := (mkF m 26 #[.val (.ref x), .val (.ref y), .val (.ref y)] [.ref x])) rfl (rest := []) rfl (hb hbytes d26)
    have hh9 := q9.trans hh7
    have c10 : Steps p.tables e below (s₁.setTop (entryFrame m #[.ref x, .ref y] 3)) (T9.setTop (mkF m 30 #[.val (.ref x), .val (.ref y), .val (.ref y)] [.ref y, .int cd])) := (c8.trans (st9 _ (Steps.refl _))).trans (by
      refine XS.aloadN X9.here hexec rfl (hb hbytes d29) rfl rfl ?_
      exact Steps.refl _)
    obtain ⟨T11, X11, q11, st11⟩ := X9.hget hexec hown (wk W (.fieldLink "java/lang/String" 15 "java/lang/String" "coder" "B")) (hy.mv X9.warmed.alike hh9).2.2.1 (g := (mkF m 30 #[.val (.ref x), .val (.ref y), .val (.ref y)] [.ref y, .int cd])) rfl (rest := [.int cd]) rfl (hb hbytes d30)
    have hh11 := q11.trans hh9
    have c12 : Steps p.tables e below (s₁.setTop (entryFrame m #[.ref x, .ref y] 3)) (T11.setTop (mkF m 33 #[.val (.ref x), .val (.ref y), .val (.ref y)] [.int cd', .int cd])) := c10.trans (st11 _ (Steps.refl _))
    by_cases hcd : cd = cd'
    · subst hcd
      have c13 : Steps p.tables e below (s₁.setTop (entryFrame m #[.ref x, .ref y] 3)) (T11.setTop (mkF m 37 #[.val (.ref x), .val (.ref y), .val (.ref y)] [.ref x])) := c12.trans (by
        refine XS.icmpNo X11.here hexec rfl (hb hbytes d33) rfl (ii_ne_f rfl) ?_
        refine XS.aloadN X11.here hexec rfl (hb hbytes d36) rfl rfl ?_
        exact Steps.refl _)
      obtain ⟨T14, X14, q14, st14⟩ := X11.hget hexec hown (wk W (.fieldLink "java/lang/String" 9 "java/lang/String" "value" "[B")) (hx.mv X11.warmed.alike hh11).2.1 (g := (mkF m 37 #[.val (.ref x), .val (.ref y), .val (.ref y)] [.ref x])) rfl (rest := []) rfl (hb hbytes d37)
      have hh14 := q14.trans hh11
      have c15 : Steps p.tables e below (s₁.setTop (entryFrame m #[.ref x, .ref y] 3)) (T14.setTop (mkF m 41 #[.val (.ref x), .val (.ref y), .val (.ref y)] [.ref y, .ref t])) := (c13.trans (st14 _ (Steps.refl _))).trans (by
        refine XS.aloadN X14.here hexec rfl (hb hbytes d40) rfl rfl ?_
        exact Steps.refl _)
      obtain ⟨T16, X16, q16, st16⟩ := X14.hget hexec hown (wk W (.fieldLink "java/lang/String" 9 "java/lang/String" "value" "[B")) (hy.mv X14.warmed.alike hh14).2.1 (g := (mkF m 41 #[.val (.ref x), .val (.ref y), .val (.ref y)] [.ref y, .ref t])) rfl (rest := [.ref t]) rfl (hb hbytes d41)
      have hh16 := q16.trans hh14
      have c17 : Steps p.tables e below (s₁.setTop (entryFrame m #[.ref x, .ref y] 3)) (T16.setTop (mkF m 44 #[.val (.ref x), .val (.ref y), .val (.ref y)] [.ref t', .ref t])) := c15.trans (st16 _ (Steps.refl _))
      obtain ⟨v18, T18, X18, E18, g18⟩ := X16.callS hexec (LEq.law l t V t' V') hown (wks W (staticW "java/lang/String" 541 LEq.yN)) (wk W LEq.tab) (W := 0) (Nat.le_of_ble_eq_true rfl) (Nat.le_of_ble_eq_true rfl) (Nat.le_refl _) (Nat.le_refl _) (g := (mkF m 44 #[.val (.ref x), .val (.ref y), .val (.ref y)] [.ref t', .ref t])) rfl (by rw [hml]; rfl) c17 (argsL := [.ref t, .ref t']) (rest := []) rfl rfl (by show 2 * 0 + 0 ≤ _; decide) (hb hbytes d44) (⟨rfl, hx.2.2.2.1.mv X16.warmed.alike hh16, hx.2.2.2.2.1.ty, hy.2.2.2.1.mv X16.warmed.alike hh16, hy.2.2.2.2.1.ty⟩)
      obtain ⟨v, rfl, q18, hv⟩ := E18
      have iff := Cod.eqv hx.2.2.2.2.1 hy.2.2.2.2.1 hx.2.2.2.2.2 hy.2.2.2.2.2
      rcases hv with ⟨rfl, he⟩ | ⟨rfl, he⟩
      · have c19 : Steps p.tables e below (s₁.setTop (entryFrame m #[.ref x, .ref y] 3)) (T18.setTop (mkF m 55 #[.val (.ref x), .val (.ref y), .val (.ref y)] [.int 1])) := Steps.trans g18 (by
          refine XS.ifNo X18.here hexec rfl (hb hbytes d47) rfl (i0_eq_f (by decide)) ?_
          refine iconstV X18.here hexec rfl 1 (hb hbytes d50) (by decide) ?_
          refine XS.goto X18.here hexec rfl (pc0 := 51) rfl (hb hbytes d51) (by decide) rfl ?_
          exact Steps.refl _)
        exact ⟨T18, some (.int 1), _, _, _, X18, rfl, rfl, rfl, (fun h => by cases h), ⟨1, rfl, q18.trans hh16, Or.inl ⟨rfl, iff.mp he⟩⟩, fun fs hl => c19.trans (X18.ireturnOut hexec hret rfl (Or.inr (Or.inl rfl)) (hb hbytes d55) hl)⟩
      · have c19 : Steps p.tables e below (s₁.setTop (entryFrame m #[.ref x, .ref y] 3)) (T18.setTop (mkF m 55 #[.val (.ref x), .val (.ref y), .val (.ref y)] [.int 0])) := Steps.trans g18 (by
          refine XS.ifYes X18.here hexec rfl (pc0 := 47) rfl (hb hbytes d47) rfl (i0_eq_t rfl) (by decide) rfl ?_
          refine iconstV X18.here hexec rfl 0 (hb hbytes d54) (by decide) ?_
          exact Steps.refl _)
        exact ⟨T18, some (.int 0), _, _, _, X18, rfl, rfl, rfl, (fun h => by cases h), ⟨0, rfl, q18.trans hh16, Or.inr ⟨rfl, fun q => he (iff.mpr q)⟩⟩, fun fs hl => c19.trans (X18.ireturnOut hexec hret rfl (Or.inr (Or.inl rfl)) (hb hbytes d55) hl)⟩
    · have c13 : Steps p.tables e below (s₁.setTop (entryFrame m #[.ref x, .ref y] 3)) (T11.setTop (mkF m 55 #[.val (.ref x), .val (.ref y), .val (.ref y)] [.int 0])) := c12.trans (by
        refine XS.icmpYes X11.here hexec rfl (pc0 := 33) rfl (hb hbytes d33) rfl (ii_ne_t hcd) (by decide) rfl ?_
        refine iconstV X11.here hexec rfl 0 (hb hbytes d54) (by decide) ?_
        exact Steps.refl _)
      exact ⟨T11, some (.int 0), _, _, _, X11, rfl, rfl, rfl, (fun h => by cases h), ⟨0, rfl, hh11, Or.inr ⟨rfl, Cod.dif hx.2.2.2.2.1 hy.2.2.2.2.1 hcd⟩⟩, fun fs hl => c13.trans (X11.ireturnOut hexec hret rfl (Or.inr (Or.inl rfl)) (hb hbytes d55) hl)⟩
theorem pays {l : Launch} {R : Room} {p : Program} {e : Env} {below : List Frame} {s : State} {sargs : Array Value} {len W : Nat} (x t : Addr) (V : Cell) (cd : Int32) (n : Nat) (f : Nat → Int32) (y t' : Addr) (V' : Cell) (cd' : Int32) (k : Nat) (g : Nat → Int32) (z : Int32) (htab : tab.before sargs s = true) (hfr : 2 ≤ R.frames) (hlo : W + 28 ≤ R.locals) :
    Back l R p e below s sargs yN len W (fun A₁ a₁ => A₁.cells + 0 ≤ R.cells ∧ A₁.slots + 0 ≤ R.slots ∧ P x t V cd n f y t' V' cd' k g z a₁ A₁.U) (fun A₁ _ v₁ B₁ => Says01 (SameT n f k g) v₁ A₁.U B₁.U ∧ B₁.locs = A₁.locs ++ [] ∧ B₁.cells = A₁.cells + 0 ∧ B₁.slots = A₁.slots + 0) :=
  (law l x t V cd n f y t' V' cd' k g z).pays htab hfr (by omega)
end SEq
end StrChars
namespace StrChars.Road
open Jvm Sem ClassFile Op Lib Jvm.Stand Jvm.Free Jvm.Free.XT
open Jvm.Lib.Cold (StaticIs)
/-- the words of String.equals(Object) -/
abbrev wordsEq : List Jvm.Cond := [.code SEq.yN SEq.yB 3 (some .boolean), .initialized ST, .classLink ST 10 ST, .fieldLink ST 38 ST "COMPACT_STRINGS" "Z", .fieldLink ST 15 ST "coder" "B", .fieldLink ST 9 ST "value" "[B", .methodLink ST 541 LEq.yN, .static LEq.yN, .code LEq.yN LEq.yB 3 (some .boolean), .initialized "java/lang/StringLatin1"]
theorem tabEq_of {a : Array Value} {s : State} (h : ∀ w ∈ wordsEq, w.before a s = true) : SEq.tab.before a s = true := by
  have hl : LEq.tab.before a s = true := unparts (wk h (.code LEq.yN LEq.yB 3 (some .boolean))) (wks h (.initialized LEq.yN.cls :: LEq.site))
  have q := consq hl h
  exact unparts (wk q (.code SEq.yN SEq.yB 3 (some .boolean))) (wks q (.initialized SEq.yN.cls :: SEq.site))
theorem movedEq {Z s : State} {a0 args : Array Value} (hZ : Z.Warmed39 s.vm) (hw : ∀ d ∈ wordsEq, d.before a0 Z = true) : ∀ d ∈ wordsEq, d.before args s = true := fun d hd => by
  have t : ∀ d ∈ wordsEq, (d.onTables && d.keepsFace) = true := by decide +kernel
  exact RoadKit.mv hZ (hw d hd) (t d hd)
/-- the road's facts of a String, as the laws ask it -/
theorem txt_of {Z U : State} {a0 : Array Value} {kI : Nat} (wi : (Jvm.Cond.instantiable ST kI).before a0 Z = true) (al : Z.vm.Alike U.vm) {x t : Addr} {kb : ClassId} {cs : List Int32} {cd N2 : Int32} {vs : List Value} (E : RoadKit.Exa Z U.heap x ST) (V : RoadKit.Fld Z U.heap x ST "value" "[B" (.ref t)) (C : RoadKit.Fld Z U.heap x ST "coder" "B" (.int cd)) (K : RoadKit.Arv Z U.heap t kb .byte N2 vs (.int 0)) (hc : CodA cs cd N2 vs) (hb : ∀ c ∈ cs, ¬ c < 0 ∧ ¬ (65535 : Int32) < c) (l2 : cs.length ≤ 4000) :
    ∃ A, Txt x t A cd cs.length (fun j => cs.getD j 0) U := by
  obtain ⟨A, K1, K2, K3, K4, K5, K6⟩ := K
  have hcod := hc.cod (by omega) K3 K5
  obtain ⟨D, fV, fC, hB, F1, F2, g1, g2, -, -⟩ := strObj wi al E V C
  exact ⟨A, ⟨_, hB.2.2.1, D, hB.1, rfl, by cases q : D.vm <;> first | rfl | exact absurd q (hB.2.1.2 _)⟩, Has.of hB F1 g1, Has.of hB F2 g2, ⟨K1.1, State.isArrayOf_alike al K1.2.1, K1.2.2, by rcases hcod with ⟨-, q, -⟩ | ⟨-, q, -⟩ <;> omega⟩, hcod, fun j hj => by
    have e : cs.getD j 0 = cs[j] := by simp [List.getD_eq_getElem?_getD, hj]
    show ¬ cs.getD j 0 < 0 ∧ ¬ 65535 < cs.getD j 0
    rw [e]; exact hb _ (List.getElem_mem _)⟩
theorem same_list (cs ds : List Int32) : SameT cs.length (fun j => cs.getD j 0) ds.length (fun j => ds.getD j 0) ↔ cs = ds := by
  constructor
  · rintro ⟨e, q⟩
    refine List.ext_getElem e fun j h1 h2 => ?_
    have := q j h1
    simpa [List.getD_eq_getElem?_getD, h1, h2] using this
  · rintro rfl
    exact ⟨rfl, fun _ _ => rfl⟩
/-- **equals(Object) OF TWO SUCH STRINGS**: 1 just where the chars are the same -/
theorem eqW {p : Program} {l : Launch} {e : Env} {R : Room} {s : State} {args : Array Value} {below : List Frame} {len W : Nat} {Z : State} {a0 : Array Value} {h : Heap} (hZ : Z.Warmed39 s.vm) (hw : ∀ d ∈ wordsEq, d.before a0 Z = true) {kI : Nat} (wi : (Jvm.Cond.instantiable ST kI).before a0 Z = true)
    {x t : Addr} {kb : ClassId} {cs : List Int32} {cd N2 : Int32} {vs : List Value} (E : RoadKit.Exa Z h x ST) (V : RoadKit.Fld Z h x ST "value" "[B" (.ref t)) (C : RoadKit.Fld Z h x ST "coder" "B" (.int cd)) (K : RoadKit.Arv Z h t kb .byte N2 vs (.int 0)) (hc : CodA cs cd N2 vs) (hb : ∀ c ∈ cs, ¬ c < 0 ∧ ¬ (65535 : Int32) < c) (l2 : cs.length ≤ 4000)
    {y t' : Addr} {kb' : ClassId} {ds : List Int32} {cd' N2' : Int32} {vs' : List Value} (E' : RoadKit.Exa Z h y ST) (V' : RoadKit.Fld Z h y ST "value" "[B" (.ref t')) (C' : RoadKit.Fld Z h y ST "coder" "B" (.int cd')) (K' : RoadKit.Arv Z h t' kb' .byte N2' vs' (.int 0)) (hc' : CodA ds cd' N2' vs') (hb' : ∀ c ∈ ds, ¬ c < 0 ∧ ¬ (65535 : Int32) < c) (l2' : ds.length ≤ 4000)
    {z : Int32} (S : RoadKit.Sta Z h ST "COMPACT_STRINGS" "Z" (.int z)) (hz : ¬ z = 0) (hfr : 2 ≤ R.frames) (hlo : W + 28 ≤ R.locals) :
    Back l R p e below s args (⟨"java/lang/String", "equals", "(Ljava/lang/Object;)Z"⟩ : MethodName) len W (fun P a => a = #[.ref x, .ref y] ∧ P.U.heap = h ∧ P.cells + 0 ≤ R.cells ∧ P.slots + 0 ≤ R.slots)
      (fun P _ v B => ∃ L, (((v = some (.int 1) ∧ cs = ds) ∨ (v = some (.int 0) ∧ ¬ cs = ds)) ∧ L = [] ∧ B.U.heap = h) ∧ B.locs = P.locs ++ L ∧ B.cells = P.cells + 0 ∧ B.slots = P.slots + 0) := by
  intro m meth c P g ig mk a X hg hsize hdg hW hn hp'
  obtain ⟨rfl, rfl, r1, r2⟩ := hp'
  have al : Z.vm.Alike P.U.vm := hZ.alike.trans X.warmed.alike
  obtain ⟨A, hx⟩ := txt_of wi al E V C K hc hb l2
  obtain ⟨A', hy⟩ := txt_of wi al E' V' C' K' hc' hb' l2'
  obtain ⟨v, B, X', ⟨⟨w, hv, hh, hq⟩, hl, hk, hs⟩, st⟩ := SEq.pays x t A cd cs.length (fun j => cs.getD j 0) y t' A' cd' ds.length (fun j => ds.getD j 0) z (tabEq_of (movedEq hZ hw)) hfr hlo m meth c P g ig mk _ X hg hsize hdg hW hn ⟨r1, r2, rfl, hx, hy, sta_is al S, hz⟩
  refine ⟨v, B, X', ⟨[], ⟨?_, rfl, hh⟩, hl, hk, hs⟩, st⟩
  rcases hq with ⟨rfl, q⟩ | ⟨rfl, q⟩
  · exact Or.inl ⟨hv, (same_list cs ds).mp q⟩
  · exact Or.inr ⟨hv, fun e => q ((same_list cs ds).mpr e)⟩
end StrChars.Road
namespace StrChars.Road
open Jvm Sem ClassFile Op Lib Jvm.Stand Jvm.Free Jvm.Free.XT
open Jvm.Lib.Cold (StaticIs)
/-- what backV says of its String, as the contracts of this text ask it: cs's low bytes, coder 0 -/
theorem codOf {cs : List Int32} {n : Nat} (hn : cs.length = n) (hb : ∀ c ∈ cs, ¬ 255 < c) : CodA cs 0 (Int32.ofNat n) ((cs.map lo8).map Value.int) := Or.inl ⟨rfl, by rw [hn], by simp [List.map_map, Function.comp_def], hb⟩
end StrChars.Road
end Jvm.Pilot.@@N@@
namespace Jvm.Pilot.@@N@@
open Jvm Jvm.ClassFile Sem Op Lib Jvm.Free Jvm.Stand Jvm.LawKit Jvm.RoadKit Bundle Jvm.Pilot.@@N@@.Jvm.D
/-! a run that ends as a contract says: forks and joins go by it -/
def Goes (p : Program) (e : Env) (below : List Frame) (s : State) (Q : Option Value → Heap → List Loc → Prop) (kc ks : Nat) (A : State) : Prop :=
  ∃ s₂ o, Steps p.tables e below A s₂ ∧ s₂.status = .running ∧ Ended s₂ below o ∧ ∃ v L, o = .returned v ∧ Q v s₂.heap L ∧ FrameEnd s o s₂ L kc ks
section Go
variable {p : Program} {l : Launch} {e : Env} {R : Room} {s : State} {m : MethodId} {args : Array Value} {below : List Frame} {meth : Method} {c : Code} {T : State} {locs : List Loc} {cells slots kc ks : Nat} {Q : Option Value → Heap → List Loc → Prop}
theorem Goes.by {A B : State} (h : ∀ t, Steps p.tables e below B t → Steps p.tables e below A t) (k : Goes p e below s Q kc ks B) : Goes p e below s Q kc ks A := by
  obtain ⟨s₂, o, h1, h2⟩ := k
  exact ⟨s₂, o, h _ h1, h2⟩
theorem Goes.out (X : Stand p l e R s m args below meth c T locs cells slots) (hx : p.tables.exec = Jvm.exec) {pc : Nat} {Ls : Array Slot} {w : Value} {t : FieldType} {i : Instr} {rest : List Value} (hret : meth.sig.returnType = some t) (hn : narrow t w = w)
    (hi : (i = .ireturn ∧ (t = .int ∨ t = .boolean ∨ t = .byte ∨ t = .char ∨ t = .short) ∧ ∃ z, w = .int z) ∨ (i = .lreturn ∧ t = .long ∧ ∃ z, w = .long z) ∨ (i = .dreturn ∧ t = .double ∧ ∃ z, w = .double z) ∨ (i = .freturn ∧ t = .float ∧ ∃ z, w = .float z) ∨ (i = .areturn ∧ t.isReference = true ∧ w.isRef = true))
    (hd : decode c.code pc = .ok (i, 1)) (hlk : meth.locks = false) (hQ : Q (some w) T.heap locs) (hc : cells ≤ kc) (hs : slots ≤ ks) : Goes p e below s Q kc ks (T.setTop (mkF m pc Ls (w :: rest))) := by
  obtain ⟨fs, hr, hrun, hended, hW, hsame⟩ := X.leave (v := some w) (fun h => by rw [hret] at h; cases h) hlk
  exact ⟨_, _, retOut X hx hret hn hi hd hr, hrun, hended, _, _, rfl, hQ, ⟨_, rfl⟩, hW, hsame.mono hc hs⟩
theorem Goes.retI (X : Stand p l e R s m args below meth c T locs cells slots) (hx : p.tables.exec = Jvm.exec) {pc : Nat} {Ls : Array Slot} {z : Int32} {rest : List Value} (hret : meth.sig.returnType = some .int) (hn : True) (hd : decode c.code pc = .ok (.ireturn, 1)) (hlk : meth.locks = false) (hQ : Q (some (.int z)) T.heap locs) (hc : cells ≤ kc) (hs : slots ≤ ks) :
    Goes p e below s Q kc ks (T.setTop (mkF m pc Ls (.int z :: rest))) := Goes.out X hx hret rfl (Or.inl ⟨rfl, Or.inl rfl, z, rfl⟩) hd hlk hQ hc hs
theorem Goes.retN (X : Stand p l e R s m args below meth c T locs cells slots) (hx : p.tables.exec = Jvm.exec) {pc : Nat} {Ls : Array Slot} {z : Int32} {rest : List Value} (hret : meth.sig.returnType = some .boolean) (hn : narrow .boolean (.int z) = .int z) (hd : decode c.code pc = .ok (.ireturn, 1)) (hlk : meth.locks = false) (hQ : Q (some (.int z)) T.heap locs) (hc : cells ≤ kc) (hs : slots ≤ ks) :
    Goes p e below s Q kc ks (T.setTop (mkF m pc Ls (.int z :: rest))) := Goes.out X hx hret hn (Or.inl ⟨rfl, Or.inr (Or.inl rfl), z, rfl⟩) hd hlk hQ hc hs
theorem Goes.retL (X : Stand p l e R s m args below meth c T locs cells slots) (hx : p.tables.exec = Jvm.exec) {pc : Nat} {Ls : Array Slot} {z : Int64} {rest : List Value} (hret : meth.sig.returnType = some .long) (hn : True) (hd : decode c.code pc = .ok (.lreturn, 1)) (hlk : meth.locks = false) (hQ : Q (some (.long z)) T.heap locs) (hc : cells ≤ kc) (hs : slots ≤ ks) :
    Goes p e below s Q kc ks (T.setTop (mkF m pc Ls (.long z :: rest))) := Goes.out X hx hret rfl (Or.inr (Or.inl ⟨rfl, rfl, z, rfl⟩)) hd hlk hQ hc hs
theorem Goes.retD (X : Stand p l e R s m args below meth c T locs cells slots) (hx : p.tables.exec = Jvm.exec) {pc : Nat} {Ls : Array Slot} {z : UInt64} {rest : List Value} (hret : meth.sig.returnType = some .double) (hn : True) (hd : decode c.code pc = .ok (.dreturn, 1)) (hlk : meth.locks = false) (hQ : Q (some (.double z)) T.heap locs) (hc : cells ≤ kc) (hs : slots ≤ ks) :
    Goes p e below s Q kc ks (T.setTop (mkF m pc Ls (.double z :: rest))) := Goes.out X hx hret rfl (Or.inr (Or.inr (Or.inl ⟨rfl, rfl, z, rfl⟩))) hd hlk hQ hc hs
theorem Goes.retA (X : Stand p l e R s m args below meth c T locs cells slots) (hx : p.tables.exec = Jvm.exec) {pc : Nat} {Ls : Array Slot} {w : Value} {t : FieldType} {rest : List Value} (hret : meth.sig.returnType = some t) (ht : t.isReference = true) (hw : w.isRef = true) (hd : decode c.code pc = .ok (.areturn, 1)) (hlk : meth.locks = false) (hQ : Q (some w) T.heap locs) (hc : cells ≤ kc) (hs : slots ≤ ks) :
    Goes p e below s Q kc ks (T.setTop (mkF m pc Ls (w :: rest))) := Goes.out X hx hret (by rcases ref_cases hw with rfl | ⟨a, rfl⟩ <;> cases t <;> first | rfl | (simp [FieldType.isReference] at ht)) (Or.inr (Or.inr (Or.inr (Or.inr ⟨rfl, ht, hw⟩)))) hd hlk hQ hc hs
theorem Goes.retV (X : Stand p l e R s m args below meth c T locs cells slots) (hx : p.tables.exec = Jvm.exec) {pc : Nat} {Ls : Array Slot} (hret : meth.sig.returnType = none) (hd : decode c.code pc = .ok (.return_, 1)) (hlk : meth.locks = false) (hQ : Q none T.heap locs) (hc : cells ≤ kc) (hs : slots ≤ ks) :
    Goes p e below s Q kc ks (T.setTop (mkF m pc Ls [])) := by
  obtain ⟨fs, hr, hrun, hended, hW, hsame⟩ := X.leave (v := none) (fun _ => rfl) hlk
  exact ⟨_, _, X.returnOut hx hret hd hr, hrun, hended, _, _, rfl, hQ, ⟨_, rfl⟩, hW, hsame.mono hc hs⟩
end Go
/-! the same for a run that may intern: the wide end -/
def GoesW (p : Program) (e : Env) (below : List Frame) (s : State) (Q : Option Value → Heap → List Loc → Prop) (kc ks : Nat) (A : State) : Prop :=
  ∃ s₂ o, Steps p.tables e below A s₂ ∧ s₂.status = .running ∧ Ended s₂ below o ∧ ∃ v L, o = .returned v ∧ Q v s₂.heap L ∧ ReturnedEndW s o s₂ L kc ks
section GoW
variable {p : Program} {l : Launch} {e : Env} {R : Room} {s : State} {vm0 : Vm} {k0 : Nat} {m : MethodId} {args : Array Value} {below : List Frame} {meth : Method} {c : Code} {T : State} {locs : List Loc} {cells slots kc ks : Nat} {Q : Option Value → Heap → List Loc → Prop}
theorem GoesW.by {A B : State} (h : ∀ t, Steps p.tables e below B t → Steps p.tables e below A t) (k : GoesW p e below s Q kc ks B) : GoesW p e below s Q kc ks A := by
  obtain ⟨s₂, o, h1, h2⟩ := k
  exact ⟨s₂, o, h _ h1, h2⟩
theorem GoesW.out (X : Stand p l e R (s.setVm vm0) m args below meth c T locs cells slots) (hS : s.Since vm0 k0) (hk : k0 ≤ T.heap.size) (hx : p.tables.exec = Jvm.exec) {pc : Nat} {Ls : Array Slot} {w : Value} {t : FieldType} {i : Instr} {rest : List Value} (hret : meth.sig.returnType = some t) (hn : narrow t w = w)
    (hi : (i = .ireturn ∧ (t = .int ∨ t = .boolean ∨ t = .byte ∨ t = .char ∨ t = .short) ∧ ∃ z, w = .int z) ∨ (i = .lreturn ∧ t = .long ∧ ∃ z, w = .long z) ∨ (i = .dreturn ∧ t = .double ∧ ∃ z, w = .double z) ∨ (i = .freturn ∧ t = .float ∧ ∃ z, w = .float z) ∨ (i = .areturn ∧ t.isReference = true ∧ w.isRef = true))
    (hd : decode c.code pc = .ok (i, 1)) (hlk : meth.locks = false) (hQ : Q (some w) T.heap locs) (hc : cells ≤ kc) (hs : slots ≤ ks) : GoesW p e below s Q kc ks (T.setTop (mkF m pc Ls (w :: rest))) := by
  obtain ⟨fs, hr, hrun, hended, hE⟩ := X.leaveW hS hk (v := some w) (fun h => by rw [hret] at h; cases h) hlk
  exact ⟨_, _, retOut X hx hret hn hi hd hr, hrun, hended, _, _, rfl, hQ, hE.1, hE.2.1, hE.2.2.1, hE.2.2.2.mono hc hs⟩
theorem GoesW.retN (X : Stand p l e R (s.setVm vm0) m args below meth c T locs cells slots) (hS : s.Since vm0 k0) (hk : k0 ≤ T.heap.size) (hx : p.tables.exec = Jvm.exec) {pc : Nat} {Ls : Array Slot} {z : Int32} {rest : List Value} (hret : meth.sig.returnType = some .boolean) (hn : narrow .boolean (.int z) = .int z) (hd : decode c.code pc = .ok (.ireturn, 1)) (hlk : meth.locks = false) (hQ : Q (some (.int z)) T.heap locs) (hc : cells ≤ kc) (hs : slots ≤ ks) :
    GoesW p e below s Q kc ks (T.setTop (mkF m pc Ls (.int z :: rest))) := GoesW.out X hS hk hx hret hn (Or.inl ⟨rfl, Or.inr (Or.inl rfl), z, rfl⟩) hd hlk hQ hc hs
theorem GoesW.retA (X : Stand p l e R (s.setVm vm0) m args below meth c T locs cells slots) (hS : s.Since vm0 k0) (hk : k0 ≤ T.heap.size) (hx : p.tables.exec = Jvm.exec) {pc : Nat} {Ls : Array Slot} {w : Value} {t : FieldType} {rest : List Value} (hret : meth.sig.returnType = some t) (ht : t.isReference = true) (hw : w.isRef = true) (hd : decode c.code pc = .ok (.areturn, 1)) (hlk : meth.locks = false) (hQ : Q (some w) T.heap locs) (hc : cells ≤ kc) (hs : slots ≤ ks) :
    GoesW p e below s Q kc ks (T.setTop (mkF m pc Ls (w :: rest))) := GoesW.out X hS hk hx hret (by rcases ref_cases hw with rfl | ⟨a, rfl⟩ <;> cases t <;> first | rfl | (simp [FieldType.isReference] at ht)) (Or.inr (Or.inr (Or.inr (Or.inr ⟨rfl, ht, hw⟩)))) hd hlk hQ hc hs
theorem GoesW.retV (X : Stand p l e R (s.setVm vm0) m args below meth c T locs cells slots) (hS : s.Since vm0 k0) (hk : k0 ≤ T.heap.size) (hx : p.tables.exec = Jvm.exec) {pc : Nat} {Ls : Array Slot} (hret : meth.sig.returnType = none) (hd : decode c.code pc = .ok (.return_, 1)) (hlk : meth.locks = false) (hQ : Q none T.heap locs) (hc : cells ≤ kc) (hs : slots ≤ ks) :
    GoesW p e below s Q kc ks (T.setTop (mkF m pc Ls [])) := by
  obtain ⟨fs, hr, hrun, hended, hE⟩ := X.leaveW hS hk (v := none) (fun _ => rfl) hlk
  exact ⟨_, _, X.returnOut hx hret hd hr, hrun, hended, _, _, rfl, hQ, hE.1, hE.2.1, hE.2.2.1, hE.2.2.2.mono hc hs⟩
end GoW

/-! the same for a run that may intern, with the invariant on the constants held (RW14's CHv, CHr) -/
def GoesH (Z : State) (EL : List (String × Nat)) (p : Program) (e : Env) (below : List Frame) (s : State) (Q : Option Value → Heap → List Loc → Prop) (kc ks : Nat) (A : State) : Prop :=
  ∃ s₂ o, Steps p.tables e below A s₂ ∧ s₂.status = .running ∧ Ended s₂ below o ∧ ∃ v L, o = .returned v ∧ Q v s₂.heap L ∧ CHr Z EL s.vm s.heap s₂.vm s₂.heap ∧ ReturnedEndW s o s₂ L kc ks
section GoH
variable {p : Program} {l : Launch} {e : Env} {R : Room} {s Z : State} {EL : List (String × Nat)} {a0 : Array Value} {vm0 : Vm} {k0 : Nat} {m : MethodId} {args : Array Value} {below : List Frame} {meth : Method} {c : Code} {T : State} {locs : List Loc} {cells slots kc ks : Nat} {Q : Option Value → Heap → List Loc → Prop}
theorem GoesH.by {A B : State} (h : ∀ t, Steps p.tables e below B t → Steps p.tables e below A t) (k : GoesH Z EL p e below s Q kc ks B) : GoesH Z EL p e below s Q kc ks A := by
  obtain ⟨s₂, o, h1, h2⟩ := k
  exact ⟨s₂, o, h _ h1, h2⟩
theorem GoesH.retA (X : Stand p l e R (s.setVm vm0) m args below meth c T locs cells slots) (hS : s.Since vm0 k0) (hk : k0 ≤ T.heap.size) (hZ : Z.Warmed39 vm0) (hEL : EW Z a0 EL) (CH : CHr Z EL s.vm s.heap vm0 T.heap) (hx : p.tables.exec = Jvm.exec) {pc : Nat} {Ls : Array Slot} {w : Value} {t : FieldType} {rest : List Value} (hret : meth.sig.returnType = some t) (ht : t.isReference = true) (hw : w.isRef = true) (hd : decode c.code pc = .ok (.areturn, 1)) (hlk : meth.locks = false) (hQ : Q (some w) T.heap locs) (hc : cells ≤ kc) (hs : slots ≤ ks) :
    GoesH Z EL p e below s Q kc ks (T.setTop (mkF m pc Ls (w :: rest))) := by
  have CC : CHr Z EL s.vm s.heap T.vm T.heap := CH.trans (CHv.at X hZ hEL CH.1)
  obtain ⟨fs, hr, hrun, hended, hE⟩ := X.leaveW hS hk (v := some w) (fun h => by rw [hret] at h; cases h) hlk
  exact ⟨_, _, retOut X hx hret (by rcases ref_cases hw with rfl | ⟨a, rfl⟩ <;> cases t <;> first | rfl | (simp [FieldType.isReference] at ht)) (Or.inr (Or.inr (Or.inr (Or.inr ⟨rfl, ht, hw⟩)))) hd hr, hrun, hended, _, _, rfl, hQ, CC, hE.1, hE.2.1, hE.2.2.1, hE.2.2.2.mono hc hs⟩
theorem GoesH.retV (X : Stand p l e R (s.setVm vm0) m args below meth c T locs cells slots) (hS : s.Since vm0 k0) (hk : k0 ≤ T.heap.size) (hZ : Z.Warmed39 vm0) (hEL : EW Z a0 EL) (CH : CHr Z EL s.vm s.heap vm0 T.heap) (hx : p.tables.exec = Jvm.exec) {pc : Nat} {Ls : Array Slot} (hret : meth.sig.returnType = none) (hd : decode c.code pc = .ok (.return_, 1)) (hlk : meth.locks = false) (hQ : Q none T.heap locs) (hc : cells ≤ kc) (hs : slots ≤ ks) :
    GoesH Z EL p e below s Q kc ks (T.setTop (mkF m pc Ls [])) := by
  have CC : CHr Z EL s.vm s.heap T.vm T.heap := CH.trans (CHv.at X hZ hEL CH.1)
  obtain ⟨fs, hr, hrun, hended, hE⟩ := X.leaveW hS hk (v := none) (fun _ => rfl) hlk
  exact ⟨_, _, X.returnOut hx hret hd hr, hrun, hended, _, _, rfl, hQ, CC, hE.1, hE.2.1, hE.2.2.1, hE.2.2.2.mono hc hs⟩
end GoH

theorem own_noSub {Z : State} {a0 : Array Value} {C O K : String} {n : Nat} (w : (Jvm.Cond.superclass C O).before a0 Z = true) (w0 : (Jvm.Cond.noSuperclass O).before a0 Z = true) (wk : (Jvm.Cond.instantiable K n).before a0 Z = true) (hC : C ≠ K) (hO : O ≠ K) : ∃ c t, Z.vm.findClass C = some c ∧ Z.vm.findClass K = some t ∧ Z.vm.assignable c t = false := by
  obtain ⟨t, k', g0, g2, g5, g6, -⟩ := Cond.instantiable_spec wk
  have g7 : k'.isInterface = false := (Bool.or_eq_false_iff.mp g6).1
  obtain ⟨c, h0⟩ := found_sup w
  obtain ⟨p, k, kp, h1, h2, h3, h4, h5, -, h7⟩ := Cond.superclass_spec h0 w
  obtain ⟨c', ko, i1, i2, i3, -, -⟩ := Cond.noSuperclass_spec w0
  cases i1.symm.trans h1
  have ne := ids_ne h0 g0 hC
  have ne2 := ids_ne h1 g0 hO
  refine ⟨c, t, h0, g0, ?_⟩
  have z : ∀ f, Z.vm.isSubclassAux f p t = false := fun f => by
    cases f with
    | zero => rfl
    | succ f => simp [Vm.isSubclassAux, ne2, i2, i3]
  have y : ∀ f, Z.vm.isSubclassAux f c t = false := fun f => by
    cases f with
    | zero => rfl
    | succ f => simp [Vm.isSubclassAux, ne, h2, h4, z]
  show Z.vm.assignableAux (255 + 1) c t = false
  simp [Vm.assignableAux, ne, h2, g2, h5, g5, g7, Vm.isSubclass, y]
/-! a String of known signs, each 0 to 255 -/
def STR (Z : State) (h : Heap) (x : Addr) (cs : List Int32) : Prop := Exa Z h x "java/lang/String" ∧ Fld Z h x "java/lang/String" "coder" "B" (.int 0) ∧ ∃ (t : Addr) (kb : ClassId) (N : Int32) (vs : List Value), Fld Z h x "java/lang/String" "value" "[B" (.ref t) ∧ Arv Z h t kb .byte N vs (.int 0) ∧ StrChars.Road.CodA cs 0 N vs ∧ (∀ c ∈ cs, ¬ c < 0 ∧ ¬ (65535 : Int32) < c) ∧ cs.length ≤ 4000
theorem STR.ext {Z : State} {h h' : Heap} {x : Addr} {cs : List Int32} (S : STR Z h x cs) (E : Ext h h') : STR Z h' x cs := by
  obtain ⟨a, b, t, kb, N, vs, c, d, e⟩ := S
  exact ⟨a.ext E, b.ext E, t, kb, N, vs, c.ext E, d.ext E, e⟩
theorem STR.keep {Z : State} {h h' : Heap} {x : Addr} {cs : List Int32} (S : STR Z h x cs) (K : Keep h h' []) (_ : x ∉ ([] : List Addr)) : STR Z h' x cs := by
  obtain ⟨a, b, t, kb, N, vs, c, d, e⟩ := S
  exact ⟨a.keep K, b.keep K nin0, t, kb, N, vs, c.keep K nin0, d.keep K nin0, e⟩
theorem STR.keepT {Z : State} {a0 : Array Value} {h h' : Heap} {x y : Addr} {cs : List Int32} {C : String} {n : Nat} (S : STR Z h x cs) (w : (Jvm.Cond.instantiable C n).before a0 Z = true) (hC : C ≠ "java/lang/String") (Y : Exa Z h y C) (K : Keep h h' [y]) : STR Z h' x cs := by
  obtain ⟨a, b, t, kb, N, vs, c, d, e⟩ := S
  have n1 : x ≠ y := Ne.symm (Exa.ne Y a hC)
  have n2 : t ≠ y := Ne.symm (Exa.neArv Y d w)
  exact ⟨a.keep K, b.keep K (ninS n1 nin0), t, kb, N, vs, c.keep K (ninS n1 nin0), d.keep K (ninS n2 nin0), e⟩
theorem STR.lt {Z : State} {h : Heap} {x : Addr} {cs : List Int32} (S : STR Z h x cs) : x < h.size := S.1.lt
theorem own_fin256 : ∀ k : Fin 256, nar .char ((Int32.ofNat k.val).toUInt32.toUInt16.toUInt32.toInt32) = Int32.ofNat k.val := by decide +kernel
theorem own_char {c : Int32} (h : ¬ c < 0 ∧ ¬ (255 : Int32) < c) : nar .char (c.toUInt32.toUInt16.toUInt32.toInt32) = c := by
  have i0 : (0 : Int32).toInt = 0 := by decide
  have i1 : (255 : Int32).toInt = 255 := by decide
  obtain ⟨a, b⟩ := h
  rw [Int32.lt_iff_toInt_lt, i0] at a
  rw [Int32.lt_iff_toInt_lt, i1] at b
  have e : c = Int32.ofNat c.toInt.toNat := by
    apply Int32.toInt_inj.mp
    rw [Int32.toInt_ofNat_of_lt (by omega)]
    omega
  have := own_fin256 ⟨c.toInt.toNat, by omega⟩
  rw [← e] at this
  exact this
theorem own_and255 (z : Int32) : ¬ (z &&& 255) < 0 ∧ ¬ (255 : Int32) < (z &&& 255) := by
  have h : (z &&& 255).toInt = (z.toBitVec.toNat % 256 : Nat) := by
    have e : (z &&& 255).toBitVec = z.toBitVec &&& 255#32 := rfl
    have n : (z &&& 255).toBitVec.toNat = z.toBitVec.toNat % 256 := by
      rw [e, BitVec.toNat_and]
      exact Nat.and_two_pow_sub_one_eq_mod z.toBitVec.toNat 8
    show (z &&& 255).toBitVec.toInt = _
    rw [BitVec.toInt_eq_toNat_of_lt (by rw [n]; omega), n]
  have i0 : (0 : Int32).toInt = 0 := by decide
  have i1 : (255 : Int32).toInt = 255 := by decide
  rw [Int32.lt_iff_toInt_lt, Int32.lt_iff_toInt_lt, h, i0, i1]
  omega
theorem own_xor255 (u w : Int32) : ¬ ((u &&& 255) ^^^ (w &&& 255)) < 0 ∧ ¬ (255 : Int32) < ((u &&& 255) ^^^ (w &&& 255)) := by
  have e : (u &&& 255) ^^^ (w &&& 255) = (u ^^^ w) &&& 255 := by
    apply Int32.toBitVec_inj.mp
    show (u.toBitVec &&& 255#32) ^^^ (w.toBitVec &&& 255#32) = (u.toBitVec ^^^ w.toBitVec) &&& 255#32
    ext i
    simp
    cases u.toBitVec[i] <;> cases w.toBitVec[i] <;> simp
  rw [e]
  exact own_and255 _
theorem own_xeq (a d : Int32) : a = a ^^^ d ↔ d = 0 := by
  constructor
  · intro h
    have h' : a.toBitVec = a.toBitVec ^^^ d.toBitVec := congrArg Int32.toBitVec h
    apply Int32.toBitVec_inj.mp
    show d.toBitVec = 0#32
    have h2 : a.toBitVec ^^^ a.toBitVec = a.toBitVec ^^^ (a.toBitVec ^^^ d.toBitVec) := congrArg (a.toBitVec ^^^ ·) h'
    rw [← BitVec.xor_assoc, BitVec.xor_self, BitVec.zero_xor] at h2
    exact h2.symm
  · intro h
    rw [h]
    apply Int32.toBitVec_inj.mp
    show a.toBitVec = a.toBitVec ^^^ 0#32
    simp
def own_cs (n a b c : Int32) : List Int32 := if n = 0 then [] else if n = 1 then [a] else if n = 2 then [a, b] else [a, b, c]
theorem own_and3 (z : Int32) : z &&& 3 = 0 ∨ z &&& 3 = 1 ∨ z &&& 3 = 2 ∨ z &&& 3 = 3 := by
  have h : (z &&& 3).toInt = (z.toBitVec.toNat % 4 : Nat) := by
    have n : (z &&& 3).toBitVec.toNat = z.toBitVec.toNat % 4 := by
      rw [show (z &&& 3).toBitVec = z.toBitVec &&& 3#32 from rfl, BitVec.toNat_and]
      exact Nat.and_two_pow_sub_one_eq_mod z.toBitVec.toNat 2
    show (z &&& 3).toBitVec.toInt = _
    rw [BitVec.toInt_eq_toNat_of_lt (by rw [n]; omega), n]
  have i0 : (0 : Int32).toInt = 0 := by decide
  have i1 : (1 : Int32).toInt = 1 := by decide
  have i2 : (2 : Int32).toInt = 2 := by decide
  have i3 : (3 : Int32).toInt = 3 := by decide
  rw [← Int32.toInt_inj, ← Int32.toInt_inj, ← Int32.toInt_inj, ← Int32.toInt_inj, h, i0, i1, i2, i3]
  omega
theorem own_same (n k a b c d e f : Int32) (hn : n = 0 ∨ n = 1 ∨ n = 2 ∨ n = 3) (hk : k = 0 ∨ k = 1 ∨ k = 2 ∨ k = 3) :
    own_cs n a b c = own_cs k (a ^^^ d) (b ^^^ e) (c ^^^ f) ↔ (n = k ∧ (n < 1 ∨ d = 0) ∧ (n < 2 ∨ e = 0) ∧ (n < 3 ∨ f = 0)) := by
  have l1 : (0 : Int32) < 1 := by decide
  have l2 : (0 : Int32) < 2 := by decide
  have l3 : (0 : Int32) < 3 := by decide
  have l4 : (1 : Int32) < 2 := by decide
  have l5 : (1 : Int32) < 3 := by decide
  have l6 : (2 : Int32) < 3 := by decide
  have m1 : ¬ (1 : Int32) < 1 := by decide
  have m2 : ¬ (2 : Int32) < 1 := by decide
  have m3 : ¬ (3 : Int32) < 1 := by decide
  have m4 : ¬ (2 : Int32) < 2 := by decide
  have m5 : ¬ (3 : Int32) < 2 := by decide
  have m6 : ¬ (3 : Int32) < 3 := by decide
  rcases hn with rfl | rfl | rfl | rfl <;> rcases hk with rfl | rfl | rfl | rfl <;> simp [own_cs, own_xeq, l1, l2, l3, l4, l5, l6, m1, m2, m3, m4, m5, m6]
theorem own_safe {Z : State} {EL : List (String × Nat)} {vm : Vm} {h : Heap} {x : Addr} (hal : Z.vm.Alike vm) (E : Exa Z h x "java/lang/String") (V : Fld Z h x "java/lang/String" "value" "[B" .null) : Safe Z EL vm h x := fun B => by
  obtain ⟨p, -, u, a, -, q, -, F, e | e⟩ := B
  · obtain ⟨cell, cf, k, i, f, v1, v2, -, -, -, -, v7⟩ := V
    have ha : h[q.sa]? = some q.sC := F.ha
    rw [← e] at ha
    cases v1.symm.trans ha
    obtain ⟨cS, ⟨⟨s1, s2, s3, ⟨cv, kv, iv, s4, s4'⟩, s5, s6, s7, s8, s9, s10, -⟩, -, -⟩, -⟩ := F
    obtain ⟨kv', z4⟩ := ff_back (U := Wst Z vm h) hal s4
    cases v2.symm.trans z4
    rw [v7] at s8
    cases s8
  · obtain ⟨cell, k, e1, e2, e3, -, -⟩ := E
    have hd : h[q.sd]? = some q.SA := F.hd
    rw [← e] at hd
    cases e1.symm.trans hd
    obtain ⟨cS, -, -, f, -⟩ := F
    have f' : vm.findClass "[B" = some q.SA.cls := f
    rw [hal.findClass] at f'
    obtain ⟨k1, q1, q2⟩ := Vm.findClass_spec f'
    obtain ⟨k2, q3, q4⟩ := Vm.findClass_spec e2
    cases q1.symm.trans q3
    exact absurd (q2.symm.trans q4) (by decide)
theorem own_csb {n a b c : Int32} (ha : ¬ a < 0 ∧ ¬ (255 : Int32) < a) (hb : ¬ b < 0 ∧ ¬ (255 : Int32) < b) (hc : ¬ c < 0 ∧ ¬ (255 : Int32) < c) : (∀ z ∈ own_cs n a b c, ¬ z < 0 ∧ ¬ (255 : Int32) < z) ∧ (own_cs n a b c).length ≤ 4000 := by
  unfold own_cs
  split
  · exact ⟨List.forall_mem_nil _, by decide⟩
  · split
    · exact ⟨List.forall_mem_cons.2 ⟨ha, List.forall_mem_nil _⟩, by simp⟩
    · split
      · exact ⟨List.forall_mem_cons.2 ⟨ha, List.forall_mem_cons.2 ⟨hb, List.forall_mem_nil _⟩⟩, by simp⟩
      · exact ⟨List.forall_mem_cons.2 ⟨ha, List.forall_mem_cons.2 ⟨hb, List.forall_mem_cons.2 ⟨hc, List.forall_mem_nil _⟩⟩⟩, by simp⟩
theorem own_up {cs : List Int32} (h : ∀ z ∈ cs, ¬ z < 0 ∧ ¬ (255 : Int32) < z) : ∀ z ∈ cs, ¬ z < 0 ∧ ¬ (65535 : Int32) < z := fun z hz => ⟨(h z hz).1, fun q => (h z hz).2 (by
  have i1 : (255 : Int32).toInt = 255 := by decide
  have i2 : (65535 : Int32).toInt = 65535 := by decide
  rw [Int32.lt_iff_toInt_lt, i2] at q
  rw [Int32.lt_iff_toInt_lt, i1]
  omega)⟩
theorem own_len0 {p : Program} {l : Launch} {e : Env} {R : Room} {s : State} {m : MethodId} {args : Array Value} {below : List Frame} {meth : Method} {c : Code} {T : State} {locs : List Loc} {cells slots : Nat} {Z : State} {h : Heap} {a : Addr} {k : ClassId} {ty : FieldType} {vs : List Value} {d : Value}
    (X : Stand p l e R s m args below meth c T locs cells slots) (hx : p.tables.exec = Jvm.exec) (hZ : Z.Warmed39 s.vm) (eT : T.heap = h) (A : Arv Z h a k ty 0 vs d) {g : JFrame} (hg : g.method = m) {rest : List Value} (hs : g.stack = .ref a :: rest) (hd : decode c.code g.pc = .ok (.arraylength, 1)) {target : State}
    (hr : Steps p.tables e below (T.setTop { g with pc := g.pc + 1, stack := .int 0 :: rest }) target) : Steps p.tables e below (T.setTop g) target := by
  obtain ⟨cl, A, -, S, -⟩ := A
  refine X.arraylength hx (by rw [eT]; exact A.1) (State.isArrayOf_alike hZ.alike A.2.1) hg hs hd _ ?_
  rw [S]; exact hr

theorem pd_0 : parseMethodDescriptor "(IIIII)Z" = some ⟨[.int, .int, .int, .int, .int], some .boolean⟩ := by decide +kernel
theorem pd_1 : parseMethodDescriptor "(II)I" = some ⟨[.int, .int], some .int⟩ := by decide +kernel
theorem pd_2 : parseMethodDescriptor "(IIII)Ljava/lang/String;" = some ⟨[.int, .int, .int, .int], some (.object "java/lang/String")⟩ := by decide +kernel
theorem pd_3 : parseMethodDescriptor "([C)V" = some ⟨[(.array .char)], none⟩ := by decide +kernel
theorem pd_4 : parseMethodDescriptor "([CIILjava/lang/Void;)V" = some ⟨[(.array .char), .int, .int, (.object "java/lang/Void")], none⟩ := by decide +kernel
theorem pd_5 : parseMethodDescriptor "()V" = some ⟨[], none⟩ := by decide +kernel
theorem pd_6 : parseMethodDescriptor "([CII)[B" = some ⟨[(.array .char), .int, .int], some (.array .byte)⟩ := by decide +kernel
theorem pd_7 : parseMethodDescriptor "([CI[BII)I" = some ⟨[(.array .char), .int, (.array .byte), .int, .int], some .int⟩ := by decide +kernel
theorem pd_8 : parseMethodDescriptor "([BI)B" = some ⟨[(.array .byte), .int], some .byte⟩ := by decide +kernel
theorem pd_9 : parseMethodDescriptor "(Ljava/lang/String;Ljava/lang/String;)V" = some ⟨[(.object "java/lang/String"), (.object "java/lang/String")], none⟩ := by decide +kernel
theorem pd_10 : parseMethodDescriptor "(Ljava/lang/Object;)Ljava/lang/Object;" = some ⟨[(.object "java/lang/Object")], some (.object "java/lang/Object")⟩ := by decide +kernel
theorem pd_11 : parseMethodDescriptor "(II)Z" = some ⟨[.int, .int], some .boolean⟩ := by decide +kernel
theorem pd_12 : parseMethodDescriptor "(Ljava/lang/Object;)Z" = some ⟨[(.object "java/lang/Object")], some .boolean⟩ := by decide +kernel
theorem pd_13 : parseMethodDescriptor "([B[B)Z" = some ⟨[(.array .byte), (.array .byte)], some .boolean⟩ := by decide +kernel
theorem own_ne1 : ("com/example/diogenes/diogenes/format/Topic" : String) ≠ "java/lang/String" := by decide +kernel
theorem own_ne2 : ("java/lang/String" : String) ≠ "com/example/diogenes/diogenes/format/Topic" := by decide +kernel
theorem own_ne3 : ("java/lang/Object" : String) ≠ "com/example/diogenes/diogenes/format/Topic" := by decide +kernel
abbrev EL1 : List (String × Nat) := [("java/lang/String", 7)]
theorem own_EW {Z : State} {a0 : Array Value} (hw : ∀ d ∈ tables_1, d.before a0 Z = true) : EW Z a0 EL1 := EW.cons (hw _ (List.mem_of_getElem? (i := 21) rfl)) (by simp) EW.nil
theorem own_tx : (∀ c ∈ ("" : String).toList, c.toNat < 256) ∧ ("" : String).toList.map (fun c => Value.int (Jvm.Lit.byteI c.toNat.toUInt16)) = [] := by decide
def Q4 (Z : State) (a1 : Addr) (h0 : Heap) (n0 : Nat) (v : Option Value) (h : Heap) (L : List Loc) : Prop := v = none ∧ Fr n0 L ∧ Keep h0 h [a1] ∧ Exa Z h a1 "java/lang/String" ∧ Fld Z h a1 "java/lang/String" "coder" "B" (.int 0) ∧ ∃ (t : Addr) (kb : ClassId), Fld Z h a1 "java/lang/String" "value" "[B" (.ref t) ∧ Arv Z h t kb .byte 0 [] (.int 0)
theorem d4_0 : decode jdk_42_method_149_code 0 = .ok (.aload_n 0, 1) := by decide +kernel
theorem d4_1 : decode jdk_42_method_149_code 1 = .ok (.invokespecial 1, 3) := by decide +kernel
theorem d4_4 : decode jdk_42_method_149_code 4 = .ok (.iload_n 3, 1) := by decide +kernel
theorem d4_5 : decode jdk_42_method_149_code 5 = .ok (.ifCond .ne 22, 3) := by decide +kernel
theorem d4_8 : decode jdk_42_method_149_code 8 = .ok (.aload_n 0, 1) := by decide +kernel
theorem d4_9 : decode jdk_42_method_149_code 9 = .ok (.ldc 7, 2) := by decide +kernel
theorem d4_11 : decode jdk_42_method_149_code 11 = .ok (.getfield 9, 3) := by decide +kernel
theorem d4_14 : decode jdk_42_method_149_code 14 = .ok (.putfield 9, 3) := by decide +kernel
theorem d4_17 : decode jdk_42_method_149_code 17 = .ok (.aload_n 0, 1) := by decide +kernel
theorem d4_18 : decode jdk_42_method_149_code 18 = .ok (.ldc 7, 2) := by decide +kernel
theorem d4_20 : decode jdk_42_method_149_code 20 = .ok (.getfield 15, 3) := by decide +kernel
theorem d4_23 : decode jdk_42_method_149_code 23 = .ok (.putfield 15, 3) := by decide +kernel
theorem d4_26 : decode jdk_42_method_149_code 26 = .ok (.return_, 1) := by decide +kernel
theorem d4_27 : decode jdk_42_method_149_code 27 = .ok (.getstatic 38, 3) := by decide +kernel
theorem d4_30 : decode jdk_42_method_149_code 30 = .ok (.ifCond .eq 28, 3) := by decide +kernel
theorem d4_33 : decode jdk_42_method_149_code 33 = .ok (.aload_n 1, 1) := by decide +kernel
theorem d4_34 : decode jdk_42_method_149_code 34 = .ok (.iload_n 2, 1) := by decide +kernel
theorem d4_35 : decode jdk_42_method_149_code 35 = .ok (.iload_n 3, 1) := by decide +kernel
theorem d4_36 : decode jdk_42_method_149_code 36 = .ok (.invokestatic 177, 3) := by decide +kernel
theorem d4_39 : decode jdk_42_method_149_code 39 = .ok (.astore 5, 2) := by decide +kernel
theorem d4_41 : decode jdk_42_method_149_code 41 = .ok (.aload_n 0, 1) := by decide +kernel
theorem d4_42 : decode jdk_42_method_149_code 42 = .ok (.aload 5, 2) := by decide +kernel
theorem d4_44 : decode jdk_42_method_149_code 44 = .ok (.iload_n 3, 1) := by decide +kernel
theorem d4_45 : decode jdk_42_method_149_code 45 = .ok (.invokestatic 47, 3) := by decide +kernel
theorem d4_48 : decode jdk_42_method_149_code 48 = .ok (.putfield 15, 3) := by decide +kernel
theorem d4_51 : decode jdk_42_method_149_code 51 = .ok (.aload_n 0, 1) := by decide +kernel
theorem d4_52 : decode jdk_42_method_149_code 52 = .ok (.aload 5, 2) := by decide +kernel
theorem d4_54 : decode jdk_42_method_149_code 54 = .ok (.putfield 9, 3) := by decide +kernel
theorem d4_57 : decode jdk_42_method_149_code 57 = .ok (.return_, 1) := by decide +kernel
theorem d4_58 : decode jdk_42_method_149_code 58 = .ok (.aload_n 0, 1) := by decide +kernel
theorem d4_59 : decode jdk_42_method_149_code 59 = .ok (.iconst 1, 1) := by decide +kernel
theorem d4_60 : decode jdk_42_method_149_code 60 = .ok (.putfield 15, 3) := by decide +kernel
theorem d4_63 : decode jdk_42_method_149_code 63 = .ok (.aload_n 0, 1) := by decide +kernel
theorem d4_64 : decode jdk_42_method_149_code 64 = .ok (.aload_n 1, 1) := by decide +kernel
theorem d4_65 : decode jdk_42_method_149_code 65 = .ok (.iload_n 2, 1) := by decide +kernel
theorem d4_66 : decode jdk_42_method_149_code 66 = .ok (.iload_n 3, 1) := by decide +kernel
theorem d4_67 : decode jdk_42_method_149_code 67 = .ok (.invokestatic 180, 3) := by decide +kernel
theorem d4_70 : decode jdk_42_method_149_code 70 = .ok (.putfield 9, 3) := by decide +kernel
theorem d4_73 : decode jdk_42_method_149_code 73 = .ok (.return_, 1) := by decide +kernel
theorem pn_0 : plainName "java/lang/String" = true := by first | (simp [plainName, overriddenIn]; done) | decide +kernel
theorem ef_rm4 (m : MethodId) (x0 : Addr) (x1 : Addr) (x2 : Int32) (x3 : Int32) : entryFrame m #[(.ref x0), (.ref x1), (.int x2), (.int x3), .null] 6 = mkF m 0 #[.val (.ref x0), .val (.ref x1), .val (.int x2), .val (.int x3), .val .null, .unset] [] := by first | (simp [entryFrame, mkF, argsToLocals, Value.category]; done) | rfl
set_option maxRecDepth 65536 in
set_option maxHeartbeats 40000000 in
theorem rm4 (l : Launch) (Z : State) (a0 : Array Value) (hw : ∀ d ∈ tables_1, d.before a0 Z = true) (ws : List Jvm.Cond) (a1 b1 : Addr) (h0 : Heap) (n0 : Nat) (Z0 : n0 ≤ h0.size) (EA : Exa Z h0 a1 "java/lang/String") (FV : Fld Z h0 a1 "java/lang/String" "value" "[B" .null) (FC : Fld Z h0 a1 "java/lang/String" "coder" "B" (.int 0)) (gea : n0 ≤ a1) (wS : ∀ a ∈ Bundle.stringAtoms, a.before a0 Z = true) :
    MetFree l (⟨"java/lang/String", "<init>", "([CIILjava/lang/Void;)V"⟩ : MethodName) (head1 (Jvm.Cond.code (⟨"java/lang/String", "<init>", "([CIILjava/lang/Void;)V"⟩ : MethodName) jdk_42_method_149_code 6 none :: ws) ({ frames := 1, cells := 4, slots := 8, locals := 12 } : Room)) (fun a U => a = #[(.ref a1), (.ref b1), (.int (0 : Int32)), (.int (0 : Int32)), .null] ∧ Z.Warmed39 U.vm ∧ U.heap = h0 ∧ CHv Z EL1 U.vm h0) (fun _ _ _ _ _ => True) (fun _ U o U' => ∃ v L, o = .returned v ∧ (Q4 Z a1 h0 n0) v U'.heap L ∧ CHr Z EL1 U.vm U.heap U'.vm U'.heap ∧ ReturnedEndW U o U' L ({ frames := 1, cells := 4, slots := 8, locals := 12 } : Room).cells ({ frames := 1, cells := 4, slots := 8, locals := 12 } : Room).slots) := by
  refine MetFree.of_bodySF (plainFor_of_name pn_0) hisR ?_
  intro p e s m args below meth c s₁ Bd hml0 hP hK
  obtain ⟨rfl, hZ, hh, hCH⟩ := hP
  have hx := Bd.exec
  have hby := Bd.bytes
  have hlk : meth.locks = false := BodyLoose.notSynchronized Bd
  have hml : c.maxLocals = 6 := hml0
  have hown : s.vm.findClass "java/lang/String" = some m.cls := findClass_of_methodNamed Bd.named
  have hnm := (name_of_methodNamed Bd.named Bd.method).1
  have X0 : Stand p l e ({ frames := 1, cells := 4, slots := 8, locals := 12 } : Room) (s.setVm s.vm) m #[(.ref a1), (.ref b1), (.int (0 : Int32)), (.int (0 : Int32)), .null] below meth c s₁ [] 0 0 := Stand.of_body Bd
  have e0 : s₁.heap = h0 := by rw [← hh, Bd.state]; rfl
  have N0 := Fr.nil n0
  show GoesH Z EL1 p e below s (Q4 Z a1 h0 n0) ({ frames := 1, cells := 4, slots := 8, locals := 12 } : Room).cells ({ frames := 1, cells := 4, slots := 8, locals := 12 } : Room).slots (s₁.setTop (entryFrame m #[(.ref a1), (.ref b1), (.int (0 : Int32)), (.int (0 : Int32)), .null] 6))
  refine GoesH.by (fun t k => castTop (ef_rm4 m a1 b1 (0 : Int32) (0 : Int32)) k) ?_
  have hS : s.Since s.vm 0 := (State.WarmedH.refl s).since 0
  have hk0 : 0 ≤ h0.size := Nat.zero_le _
  have hEL := own_EW hw
  have CH0 : CHr Z EL1 s.vm h0 s.vm h0 := CHr.refl hCH
  show GoesH Z EL1 p e below s _ _ _ (s₁.setTop (mkF m 0 #[.val (.ref a1), .val (.ref b1), .val (.int (0 : Int32)), .val (.int (0 : Int32)), .val .null, .unset] []))
  have KC0 : Keep h0 h0 [a1] := Keep.refl _ _
  have SFa : Safe Z EL1 s.vm h0 a1 := own_safe hZ.alike EA FV
  refine GoesH.by (fun t k => XS.aloadN X0.here hx rfl (hb hby d4_0) rfl rfl k) ?_
  show GoesH Z EL1 p e below s _ _ _ (s₁.setTop (mkF m 1 #[.val (.ref a1), .val (.ref b1), .val (.int (0 : Int32)), .val (.int (0 : Int32)), .val .null, .unset] [(.ref a1)]))
  obtain ⟨T1, X1, e1, st1⟩ := initO X0 hx hZ hown (hw _ (List.mem_of_getElem? (i := 18) rfl)) (hw _ (List.mem_of_getElem? (i := 19) rfl)) (hw _ (List.mem_of_getElem? (i := 20) rfl)) e0 (g := (mkF m 1 #[.val (.ref a1), .val (.ref b1), .val (.int (0 : Int32)), .val (.int (0 : Int32)), .val .null, .unset] [(.ref a1)])) rfl (by rw [hml]; rfl) rfl (hb hby d4_1) (by decide) (W := 0) (by show 2 * 0 + _ ≤ _; exact Nat.le_of_eq rfl) (by decide)
  refine GoesH.by (fun t k => st1 t k) ?_
  show GoesH Z EL1 p e below s _ _ _ (T1.setTop (mkF m 4 #[.val (.ref a1), .val (.ref b1), .val (.int (0 : Int32)), .val (.int (0 : Int32)), .val .null, .unset] []))
  refine GoesH.by (fun t k => XS.iloadN X1.here hx rfl (hb hby d4_4) rfl k) ?_
  show GoesH Z EL1 p e below s _ _ _ (T1.setTop (mkF m 5 #[.val (.ref a1), .val (.ref b1), .val (.int (0 : Int32)), .val (.int (0 : Int32)), .val .null, .unset] [(.int (0 : Int32))]))
  refine GoesH.by (fun t k => XS.ifNo X1.here hx rfl (hb hby d4_5) rfl ((if0 _ _).trans (teq (rfl)).2) k) ?_
  show GoesH Z EL1 p e below s _ _ _ (T1.setTop (mkF m 8 #[.val (.ref a1), .val (.ref b1), .val (.int (0 : Int32)), .val (.int (0 : Int32)), .val .null, .unset] []))
  refine GoesH.by (fun t k => XS.aloadN X1.here hx rfl (hb hby d4_8) rfl rfl k) ?_
  show GoesH Z EL1 p e below s _ _ _ (T1.setTop (mkF m 9 #[.val (.ref a1), .val (.ref b1), .val (.int (0 : Int32)), .val (.int (0 : Int32)), .val .null, .unset] [(.ref a1)]))
  obtain ⟨sl2, T2, h2, k2, sb2, kc2, X2, e2, E2, hS, hk2, hZ, hown, Ea2, Fc2, Fv2, Av2, -, -, hC2, -, hne2, st2⟩ := ldcCH X1 hx hZ hown (hw _ (List.mem_of_getElem? (i := 21) rfl)) wS e1 hS hk0 hEL (by simp [EL1]) CH0.1 (vs := []) (z := 0) (own_tx) (by decide) (by decide) (g := (mkF m 9 #[.val (.ref a1), .val (.ref b1), .val (.int (0 : Int32)), .val (.int (0 : Int32)), .val .null, .unset] [(.ref a1)])) rfl (hb hby d4_9) (n := 0) (by decide) (by decide) (by decide) (by decide)
  refine GoesH.by (fun t k => st2 t k) ?_
  show GoesH Z EL1 p e below s _ _ _ (T2.setTop (mkF m 11 #[.val (.ref a1), .val (.ref b1), .val (.int (0 : Int32)), .val (.int (0 : Int32)), .val .null, .unset] [(.ref sl2), (.ref a1)]))
  have f1 := hC2.safe EA.lt SFa
  have f2 := CH0.trans hC2
  have f3 := KC0.ext E2
  have f4 := Nat.le_trans Z0 E2.1
  have f5 := Nat.le_trans hk0 E2.1
  have f6 := EA.ext E2
  have f7 := FV.ext E2
  have f8 := FC.ext E2
  have ne_f9 := (hne2 _ f1).1
  have ne_f10 := (hne2 _ f1).2
  obtain ⟨T3, X3, e3, st3⟩ := getF X2 hx hZ hown (host := "") (Or.inl (hw _ (List.mem_of_getElem? (i := 27) rfl))) Via.refl e2 (Fv2) (g := (mkF m 11 #[.val (.ref a1), .val (.ref b1), .val (.int (0 : Int32)), .val (.int (0 : Int32)), .val .null, .unset] [(.ref sl2), (.ref a1)])) rfl rfl (hb hby d4_11)
  refine GoesH.by (fun t k => st3 t k) ?_
  show GoesH Z EL1 p e below s _ _ _ (T3.setTop (mkF m 14 #[.val (.ref a1), .val (.ref b1), .val (.int (0 : Int32)), .val (.int (0 : Int32)), .val .null, .unset] [(.ref sb2), (.ref a1)]))
  obtain ⟨T4, h4, X4, e4, W4, st4⟩ := putF X3 hx hZ hown (host := "") (Or.inl (hw _ (List.mem_of_getElem? (i := 27) rfl))) Via.refl e3 (f7) (f6) (Or.inr ⟨(hw _ (List.mem_of_getElem? (i := 23) rfl)), rfl, hnm⟩) (hw _ (List.mem_of_getElem? (i := 8) rfl)) (ty := (.array .byte)) (by decide) rfl rfl (g := (mkF m 14 #[.val (.ref a1), .val (.ref b1), .val (.int (0 : Int32)), .val (.int (0 : Int32)), .val .null, .unset] [(.ref sb2), (.ref a1)])) rfl rfl (hb hby d4_14)
  refine GoesH.by (fun t k => st4 t k) ?_
  have N4 := Fr.snoc X4 N0 (gea)
  show GoesH Z EL1 p e below s _ _ _ (T4.setTop (mkF m 17 #[.val (.ref a1), .val (.ref b1), .val (.int (0 : Int32)), .val (.int (0 : Int32)), .val .null, .unset] []))
  have hCf11 := CHr.wr W4 f1 f2.1
  have f12 := hCf11.safe f6.lt f1
  have f13 := f2.trans hCf11
  have f14 := f3.wr W4 (Or.inl (List.mem_of_getElem? (i := 0) rfl))
  have f15 := Nat.le_trans f4 (Keep.of_wr W4).1
  have f16 := Nat.le_trans hk2 (Keep.of_wr W4).1
  have f17 := f6.wr W4
  have f18 := f7.same W4
  have f19 := f8.other W4 (Or.inr (slot_ne (Or.inr (hw _ (List.mem_of_getElem? (i := 24) rfl))) (Or.inr (hw _ (List.mem_of_getElem? (i := 23) rfl))) (by decide) (t := .byte) (t' := (.array .byte)) (by decide) (by decide)))
  have f20 := Ea2.wr W4
  have f21 := Fc2.other W4 (Or.inl (Ne.symm ne_f9))
  have f22 := Fv2.other W4 (Or.inl (Ne.symm ne_f9))
  have f23 := Av2.other W4 (Ne.symm ne_f10)
  refine GoesH.by (fun t k => XS.aloadN X4.here hx rfl (hb hby d4_17) rfl rfl k) ?_
  show GoesH Z EL1 p e below s _ _ _ (T4.setTop (mkF m 18 #[.val (.ref a1), .val (.ref b1), .val (.int (0 : Int32)), .val (.int (0 : Int32)), .val .null, .unset] [(.ref a1)]))
  obtain ⟨sl5, T5, h5, k5, sb5, kc5, X5, e5, E5, hS, hk5, hZ, hown, Ea5, Fc5, Fv5, Av5, -, -, hC5, -, hne5, st5⟩ := ldcCH X4 hx hZ hown (hw _ (List.mem_of_getElem? (i := 21) rfl)) wS e4 hS f16 hEL (by simp [EL1]) f13.1 (vs := []) (z := 0) (own_tx) (by decide) (by decide) (g := (mkF m 18 #[.val (.ref a1), .val (.ref b1), .val (.int (0 : Int32)), .val (.int (0 : Int32)), .val .null, .unset] [(.ref a1)])) rfl (hb hby d4_18) (n := 0) (by decide) (by decide) (by decide) (by decide)
  refine GoesH.by (fun t k => st5 t k) ?_
  show GoesH Z EL1 p e below s _ _ _ (T5.setTop (mkF m 20 #[.val (.ref a1), .val (.ref b1), .val (.int (0 : Int32)), .val (.int (0 : Int32)), .val .null, .unset] [(.ref sl5), (.ref a1)]))
  have f24 := hC5.safe f17.lt f12
  have f25 := f13.trans hC5
  have f26 := f14.ext E5
  have f27 := Nat.le_trans f15 E5.1
  have f28 := Nat.le_trans f16 E5.1
  have f29 := f17.ext E5
  have f30 := f18.ext E5
  have f31 := f19.ext E5
  have f32 := f20.ext E5
  have f33 := f21.ext E5
  have f34 := f22.ext E5
  have f35 := f23.ext E5
  have ne_f36 := (hne5 _ f24).1
  have ne_f37 := (hne5 _ f24).2
  obtain ⟨T6, X6, e6, st6⟩ := getF X5 hx hZ hown (host := "") (Or.inl (hw _ (List.mem_of_getElem? (i := 28) rfl))) Via.refl e5 (Fc5) (g := (mkF m 20 #[.val (.ref a1), .val (.ref b1), .val (.int (0 : Int32)), .val (.int (0 : Int32)), .val .null, .unset] [(.ref sl5), (.ref a1)])) rfl rfl (hb hby d4_20)
  refine GoesH.by (fun t k => st6 t k) ?_
  show GoesH Z EL1 p e below s _ _ _ (T6.setTop (mkF m 23 #[.val (.ref a1), .val (.ref b1), .val (.int (0 : Int32)), .val (.int (0 : Int32)), .val .null, .unset] [(.int (0 : Int32)), (.ref a1)]))
  obtain ⟨T7, h7, X7, e7, W7, st7⟩ := putFN X6 hx hZ hown (hw _ (List.mem_of_getElem? (i := 28) rfl)) Via.refl e6 (f31) (f29) (Or.inr ⟨(hw _ (List.mem_of_getElem? (i := 24) rfl)), rfl, hnm⟩) (hw _ (List.mem_of_getElem? (i := 8) rfl)) (ty := .byte) (v' := (.int (0 : Int32))) (by decide) rfl (by decide) (g := (mkF m 23 #[.val (.ref a1), .val (.ref b1), .val (.int (0 : Int32)), .val (.int (0 : Int32)), .val .null, .unset] [(.int (0 : Int32)), (.ref a1)])) rfl rfl (hb hby d4_23)
  refine GoesH.by (fun t k => st7 t k) ?_
  have N7 := Fr.snoc X7 N4 (gea)
  show GoesH Z EL1 p e below s _ _ _ (T7.setTop (mkF m 26 #[.val (.ref a1), .val (.ref b1), .val (.int (0 : Int32)), .val (.int (0 : Int32)), .val .null, .unset] []))
  have hCf38 := CHr.wr W7 f24 f25.1
  have f39 := hCf38.safe f29.lt f24
  have f40 := f25.trans hCf38
  have f41 := f26.wr W7 (Or.inl (List.mem_of_getElem? (i := 0) rfl))
  have f42 := Nat.le_trans f27 (Keep.of_wr W7).1
  have f43 := Nat.le_trans hk5 (Keep.of_wr W7).1
  have f44 := f29.wr W7
  have f45 := f30.other W7 (Or.inr (slot_ne (Or.inr (hw _ (List.mem_of_getElem? (i := 23) rfl))) (Or.inr (hw _ (List.mem_of_getElem? (i := 24) rfl))) (by decide) (t := (.array .byte)) (t' := .byte) (by decide) (by decide)))
  have f46 := f31.same W7
  have f47 := f32.wr W7
  have f48 := f33.other W7 (Or.inl (Ne.symm ne_f9))
  have f49 := f34.other W7 (Or.inl (Ne.symm ne_f9))
  have f50 := f35.other W7 (Ne.symm ne_f10)
  have f51 := Ea5.wr W7
  have f52 := Fc5.other W7 (Or.inl (Ne.symm ne_f36))
  have f53 := Fv5.other W7 (Or.inl (Ne.symm ne_f36))
  have f54 := Av5.other W7 (Ne.symm ne_f37)
  exact GoesH.retV X7 hS (by rw [e7]; exact f43) hZ hEL (by rw [hh]; rw [e7]; exact f40) hx Bd.returns (hb hby d4_26) hlk (by rw [e7]; exact ⟨rfl, N7, f41, f44, f46, sb2, kc2, f45, f50⟩) (by decide) (by decide)
theorem d3_0 : decode jdk_42_method_3_code 0 = .ok (.aload_n 0, 1) := by decide +kernel
theorem d3_1 : decode jdk_42_method_3_code 1 = .ok (.aload_n 1, 1) := by decide +kernel
theorem d3_2 : decode jdk_42_method_3_code 2 = .ok (.iconst 0, 1) := by decide +kernel
theorem d3_3 : decode jdk_42_method_3_code 3 = .ok (.aload_n 1, 1) := by decide +kernel
theorem d3_4 : decode jdk_42_method_3_code 4 = .ok (.arraylength, 1) := by decide +kernel
theorem d3_5 : decode jdk_42_method_3_code 5 = .ok (.aconst_null, 1) := by decide +kernel
theorem d3_6 : decode jdk_42_method_3_code 6 = .ok (.invokespecial 27, 3) := by decide +kernel
theorem d3_9 : decode jdk_42_method_3_code 9 = .ok (.return_, 1) := by decide +kernel
theorem ef_rm3 (m : MethodId) (x0 : Addr) (x1 : Addr) : entryFrame m #[(.ref x0), (.ref x1)] 2 = mkF m 0 #[.val (.ref x0), .val (.ref x1)] [] := by first | (simp [entryFrame, mkF, argsToLocals, Value.category]; done) | rfl
set_option maxRecDepth 65536 in
set_option maxHeartbeats 40000000 in
theorem rm3 (l : Launch) (Z : State) (a0 : Array Value) (hw : ∀ d ∈ tables_1, d.before a0 Z = true) (ws : List Jvm.Cond) (a1 b1 : Addr) (kC : ClassId) (h0 : Heap) (n0 : Nat) (Z0 : n0 ≤ h0.size) (EA : Exa Z h0 a1 "java/lang/String") (FV : Fld Z h0 a1 "java/lang/String" "value" "[B" .null) (FC : Fld Z h0 a1 "java/lang/String" "coder" "B" (.int 0)) (gea : n0 ≤ a1) (wS : ∀ a ∈ Bundle.stringAtoms, a.before a0 Z = true) (BV : Arv Z h0 b1 kC .char 0 [] (.int 0)) :
    MetFree l (⟨"java/lang/String", "<init>", "([C)V"⟩ : MethodName) (head1 (Jvm.Cond.code (⟨"java/lang/String", "<init>", "([C)V"⟩ : MethodName) jdk_42_method_3_code 2 none :: ws) ({ frames := 2, cells := 4, slots := 8, locals := 29 } : Room)) (fun a U => a = #[(.ref a1), (.ref b1)] ∧ Z.Warmed39 U.vm ∧ U.heap = h0 ∧ CHv Z EL1 U.vm h0) (fun _ _ _ _ _ => True) (fun _ U o U' => ∃ v L, o = .returned v ∧ (Q4 Z a1 h0 n0) v U'.heap L ∧ CHr Z EL1 U.vm U.heap U'.vm U'.heap ∧ ReturnedEndW U o U' L ({ frames := 2, cells := 4, slots := 8, locals := 29 } : Room).cells ({ frames := 2, cells := 4, slots := 8, locals := 29 } : Room).slots) := by
  refine MetFree.of_bodySF (plainFor_of_name pn_0) hisR ?_
  intro p e s m args below meth c s₁ Bd hml0 hP hK
  obtain ⟨rfl, hZ, hh, hCH⟩ := hP
  have hx := Bd.exec
  have hby := Bd.bytes
  have hlk : meth.locks = false := BodyLoose.notSynchronized Bd
  have hml : c.maxLocals = 2 := hml0
  have hown : s.vm.findClass "java/lang/String" = some m.cls := findClass_of_methodNamed Bd.named
  have hnm := (name_of_methodNamed Bd.named Bd.method).1
  have X0 : Stand p l e ({ frames := 2, cells := 4, slots := 8, locals := 29 } : Room) (s.setVm s.vm) m #[(.ref a1), (.ref b1)] below meth c s₁ [] 0 0 := Stand.of_body Bd
  have e0 : s₁.heap = h0 := by rw [← hh, Bd.state]; rfl
  have N0 := Fr.nil n0
  show GoesH Z EL1 p e below s (Q4 Z a1 h0 n0) ({ frames := 2, cells := 4, slots := 8, locals := 29 } : Room).cells ({ frames := 2, cells := 4, slots := 8, locals := 29 } : Room).slots (s₁.setTop (entryFrame m #[(.ref a1), (.ref b1)] 2))
  refine GoesH.by (fun t k => castTop (ef_rm3 m a1 b1) k) ?_
  have hS : s.Since s.vm 0 := (State.WarmedH.refl s).since 0
  have hk0 : 0 ≤ h0.size := Nat.zero_le _
  have hEL := own_EW hw
  have CH0 : CHr Z EL1 s.vm h0 s.vm h0 := CHr.refl hCH
  show GoesH Z EL1 p e below s _ _ _ (s₁.setTop (mkF m 0 #[.val (.ref a1), .val (.ref b1)] []))
  refine GoesH.by (fun t k => XS.aloadN X0.here hx rfl (hb hby d3_0) rfl rfl k) ?_
  show GoesH Z EL1 p e below s _ _ _ (s₁.setTop (mkF m 1 #[.val (.ref a1), .val (.ref b1)] [(.ref a1)]))
  refine GoesH.by (fun t k => XS.aloadN X0.here hx rfl (hb hby d3_1) rfl rfl k) ?_
  show GoesH Z EL1 p e below s _ _ _ (s₁.setTop (mkF m 2 #[.val (.ref a1), .val (.ref b1)] [(.ref b1), (.ref a1)]))
  refine GoesH.by (fun t k => XS.iconst X0.here hx rfl (hb hby d3_2) k) ?_
  show GoesH Z EL1 p e below s _ _ _ (s₁.setTop (mkF m 3 #[.val (.ref a1), .val (.ref b1)] [(.int (0 : Int32)), (.ref b1), (.ref a1)]))
  refine GoesH.by (fun t k => XS.aloadN X0.here hx rfl (hb hby d3_3) rfl rfl k) ?_
  show GoesH Z EL1 p e below s _ _ _ (s₁.setTop (mkF m 4 #[.val (.ref a1), .val (.ref b1)] [(.ref b1), (.int (0 : Int32)), (.ref b1), (.ref a1)]))
  refine GoesH.by (fun t k => own_len0 X0 hx hZ e0 BV (g := (mkF m 4 #[.val (.ref a1), .val (.ref b1)] [(.ref b1), (.int (0 : Int32)), (.ref b1), (.ref a1)])) rfl rfl (hb hby d3_4) k) ?_
  show GoesH Z EL1 p e below s _ _ _ (s₁.setTop (mkF m 5 #[.val (.ref a1), .val (.ref b1)] [(.int (0 : Int32)), (.int (0 : Int32)), (.ref b1), (.ref a1)]))
  refine GoesH.by (fun t k => XS.aconstNull X0.here hx rfl (hb hby d3_5) k) ?_
  show GoesH Z EL1 p e below s _ _ _ (s₁.setTop (mkF m 6 #[.val (.ref a1), .val (.ref b1)] [.null, (.int (0 : Int32)), (.int (0 : Int32)), (.ref b1), (.ref a1)]))
  obtain ⟨_, _, ⟨T1, L1, k1, n1⟩, -, X1, hSi1, hgr1, ⟨Lc1, hQ1, l1, y1, z1, hCi1⟩, st1⟩ := X0.specialBackS hx (y := (⟨"java/lang/String", "<init>", "([CIILjava/lang/Void;)V"⟩ : MethodName)) rfl hown (mvT hZ (hw _ (List.mem_of_getElem? (i := 14) rfl))) (mvT hZ (hw _ (List.mem_of_getElem? (i := 15) rfl))) (mvT hZ (hw _ (List.mem_of_getElem? (i := 17) rfl))) (by decide) (backOfSH (W := 0) (rm4 l Z a0 hw [] a1 b1 h0 n0 Z0 EA FV FC gea wS) hZ (hw _ (List.mem_of_getElem? (i := 17) rfl)) (hw _ (List.mem_of_getElem? (i := 9) rfl)) (by decide) (by decide) hEL CH0.1) (g := (mkF m 6 #[.val (.ref a1), .val (.ref b1)] [.null, (.int (0 : Int32)), (.int (0 : Int32)), (.ref b1), (.ref a1)])) rfl (by rw [hml]; rfl) (Steps.refl _) (a := a1) (argsL := [(.ref b1), (.int (0 : Int32)), (.int (0 : Int32)), .null]) (rest := []) (lenOf pd_4 rfl) rfl (by show 2 * 0 + _ ≤ _; exact Nat.le_of_eq rfl) (hb hby d3_6) (fun _ _ => ⟨rfl, e0, (by decide : 0 + 4 ≤ _), (by decide : 0 + 8 ≤ _)⟩)
  dsimp only [Pt.U, Pt.locs, Pt.cells, Pt.slots] at X1 l1 y1 z1 st1 hQ1 hSi1 hgr1
  rw [l1, y1, z1] at X1
  obtain ⟨X1, hS, hZ, hown⟩ := rebS hS (by rw [e0]; exact hk0) X1 hSi1 hgr1 hZ hown
  have hkS1 : T1.heap.size ≤ T1.heap.size := Nat.le_refl _
  dsimp only [Pt.U] at hCi1
  have f1 := CH0.trans hCi1
  obtain ⟨rfl, N1q, hq1⟩ := hQ1
  have N1 := Fr.app N0 N1q
  refine GoesH.by (fun t k => st1.trans k) ?_
  show GoesH Z EL1 p e below s _ _ _ (T1.setTop (mkF m 9 #[.val (.ref a1), .val (.ref b1)] []))
  exact GoesH.retV X1 hS (by exact hkS1) hZ hEL (by rw [hh]; exact f1) hx Bd.returns (hb hby d3_9) hlk (by exact ⟨rfl, N1, hq1⟩) (by decide) (by decide)
def bb (w i : Int32) : Int32 := ((w.toUInt32 >>> (((8 : Int32) * i) &&& 31).toUInt32).toInt32) &&& (255 : Int32)
def Q1 (pw pi : Int32) (h0 : Heap) (n0 : Nat) (v : Option Value) (h : Heap) (L : List Loc) : Prop := v = some (.int (bb pw pi)) ∧ Fr n0 L ∧ h = h0
theorem d1_0 : decode method_3_code 0 = .ok (.iload_n 0, 1) := by decide +kernel
theorem d1_1 : decode method_3_code 1 = .ok (.bipush 8, 2) := by decide +kernel
theorem d1_3 : decode method_3_code 3 = .ok (.iload_n 1, 1) := by decide +kernel
theorem d1_4 : decode method_3_code 4 = .ok (.imul, 1) := by decide +kernel
theorem d1_5 : decode method_3_code 5 = .ok (.iushr, 1) := by decide +kernel
theorem d1_6 : decode method_3_code 6 = .ok (.sipush 255, 3) := by decide +kernel
theorem d1_9 : decode method_3_code 9 = .ok (.iand, 1) := by decide +kernel
theorem d1_10 : decode method_3_code 10 = .ok (.ireturn, 1) := by decide +kernel
theorem pn_1 : plainName "com/example/diogenes/diogenes/format/TopicEqualsPinLaw" = true := by first | (simp [plainName, overriddenIn]; done) | decide +kernel
theorem ef_rm1 (m : MethodId) (x0 : Int32) (x1 : Int32) : entryFrame m #[(.int x0), (.int x1)] 2 = mkF m 0 #[.val (.int x0), .val (.int x1)] [] := by first | (simp [entryFrame, mkF, argsToLocals, Value.category]; done) | rfl
set_option maxRecDepth 65536 in
set_option maxHeartbeats 40000000 in
theorem rm1 (l : Launch) (Z : State) (a0 : Array Value) (hw : ∀ d ∈ tables_1, d.before a0 Z = true) (ws : List Jvm.Cond) (pw pi : Int32) (h0 : Heap) (n0 : Nat) (Z0 : n0 ≤ h0.size)  :
    MetFree l (⟨"com/example/diogenes/diogenes/format/TopicEqualsPinLaw", "b", "(II)I"⟩ : MethodName) (head1 (Jvm.Cond.code (⟨"com/example/diogenes/diogenes/format/TopicEqualsPinLaw", "b", "(II)I"⟩ : MethodName) method_3_code 2 (some .int) :: ws) ({ frames := 0, cells := 0, slots := 0, locals := 0 } : Room)) (fun a U => a = #[(.int pw), (.int pi)] ∧ Z.Warmed39 U.vm ∧ U.heap = h0) (fun _ _ _ _ _ => True) (fun _ U o U' => ∃ v L, o = .returned v ∧ (Q1 pw pi h0 n0) v U'.heap L ∧ FrameEnd U o U' L ({ frames := 0, cells := 0, slots := 0, locals := 0 } : Room).cells ({ frames := 0, cells := 0, slots := 0, locals := 0 } : Room).slots) := by
  refine MetFree.of_bodySF (plainFor_of_name pn_1) hisR ?_
  intro p e s m args below meth c s₁ Bd hml0 hP hK
  obtain ⟨rfl, hZ, hh⟩ := hP
  have hx := Bd.exec
  have hby := Bd.bytes
  have hlk : meth.locks = false := BodyLoose.notSynchronized Bd
  have hml : c.maxLocals = 2 := hml0
  have hown : s.vm.findClass "com/example/diogenes/diogenes/format/TopicEqualsPinLaw" = some m.cls := findClass_of_methodNamed Bd.named
  have hnm := (name_of_methodNamed Bd.named Bd.method).1
  have X0 : Stand p l e ({ frames := 0, cells := 0, slots := 0, locals := 0 } : Room) s m #[(.int pw), (.int pi)] below meth c s₁ [] 0 0 := Stand.of_body Bd
  have e0 : s₁.heap = h0 := by rw [← hh, Bd.state]; rfl
  have N0 := Fr.nil n0
  show Goes p e below s (Q1 pw pi h0 n0) ({ frames := 0, cells := 0, slots := 0, locals := 0 } : Room).cells ({ frames := 0, cells := 0, slots := 0, locals := 0 } : Room).slots (s₁.setTop (entryFrame m #[(.int pw), (.int pi)] 2))
  refine Goes.by (fun t k => castTop (ef_rm1 m pw pi) k) ?_
  show Goes p e below s _ _ _ (s₁.setTop (mkF m 0 #[.val (.int pw), .val (.int pi)] []))
  refine Goes.by (fun t k => XS.iloadN X0.here hx rfl (hb hby d1_0) rfl k) ?_
  show Goes p e below s _ _ _ (s₁.setTop (mkF m 1 #[.val (.int pw), .val (.int pi)] [(.int pw)]))
  refine Goes.by (fun t k => XS.bipush X0.here hx rfl (hb hby d1_1) k) ?_
  show Goes p e below s _ _ _ (s₁.setTop (mkF m 3 #[.val (.int pw), .val (.int pi)] [(.int (8 : Int32)), (.int pw)]))
  refine Goes.by (fun t k => XS.iloadN X0.here hx rfl (hb hby d1_3) rfl k) ?_
  show Goes p e below s _ _ _ (s₁.setTop (mkF m 4 #[.val (.int pw), .val (.int pi)] [(.int pi), (.int (8 : Int32)), (.int pw)]))
  refine Goes.by (fun t k => XS.imul X0.here hx rfl (hb hby d1_4) rfl k) ?_
  show Goes p e below s _ _ _ (s₁.setTop (mkF m 5 #[.val (.int pw), .val (.int pi)] [(.int ((8 : Int32) * pi)), (.int pw)]))
  refine Goes.by (fun t k => XS.iushr X0.here hx rfl (hb hby d1_5) rfl k) ?_
  show Goes p e below s _ _ _ (s₁.setTop (mkF m 6 #[.val (.int pw), .val (.int pi)] [(.int ((pw.toUInt32 >>> (((8 : Int32) * pi) &&& 31).toUInt32).toInt32))]))
  refine Goes.by (fun t k => XS.sipush X0.here hx rfl (hb hby d1_6) k) ?_
  show Goes p e below s _ _ _ (s₁.setTop (mkF m 9 #[.val (.int pw), .val (.int pi)] [(.int (255 : Int32)), (.int ((pw.toUInt32 >>> (((8 : Int32) * pi) &&& 31).toUInt32).toInt32))]))
  refine Goes.by (fun t k => XS.iand X0.here hx rfl (hb hby d1_9) rfl k) ?_
  show Goes p e below s _ _ _ (s₁.setTop (mkF m 10 #[.val (.int pw), .val (.int pi)] [(.int (((pw.toUInt32 >>> (((8 : Int32) * pi) &&& 31).toUInt32).toInt32) &&& (255 : Int32)))]))
  exact Goes.retI X0 hx Bd.returns trivial (hb hby d1_10) hlk (by rw [e0]; exact ⟨rfl, N0, rfl⟩) (by decide) (by decide)
theorem own_bb (w i : Int32) : ¬ bb w i < 0 ∧ ¬ (255 : Int32) < bb w i := own_and255 _
theorem own_bx (u i w j : Int32) : ¬ (bb u i ^^^ bb w j) < 0 ∧ ¬ (255 : Int32) < (bb u i ^^^ bb w j) := own_xor255 _ _
def QM (Z : State) (cs : List Int32) (h0 : Heap) (n0 : Nat) (v : Option Value) (h : Heap) (L : List Loc) : Prop := ∃ r : Addr, v = some (.ref r) ∧ Fr n0 L ∧ Keep h0 h [] ∧ STR Z h r cs
theorem d2_0 : decode method_5_code 0 = .ok (.iload_n 0, 1) := by decide +kernel
theorem d2_1 : decode method_5_code 1 = .ok (.ifCond .ne 14, 3) := by decide +kernel
theorem d2_4 : decode method_5_code 4 = .ok (.new 30, 3) := by decide +kernel
theorem d2_7 : decode method_5_code 7 = .ok (.dup, 1) := by decide +kernel
theorem d2_8 : decode method_5_code 8 = .ok (.iconst 0, 1) := by decide +kernel
theorem d2_9 : decode method_5_code 9 = .ok (.newarray .char, 2) := by decide +kernel
theorem d2_11 : decode method_5_code 11 = .ok (.invokespecial 32, 3) := by decide +kernel
theorem d2_14 : decode method_5_code 14 = .ok (.areturn, 1) := by decide +kernel
theorem d2_15 : decode method_5_code 15 = .ok (.iload_n 0, 1) := by decide +kernel
theorem d2_16 : decode method_5_code 16 = .ok (.iconst 1, 1) := by decide +kernel
theorem d2_17 : decode method_5_code 17 = .ok (.if_icmp .ne 19, 3) := by decide +kernel
theorem d2_20 : decode method_5_code 20 = .ok (.new 30, 3) := by decide +kernel
theorem d2_23 : decode method_5_code 23 = .ok (.dup, 1) := by decide +kernel
theorem d2_24 : decode method_5_code 24 = .ok (.iconst 1, 1) := by decide +kernel
theorem d2_25 : decode method_5_code 25 = .ok (.newarray .char, 2) := by decide +kernel
theorem d2_27 : decode method_5_code 27 = .ok (.dup, 1) := by decide +kernel
theorem d2_28 : decode method_5_code 28 = .ok (.iconst 0, 1) := by decide +kernel
theorem d2_29 : decode method_5_code 29 = .ok (.iload_n 1, 1) := by decide +kernel
theorem d2_30 : decode method_5_code 30 = .ok (.i2c, 1) := by decide +kernel
theorem d2_31 : decode method_5_code 31 = .ok (.castore, 1) := by decide +kernel
theorem d2_32 : decode method_5_code 32 = .ok (.invokespecial 32, 3) := by decide +kernel
theorem d2_35 : decode method_5_code 35 = .ok (.areturn, 1) := by decide +kernel
theorem d2_36 : decode method_5_code 36 = .ok (.iload_n 0, 1) := by decide +kernel
theorem d2_37 : decode method_5_code 37 = .ok (.iconst 2, 1) := by decide +kernel
theorem d2_38 : decode method_5_code 38 = .ok (.if_icmp .ne 24, 3) := by decide +kernel
theorem d2_41 : decode method_5_code 41 = .ok (.new 30, 3) := by decide +kernel
theorem d2_44 : decode method_5_code 44 = .ok (.dup, 1) := by decide +kernel
theorem d2_45 : decode method_5_code 45 = .ok (.iconst 2, 1) := by decide +kernel
theorem d2_46 : decode method_5_code 46 = .ok (.newarray .char, 2) := by decide +kernel
theorem d2_48 : decode method_5_code 48 = .ok (.dup, 1) := by decide +kernel
theorem d2_49 : decode method_5_code 49 = .ok (.iconst 0, 1) := by decide +kernel
theorem d2_50 : decode method_5_code 50 = .ok (.iload_n 1, 1) := by decide +kernel
theorem d2_51 : decode method_5_code 51 = .ok (.i2c, 1) := by decide +kernel
theorem d2_52 : decode method_5_code 52 = .ok (.castore, 1) := by decide +kernel
theorem d2_53 : decode method_5_code 53 = .ok (.dup, 1) := by decide +kernel
theorem d2_54 : decode method_5_code 54 = .ok (.iconst 1, 1) := by decide +kernel
theorem d2_55 : decode method_5_code 55 = .ok (.iload_n 2, 1) := by decide +kernel
theorem d2_56 : decode method_5_code 56 = .ok (.i2c, 1) := by decide +kernel
theorem d2_57 : decode method_5_code 57 = .ok (.castore, 1) := by decide +kernel
theorem d2_58 : decode method_5_code 58 = .ok (.invokespecial 32, 3) := by decide +kernel
theorem d2_61 : decode method_5_code 61 = .ok (.areturn, 1) := by decide +kernel
theorem d2_62 : decode method_5_code 62 = .ok (.new 30, 3) := by decide +kernel
theorem d2_65 : decode method_5_code 65 = .ok (.dup, 1) := by decide +kernel
theorem d2_66 : decode method_5_code 66 = .ok (.iconst 3, 1) := by decide +kernel
theorem d2_67 : decode method_5_code 67 = .ok (.newarray .char, 2) := by decide +kernel
theorem d2_69 : decode method_5_code 69 = .ok (.dup, 1) := by decide +kernel
theorem d2_70 : decode method_5_code 70 = .ok (.iconst 0, 1) := by decide +kernel
theorem d2_71 : decode method_5_code 71 = .ok (.iload_n 1, 1) := by decide +kernel
theorem d2_72 : decode method_5_code 72 = .ok (.i2c, 1) := by decide +kernel
theorem d2_73 : decode method_5_code 73 = .ok (.castore, 1) := by decide +kernel
theorem d2_74 : decode method_5_code 74 = .ok (.dup, 1) := by decide +kernel
theorem d2_75 : decode method_5_code 75 = .ok (.iconst 1, 1) := by decide +kernel
theorem d2_76 : decode method_5_code 76 = .ok (.iload_n 2, 1) := by decide +kernel
theorem d2_77 : decode method_5_code 77 = .ok (.i2c, 1) := by decide +kernel
theorem d2_78 : decode method_5_code 78 = .ok (.castore, 1) := by decide +kernel
theorem d2_79 : decode method_5_code 79 = .ok (.dup, 1) := by decide +kernel
theorem d2_80 : decode method_5_code 80 = .ok (.iconst 2, 1) := by decide +kernel
theorem d2_81 : decode method_5_code 81 = .ok (.iload_n 3, 1) := by decide +kernel
theorem d2_82 : decode method_5_code 82 = .ok (.i2c, 1) := by decide +kernel
theorem d2_83 : decode method_5_code 83 = .ok (.castore, 1) := by decide +kernel
theorem d2_84 : decode method_5_code 84 = .ok (.invokespecial 32, 3) := by decide +kernel
theorem d2_87 : decode method_5_code 87 = .ok (.areturn, 1) := by decide +kernel
theorem ef_rm2 (m : MethodId) (x0 : Int32) (x1 : Int32) (x2 : Int32) (x3 : Int32) : entryFrame m #[(.int x0), (.int x1), (.int x2), (.int x3)] 4 = mkF m 0 #[.val (.int x0), .val (.int x1), .val (.int x2), .val (.int x3)] [] := by first | (simp [entryFrame, mkF, argsToLocals, Value.category]; done) | rfl
set_option maxRecDepth 65536 in
set_option maxHeartbeats 40000000 in
theorem rm2 (l : Launch) (Z : State) (a0 : Array Value) (hw : ∀ d ∈ tables_1, d.before a0 Z = true) (ws : List Jvm.Cond) (p0 p1 p2 p3 z : Int32) (h0 : Heap) (n0 : Nat) (Z0 : n0 ≤ h0.size) (O0 : Old Z n0 h0) (SC : Sta Z Z.heap "java/lang/String" "COMPACT_STRINGS" "Z" (.int z)) (hz : ¬ z = 0) (wS : ∀ a ∈ Bundle.stringAtoms, a.before a0 Z = true) (hp1 : ¬ p1 < 0 ∧ ¬ (255 : Int32) < p1) (hp2 : ¬ p2 < 0 ∧ ¬ (255 : Int32) < p2) (hp3 : ¬ p3 < 0 ∧ ¬ (255 : Int32) < p3) :
    MetFree l (⟨"com/example/diogenes/diogenes/format/TopicEqualsPinLaw", "mk", "(IIII)Ljava/lang/String;"⟩ : MethodName) (head1 (Jvm.Cond.code (⟨"com/example/diogenes/diogenes/format/TopicEqualsPinLaw", "mk", "(IIII)Ljava/lang/String;"⟩ : MethodName) method_5_code 4 (some (.object "java/lang/String")) :: ws) ({ frames := 4, cells := 6, slots := 12, locals := 66 } : Room)) (fun a U => a = #[(.int p0), (.int p1), (.int p2), (.int p3)] ∧ Z.Warmed39 U.vm ∧ U.heap = h0 ∧ CHv Z EL1 U.vm h0) (fun _ _ _ _ _ => True) (fun _ U o U' => ∃ v L, o = .returned v ∧ (QM Z (own_cs p0 p1 p2 p3) h0 n0) v U'.heap L ∧ CHr Z EL1 U.vm U.heap U'.vm U'.heap ∧ ReturnedEndW U o U' L ({ frames := 4, cells := 6, slots := 12, locals := 66 } : Room).cells ({ frames := 4, cells := 6, slots := 12, locals := 66 } : Room).slots) := by
  refine MetFree.of_bodySF (plainFor_of_name pn_1) hisR ?_
  intro p e s m args below meth c s₁ Bd hml0 hP hK
  obtain ⟨rfl, hZ, hh, hCH⟩ := hP
  have hx := Bd.exec
  have hby := Bd.bytes
  have hlk : meth.locks = false := BodyLoose.notSynchronized Bd
  have hml : c.maxLocals = 4 := hml0
  have hown : s.vm.findClass "com/example/diogenes/diogenes/format/TopicEqualsPinLaw" = some m.cls := findClass_of_methodNamed Bd.named
  have hnm := (name_of_methodNamed Bd.named Bd.method).1
  have X0 : Stand p l e ({ frames := 4, cells := 6, slots := 12, locals := 66 } : Room) (s.setVm s.vm) m #[(.int p0), (.int p1), (.int p2), (.int p3)] below meth c s₁ [] 0 0 := Stand.of_body Bd
  have e0 : s₁.heap = h0 := by rw [← hh, Bd.state]; rfl
  have N0 := Fr.nil n0
  show GoesH Z EL1 p e below s (QM Z (own_cs p0 p1 p2 p3) h0 n0) ({ frames := 4, cells := 6, slots := 12, locals := 66 } : Room).cells ({ frames := 4, cells := 6, slots := 12, locals := 66 } : Room).slots (s₁.setTop (entryFrame m #[(.int p0), (.int p1), (.int p2), (.int p3)] 4))
  refine GoesH.by (fun t k => castTop (ef_rm2 m p0 p1 p2 p3) k) ?_
  have hS : s.Since s.vm 0 := (State.WarmedH.refl s).since 0
  have hk0 : 0 ≤ h0.size := Nat.zero_le _
  have hEL := own_EW hw
  have CH0 : CHr Z EL1 s.vm h0 s.vm h0 := CHr.refl hCH
  show GoesH Z EL1 p e below s _ _ _ (s₁.setTop (mkF m 0 #[.val (.int p0), .val (.int p1), .val (.int p2), .val (.int p3)] []))
  have KC0 : Keep h0 h0 [] := Keep.refl _ _
  have hws : ∀ d ∈ StrChars.Road.words, d.before a0 Z = true := fun d hd => hw d ((by decide +kernel : ∀ d ∈ StrChars.Road.words, d ∈ tables_1) d hd)
  refine GoesH.by (fun t k => XS.iloadN X0.here hx rfl (hb hby d2_0) rfl k) ?_
  show GoesH Z EL1 p e below s _ _ _ (s₁.setTop (mkF m 1 #[.val (.int p0), .val (.int p1), .val (.int p2), .val (.int p3)] [(.int p0)]))
  by_cases hc0 : p0 = (0 : Int32)
  · skip
    refine GoesH.by (fun t k => XS.ifNo X0.here hx rfl (hb hby d2_1) rfl ((if0 _ _).trans (teq (hc0)).2) k) ?_
    show GoesH Z EL1 p e below s _ _ _ (s₁.setTop (mkF m 4 #[.val (.int p0), .val (.int p1), .val (.int p2), .val (.int p3)] []))
    obtain ⟨T1, h1, X1, e1, E1, A1, D1, -, st1⟩ := newO X0 hx hZ hown (hw _ (List.mem_of_getElem? (i := 7) rfl)) (hw _ (List.mem_of_getElem? (i := 8) rfl)) (hw _ (List.mem_of_getElem? (i := 9) rfl)) e0 (g := (mkF m 4 #[.val (.int p0), .val (.int p1), .val (.int p2), .val (.int p3)] [])) rfl (hb hby d2_4) (by decide) (by decide)
    obtain ⟨b1, g1⟩ : ∃ z, z = h0.size := ⟨_, rfl⟩
    rw [← g1] at A1 D1 st1
    refine GoesH.by (fun t k => st1 t k) ?_
    show GoesH Z EL1 p e below s _ _ _ (T1.setTop (mkF m 7 #[.val (.int p0), .val (.int p1), .val (.int p2), .val (.int p3)] [(.ref b1)]))
    have ge_b1 : n0 ≤ b1 := Nat.le_trans Z0 (Nat.le_of_eq g1.symm)
    have sz_b1 : h0.size ≤ b1 := Nat.le_trans KC0.1 (Nat.le_of_eq g1.symm)
    have hCf1 := CHr.ext E1 CH0.1
    have f2 := CH0.trans hCf1
    have f3 := O0.ext E1
    have f4 := KC0.ext E1
    have f5 := Nat.le_trans Z0 E1.1
    have f6 := Nat.le_trans hk0 E1.1
    have f7 : Fld Z h1 b1 "java/lang/String" "value" "[B" .null := D1 (Or.inr (hw _ (List.mem_of_getElem? (i := 23) rfl))) (ty := (.array .byte)) (by decide)
    have f8 : Fld Z h1 b1 "java/lang/String" "coder" "B" (.int (0 : Int32)) := D1 (Or.inr (hw _ (List.mem_of_getElem? (i := 24) rfl))) (ty := .byte) (by decide)
    have SF_b1 : Safe Z EL1 s.vm h1 b1 := own_safe hZ.alike A1 f7
    refine GoesH.by (fun t k => XS.dup X1.here hx rfl (hb hby d2_7) rfl rfl k) ?_
    show GoesH Z EL1 p e below s _ _ _ (T1.setTop (mkF m 8 #[.val (.int p0), .val (.int p1), .val (.int p2), .val (.int p3)] [(.ref b1), (.ref b1)]))
    refine GoesH.by (fun t k => XS.iconst X1.here hx rfl (hb hby d2_8) k) ?_
    show GoesH Z EL1 p e below s _ _ _ (T1.setTop (mkF m 9 #[.val (.int p0), .val (.int p1), .val (.int p2), .val (.int p3)] [(.int (0 : Int32)), (.ref b1), (.ref b1)]))
    obtain ⟨T2, h2, ka2, X2, e2, E2, A2, st2⟩ := newP X1 hx hZ (hw _ (List.mem_of_getElem? (i := 10) rfl)) e1 (g := (mkF m 9 #[.val (.int p0), .val (.int p1), .val (.int p2), .val (.int p3)] [(.int (0 : Int32)), (.ref b1), (.ref b1)])) rfl (hb hby d2_9) rfl (by decide : ¬ ((0 : Int32) < (0 : Int32))) (cap := 0) (by decide : (0 : Int32).toNatClampNeg ≤ 0) (by decide) (by decide) (by decide)
    obtain ⟨b2, g2⟩ : ∃ z, z = h1.size := ⟨_, rfl⟩
    rw [← g2] at A2 st2
    refine GoesH.by (fun t k => st2 t k) ?_
    show GoesH Z EL1 p e below s _ _ _ (T2.setTop (mkF m 11 #[.val (.int p0), .val (.int p1), .val (.int p2), .val (.int p3)] [(.ref b2), (.ref b1), (.ref b1)]))
    have ne_b1_b2_f9 : b1 ≠ b2 := Nat.ne_of_lt (Nat.lt_of_lt_of_le A1.lt (Nat.le_of_eq g2.symm))
    have ge_b2 : n0 ≤ b2 := Nat.le_trans f5 (Nat.le_of_eq g2.symm)
    have sz_b2 : h0.size ≤ b2 := Nat.le_trans f4.1 (Nat.le_of_eq g2.symm)
    have hCf10 := CHr.ext E2 f2.1
    have f11 := hCf10.safe A1.lt SF_b1
    have f12 := f2.trans hCf10
    have f13 := f3.ext E2
    have f14 := f4.ext E2
    have f15 := Nat.le_trans f5 E2.1
    have f16 := Nat.le_trans f6 E2.1
    have f17 := A1.ext E2
    have f18 := f7.ext E2
    have f19 := f8.ext E2
    have V2 : Arv Z h2 b2 ka2 .char (0 : Int32) [] (.int (0 : Int32)) := Arv.new A2 (by decide)
    have SF2 : Safe Z EL1 s.vm h2 b2 := Safe.arr hZ.alike A2 (by decide)
    obtain ⟨_, _, ⟨T3, L3, k3, n3⟩, -, X3, hSi3, hgr3, ⟨Lc3, hQ3, l3, y3, z3, hCi3⟩, st3⟩ := X2.specialBackS hx (y := (⟨"java/lang/String", "<init>", "([C)V"⟩ : MethodName)) rfl hown (mvT hZ (hw _ (List.mem_of_getElem? (i := 11) rfl))) (mvT hZ (hw _ (List.mem_of_getElem? (i := 12) rfl))) (mvT hZ (hw _ (List.mem_of_getElem? (i := 13) rfl))) (by decide) (backOfSH (W := 1) (rm3 l Z a0 hw [] b1 b2 ka2 h2 n0 f15 f17 f18 f19 ge_b1 wS V2) hZ (hw _ (List.mem_of_getElem? (i := 13) rfl)) (hw _ (List.mem_of_getElem? (i := 9) rfl)) (by decide) (by decide) hEL f12.1) (g := (mkF m 11 #[.val (.int p0), .val (.int p1), .val (.int p2), .val (.int p3)] [(.ref b2), (.ref b1), (.ref b1)])) rfl (by rw [hml]; rfl) (Steps.refl _) (a := b1) (argsL := [(.ref b2)]) (rest := [(.ref b1)]) (lenOf pd_3 rfl) rfl (by show 2 * 0 + _ ≤ _; exact Nat.le_of_eq rfl) (hb hby d2_11) (fun _ _ => ⟨rfl, e2, (by decide : 2 + 4 ≤ _), (by decide : 4 + 8 ≤ _)⟩)
    dsimp only [Pt.U, Pt.locs, Pt.cells, Pt.slots] at X3 l3 y3 z3 st3 hQ3 hSi3 hgr3
    rw [l3, y3, z3] at X3
    obtain ⟨X3, hS, hZ, hown⟩ := rebS hS (by rw [e2]; exact f16) X3 hSi3 hgr3 hZ hown
    have hkS3 : T3.heap.size ≤ T3.heap.size := Nat.le_refl _
    dsimp only [Pt.U] at hCi3
    have f20 := hCi3.safe f17.lt f11
    have f21 := hCi3.safe V2.lt SF2
    have f22 := f12.trans hCi3
    obtain ⟨rfl, N3q, K3, Eq3, Fc3, t3, kb3, Fv3, Av3⟩ := hQ3
    have N3 := Fr.app N0 N3q
    refine GoesH.by (fun t k => st3.trans k) ?_
    show GoesH Z EL1 p e below s _ _ _ (T3.setTop (mkF m 14 #[.val (.int p0), .val (.int p1), .val (.int p2), .val (.int p3)] [(.ref b1)]))
    have OLD_K3 := f13.keep K3 (allS ge_b1 all0)
    have f23 := f14.trans K3 (allS (Or.inr sz_b1) all0)
    have f24 := Nat.le_trans f15 K3.1
    have f25 := f17.keep K3
    have f26 := V2.keep K3 (ninS (Ne.symm ne_b1_b2_f9) nin0)
    have hcs : own_cs p0 p1 p2 p3 = [] := by simp [own_cs, hc0]
    obtain ⟨cb1, cb2⟩ := own_csb (n := p0) hp1 hp2 hp3
    exact GoesH.retA X3 hS (by exact hkS3) hZ hEL (by rw [hh]; exact f22) hx Bd.returns rfl rfl (hb hby d2_14) hlk (by exact ⟨b1, rfl, N3, f23, Eq3, Fc3, t3, kb3, 0, _, Fv3, Av3, by rw [hcs]; exact StrChars.Road.codOf (n := 0) rfl (by rw [← hcs]; exact fun c hc => (cb1 c hc).2), own_up cb1, cb2⟩) (by decide) (by decide)
  · skip
    refine GoesH.by (fun t k => XS.ifYes X0.here hx rfl (pc0 := 1) (pc' := 15) rfl (hb hby d2_1) rfl ((if0 _ _).trans (feq (hc0)).2) (by decide) (by decide) k) ?_
    show GoesH Z EL1 p e below s _ _ _ (s₁.setTop (mkF m 15 #[.val (.int p0), .val (.int p1), .val (.int p2), .val (.int p3)] []))
    refine GoesH.by (fun t k => XS.iloadN X0.here hx rfl (hb hby d2_15) rfl k) ?_
    show GoesH Z EL1 p e below s _ _ _ (s₁.setTop (mkF m 16 #[.val (.int p0), .val (.int p1), .val (.int p2), .val (.int p3)] [(.int p0)]))
    refine GoesH.by (fun t k => XS.iconst X0.here hx rfl (hb hby d2_16) k) ?_
    show GoesH Z EL1 p e below s _ _ _ (s₁.setTop (mkF m 17 #[.val (.int p0), .val (.int p1), .val (.int p2), .val (.int p3)] [(.int (1 : Int32)), (.int p0)]))
    by_cases hc1 : p0 = (1 : Int32)
    · skip
      refine GoesH.by (fun t k => XS.icmpNo X0.here hx rfl (hb hby d2_17) rfl (teq (hc1)).2 k) ?_
      show GoesH Z EL1 p e below s _ _ _ (s₁.setTop (mkF m 20 #[.val (.int p0), .val (.int p1), .val (.int p2), .val (.int p3)] []))
      obtain ⟨T4, h4, X4, e4, E4, A4, D4, -, st4⟩ := newO X0 hx hZ hown (hw _ (List.mem_of_getElem? (i := 7) rfl)) (hw _ (List.mem_of_getElem? (i := 8) rfl)) (hw _ (List.mem_of_getElem? (i := 9) rfl)) e0 (g := (mkF m 20 #[.val (.int p0), .val (.int p1), .val (.int p2), .val (.int p3)] [])) rfl (hb hby d2_20) (by decide) (by decide)
      obtain ⟨b4, g4⟩ : ∃ z, z = h0.size := ⟨_, rfl⟩
      rw [← g4] at A4 D4 st4
      refine GoesH.by (fun t k => st4 t k) ?_
      show GoesH Z EL1 p e below s _ _ _ (T4.setTop (mkF m 23 #[.val (.int p0), .val (.int p1), .val (.int p2), .val (.int p3)] [(.ref b4)]))
      have ge_b4 : n0 ≤ b4 := Nat.le_trans Z0 (Nat.le_of_eq g4.symm)
      have sz_b4 : h0.size ≤ b4 := Nat.le_trans KC0.1 (Nat.le_of_eq g4.symm)
      have hCf27 := CHr.ext E4 CH0.1
      have f28 := CH0.trans hCf27
      have f29 := O0.ext E4
      have f30 := KC0.ext E4
      have f31 := Nat.le_trans Z0 E4.1
      have f32 := Nat.le_trans hk0 E4.1
      have f33 : Fld Z h4 b4 "java/lang/String" "value" "[B" .null := D4 (Or.inr (hw _ (List.mem_of_getElem? (i := 23) rfl))) (ty := (.array .byte)) (by decide)
      have f34 : Fld Z h4 b4 "java/lang/String" "coder" "B" (.int (0 : Int32)) := D4 (Or.inr (hw _ (List.mem_of_getElem? (i := 24) rfl))) (ty := .byte) (by decide)
      have SF_b4 : Safe Z EL1 s.vm h4 b4 := own_safe hZ.alike A4 f33
      refine GoesH.by (fun t k => XS.dup X4.here hx rfl (hb hby d2_23) rfl rfl k) ?_
      show GoesH Z EL1 p e below s _ _ _ (T4.setTop (mkF m 24 #[.val (.int p0), .val (.int p1), .val (.int p2), .val (.int p3)] [(.ref b4), (.ref b4)]))
      refine GoesH.by (fun t k => XS.iconst X4.here hx rfl (hb hby d2_24) k) ?_
      show GoesH Z EL1 p e below s _ _ _ (T4.setTop (mkF m 25 #[.val (.int p0), .val (.int p1), .val (.int p2), .val (.int p3)] [(.int (1 : Int32)), (.ref b4), (.ref b4)]))
      obtain ⟨T5, h5, ka5, X5, e5, E5, A5, st5⟩ := newP X4 hx hZ (hw _ (List.mem_of_getElem? (i := 10) rfl)) e4 (g := (mkF m 25 #[.val (.int p0), .val (.int p1), .val (.int p2), .val (.int p3)] [(.int (1 : Int32)), (.ref b4), (.ref b4)])) rfl (hb hby d2_25) rfl (by decide : ¬ ((1 : Int32) < (0 : Int32))) (cap := 1) (by decide : (1 : Int32).toNatClampNeg ≤ 1) (by decide) (by decide) (by decide)
      obtain ⟨b5, g5⟩ : ∃ z, z = h4.size := ⟨_, rfl⟩
      rw [← g5] at A5 st5
      refine GoesH.by (fun t k => st5 t k) ?_
      show GoesH Z EL1 p e below s _ _ _ (T5.setTop (mkF m 27 #[.val (.int p0), .val (.int p1), .val (.int p2), .val (.int p3)] [(.ref b5), (.ref b4), (.ref b4)]))
      have ne_b4_b5_f35 : b4 ≠ b5 := Nat.ne_of_lt (Nat.lt_of_lt_of_le A4.lt (Nat.le_of_eq g5.symm))
      have ge_b5 : n0 ≤ b5 := Nat.le_trans f31 (Nat.le_of_eq g5.symm)
      have sz_b5 : h0.size ≤ b5 := Nat.le_trans f30.1 (Nat.le_of_eq g5.symm)
      have hCf36 := CHr.ext E5 f28.1
      have f37 := hCf36.safe A4.lt SF_b4
      have f38 := f28.trans hCf36
      have f39 := f29.ext E5
      have f40 := f30.ext E5
      have f41 := Nat.le_trans f31 E5.1
      have f42 := Nat.le_trans f32 E5.1
      have f43 := A4.ext E5
      have f44 := f33.ext E5
      have f45 := f34.ext E5
      have V5 : Arv Z h5 b5 ka5 .char (1 : Int32) [] (.int (0 : Int32)) := Arv.new A5 (by decide)
      have SF5 : Safe Z EL1 s.vm h5 b5 := Safe.arr hZ.alike A5 (by decide)
      refine GoesH.by (fun t k => XS.dup X5.here hx rfl (hb hby d2_27) rfl rfl k) ?_
      show GoesH Z EL1 p e below s _ _ _ (T5.setTop (mkF m 28 #[.val (.int p0), .val (.int p1), .val (.int p2), .val (.int p3)] [(.ref b5), (.ref b5), (.ref b4), (.ref b4)]))
      refine GoesH.by (fun t k => XS.iconst X5.here hx rfl (hb hby d2_28) k) ?_
      show GoesH Z EL1 p e below s _ _ _ (T5.setTop (mkF m 29 #[.val (.int p0), .val (.int p1), .val (.int p2), .val (.int p3)] [(.int (0 : Int32)), (.ref b5), (.ref b5), (.ref b4), (.ref b4)]))
      refine GoesH.by (fun t k => XS.iloadN X5.here hx rfl (hb hby d2_29) rfl k) ?_
      show GoesH Z EL1 p e below s _ _ _ (T5.setTop (mkF m 30 #[.val (.int p0), .val (.int p1), .val (.int p2), .val (.int p3)] [(.int p1), (.int (0 : Int32)), (.ref b5), (.ref b5), (.ref b4), (.ref b4)]))
      refine GoesH.by (fun t k => XS.i2c X5.here hx rfl (hb hby d2_30) rfl k) ?_
      show GoesH Z EL1 p e below s _ _ _ (T5.setTop (mkF m 31 #[.val (.int p0), .val (.int p1), .val (.int p2), .val (.int p3)] [(.int (p1.toUInt32.toUInt16.toUInt32.toInt32)), (.int (0 : Int32)), (.ref b5), (.ref b5), (.ref b4), (.ref b4)]))
      have P6 : Arv Z h5 b5 ka5 .char (1 : Int32) [(.int (0 : Int32))] (.int (0 : Int32)) := V5.pad (pad_rep [] (.int (0 : Int32)) 1)
      obtain ⟨ca6, A6, qa6, S6, M6, H6, U6⟩ := id P6
      obtain ⟨T6, h6, X6, e6, W6, st6⟩ := stC X5 hx hZ e5 A6 (j := (0 : Int32)) (inb_of S6 ⟨by decide, by decide⟩) (g := (mkF m 31 #[.val (.int p0), .val (.int p1), .val (.int p2), .val (.int p3)] [(.int (p1.toUInt32.toUInt16.toUInt32.toInt32)), (.int (0 : Int32)), (.ref b5), (.ref b5), (.ref b4), (.ref b4)])) rfl rfl (hb hby d2_31)
      refine GoesH.by (fun t k => st6 t k) ?_
      show GoesH Z EL1 p e below s _ _ _ (T6.setTop (mkF m 32 #[.val (.int p0), .val (.int p1), .val (.int p2), .val (.int p3)] [(.ref b5), (.ref b4), (.ref b4)]))
      have N6 := Fr.snoc X6 N0 ge_b5
      have hCf46 := CHr.wr W6 SF5 f38.1
      have f47 := hCf46.safe f43.lt f37
      have f48 := hCf46.safe V5.lt SF5
      have f49 := f38.trans hCf46
      have f50 := f39.wr W6 ge_b5
      have f51 := f40.wr W6 (Or.inr sz_b5)
      have f52 := Nat.le_trans f41 (Keep.of_wr W6).1
      have f53 := Nat.le_trans f42 (Keep.of_wr W6).1
      have f54 := f43.wr W6
      have f55 := f44.other W6 (Or.inl ne_b4_b5_f35)
      have f56 := f45.other W6 (Or.inl ne_b4_b5_f35)
      have V6 : Arv Z h6 b5 ka5 .char (1 : Int32) [(.int (nar .char (p1.toUInt32.toUInt16.toUInt32.toInt32)))] (.int (0 : Int32)) := Arv.set A6 qa6 S6 M6 H6 U6 (fits_nar_char _) W6 0 rfl (Nat.le_of_ble_eq_true rfl)
      rw [own_char hp1] at V6
      have hp_ : ∀ c ∈ ([p1] : List Int32), ¬ c < 0 ∧ ¬ (255 : Int32) < c := List.forall_mem_cons.2 ⟨hp1, List.forall_mem_nil _⟩
      obtain ⟨_, _, ⟨T7, L7, k7, n7⟩, -, X7, ⟨Lc7, hQ7, l7, y7, z7⟩, st7⟩ := X6.specialBack hx (y := (⟨"java/lang/String", "<init>", "([C)V"⟩ : MethodName)) rfl hown (mvT hZ (hw _ (List.mem_of_getElem? (i := 11) rfl))) (mvT hZ (hw _ (List.mem_of_getElem? (i := 12) rfl))) (mvT hZ (hw _ (List.mem_of_getElem? (i := 13) rfl))) (by decide) (StrChars.Road.backV (W := 1) hZ hws (kI := 4) (hw _ (List.mem_of_getElem? (i := 8) rfl)) (cs := ([p1] : List Int32)) (bs := (([p1] : List Int32)).map (fun c => c.toInt8.toInt32)) (n := 1) ge_b4 f52 f54 f55 f56 V6 (SC.ext f50.2) hz rfl rfl (by decide) (by decide) hp_ rfl (by decide) (by decide)) (g := (mkF m 32 #[.val (.int p0), .val (.int p1), .val (.int p2), .val (.int p3)] [(.ref b5), (.ref b4), (.ref b4)])) rfl (by rw [hml]; rfl) (Steps.refl _) (a := b4) (argsL := [(.ref b5)]) (rest := [(.ref b4)]) (lenOf pd_3 rfl) rfl (by show 2 * 0 + _ ≤ _; exact Nat.le_of_eq rfl) (hb hby d2_32) (fun _ _ => ⟨rfl, e6, (by decide : 2 + 1 ≤ _), (by decide : 5 + 1 ≤ _)⟩)
      dsimp only [Pt.U, Pt.locs, Pt.cells, Pt.slots] at X7 l7 y7 z7 st7 hQ7
      rw [l7, y7, z7] at X7
      obtain ⟨rfl, N7q, K7, Eq7, Fc7, t7, kb7, -, -, -, Fv7, Av7⟩ := hQ7
      have N7 := Fr.app N6 N7q
      refine GoesH.by (fun t k => st7.trans k) ?_
      show GoesH Z EL1 p e below s _ _ _ (T7.setTop (mkF m 35 #[.val (.int p0), .val (.int p1), .val (.int p2), .val (.int p3)] [(.ref b4)]))
      have hCf57 := CHr.keep K7 (allS f47 all0) f49.1
      have f58 := hCf57.safe f54.lt f47
      have f59 := hCf57.safe V6.lt f48
      have f60 := f49.trans hCf57
      have OLD_K7 := f50.keep K7 (allS ge_b4 all0)
      have f61 := f51.trans K7 (allS (Or.inr sz_b4) all0)
      have f62 := Nat.le_trans f52 K7.1
      have f63 := Nat.le_trans f53 K7.1
      have f64 := f54.keep K7
      have f65 := V6.keep K7 (ninS (Ne.symm ne_b4_b5_f35) nin0)
      have hcs : own_cs p0 p1 p2 p3 = [p1] := by simp [own_cs, hc0, hc1]
      obtain ⟨cb1, cb2⟩ := own_csb (n := p0) hp1 hp2 hp3
      exact GoesH.retA X7 hS (by exact f63) hZ hEL (by rw [hh]; exact f60) hx Bd.returns rfl rfl (hb hby d2_35) hlk (by exact ⟨b4, rfl, N7, f61, Eq7, Fc7, t7, kb7, _, _, Fv7, Av7, by rw [hcs]; exact StrChars.Road.codOf (n := 1) rfl (by rw [← hcs]; exact fun c hc => (cb1 c hc).2), own_up cb1, cb2⟩) (by decide) (by decide)
    · skip
      refine GoesH.by (fun t k => XS.icmpYes X0.here hx rfl (pc0 := 17) (pc' := 36) rfl (hb hby d2_17) rfl (feq (hc1)).2 (by decide) (by decide) k) ?_
      show GoesH Z EL1 p e below s _ _ _ (s₁.setTop (mkF m 36 #[.val (.int p0), .val (.int p1), .val (.int p2), .val (.int p3)] []))
      refine GoesH.by (fun t k => XS.iloadN X0.here hx rfl (hb hby d2_36) rfl k) ?_
      show GoesH Z EL1 p e below s _ _ _ (s₁.setTop (mkF m 37 #[.val (.int p0), .val (.int p1), .val (.int p2), .val (.int p3)] [(.int p0)]))
      refine GoesH.by (fun t k => XS.iconst X0.here hx rfl (hb hby d2_37) k) ?_
      show GoesH Z EL1 p e below s _ _ _ (s₁.setTop (mkF m 38 #[.val (.int p0), .val (.int p1), .val (.int p2), .val (.int p3)] [(.int (2 : Int32)), (.int p0)]))
      by_cases hc2 : p0 = (2 : Int32)
      · skip
        refine GoesH.by (fun t k => XS.icmpNo X0.here hx rfl (hb hby d2_38) rfl (teq (hc2)).2 k) ?_
        show GoesH Z EL1 p e below s _ _ _ (s₁.setTop (mkF m 41 #[.val (.int p0), .val (.int p1), .val (.int p2), .val (.int p3)] []))
        obtain ⟨T8, h8, X8, e8, E8, A8, D8, -, st8⟩ := newO X0 hx hZ hown (hw _ (List.mem_of_getElem? (i := 7) rfl)) (hw _ (List.mem_of_getElem? (i := 8) rfl)) (hw _ (List.mem_of_getElem? (i := 9) rfl)) e0 (g := (mkF m 41 #[.val (.int p0), .val (.int p1), .val (.int p2), .val (.int p3)] [])) rfl (hb hby d2_41) (by decide) (by decide)
        obtain ⟨b8, g8⟩ : ∃ z, z = h0.size := ⟨_, rfl⟩
        rw [← g8] at A8 D8 st8
        refine GoesH.by (fun t k => st8 t k) ?_
        show GoesH Z EL1 p e below s _ _ _ (T8.setTop (mkF m 44 #[.val (.int p0), .val (.int p1), .val (.int p2), .val (.int p3)] [(.ref b8)]))
        have ge_b8 : n0 ≤ b8 := Nat.le_trans Z0 (Nat.le_of_eq g8.symm)
        have sz_b8 : h0.size ≤ b8 := Nat.le_trans KC0.1 (Nat.le_of_eq g8.symm)
        have hCf66 := CHr.ext E8 CH0.1
        have f67 := CH0.trans hCf66
        have f68 := O0.ext E8
        have f69 := KC0.ext E8
        have f70 := Nat.le_trans Z0 E8.1
        have f71 := Nat.le_trans hk0 E8.1
        have f72 : Fld Z h8 b8 "java/lang/String" "value" "[B" .null := D8 (Or.inr (hw _ (List.mem_of_getElem? (i := 23) rfl))) (ty := (.array .byte)) (by decide)
        have f73 : Fld Z h8 b8 "java/lang/String" "coder" "B" (.int (0 : Int32)) := D8 (Or.inr (hw _ (List.mem_of_getElem? (i := 24) rfl))) (ty := .byte) (by decide)
        have SF_b8 : Safe Z EL1 s.vm h8 b8 := own_safe hZ.alike A8 f72
        refine GoesH.by (fun t k => XS.dup X8.here hx rfl (hb hby d2_44) rfl rfl k) ?_
        show GoesH Z EL1 p e below s _ _ _ (T8.setTop (mkF m 45 #[.val (.int p0), .val (.int p1), .val (.int p2), .val (.int p3)] [(.ref b8), (.ref b8)]))
        refine GoesH.by (fun t k => XS.iconst X8.here hx rfl (hb hby d2_45) k) ?_
        show GoesH Z EL1 p e below s _ _ _ (T8.setTop (mkF m 46 #[.val (.int p0), .val (.int p1), .val (.int p2), .val (.int p3)] [(.int (2 : Int32)), (.ref b8), (.ref b8)]))
        obtain ⟨T9, h9, ka9, X9, e9, E9, A9, st9⟩ := newP X8 hx hZ (hw _ (List.mem_of_getElem? (i := 10) rfl)) e8 (g := (mkF m 46 #[.val (.int p0), .val (.int p1), .val (.int p2), .val (.int p3)] [(.int (2 : Int32)), (.ref b8), (.ref b8)])) rfl (hb hby d2_46) rfl (by decide : ¬ ((2 : Int32) < (0 : Int32))) (cap := 2) (by decide : (2 : Int32).toNatClampNeg ≤ 2) (by decide) (by decide) (by decide)
        obtain ⟨b9, g9⟩ : ∃ z, z = h8.size := ⟨_, rfl⟩
        rw [← g9] at A9 st9
        refine GoesH.by (fun t k => st9 t k) ?_
        show GoesH Z EL1 p e below s _ _ _ (T9.setTop (mkF m 48 #[.val (.int p0), .val (.int p1), .val (.int p2), .val (.int p3)] [(.ref b9), (.ref b8), (.ref b8)]))
        have ne_b8_b9_f74 : b8 ≠ b9 := Nat.ne_of_lt (Nat.lt_of_lt_of_le A8.lt (Nat.le_of_eq g9.symm))
        have ge_b9 : n0 ≤ b9 := Nat.le_trans f70 (Nat.le_of_eq g9.symm)
        have sz_b9 : h0.size ≤ b9 := Nat.le_trans f69.1 (Nat.le_of_eq g9.symm)
        have hCf75 := CHr.ext E9 f67.1
        have f76 := hCf75.safe A8.lt SF_b8
        have f77 := f67.trans hCf75
        have f78 := f68.ext E9
        have f79 := f69.ext E9
        have f80 := Nat.le_trans f70 E9.1
        have f81 := Nat.le_trans f71 E9.1
        have f82 := A8.ext E9
        have f83 := f72.ext E9
        have f84 := f73.ext E9
        have V9 : Arv Z h9 b9 ka9 .char (2 : Int32) [] (.int (0 : Int32)) := Arv.new A9 (by decide)
        have SF9 : Safe Z EL1 s.vm h9 b9 := Safe.arr hZ.alike A9 (by decide)
        refine GoesH.by (fun t k => XS.dup X9.here hx rfl (hb hby d2_48) rfl rfl k) ?_
        show GoesH Z EL1 p e below s _ _ _ (T9.setTop (mkF m 49 #[.val (.int p0), .val (.int p1), .val (.int p2), .val (.int p3)] [(.ref b9), (.ref b9), (.ref b8), (.ref b8)]))
        refine GoesH.by (fun t k => XS.iconst X9.here hx rfl (hb hby d2_49) k) ?_
        show GoesH Z EL1 p e below s _ _ _ (T9.setTop (mkF m 50 #[.val (.int p0), .val (.int p1), .val (.int p2), .val (.int p3)] [(.int (0 : Int32)), (.ref b9), (.ref b9), (.ref b8), (.ref b8)]))
        refine GoesH.by (fun t k => XS.iloadN X9.here hx rfl (hb hby d2_50) rfl k) ?_
        show GoesH Z EL1 p e below s _ _ _ (T9.setTop (mkF m 51 #[.val (.int p0), .val (.int p1), .val (.int p2), .val (.int p3)] [(.int p1), (.int (0 : Int32)), (.ref b9), (.ref b9), (.ref b8), (.ref b8)]))
        refine GoesH.by (fun t k => XS.i2c X9.here hx rfl (hb hby d2_51) rfl k) ?_
        show GoesH Z EL1 p e below s _ _ _ (T9.setTop (mkF m 52 #[.val (.int p0), .val (.int p1), .val (.int p2), .val (.int p3)] [(.int (p1.toUInt32.toUInt16.toUInt32.toInt32)), (.int (0 : Int32)), (.ref b9), (.ref b9), (.ref b8), (.ref b8)]))
        have P10 : Arv Z h9 b9 ka9 .char (2 : Int32) [(.int (0 : Int32))] (.int (0 : Int32)) := V9.pad (pad_rep [] (.int (0 : Int32)) 1)
        obtain ⟨ca10, A10, qa10, S10, M10, H10, U10⟩ := id P10
        obtain ⟨T10, h10, X10, e10, W10, st10⟩ := stC X9 hx hZ e9 A10 (j := (0 : Int32)) (inb_of S10 ⟨by decide, by decide⟩) (g := (mkF m 52 #[.val (.int p0), .val (.int p1), .val (.int p2), .val (.int p3)] [(.int (p1.toUInt32.toUInt16.toUInt32.toInt32)), (.int (0 : Int32)), (.ref b9), (.ref b9), (.ref b8), (.ref b8)])) rfl rfl (hb hby d2_52)
        refine GoesH.by (fun t k => st10 t k) ?_
        show GoesH Z EL1 p e below s _ _ _ (T10.setTop (mkF m 53 #[.val (.int p0), .val (.int p1), .val (.int p2), .val (.int p3)] [(.ref b9), (.ref b8), (.ref b8)]))
        have N10 := Fr.snoc X10 N0 ge_b9
        have hCf85 := CHr.wr W10 SF9 f77.1
        have f86 := hCf85.safe f82.lt f76
        have f87 := hCf85.safe V9.lt SF9
        have f88 := f77.trans hCf85
        have f89 := f78.wr W10 ge_b9
        have f90 := f79.wr W10 (Or.inr sz_b9)
        have f91 := Nat.le_trans f80 (Keep.of_wr W10).1
        have f92 := Nat.le_trans f81 (Keep.of_wr W10).1
        have f93 := f82.wr W10
        have f94 := f83.other W10 (Or.inl ne_b8_b9_f74)
        have f95 := f84.other W10 (Or.inl ne_b8_b9_f74)
        have V10 : Arv Z h10 b9 ka9 .char (2 : Int32) [(.int (nar .char (p1.toUInt32.toUInt16.toUInt32.toInt32)))] (.int (0 : Int32)) := Arv.set A10 qa10 S10 M10 H10 U10 (fits_nar_char _) W10 0 rfl (Nat.le_of_ble_eq_true rfl)
        rw [own_char hp1] at V10
        refine GoesH.by (fun t k => XS.dup X10.here hx rfl (hb hby d2_53) rfl rfl k) ?_
        show GoesH Z EL1 p e below s _ _ _ (T10.setTop (mkF m 54 #[.val (.int p0), .val (.int p1), .val (.int p2), .val (.int p3)] [(.ref b9), (.ref b9), (.ref b8), (.ref b8)]))
        refine GoesH.by (fun t k => XS.iconst X10.here hx rfl (hb hby d2_54) k) ?_
        show GoesH Z EL1 p e below s _ _ _ (T10.setTop (mkF m 55 #[.val (.int p0), .val (.int p1), .val (.int p2), .val (.int p3)] [(.int (1 : Int32)), (.ref b9), (.ref b9), (.ref b8), (.ref b8)]))
        refine GoesH.by (fun t k => XS.iloadN X10.here hx rfl (hb hby d2_55) rfl k) ?_
        show GoesH Z EL1 p e below s _ _ _ (T10.setTop (mkF m 56 #[.val (.int p0), .val (.int p1), .val (.int p2), .val (.int p3)] [(.int p2), (.int (1 : Int32)), (.ref b9), (.ref b9), (.ref b8), (.ref b8)]))
        refine GoesH.by (fun t k => XS.i2c X10.here hx rfl (hb hby d2_56) rfl k) ?_
        show GoesH Z EL1 p e below s _ _ _ (T10.setTop (mkF m 57 #[.val (.int p0), .val (.int p1), .val (.int p2), .val (.int p3)] [(.int (p2.toUInt32.toUInt16.toUInt32.toInt32)), (.int (1 : Int32)), (.ref b9), (.ref b9), (.ref b8), (.ref b8)]))
        have P11 : Arv Z h10 b9 ka9 .char (2 : Int32) [(.int p1), (.int (0 : Int32))] (.int (0 : Int32)) := V10.pad (pad_rep [(.int p1)] (.int (0 : Int32)) 1)
        obtain ⟨ca11, A11, qa11, S11, M11, H11, U11⟩ := id P11
        obtain ⟨T11, h11, X11, e11, W11, st11⟩ := stC X10 hx hZ e10 A11 (j := (1 : Int32)) (inb_of S11 ⟨by decide, by decide⟩) (g := (mkF m 57 #[.val (.int p0), .val (.int p1), .val (.int p2), .val (.int p3)] [(.int (p2.toUInt32.toUInt16.toUInt32.toInt32)), (.int (1 : Int32)), (.ref b9), (.ref b9), (.ref b8), (.ref b8)])) rfl rfl (hb hby d2_57)
        refine GoesH.by (fun t k => st11 t k) ?_
        show GoesH Z EL1 p e below s _ _ _ (T11.setTop (mkF m 58 #[.val (.int p0), .val (.int p1), .val (.int p2), .val (.int p3)] [(.ref b9), (.ref b8), (.ref b8)]))
        have N11 := Fr.snoc X11 N10 ge_b9
        have hCf96 := CHr.wr W11 f87 f88.1
        have f97 := hCf96.safe f93.lt f86
        have f98 := hCf96.safe V10.lt f87
        have f99 := f88.trans hCf96
        have f100 := f89.wr W11 ge_b9
        have f101 := f90.wr W11 (Or.inr sz_b9)
        have f102 := Nat.le_trans f91 (Keep.of_wr W11).1
        have f103 := Nat.le_trans f92 (Keep.of_wr W11).1
        have f104 := f93.wr W11
        have f105 := f94.other W11 (Or.inl ne_b8_b9_f74)
        have f106 := f95.other W11 (Or.inl ne_b8_b9_f74)
        have V11 : Arv Z h11 b9 ka9 .char (2 : Int32) [(.int p1), (.int (nar .char (p2.toUInt32.toUInt16.toUInt32.toInt32)))] (.int (0 : Int32)) := Arv.set A11 qa11 S11 M11 H11 U11 (fits_nar_char _) W11 1 rfl (Nat.le_of_ble_eq_true rfl)
        rw [own_char hp2] at V11
        have hp_ : ∀ c ∈ ([p1, p2] : List Int32), ¬ c < 0 ∧ ¬ (255 : Int32) < c := List.forall_mem_cons.2 ⟨hp1, List.forall_mem_cons.2 ⟨hp2, List.forall_mem_nil _⟩⟩
        obtain ⟨_, _, ⟨T12, L12, k12, n12⟩, -, X12, ⟨Lc12, hQ12, l12, y12, z12⟩, st12⟩ := X11.specialBack hx (y := (⟨"java/lang/String", "<init>", "([C)V"⟩ : MethodName)) rfl hown (mvT hZ (hw _ (List.mem_of_getElem? (i := 11) rfl))) (mvT hZ (hw _ (List.mem_of_getElem? (i := 12) rfl))) (mvT hZ (hw _ (List.mem_of_getElem? (i := 13) rfl))) (by decide) (StrChars.Road.backV (W := 1) hZ hws (kI := 4) (hw _ (List.mem_of_getElem? (i := 8) rfl)) (cs := ([p1, p2] : List Int32)) (bs := (([p1, p2] : List Int32)).map (fun c => c.toInt8.toInt32)) (n := 2) ge_b8 f102 f104 f105 f106 V11 (SC.ext f100.2) hz rfl rfl (by decide) (by decide) hp_ rfl (by decide) (by decide)) (g := (mkF m 58 #[.val (.int p0), .val (.int p1), .val (.int p2), .val (.int p3)] [(.ref b9), (.ref b8), (.ref b8)])) rfl (by rw [hml]; rfl) (Steps.refl _) (a := b8) (argsL := [(.ref b9)]) (rest := [(.ref b8)]) (lenOf pd_3 rfl) rfl (by show 2 * 0 + _ ≤ _; exact Nat.le_of_eq rfl) (hb hby d2_58) (fun _ _ => ⟨rfl, e11, (by decide : 2 + 1 ≤ _), (by decide : 6 + 2 ≤ _)⟩)
        dsimp only [Pt.U, Pt.locs, Pt.cells, Pt.slots] at X12 l12 y12 z12 st12 hQ12
        rw [l12, y12, z12] at X12
        obtain ⟨rfl, N12q, K12, Eq12, Fc12, t12, kb12, -, -, -, Fv12, Av12⟩ := hQ12
        have N12 := Fr.app N11 N12q
        refine GoesH.by (fun t k => st12.trans k) ?_
        show GoesH Z EL1 p e below s _ _ _ (T12.setTop (mkF m 61 #[.val (.int p0), .val (.int p1), .val (.int p2), .val (.int p3)] [(.ref b8)]))
        have hCf107 := CHr.keep K12 (allS f97 all0) f99.1
        have f108 := hCf107.safe f104.lt f97
        have f109 := hCf107.safe V11.lt f98
        have f110 := f99.trans hCf107
        have OLD_K12 := f100.keep K12 (allS ge_b8 all0)
        have f111 := f101.trans K12 (allS (Or.inr sz_b8) all0)
        have f112 := Nat.le_trans f102 K12.1
        have f113 := Nat.le_trans f103 K12.1
        have f114 := f104.keep K12
        have f115 := V11.keep K12 (ninS (Ne.symm ne_b8_b9_f74) nin0)
        have hcs : own_cs p0 p1 p2 p3 = [p1, p2] := by simp [own_cs, hc0, hc1, hc2]
        obtain ⟨cb1, cb2⟩ := own_csb (n := p0) hp1 hp2 hp3
        exact GoesH.retA X12 hS (by exact f113) hZ hEL (by rw [hh]; exact f110) hx Bd.returns rfl rfl (hb hby d2_61) hlk (by exact ⟨b8, rfl, N12, f111, Eq12, Fc12, t12, kb12, _, _, Fv12, Av12, by rw [hcs]; exact StrChars.Road.codOf (n := 2) rfl (by rw [← hcs]; exact fun c hc => (cb1 c hc).2), own_up cb1, cb2⟩) (by decide) (by decide)
      · skip
        refine GoesH.by (fun t k => XS.icmpYes X0.here hx rfl (pc0 := 38) (pc' := 62) rfl (hb hby d2_38) rfl (feq (hc2)).2 (by decide) (by decide) k) ?_
        show GoesH Z EL1 p e below s _ _ _ (s₁.setTop (mkF m 62 #[.val (.int p0), .val (.int p1), .val (.int p2), .val (.int p3)] []))
        obtain ⟨T13, h13, X13, e13, E13, A13, D13, -, st13⟩ := newO X0 hx hZ hown (hw _ (List.mem_of_getElem? (i := 7) rfl)) (hw _ (List.mem_of_getElem? (i := 8) rfl)) (hw _ (List.mem_of_getElem? (i := 9) rfl)) e0 (g := (mkF m 62 #[.val (.int p0), .val (.int p1), .val (.int p2), .val (.int p3)] [])) rfl (hb hby d2_62) (by decide) (by decide)
        obtain ⟨b13, g13⟩ : ∃ z, z = h0.size := ⟨_, rfl⟩
        rw [← g13] at A13 D13 st13
        refine GoesH.by (fun t k => st13 t k) ?_
        show GoesH Z EL1 p e below s _ _ _ (T13.setTop (mkF m 65 #[.val (.int p0), .val (.int p1), .val (.int p2), .val (.int p3)] [(.ref b13)]))
        have ge_b13 : n0 ≤ b13 := Nat.le_trans Z0 (Nat.le_of_eq g13.symm)
        have sz_b13 : h0.size ≤ b13 := Nat.le_trans KC0.1 (Nat.le_of_eq g13.symm)
        have hCf116 := CHr.ext E13 CH0.1
        have f117 := CH0.trans hCf116
        have f118 := O0.ext E13
        have f119 := KC0.ext E13
        have f120 := Nat.le_trans Z0 E13.1
        have f121 := Nat.le_trans hk0 E13.1
        have f122 : Fld Z h13 b13 "java/lang/String" "value" "[B" .null := D13 (Or.inr (hw _ (List.mem_of_getElem? (i := 23) rfl))) (ty := (.array .byte)) (by decide)
        have f123 : Fld Z h13 b13 "java/lang/String" "coder" "B" (.int (0 : Int32)) := D13 (Or.inr (hw _ (List.mem_of_getElem? (i := 24) rfl))) (ty := .byte) (by decide)
        have SF_b13 : Safe Z EL1 s.vm h13 b13 := own_safe hZ.alike A13 f122
        refine GoesH.by (fun t k => XS.dup X13.here hx rfl (hb hby d2_65) rfl rfl k) ?_
        show GoesH Z EL1 p e below s _ _ _ (T13.setTop (mkF m 66 #[.val (.int p0), .val (.int p1), .val (.int p2), .val (.int p3)] [(.ref b13), (.ref b13)]))
        refine GoesH.by (fun t k => XS.iconst X13.here hx rfl (hb hby d2_66) k) ?_
        show GoesH Z EL1 p e below s _ _ _ (T13.setTop (mkF m 67 #[.val (.int p0), .val (.int p1), .val (.int p2), .val (.int p3)] [(.int (3 : Int32)), (.ref b13), (.ref b13)]))
        obtain ⟨T14, h14, ka14, X14, e14, E14, A14, st14⟩ := newP X13 hx hZ (hw _ (List.mem_of_getElem? (i := 10) rfl)) e13 (g := (mkF m 67 #[.val (.int p0), .val (.int p1), .val (.int p2), .val (.int p3)] [(.int (3 : Int32)), (.ref b13), (.ref b13)])) rfl (hb hby d2_67) rfl (by decide : ¬ ((3 : Int32) < (0 : Int32))) (cap := 3) (by decide : (3 : Int32).toNatClampNeg ≤ 3) (by decide) (by decide) (by decide)
        obtain ⟨b14, g14⟩ : ∃ z, z = h13.size := ⟨_, rfl⟩
        rw [← g14] at A14 st14
        refine GoesH.by (fun t k => st14 t k) ?_
        show GoesH Z EL1 p e below s _ _ _ (T14.setTop (mkF m 69 #[.val (.int p0), .val (.int p1), .val (.int p2), .val (.int p3)] [(.ref b14), (.ref b13), (.ref b13)]))
        have ne_b13_b14_f124 : b13 ≠ b14 := Nat.ne_of_lt (Nat.lt_of_lt_of_le A13.lt (Nat.le_of_eq g14.symm))
        have ge_b14 : n0 ≤ b14 := Nat.le_trans f120 (Nat.le_of_eq g14.symm)
        have sz_b14 : h0.size ≤ b14 := Nat.le_trans f119.1 (Nat.le_of_eq g14.symm)
        have hCf125 := CHr.ext E14 f117.1
        have f126 := hCf125.safe A13.lt SF_b13
        have f127 := f117.trans hCf125
        have f128 := f118.ext E14
        have f129 := f119.ext E14
        have f130 := Nat.le_trans f120 E14.1
        have f131 := Nat.le_trans f121 E14.1
        have f132 := A13.ext E14
        have f133 := f122.ext E14
        have f134 := f123.ext E14
        have V14 : Arv Z h14 b14 ka14 .char (3 : Int32) [] (.int (0 : Int32)) := Arv.new A14 (by decide)
        have SF14 : Safe Z EL1 s.vm h14 b14 := Safe.arr hZ.alike A14 (by decide)
        refine GoesH.by (fun t k => XS.dup X14.here hx rfl (hb hby d2_69) rfl rfl k) ?_
        show GoesH Z EL1 p e below s _ _ _ (T14.setTop (mkF m 70 #[.val (.int p0), .val (.int p1), .val (.int p2), .val (.int p3)] [(.ref b14), (.ref b14), (.ref b13), (.ref b13)]))
        refine GoesH.by (fun t k => XS.iconst X14.here hx rfl (hb hby d2_70) k) ?_
        show GoesH Z EL1 p e below s _ _ _ (T14.setTop (mkF m 71 #[.val (.int p0), .val (.int p1), .val (.int p2), .val (.int p3)] [(.int (0 : Int32)), (.ref b14), (.ref b14), (.ref b13), (.ref b13)]))
        refine GoesH.by (fun t k => XS.iloadN X14.here hx rfl (hb hby d2_71) rfl k) ?_
        show GoesH Z EL1 p e below s _ _ _ (T14.setTop (mkF m 72 #[.val (.int p0), .val (.int p1), .val (.int p2), .val (.int p3)] [(.int p1), (.int (0 : Int32)), (.ref b14), (.ref b14), (.ref b13), (.ref b13)]))
        refine GoesH.by (fun t k => XS.i2c X14.here hx rfl (hb hby d2_72) rfl k) ?_
        show GoesH Z EL1 p e below s _ _ _ (T14.setTop (mkF m 73 #[.val (.int p0), .val (.int p1), .val (.int p2), .val (.int p3)] [(.int (p1.toUInt32.toUInt16.toUInt32.toInt32)), (.int (0 : Int32)), (.ref b14), (.ref b14), (.ref b13), (.ref b13)]))
        have P15 : Arv Z h14 b14 ka14 .char (3 : Int32) [(.int (0 : Int32))] (.int (0 : Int32)) := V14.pad (pad_rep [] (.int (0 : Int32)) 1)
        obtain ⟨ca15, A15, qa15, S15, M15, H15, U15⟩ := id P15
        obtain ⟨T15, h15, X15, e15, W15, st15⟩ := stC X14 hx hZ e14 A15 (j := (0 : Int32)) (inb_of S15 ⟨by decide, by decide⟩) (g := (mkF m 73 #[.val (.int p0), .val (.int p1), .val (.int p2), .val (.int p3)] [(.int (p1.toUInt32.toUInt16.toUInt32.toInt32)), (.int (0 : Int32)), (.ref b14), (.ref b14), (.ref b13), (.ref b13)])) rfl rfl (hb hby d2_73)
        refine GoesH.by (fun t k => st15 t k) ?_
        show GoesH Z EL1 p e below s _ _ _ (T15.setTop (mkF m 74 #[.val (.int p0), .val (.int p1), .val (.int p2), .val (.int p3)] [(.ref b14), (.ref b13), (.ref b13)]))
        have N15 := Fr.snoc X15 N0 ge_b14
        have hCf135 := CHr.wr W15 SF14 f127.1
        have f136 := hCf135.safe f132.lt f126
        have f137 := hCf135.safe V14.lt SF14
        have f138 := f127.trans hCf135
        have f139 := f128.wr W15 ge_b14
        have f140 := f129.wr W15 (Or.inr sz_b14)
        have f141 := Nat.le_trans f130 (Keep.of_wr W15).1
        have f142 := Nat.le_trans f131 (Keep.of_wr W15).1
        have f143 := f132.wr W15
        have f144 := f133.other W15 (Or.inl ne_b13_b14_f124)
        have f145 := f134.other W15 (Or.inl ne_b13_b14_f124)
        have V15 : Arv Z h15 b14 ka14 .char (3 : Int32) [(.int (nar .char (p1.toUInt32.toUInt16.toUInt32.toInt32)))] (.int (0 : Int32)) := Arv.set A15 qa15 S15 M15 H15 U15 (fits_nar_char _) W15 0 rfl (Nat.le_of_ble_eq_true rfl)
        rw [own_char hp1] at V15
        refine GoesH.by (fun t k => XS.dup X15.here hx rfl (hb hby d2_74) rfl rfl k) ?_
        show GoesH Z EL1 p e below s _ _ _ (T15.setTop (mkF m 75 #[.val (.int p0), .val (.int p1), .val (.int p2), .val (.int p3)] [(.ref b14), (.ref b14), (.ref b13), (.ref b13)]))
        refine GoesH.by (fun t k => XS.iconst X15.here hx rfl (hb hby d2_75) k) ?_
        show GoesH Z EL1 p e below s _ _ _ (T15.setTop (mkF m 76 #[.val (.int p0), .val (.int p1), .val (.int p2), .val (.int p3)] [(.int (1 : Int32)), (.ref b14), (.ref b14), (.ref b13), (.ref b13)]))
        refine GoesH.by (fun t k => XS.iloadN X15.here hx rfl (hb hby d2_76) rfl k) ?_
        show GoesH Z EL1 p e below s _ _ _ (T15.setTop (mkF m 77 #[.val (.int p0), .val (.int p1), .val (.int p2), .val (.int p3)] [(.int p2), (.int (1 : Int32)), (.ref b14), (.ref b14), (.ref b13), (.ref b13)]))
        refine GoesH.by (fun t k => XS.i2c X15.here hx rfl (hb hby d2_77) rfl k) ?_
        show GoesH Z EL1 p e below s _ _ _ (T15.setTop (mkF m 78 #[.val (.int p0), .val (.int p1), .val (.int p2), .val (.int p3)] [(.int (p2.toUInt32.toUInt16.toUInt32.toInt32)), (.int (1 : Int32)), (.ref b14), (.ref b14), (.ref b13), (.ref b13)]))
        have P16 : Arv Z h15 b14 ka14 .char (3 : Int32) [(.int p1), (.int (0 : Int32))] (.int (0 : Int32)) := V15.pad (pad_rep [(.int p1)] (.int (0 : Int32)) 1)
        obtain ⟨ca16, A16, qa16, S16, M16, H16, U16⟩ := id P16
        obtain ⟨T16, h16, X16, e16, W16, st16⟩ := stC X15 hx hZ e15 A16 (j := (1 : Int32)) (inb_of S16 ⟨by decide, by decide⟩) (g := (mkF m 78 #[.val (.int p0), .val (.int p1), .val (.int p2), .val (.int p3)] [(.int (p2.toUInt32.toUInt16.toUInt32.toInt32)), (.int (1 : Int32)), (.ref b14), (.ref b14), (.ref b13), (.ref b13)])) rfl rfl (hb hby d2_78)
        refine GoesH.by (fun t k => st16 t k) ?_
        show GoesH Z EL1 p e below s _ _ _ (T16.setTop (mkF m 79 #[.val (.int p0), .val (.int p1), .val (.int p2), .val (.int p3)] [(.ref b14), (.ref b13), (.ref b13)]))
        have N16 := Fr.snoc X16 N15 ge_b14
        have hCf146 := CHr.wr W16 f137 f138.1
        have f147 := hCf146.safe f143.lt f136
        have f148 := hCf146.safe V15.lt f137
        have f149 := f138.trans hCf146
        have f150 := f139.wr W16 ge_b14
        have f151 := f140.wr W16 (Or.inr sz_b14)
        have f152 := Nat.le_trans f141 (Keep.of_wr W16).1
        have f153 := Nat.le_trans f142 (Keep.of_wr W16).1
        have f154 := f143.wr W16
        have f155 := f144.other W16 (Or.inl ne_b13_b14_f124)
        have f156 := f145.other W16 (Or.inl ne_b13_b14_f124)
        have V16 : Arv Z h16 b14 ka14 .char (3 : Int32) [(.int p1), (.int (nar .char (p2.toUInt32.toUInt16.toUInt32.toInt32)))] (.int (0 : Int32)) := Arv.set A16 qa16 S16 M16 H16 U16 (fits_nar_char _) W16 1 rfl (Nat.le_of_ble_eq_true rfl)
        rw [own_char hp2] at V16
        refine GoesH.by (fun t k => XS.dup X16.here hx rfl (hb hby d2_79) rfl rfl k) ?_
        show GoesH Z EL1 p e below s _ _ _ (T16.setTop (mkF m 80 #[.val (.int p0), .val (.int p1), .val (.int p2), .val (.int p3)] [(.ref b14), (.ref b14), (.ref b13), (.ref b13)]))
        refine GoesH.by (fun t k => XS.iconst X16.here hx rfl (hb hby d2_80) k) ?_
        show GoesH Z EL1 p e below s _ _ _ (T16.setTop (mkF m 81 #[.val (.int p0), .val (.int p1), .val (.int p2), .val (.int p3)] [(.int (2 : Int32)), (.ref b14), (.ref b14), (.ref b13), (.ref b13)]))
        refine GoesH.by (fun t k => XS.iloadN X16.here hx rfl (hb hby d2_81) rfl k) ?_
        show GoesH Z EL1 p e below s _ _ _ (T16.setTop (mkF m 82 #[.val (.int p0), .val (.int p1), .val (.int p2), .val (.int p3)] [(.int p3), (.int (2 : Int32)), (.ref b14), (.ref b14), (.ref b13), (.ref b13)]))
        refine GoesH.by (fun t k => XS.i2c X16.here hx rfl (hb hby d2_82) rfl k) ?_
        show GoesH Z EL1 p e below s _ _ _ (T16.setTop (mkF m 83 #[.val (.int p0), .val (.int p1), .val (.int p2), .val (.int p3)] [(.int (p3.toUInt32.toUInt16.toUInt32.toInt32)), (.int (2 : Int32)), (.ref b14), (.ref b14), (.ref b13), (.ref b13)]))
        have P17 : Arv Z h16 b14 ka14 .char (3 : Int32) [(.int p1), (.int p2), (.int (0 : Int32))] (.int (0 : Int32)) := V16.pad (pad_rep [(.int p1), (.int p2)] (.int (0 : Int32)) 1)
        obtain ⟨ca17, A17, qa17, S17, M17, H17, U17⟩ := id P17
        obtain ⟨T17, h17, X17, e17, W17, st17⟩ := stC X16 hx hZ e16 A17 (j := (2 : Int32)) (inb_of S17 ⟨by decide, by decide⟩) (g := (mkF m 83 #[.val (.int p0), .val (.int p1), .val (.int p2), .val (.int p3)] [(.int (p3.toUInt32.toUInt16.toUInt32.toInt32)), (.int (2 : Int32)), (.ref b14), (.ref b14), (.ref b13), (.ref b13)])) rfl rfl (hb hby d2_83)
        refine GoesH.by (fun t k => st17 t k) ?_
        show GoesH Z EL1 p e below s _ _ _ (T17.setTop (mkF m 84 #[.val (.int p0), .val (.int p1), .val (.int p2), .val (.int p3)] [(.ref b14), (.ref b13), (.ref b13)]))
        have N17 := Fr.snoc X17 N16 ge_b14
        have hCf157 := CHr.wr W17 f148 f149.1
        have f158 := hCf157.safe f154.lt f147
        have f159 := hCf157.safe V16.lt f148
        have f160 := f149.trans hCf157
        have f161 := f150.wr W17 ge_b14
        have f162 := f151.wr W17 (Or.inr sz_b14)
        have f163 := Nat.le_trans f152 (Keep.of_wr W17).1
        have f164 := Nat.le_trans f153 (Keep.of_wr W17).1
        have f165 := f154.wr W17
        have f166 := f155.other W17 (Or.inl ne_b13_b14_f124)
        have f167 := f156.other W17 (Or.inl ne_b13_b14_f124)
        have V17 : Arv Z h17 b14 ka14 .char (3 : Int32) [(.int p1), (.int p2), (.int (nar .char (p3.toUInt32.toUInt16.toUInt32.toInt32)))] (.int (0 : Int32)) := Arv.set A17 qa17 S17 M17 H17 U17 (fits_nar_char _) W17 2 rfl (Nat.le_of_ble_eq_true rfl)
        rw [own_char hp3] at V17
        have hp_ : ∀ c ∈ ([p1, p2, p3] : List Int32), ¬ c < 0 ∧ ¬ (255 : Int32) < c := List.forall_mem_cons.2 ⟨hp1, List.forall_mem_cons.2 ⟨hp2, List.forall_mem_cons.2 ⟨hp3, List.forall_mem_nil _⟩⟩⟩
        obtain ⟨_, _, ⟨T18, L18, k18, n18⟩, -, X18, ⟨Lc18, hQ18, l18, y18, z18⟩, st18⟩ := X17.specialBack hx (y := (⟨"java/lang/String", "<init>", "([C)V"⟩ : MethodName)) rfl hown (mvT hZ (hw _ (List.mem_of_getElem? (i := 11) rfl))) (mvT hZ (hw _ (List.mem_of_getElem? (i := 12) rfl))) (mvT hZ (hw _ (List.mem_of_getElem? (i := 13) rfl))) (by decide) (StrChars.Road.backV (W := 1) hZ hws (kI := 4) (hw _ (List.mem_of_getElem? (i := 8) rfl)) (cs := ([p1, p2, p3] : List Int32)) (bs := (([p1, p2, p3] : List Int32)).map (fun c => c.toInt8.toInt32)) (n := 3) ge_b13 f163 f165 f166 f167 V17 (SC.ext f161.2) hz rfl rfl (by decide) (by decide) hp_ rfl (by decide) (by decide)) (g := (mkF m 84 #[.val (.int p0), .val (.int p1), .val (.int p2), .val (.int p3)] [(.ref b14), (.ref b13), (.ref b13)])) rfl (by rw [hml]; rfl) (Steps.refl _) (a := b13) (argsL := [(.ref b14)]) (rest := [(.ref b13)]) (lenOf pd_3 rfl) rfl (by show 2 * 0 + _ ≤ _; exact Nat.le_of_eq rfl) (hb hby d2_84) (fun _ _ => ⟨rfl, e17, (by decide : 2 + 1 ≤ _), (by decide : 7 + 3 ≤ _)⟩)
        dsimp only [Pt.U, Pt.locs, Pt.cells, Pt.slots] at X18 l18 y18 z18 st18 hQ18
        rw [l18, y18, z18] at X18
        obtain ⟨rfl, N18q, K18, Eq18, Fc18, t18, kb18, -, -, -, Fv18, Av18⟩ := hQ18
        have N18 := Fr.app N17 N18q
        refine GoesH.by (fun t k => st18.trans k) ?_
        show GoesH Z EL1 p e below s _ _ _ (T18.setTop (mkF m 87 #[.val (.int p0), .val (.int p1), .val (.int p2), .val (.int p3)] [(.ref b13)]))
        have hCf168 := CHr.keep K18 (allS f158 all0) f160.1
        have f169 := hCf168.safe f165.lt f158
        have f170 := hCf168.safe V17.lt f159
        have f171 := f160.trans hCf168
        have OLD_K18 := f161.keep K18 (allS ge_b13 all0)
        have f172 := f162.trans K18 (allS (Or.inr sz_b13) all0)
        have f173 := Nat.le_trans f163 K18.1
        have f174 := Nat.le_trans f164 K18.1
        have f175 := f165.keep K18
        have f176 := V17.keep K18 (ninS (Ne.symm ne_b13_b14_f124) nin0)
        have hcs : own_cs p0 p1 p2 p3 = [p1, p2, p3] := by simp [own_cs, hc0, hc1, hc2]
        obtain ⟨cb1, cb2⟩ := own_csb (n := p0) hp1 hp2 hp3
        exact GoesH.retA X18 hS (by exact f174) hZ hEL (by rw [hh]; exact f171) hx Bd.returns rfl rfl (hb hby d2_87) hlk (by exact ⟨b13, rfl, N18, f172, Eq18, Fc18, t18, kb18, _, _, Fv18, Av18, by rw [hcs]; exact StrChars.Road.codOf (n := 3) rfl (by rw [← hcs]; exact fun c hc => (cb1 c hc).2), own_up cb1, cb2⟩) (by decide) (by decide)
def Q10 (a1 : Addr) (h0 : Heap) (n0 : Nat) (v : Option Value) (h : Heap) (L : List Loc) : Prop := v = some (.ref a1) ∧ Fr n0 L ∧ h = h0
theorem d10_0 : decode jdk_31_method_10_code 0 = .ok (.aload_n 0, 1) := by decide +kernel
theorem d10_1 : decode jdk_31_method_10_code 1 = .ok (.ifnonnull 11, 3) := by decide +kernel
theorem d10_4 : decode jdk_31_method_10_code 4 = .ok (.new 84, 3) := by decide +kernel
theorem d10_7 : decode jdk_31_method_10_code 7 = .ok (.dup, 1) := by decide +kernel
theorem d10_8 : decode jdk_31_method_10_code 8 = .ok (.invokespecial 86, 3) := by decide +kernel
theorem d10_11 : decode jdk_31_method_10_code 11 = .ok (.athrow, 1) := by decide +kernel
theorem d10_12 : decode jdk_31_method_10_code 12 = .ok (.aload_n 0, 1) := by decide +kernel
theorem d10_13 : decode jdk_31_method_10_code 13 = .ok (.areturn, 1) := by decide +kernel
theorem pn_2 : plainName "java/util/Objects" = true := by first | (simp [plainName, overriddenIn]; done) | decide +kernel
theorem ef_rm10 (m : MethodId) (x0 : Addr) : entryFrame m #[(.ref x0)] 1 = mkF m 0 #[.val (.ref x0)] [] := by first | (simp [entryFrame, mkF, argsToLocals, Value.category]; done) | rfl
set_option maxRecDepth 65536 in
set_option maxHeartbeats 40000000 in
theorem rm10 (l : Launch) (Z : State) (a0 : Array Value) (hw : ∀ d ∈ tables_1, d.before a0 Z = true) (ws : List Jvm.Cond) (a1 : Addr) (h0 : Heap) (n0 : Nat) (Z0 : n0 ≤ h0.size)  :
    MetFree l (⟨"java/util/Objects", "requireNonNull", "(Ljava/lang/Object;)Ljava/lang/Object;"⟩ : MethodName) (head1 (Jvm.Cond.code (⟨"java/util/Objects", "requireNonNull", "(Ljava/lang/Object;)Ljava/lang/Object;"⟩ : MethodName) jdk_31_method_10_code 1 (some (.object "java/lang/Object")) :: ws) ({ frames := 0, cells := 0, slots := 0, locals := 0 } : Room)) (fun a U => a = #[(.ref a1)] ∧ Z.Warmed39 U.vm ∧ U.heap = h0) (fun _ _ _ _ _ => True) (fun _ U o U' => ∃ v L, o = .returned v ∧ (Q10 a1 h0 n0) v U'.heap L ∧ FrameEnd U o U' L ({ frames := 0, cells := 0, slots := 0, locals := 0 } : Room).cells ({ frames := 0, cells := 0, slots := 0, locals := 0 } : Room).slots) := by
  refine MetFree.of_bodySF (plainFor_of_name pn_2) hisR ?_
  intro p e s m args below meth c s₁ Bd hml0 hP hK
  obtain ⟨rfl, hZ, hh⟩ := hP
  have hx := Bd.exec
  have hby := Bd.bytes
  have hlk : meth.locks = false := BodyLoose.notSynchronized Bd
  have hml : c.maxLocals = 1 := hml0
  have hown : s.vm.findClass "java/util/Objects" = some m.cls := findClass_of_methodNamed Bd.named
  have hnm := (name_of_methodNamed Bd.named Bd.method).1
  have X0 : Stand p l e ({ frames := 0, cells := 0, slots := 0, locals := 0 } : Room) s m #[(.ref a1)] below meth c s₁ [] 0 0 := Stand.of_body Bd
  have e0 : s₁.heap = h0 := by rw [← hh, Bd.state]; rfl
  have N0 := Fr.nil n0
  show Goes p e below s (Q10 a1 h0 n0) ({ frames := 0, cells := 0, slots := 0, locals := 0 } : Room).cells ({ frames := 0, cells := 0, slots := 0, locals := 0 } : Room).slots (s₁.setTop (entryFrame m #[(.ref a1)] 1))
  refine Goes.by (fun t k => castTop (ef_rm10 m a1) k) ?_
  show Goes p e below s _ _ _ (s₁.setTop (mkF m 0 #[.val (.ref a1)] []))
  refine Goes.by (fun t k => XS.aloadN X0.here hx rfl (hb hby d10_0) rfl rfl k) ?_
  show Goes p e below s _ _ _ (s₁.setTop (mkF m 1 #[.val (.ref a1)] [(.ref a1)]))
  refine Goes.by (fun t k => XS.ifnonnullYes X0.here hx rfl (pc0 := 1) (pc' := 12) rfl (hb hby d10_1) rfl (by decide) (by decide) k) ?_
  show Goes p e below s _ _ _ (s₁.setTop (mkF m 12 #[.val (.ref a1)] []))
  refine Goes.by (fun t k => XS.aloadN X0.here hx rfl (hb hby d10_12) rfl rfl k) ?_
  show Goes p e below s _ _ _ (s₁.setTop (mkF m 13 #[.val (.ref a1)] [(.ref a1)]))
  exact Goes.retA X0 hx Bd.returns rfl rfl (hb hby d10_13) hlk (by rw [e0]; exact ⟨rfl, N0, rfl⟩) (by decide) (by decide)
def Q9 (Z : State) (a1 i1 t1 : Addr) (h0 : Heap) (n0 : Nat) (v : Option Value) (h : Heap) (L : List Loc) : Prop := v = none ∧ Fr n0 L ∧ Keep h0 h [a1] ∧ Exa Z h a1 "com/example/diogenes/diogenes/format/Topic" ∧ Fld Z h a1 "com/example/diogenes/diogenes/format/Topic" "id" "Ljava/lang/String;" (.ref i1) ∧ Fld Z h a1 "com/example/diogenes/diogenes/format/Topic" "text" "Ljava/lang/String;" (.ref t1)
theorem d9_0 : decode prog_19_method_1_code 0 = .ok (.aload_n 0, 1) := by decide +kernel
theorem d9_1 : decode prog_19_method_1_code 1 = .ok (.invokespecial 1, 3) := by decide +kernel
theorem d9_4 : decode prog_19_method_1_code 4 = .ok (.aload_n 0, 1) := by decide +kernel
theorem d9_5 : decode prog_19_method_1_code 5 = .ok (.aload_n 1, 1) := by decide +kernel
theorem d9_6 : decode prog_19_method_1_code 6 = .ok (.invokestatic 7, 3) := by decide +kernel
theorem d9_9 : decode prog_19_method_1_code 9 = .ok (.checkcast 13, 3) := by decide +kernel
theorem d9_12 : decode prog_19_method_1_code 12 = .ok (.putfield 15, 3) := by decide +kernel
theorem d9_15 : decode prog_19_method_1_code 15 = .ok (.aload_n 0, 1) := by decide +kernel
theorem d9_16 : decode prog_19_method_1_code 16 = .ok (.aload_n 2, 1) := by decide +kernel
theorem d9_17 : decode prog_19_method_1_code 17 = .ok (.invokestatic 7, 3) := by decide +kernel
theorem d9_20 : decode prog_19_method_1_code 20 = .ok (.checkcast 13, 3) := by decide +kernel
theorem d9_23 : decode prog_19_method_1_code 23 = .ok (.putfield 21, 3) := by decide +kernel
theorem d9_26 : decode prog_19_method_1_code 26 = .ok (.return_, 1) := by decide +kernel
theorem pn_3 : plainName "com/example/diogenes/diogenes/format/Topic" = true := by first | (simp [plainName, overriddenIn]; done) | decide +kernel
theorem ef_rm9 (m : MethodId) (x0 : Addr) (x1 : Addr) (x2 : Addr) : entryFrame m #[(.ref x0), (.ref x1), (.ref x2)] 3 = mkF m 0 #[.val (.ref x0), .val (.ref x1), .val (.ref x2)] [] := by first | (simp [entryFrame, mkF, argsToLocals, Value.category]; done) | rfl
set_option maxRecDepth 65536 in
set_option maxHeartbeats 40000000 in
theorem rm9 (l : Launch) (Z : State) (a0 : Array Value) (hw : ∀ d ∈ tables_1, d.before a0 Z = true) (ws : List Jvm.Cond) (a1 i1 t1 : Addr) (h0 : Heap) (n0 : Nat) (Z0 : n0 ≤ h0.size) (EA : Exa Z h0 a1 "com/example/diogenes/diogenes/format/Topic") (FI : Fld Z h0 a1 "com/example/diogenes/diogenes/format/Topic" "id" "Ljava/lang/String;" .null) (FT : Fld Z h0 a1 "com/example/diogenes/diogenes/format/Topic" "text" "Ljava/lang/String;" .null) (gea : n0 ≤ a1) (EI : Exa Z h0 i1 "java/lang/String") (ET : Exa Z h0 t1 "java/lang/String") :
    MetFree l (⟨"com/example/diogenes/diogenes/format/Topic", "<init>", "(Ljava/lang/String;Ljava/lang/String;)V"⟩ : MethodName) (head1 (Jvm.Cond.code (⟨"com/example/diogenes/diogenes/format/Topic", "<init>", "(Ljava/lang/String;Ljava/lang/String;)V"⟩ : MethodName) prog_19_method_1_code 3 none :: ws) ({ frames := 1, cells := 0, slots := 0, locals := 14 } : Room)) (fun a U => a = #[(.ref a1), (.ref i1), (.ref t1)] ∧ Z.Warmed39 U.vm ∧ U.heap = h0) (fun _ _ _ _ _ => True) (fun _ U o U' => ∃ v L, o = .returned v ∧ (Q9 Z a1 i1 t1 h0 n0) v U'.heap L ∧ FrameEnd U o U' L ({ frames := 1, cells := 0, slots := 0, locals := 14 } : Room).cells ({ frames := 1, cells := 0, slots := 0, locals := 14 } : Room).slots) := by
  refine MetFree.of_bodySF (plainFor_of_name pn_3) hisR ?_
  intro p e s m args below meth c s₁ Bd hml0 hP hK
  obtain ⟨rfl, hZ, hh⟩ := hP
  have hx := Bd.exec
  have hby := Bd.bytes
  have hlk : meth.locks = false := BodyLoose.notSynchronized Bd
  have hml : c.maxLocals = 3 := hml0
  have hown : s.vm.findClass "com/example/diogenes/diogenes/format/Topic" = some m.cls := findClass_of_methodNamed Bd.named
  have hnm := (name_of_methodNamed Bd.named Bd.method).1
  have X0 : Stand p l e ({ frames := 1, cells := 0, slots := 0, locals := 14 } : Room) s m #[(.ref a1), (.ref i1), (.ref t1)] below meth c s₁ [] 0 0 := Stand.of_body Bd
  have e0 : s₁.heap = h0 := by rw [← hh, Bd.state]; rfl
  have N0 := Fr.nil n0
  show Goes p e below s (Q9 Z a1 i1 t1 h0 n0) ({ frames := 1, cells := 0, slots := 0, locals := 14 } : Room).cells ({ frames := 1, cells := 0, slots := 0, locals := 14 } : Room).slots (s₁.setTop (entryFrame m #[(.ref a1), (.ref i1), (.ref t1)] 3))
  refine Goes.by (fun t k => castTop (ef_rm9 m a1 i1 t1) k) ?_
  show Goes p e below s _ _ _ (s₁.setTop (mkF m 0 #[.val (.ref a1), .val (.ref i1), .val (.ref t1)] []))
  have KC0 : Keep h0 h0 [a1] := Keep.refl _ _
  refine Goes.by (fun t k => XS.aloadN X0.here hx rfl (hb hby d9_0) rfl rfl k) ?_
  show Goes p e below s _ _ _ (s₁.setTop (mkF m 1 #[.val (.ref a1), .val (.ref i1), .val (.ref t1)] [(.ref a1)]))
  obtain ⟨T1, X1, e1, st1⟩ := initO X0 hx hZ hown (hw _ (List.mem_of_getElem? (i := 46) rfl)) (hw _ (List.mem_of_getElem? (i := 19) rfl)) (hw _ (List.mem_of_getElem? (i := 20) rfl)) e0 (g := (mkF m 1 #[.val (.ref a1), .val (.ref i1), .val (.ref t1)] [(.ref a1)])) rfl (by rw [hml]; rfl) rfl (hb hby d9_1) (by decide) (W := 0) (by show 2 * 0 + _ ≤ _; exact Nat.le_of_eq rfl) (by decide)
  refine Goes.by (fun t k => st1 t k) ?_
  show Goes p e below s _ _ _ (T1.setTop (mkF m 4 #[.val (.ref a1), .val (.ref i1), .val (.ref t1)] []))
  refine Goes.by (fun t k => XS.aloadN X1.here hx rfl (hb hby d9_4) rfl rfl k) ?_
  show Goes p e below s _ _ _ (T1.setTop (mkF m 5 #[.val (.ref a1), .val (.ref i1), .val (.ref t1)] [(.ref a1)]))
  refine Goes.by (fun t k => XS.aloadN X1.here hx rfl (hb hby d9_5) rfl rfl k) ?_
  show Goes p e below s _ _ _ (T1.setTop (mkF m 6 #[.val (.ref a1), .val (.ref i1), .val (.ref t1)] [(.ref i1), (.ref a1)]))
  obtain ⟨_, _, ⟨T2, L2, k2, n2⟩, -, X2, ⟨Lc2, hQ2, l2, y2, z2⟩, st2⟩ := Jvm.LawKit.callS X1 hx (y := (⟨"java/util/Objects", "requireNonNull", "(Ljava/lang/Object;)Ljava/lang/Object;"⟩ : MethodName)) hown (mvT hZ (hw _ (List.mem_of_getElem? (i := 47) rfl))) (mvT hZ (hw _ (List.mem_of_getElem? (i := 48) rfl))) (mvT hZ (hw _ (List.mem_of_getElem? (i := 49) rfl))) (mvT hZ (hw _ (List.mem_of_getElem? (i := 50) rfl))) (by decide) (backOf (W := 1) (rm10 l Z a0 hw [] i1 _ n0 Z0) hZ (hw _ (List.mem_of_getElem? (i := 50) rfl)) (hw _ (List.mem_of_getElem? (i := 49) rfl)) (by decide) (by decide)) (g := (mkF m 6 #[.val (.ref a1), .val (.ref i1), .val (.ref t1)] [(.ref i1), (.ref a1)])) rfl (by rw [hml]; rfl) (argsL := [(.ref i1)]) (rest := [(.ref a1)]) (lenOf pd_10 rfl) rfl (by show 2 * 0 + _ ≤ _; exact Nat.le_of_eq rfl) (hb hby d9_6) (fun _ _ => ⟨rfl, e1, (by decide : 0 + 0 ≤ _), (by decide : 0 + 0 ≤ _)⟩)
  dsimp only [Pt.U, Pt.locs, Pt.cells, Pt.slots] at X2 l2 y2 z2 st2 hQ2
  rw [l2, y2, z2] at X2
  obtain ⟨rfl, N2q, hh2⟩ := hQ2
  have N2 := Fr.app N0 N2q
  refine Goes.by (fun t k => st2 _ k) ?_
  show Goes p e below s _ _ _ (T2.setTop (mkF m 9 #[.val (.ref a1), .val (.ref i1), .val (.ref t1)] [(.ref i1), (.ref a1)]))
  have KK2 : Keep (h0) T2.heap [] := by rw [hh2]; exact Keep.refl _ _
  have f1 := KC0.trans KK2 all0
  have f2 := Nat.le_trans Z0 KK2.1
  have f3 := EA.keep KK2
  have f4 := FI.keep KK2 nin0
  have f5 := FT.keep KK2 nin0
  have f6 := EI.keep KK2
  have f7 := ET.keep KK2
  obtain ⟨T3, X3, e3, st3⟩ := castY X2 hx hZ hown (hw _ (List.mem_of_getElem? (i := 51) rfl)) rfl (Ins.self f6) (g := (mkF m 9 #[.val (.ref a1), .val (.ref i1), .val (.ref t1)] [(.ref i1), (.ref a1)])) rfl rfl (hb hby d9_9)
  refine Goes.by (fun t k => st3 t k) ?_
  show Goes p e below s _ _ _ (T3.setTop (mkF m 12 #[.val (.ref a1), .val (.ref i1), .val (.ref t1)] [(.ref i1), (.ref a1)]))
  obtain ⟨T4, h4, X4, e4, W4, st4⟩ := putF X3 hx hZ hown (host := "") (Or.inl (hw _ (List.mem_of_getElem? (i := 52) rfl))) Via.refl e3 (f4) (f3) (Or.inr ⟨(hw _ (List.mem_of_getElem? (i := 53) rfl)), rfl, hnm⟩) (hw _ (List.mem_of_getElem? (i := 41) rfl)) (ty := (.object "java/lang/String")) (by decide) rfl rfl (g := (mkF m 12 #[.val (.ref a1), .val (.ref i1), .val (.ref t1)] [(.ref i1), (.ref a1)])) rfl rfl (hb hby d9_12)
  refine Goes.by (fun t k => st4 t k) ?_
  have N4 := Fr.snoc X4 N2 (gea)
  show Goes p e below s _ _ _ (T4.setTop (mkF m 15 #[.val (.ref a1), .val (.ref i1), .val (.ref t1)] []))
  have f8 := f1.wr W4 (Or.inl (List.mem_of_getElem? (i := 0) rfl))
  have f9 := Nat.le_trans f2 (Keep.of_wr W4).1
  have f10 := f3.wr W4
  have f11 := f4.same W4
  have f12 := f5.other W4 (Or.inr (slot_ne (Or.inr (hw _ (List.mem_of_getElem? (i := 55) rfl))) (Or.inr (hw _ (List.mem_of_getElem? (i := 53) rfl))) (by decide) (t := (.object "java/lang/String")) (t' := (.object "java/lang/String")) (by decide) (by decide)))
  have f13 := f6.wr W4
  have f14 := f7.wr W4
  refine Goes.by (fun t k => XS.aloadN X4.here hx rfl (hb hby d9_15) rfl rfl k) ?_
  show Goes p e below s _ _ _ (T4.setTop (mkF m 16 #[.val (.ref a1), .val (.ref i1), .val (.ref t1)] [(.ref a1)]))
  refine Goes.by (fun t k => XS.aloadN X4.here hx rfl (hb hby d9_16) rfl rfl k) ?_
  show Goes p e below s _ _ _ (T4.setTop (mkF m 17 #[.val (.ref a1), .val (.ref i1), .val (.ref t1)] [(.ref t1), (.ref a1)]))
  obtain ⟨_, _, ⟨T5, L5, k5, n5⟩, -, X5, ⟨Lc5, hQ5, l5, y5, z5⟩, st5⟩ := Jvm.LawKit.callS X4 hx (y := (⟨"java/util/Objects", "requireNonNull", "(Ljava/lang/Object;)Ljava/lang/Object;"⟩ : MethodName)) hown (mvT hZ (hw _ (List.mem_of_getElem? (i := 47) rfl))) (mvT hZ (hw _ (List.mem_of_getElem? (i := 48) rfl))) (mvT hZ (hw _ (List.mem_of_getElem? (i := 49) rfl))) (mvT hZ (hw _ (List.mem_of_getElem? (i := 50) rfl))) (by decide) (backOf (W := 1) (rm10 l Z a0 hw [] t1 _ n0 f9) hZ (hw _ (List.mem_of_getElem? (i := 50) rfl)) (hw _ (List.mem_of_getElem? (i := 49) rfl)) (by decide) (by decide)) (g := (mkF m 17 #[.val (.ref a1), .val (.ref i1), .val (.ref t1)] [(.ref t1), (.ref a1)])) rfl (by rw [hml]; rfl) (argsL := [(.ref t1)]) (rest := [(.ref a1)]) (lenOf pd_10 rfl) rfl (by show 2 * 0 + _ ≤ _; exact Nat.le_of_eq rfl) (hb hby d9_17) (fun _ _ => ⟨rfl, e4, (by decide : 0 + 0 ≤ _), (by decide : 0 + 0 ≤ _)⟩)
  dsimp only [Pt.U, Pt.locs, Pt.cells, Pt.slots] at X5 l5 y5 z5 st5 hQ5
  rw [l5, y5, z5] at X5
  obtain ⟨rfl, N5q, hh5⟩ := hQ5
  have N5 := Fr.app N4 N5q
  refine Goes.by (fun t k => st5 _ k) ?_
  show Goes p e below s _ _ _ (T5.setTop (mkF m 20 #[.val (.ref a1), .val (.ref i1), .val (.ref t1)] [(.ref t1), (.ref a1)]))
  have KK5 : Keep (h4) T5.heap [] := by rw [hh5]; exact Keep.refl _ _
  have f15 := f8.trans KK5 all0
  have f16 := Nat.le_trans f9 KK5.1
  have f17 := f10.keep KK5
  have f18 := f11.keep KK5 nin0
  have f19 := f12.keep KK5 nin0
  have f20 := f13.keep KK5
  have f21 := f14.keep KK5
  obtain ⟨T6, X6, e6, st6⟩ := castY X5 hx hZ hown (hw _ (List.mem_of_getElem? (i := 51) rfl)) rfl (Ins.self f21) (g := (mkF m 20 #[.val (.ref a1), .val (.ref i1), .val (.ref t1)] [(.ref t1), (.ref a1)])) rfl rfl (hb hby d9_20)
  refine Goes.by (fun t k => st6 t k) ?_
  show Goes p e below s _ _ _ (T6.setTop (mkF m 23 #[.val (.ref a1), .val (.ref i1), .val (.ref t1)] [(.ref t1), (.ref a1)]))
  obtain ⟨T7, h7, X7, e7, W7, st7⟩ := putF X6 hx hZ hown (host := "") (Or.inl (hw _ (List.mem_of_getElem? (i := 54) rfl))) Via.refl e6 (f19) (f17) (Or.inr ⟨(hw _ (List.mem_of_getElem? (i := 55) rfl)), rfl, hnm⟩) (hw _ (List.mem_of_getElem? (i := 41) rfl)) (ty := (.object "java/lang/String")) (by decide) rfl rfl (g := (mkF m 23 #[.val (.ref a1), .val (.ref i1), .val (.ref t1)] [(.ref t1), (.ref a1)])) rfl rfl (hb hby d9_23)
  refine Goes.by (fun t k => st7 t k) ?_
  have N7 := Fr.snoc X7 N5 (gea)
  show Goes p e below s _ _ _ (T7.setTop (mkF m 26 #[.val (.ref a1), .val (.ref i1), .val (.ref t1)] []))
  have f22 := f15.wr W7 (Or.inl (List.mem_of_getElem? (i := 0) rfl))
  have f23 := Nat.le_trans f16 (Keep.of_wr W7).1
  have f24 := f17.wr W7
  have f25 := f18.other W7 (Or.inr (slot_ne (Or.inr (hw _ (List.mem_of_getElem? (i := 53) rfl))) (Or.inr (hw _ (List.mem_of_getElem? (i := 55) rfl))) (by decide) (t := (.object "java/lang/String")) (t' := (.object "java/lang/String")) (by decide) (by decide)))
  have f26 := f19.same W7
  have f27 := f20.wr W7
  have f28 := f21.wr W7
  exact Goes.retV X7 hx Bd.returns (hb hby d9_26) hlk (by rw [e7]; exact ⟨rfl, N7, f22, f24, f25, f26⟩) (by decide) (by decide)
abbrev OP (p q : Int32) : Prop := (p &&& 3) = (q &&& 3) ∧ ((p &&& 3) < 1 ∨ bb q 1 = 0) ∧ ((p &&& 3) < 2 ∨ bb q 2 = 0) ∧ ((p &&& 3) < 3 ∨ bb q 3 = 0)
def Q11 (p q : Int32) (h0 : Heap) (n0 : Nat) (v : Option Value) (h : Heap) (L : List Loc) : Prop := ∃ r : Int32, v = some (.int r) ∧ Fr n0 L ∧ h = h0 ∧ ((r = 1 ∧ OP p q) ∨ (r = 0 ∧ ¬ OP p q))
theorem d11_0 : decode method_4_code 0 = .ok (.iload_n 0, 1) := by decide +kernel
theorem d11_1 : decode method_4_code 1 = .ok (.iconst 3, 1) := by decide +kernel
theorem d11_2 : decode method_4_code 2 = .ok (.iand, 1) := by decide +kernel
theorem d11_3 : decode method_4_code 3 = .ok (.istore_n 2, 1) := by decide +kernel
theorem d11_4 : decode method_4_code 4 = .ok (.iload_n 2, 1) := by decide +kernel
theorem d11_5 : decode method_4_code 5 = .ok (.iload_n 1, 1) := by decide +kernel
theorem d11_6 : decode method_4_code 6 = .ok (.iconst 3, 1) := by decide +kernel
theorem d11_7 : decode method_4_code 7 = .ok (.iand, 1) := by decide +kernel
theorem d11_8 : decode method_4_code 8 = .ok (.if_icmp .eq 5, 3) := by decide +kernel
theorem d11_11 : decode method_4_code 11 = .ok (.iconst 0, 1) := by decide +kernel
theorem d11_12 : decode method_4_code 12 = .ok (.ireturn, 1) := by decide +kernel
theorem d11_13 : decode method_4_code 13 = .ok (.iload_n 2, 1) := by decide +kernel
theorem d11_14 : decode method_4_code 14 = .ok (.iconst 1, 1) := by decide +kernel
theorem d11_15 : decode method_4_code 15 = .ok (.if_icmp .lt 11, 3) := by decide +kernel
theorem d11_18 : decode method_4_code 18 = .ok (.iload_n 1, 1) := by decide +kernel
theorem d11_19 : decode method_4_code 19 = .ok (.iconst 1, 1) := by decide +kernel
theorem d11_20 : decode method_4_code 20 = .ok (.invokestatic 7, 3) := by decide +kernel
theorem d11_23 : decode method_4_code 23 = .ok (.ifCond .ne 7, 3) := by decide +kernel
theorem d11_26 : decode method_4_code 26 = .ok (.iconst 1, 1) := by decide +kernel
theorem d11_27 : decode method_4_code 27 = .ok (.goto 4, 3) := by decide +kernel
theorem d11_30 : decode method_4_code 30 = .ok (.iconst 0, 1) := by decide +kernel
theorem d11_31 : decode method_4_code 31 = .ok (.istore_n 3, 1) := by decide +kernel
theorem d11_32 : decode method_4_code 32 = .ok (.iload_n 2, 1) := by decide +kernel
theorem d11_33 : decode method_4_code 33 = .ok (.iconst 2, 1) := by decide +kernel
theorem d11_34 : decode method_4_code 34 = .ok (.if_icmp .lt 11, 3) := by decide +kernel
theorem d11_37 : decode method_4_code 37 = .ok (.iload_n 1, 1) := by decide +kernel
theorem d11_38 : decode method_4_code 38 = .ok (.iconst 2, 1) := by decide +kernel
theorem d11_39 : decode method_4_code 39 = .ok (.invokestatic 7, 3) := by decide +kernel
theorem d11_42 : decode method_4_code 42 = .ok (.ifCond .ne 7, 3) := by decide +kernel
theorem d11_45 : decode method_4_code 45 = .ok (.iconst 1, 1) := by decide +kernel
theorem d11_46 : decode method_4_code 46 = .ok (.goto 4, 3) := by decide +kernel
theorem d11_49 : decode method_4_code 49 = .ok (.iconst 0, 1) := by decide +kernel
theorem d11_50 : decode method_4_code 50 = .ok (.istore 4, 2) := by decide +kernel
theorem d11_52 : decode method_4_code 52 = .ok (.iload_n 2, 1) := by decide +kernel
theorem d11_53 : decode method_4_code 53 = .ok (.iconst 3, 1) := by decide +kernel
theorem d11_54 : decode method_4_code 54 = .ok (.if_icmp .lt 11, 3) := by decide +kernel
theorem d11_57 : decode method_4_code 57 = .ok (.iload_n 1, 1) := by decide +kernel
theorem d11_58 : decode method_4_code 58 = .ok (.iconst 3, 1) := by decide +kernel
theorem d11_59 : decode method_4_code 59 = .ok (.invokestatic 7, 3) := by decide +kernel
theorem d11_62 : decode method_4_code 62 = .ok (.ifCond .ne 7, 3) := by decide +kernel
theorem d11_65 : decode method_4_code 65 = .ok (.iconst 1, 1) := by decide +kernel
theorem d11_66 : decode method_4_code 66 = .ok (.goto 4, 3) := by decide +kernel
theorem d11_69 : decode method_4_code 69 = .ok (.iconst 0, 1) := by decide +kernel
theorem d11_70 : decode method_4_code 70 = .ok (.istore 5, 2) := by decide +kernel
theorem d11_72 : decode method_4_code 72 = .ok (.iload_n 3, 1) := by decide +kernel
theorem d11_73 : decode method_4_code 73 = .ok (.ifCond .eq 17, 3) := by decide +kernel
theorem d11_76 : decode method_4_code 76 = .ok (.iload 4, 2) := by decide +kernel
theorem d11_78 : decode method_4_code 78 = .ok (.ifCond .eq 12, 3) := by decide +kernel
theorem d11_81 : decode method_4_code 81 = .ok (.iload 5, 2) := by decide +kernel
theorem d11_83 : decode method_4_code 83 = .ok (.ifCond .eq 7, 3) := by decide +kernel
theorem d11_86 : decode method_4_code 86 = .ok (.iconst 1, 1) := by decide +kernel
theorem d11_87 : decode method_4_code 87 = .ok (.goto 4, 3) := by decide +kernel
theorem d11_90 : decode method_4_code 90 = .ok (.iconst 0, 1) := by decide +kernel
theorem d11_91 : decode method_4_code 91 = .ok (.ireturn, 1) := by decide +kernel
theorem ef_rm11 (m : MethodId) (x0 : Int32) (x1 : Int32) : entryFrame m #[(.int x0), (.int x1)] 6 = mkF m 0 #[.val (.int x0), .val (.int x1), .unset, .unset, .unset, .unset] [] := by first | (simp [entryFrame, mkF, argsToLocals, Value.category]; done) | rfl
set_option maxRecDepth 65536 in
set_option maxHeartbeats 40000000 in
theorem rm11 (l : Launch) (Z : State) (a0 : Array Value) (hw : ∀ d ∈ tables_1, d.before a0 Z = true) (ws : List Jvm.Cond) (pp pq : Int32) (h0 : Heap) (n0 : Nat) (Z0 : n0 ≤ h0.size)  :
    MetFree l (⟨"com/example/diogenes/diogenes/format/TopicEqualsPinLaw", "same", "(II)Z"⟩ : MethodName) (head1 (Jvm.Cond.code (⟨"com/example/diogenes/diogenes/format/TopicEqualsPinLaw", "same", "(II)Z"⟩ : MethodName) method_4_code 6 (some .boolean) :: ws) ({ frames := 1, cells := 0, slots := 0, locals := 16 } : Room)) (fun a U => a = #[(.int pp), (.int pq)] ∧ Z.Warmed39 U.vm ∧ U.heap = h0) (fun _ _ _ _ _ => True) (fun _ U o U' => ∃ v L, o = .returned v ∧ (Q11 pp pq h0 n0) v U'.heap L ∧ FrameEnd U o U' L ({ frames := 1, cells := 0, slots := 0, locals := 16 } : Room).cells ({ frames := 1, cells := 0, slots := 0, locals := 16 } : Room).slots) := by
  refine MetFree.of_bodySF (plainFor_of_name pn_1) hisR ?_
  intro p e s m args below meth c s₁ Bd hml0 hP hK
  obtain ⟨rfl, hZ, hh⟩ := hP
  have hx := Bd.exec
  have hby := Bd.bytes
  have hlk : meth.locks = false := BodyLoose.notSynchronized Bd
  have hml : c.maxLocals = 6 := hml0
  have hown : s.vm.findClass "com/example/diogenes/diogenes/format/TopicEqualsPinLaw" = some m.cls := findClass_of_methodNamed Bd.named
  have hnm := (name_of_methodNamed Bd.named Bd.method).1
  have X0 : Stand p l e ({ frames := 1, cells := 0, slots := 0, locals := 16 } : Room) s m #[(.int pp), (.int pq)] below meth c s₁ [] 0 0 := Stand.of_body Bd
  have e0 : s₁.heap = h0 := by rw [← hh, Bd.state]; rfl
  have N0 := Fr.nil n0
  show Goes p e below s (Q11 pp pq h0 n0) ({ frames := 1, cells := 0, slots := 0, locals := 16 } : Room).cells ({ frames := 1, cells := 0, slots := 0, locals := 16 } : Room).slots (s₁.setTop (entryFrame m #[(.int pp), (.int pq)] 6))
  refine Goes.by (fun t k => castTop (ef_rm11 m pp pq) k) ?_
  show Goes p e below s _ _ _ (s₁.setTop (mkF m 0 #[.val (.int pp), .val (.int pq), .unset, .unset, .unset, .unset] []))
  refine Goes.by (fun t k => XS.iloadN X0.here hx rfl (hb hby d11_0) rfl k) ?_
  show Goes p e below s _ _ _ (s₁.setTop (mkF m 1 #[.val (.int pp), .val (.int pq), .unset, .unset, .unset, .unset] [(.int pp)]))
  refine Goes.by (fun t k => XS.iconst X0.here hx rfl (hb hby d11_1) k) ?_
  show Goes p e below s _ _ _ (s₁.setTop (mkF m 2 #[.val (.int pp), .val (.int pq), .unset, .unset, .unset, .unset] [(.int (3 : Int32)), (.int pp)]))
  refine Goes.by (fun t k => XS.iand X0.here hx rfl (hb hby d11_2) rfl k) ?_
  show Goes p e below s _ _ _ (s₁.setTop (mkF m 3 #[.val (.int pp), .val (.int pq), .unset, .unset, .unset, .unset] [(.int (pp &&& (3 : Int32)))]))
  refine Goes.by (fun t k => XS.istoreN X0.here hx rfl (hb hby d11_3) rfl (l' := #[.val (.int pp), .val (.int pq), .val (.int (pp &&& (3 : Int32))), .unset, .unset, .unset]) rfl k) ?_
  show Goes p e below s _ _ _ (s₁.setTop (mkF m 4 #[.val (.int pp), .val (.int pq), .val (.int (pp &&& (3 : Int32))), .unset, .unset, .unset] []))
  refine Goes.by (fun t k => XS.iloadN X0.here hx rfl (hb hby d11_4) rfl k) ?_
  show Goes p e below s _ _ _ (s₁.setTop (mkF m 5 #[.val (.int pp), .val (.int pq), .val (.int (pp &&& (3 : Int32))), .unset, .unset, .unset] [(.int (pp &&& (3 : Int32)))]))
  refine Goes.by (fun t k => XS.iloadN X0.here hx rfl (hb hby d11_5) rfl k) ?_
  show Goes p e below s _ _ _ (s₁.setTop (mkF m 6 #[.val (.int pp), .val (.int pq), .val (.int (pp &&& (3 : Int32))), .unset, .unset, .unset] [(.int pq), (.int (pp &&& (3 : Int32)))]))
  refine Goes.by (fun t k => XS.iconst X0.here hx rfl (hb hby d11_6) k) ?_
  show Goes p e below s _ _ _ (s₁.setTop (mkF m 7 #[.val (.int pp), .val (.int pq), .val (.int (pp &&& (3 : Int32))), .unset, .unset, .unset] [(.int (3 : Int32)), (.int pq), (.int (pp &&& (3 : Int32)))]))
  refine Goes.by (fun t k => XS.iand X0.here hx rfl (hb hby d11_7) rfl k) ?_
  show Goes p e below s _ _ _ (s₁.setTop (mkF m 8 #[.val (.int pp), .val (.int pq), .val (.int (pp &&& (3 : Int32))), .unset, .unset, .unset] [(.int (pq &&& (3 : Int32))), (.int (pp &&& (3 : Int32)))]))
  by_cases hl : (pp &&& (3 : Int32)) = (pq &&& (3 : Int32))
  · skip
    refine Goes.by (fun t k => XS.icmpYes X0.here hx rfl (pc0 := 8) (pc' := 13) rfl (hb hby d11_8) rfl (teq (hl)).1 (by decide) (by decide) k) ?_
    show Goes p e below s _ _ _ (s₁.setTop (mkF m 13 #[.val (.int pp), .val (.int pq), .val (.int (pp &&& (3 : Int32))), .unset, .unset, .unset] []))
    rcases own_and3 pp with hp | hp | hp | hp
    · skip
      refine Goes.by (fun t k => XS.iloadN X0.here hx rfl (hb hby d11_13) rfl k) ?_
      show Goes p e below s _ _ _ (s₁.setTop (mkF m 14 #[.val (.int pp), .val (.int pq), .val (.int (pp &&& (3 : Int32))), .unset, .unset, .unset] [(.int (pp &&& (3 : Int32)))]))
      refine Goes.by (fun t k => XS.iconst X0.here hx rfl (hb hby d11_14) k) ?_
      show Goes p e below s _ _ _ (s₁.setTop (mkF m 15 #[.val (.int pp), .val (.int pq), .val (.int (pp &&& (3 : Int32))), .unset, .unset, .unset] [(.int (1 : Int32)), (.int (pp &&& (3 : Int32)))]))
      refine Goes.by (fun t k => XS.icmpYes X0.here hx rfl (pc0 := 15) (pc' := 26) rfl (hb hby d11_15) rfl (tlt (by rw [hp]; decide)).1 (by decide) (by decide) k) ?_
      show Goes p e below s _ _ _ (s₁.setTop (mkF m 26 #[.val (.int pp), .val (.int pq), .val (.int (pp &&& (3 : Int32))), .unset, .unset, .unset] []))
      refine Goes.by (fun t k => XS.iconst X0.here hx rfl (hb hby d11_26) k) ?_
      show Goes p e below s _ _ _ (s₁.setTop (mkF m 27 #[.val (.int pp), .val (.int pq), .val (.int (pp &&& (3 : Int32))), .unset, .unset, .unset] [(.int (1 : Int32))]))
      refine Goes.by (fun t k => XS.goto X0.here hx rfl (pc0 := 27) (pc' := 31) rfl (hb hby d11_27) (by decide) (by decide) k) ?_
      show Goes p e below s _ _ _ (s₁.setTop (mkF m 31 #[.val (.int pp), .val (.int pq), .val (.int (pp &&& (3 : Int32))), .unset, .unset, .unset] [(.int (1 : Int32))]))
      refine Goes.by (fun t k => XS.istoreN X0.here hx rfl (hb hby d11_31) rfl (l' := #[.val (.int pp), .val (.int pq), .val (.int (pp &&& (3 : Int32))), .val (.int (1 : Int32)), .unset, .unset]) rfl k) ?_
      show Goes p e below s _ _ _ (s₁.setTop (mkF m 32 #[.val (.int pp), .val (.int pq), .val (.int (pp &&& (3 : Int32))), .val (.int (1 : Int32)), .unset, .unset] []))
      refine Goes.by (fun t k => XS.iloadN X0.here hx rfl (hb hby d11_32) rfl k) ?_
      show Goes p e below s _ _ _ (s₁.setTop (mkF m 33 #[.val (.int pp), .val (.int pq), .val (.int (pp &&& (3 : Int32))), .val (.int (1 : Int32)), .unset, .unset] [(.int (pp &&& (3 : Int32)))]))
      refine Goes.by (fun t k => XS.iconst X0.here hx rfl (hb hby d11_33) k) ?_
      show Goes p e below s _ _ _ (s₁.setTop (mkF m 34 #[.val (.int pp), .val (.int pq), .val (.int (pp &&& (3 : Int32))), .val (.int (1 : Int32)), .unset, .unset] [(.int (2 : Int32)), (.int (pp &&& (3 : Int32)))]))
      refine Goes.by (fun t k => XS.icmpYes X0.here hx rfl (pc0 := 34) (pc' := 45) rfl (hb hby d11_34) rfl (tlt (by rw [hp]; decide)).1 (by decide) (by decide) k) ?_
      show Goes p e below s _ _ _ (s₁.setTop (mkF m 45 #[.val (.int pp), .val (.int pq), .val (.int (pp &&& (3 : Int32))), .val (.int (1 : Int32)), .unset, .unset] []))
      refine Goes.by (fun t k => XS.iconst X0.here hx rfl (hb hby d11_45) k) ?_
      show Goes p e below s _ _ _ (s₁.setTop (mkF m 46 #[.val (.int pp), .val (.int pq), .val (.int (pp &&& (3 : Int32))), .val (.int (1 : Int32)), .unset, .unset] [(.int (1 : Int32))]))
      refine Goes.by (fun t k => XS.goto X0.here hx rfl (pc0 := 46) (pc' := 50) rfl (hb hby d11_46) (by decide) (by decide) k) ?_
      show Goes p e below s _ _ _ (s₁.setTop (mkF m 50 #[.val (.int pp), .val (.int pq), .val (.int (pp &&& (3 : Int32))), .val (.int (1 : Int32)), .unset, .unset] [(.int (1 : Int32))]))
      refine Goes.by (fun t k => XS.istore X0.here hx rfl (hb hby d11_50) rfl (l' := #[.val (.int pp), .val (.int pq), .val (.int (pp &&& (3 : Int32))), .val (.int (1 : Int32)), .val (.int (1 : Int32)), .unset]) rfl k) ?_
      show Goes p e below s _ _ _ (s₁.setTop (mkF m 52 #[.val (.int pp), .val (.int pq), .val (.int (pp &&& (3 : Int32))), .val (.int (1 : Int32)), .val (.int (1 : Int32)), .unset] []))
      refine Goes.by (fun t k => XS.iloadN X0.here hx rfl (hb hby d11_52) rfl k) ?_
      show Goes p e below s _ _ _ (s₁.setTop (mkF m 53 #[.val (.int pp), .val (.int pq), .val (.int (pp &&& (3 : Int32))), .val (.int (1 : Int32)), .val (.int (1 : Int32)), .unset] [(.int (pp &&& (3 : Int32)))]))
      refine Goes.by (fun t k => XS.iconst X0.here hx rfl (hb hby d11_53) k) ?_
      show Goes p e below s _ _ _ (s₁.setTop (mkF m 54 #[.val (.int pp), .val (.int pq), .val (.int (pp &&& (3 : Int32))), .val (.int (1 : Int32)), .val (.int (1 : Int32)), .unset] [(.int (3 : Int32)), (.int (pp &&& (3 : Int32)))]))
      refine Goes.by (fun t k => XS.icmpYes X0.here hx rfl (pc0 := 54) (pc' := 65) rfl (hb hby d11_54) rfl (tlt (by rw [hp]; decide)).1 (by decide) (by decide) k) ?_
      show Goes p e below s _ _ _ (s₁.setTop (mkF m 65 #[.val (.int pp), .val (.int pq), .val (.int (pp &&& (3 : Int32))), .val (.int (1 : Int32)), .val (.int (1 : Int32)), .unset] []))
      refine Goes.by (fun t k => XS.iconst X0.here hx rfl (hb hby d11_65) k) ?_
      show Goes p e below s _ _ _ (s₁.setTop (mkF m 66 #[.val (.int pp), .val (.int pq), .val (.int (pp &&& (3 : Int32))), .val (.int (1 : Int32)), .val (.int (1 : Int32)), .unset] [(.int (1 : Int32))]))
      refine Goes.by (fun t k => XS.goto X0.here hx rfl (pc0 := 66) (pc' := 70) rfl (hb hby d11_66) (by decide) (by decide) k) ?_
      show Goes p e below s _ _ _ (s₁.setTop (mkF m 70 #[.val (.int pp), .val (.int pq), .val (.int (pp &&& (3 : Int32))), .val (.int (1 : Int32)), .val (.int (1 : Int32)), .unset] [(.int (1 : Int32))]))
      refine Goes.by (fun t k => XS.istore X0.here hx rfl (hb hby d11_70) rfl (l' := #[.val (.int pp), .val (.int pq), .val (.int (pp &&& (3 : Int32))), .val (.int (1 : Int32)), .val (.int (1 : Int32)), .val (.int (1 : Int32))]) rfl k) ?_
      show Goes p e below s _ _ _ (s₁.setTop (mkF m 72 #[.val (.int pp), .val (.int pq), .val (.int (pp &&& (3 : Int32))), .val (.int (1 : Int32)), .val (.int (1 : Int32)), .val (.int (1 : Int32))] []))
      refine Goes.by (fun t k => XS.iloadN X0.here hx rfl (hb hby d11_72) rfl k) ?_
      show Goes p e below s _ _ _ (s₁.setTop (mkF m 73 #[.val (.int pp), .val (.int pq), .val (.int (pp &&& (3 : Int32))), .val (.int (1 : Int32)), .val (.int (1 : Int32)), .val (.int (1 : Int32))] [(.int (1 : Int32))]))
      refine Goes.by (fun t k => XS.ifNo X0.here hx rfl (hb hby d11_73) rfl ((if0 _ _).trans (feq (by decide)).1) k) ?_
      show Goes p e below s _ _ _ (s₁.setTop (mkF m 76 #[.val (.int pp), .val (.int pq), .val (.int (pp &&& (3 : Int32))), .val (.int (1 : Int32)), .val (.int (1 : Int32)), .val (.int (1 : Int32))] []))
      refine Goes.by (fun t k => XS.iload X0.here hx rfl (hb hby d11_76) rfl k) ?_
      show Goes p e below s _ _ _ (s₁.setTop (mkF m 78 #[.val (.int pp), .val (.int pq), .val (.int (pp &&& (3 : Int32))), .val (.int (1 : Int32)), .val (.int (1 : Int32)), .val (.int (1 : Int32))] [(.int (1 : Int32))]))
      refine Goes.by (fun t k => XS.ifNo X0.here hx rfl (hb hby d11_78) rfl ((if0 _ _).trans (feq (by decide)).1) k) ?_
      show Goes p e below s _ _ _ (s₁.setTop (mkF m 81 #[.val (.int pp), .val (.int pq), .val (.int (pp &&& (3 : Int32))), .val (.int (1 : Int32)), .val (.int (1 : Int32)), .val (.int (1 : Int32))] []))
      refine Goes.by (fun t k => XS.iload X0.here hx rfl (hb hby d11_81) rfl k) ?_
      show Goes p e below s _ _ _ (s₁.setTop (mkF m 83 #[.val (.int pp), .val (.int pq), .val (.int (pp &&& (3 : Int32))), .val (.int (1 : Int32)), .val (.int (1 : Int32)), .val (.int (1 : Int32))] [(.int (1 : Int32))]))
      refine Goes.by (fun t k => XS.ifNo X0.here hx rfl (hb hby d11_83) rfl ((if0 _ _).trans (feq (by decide)).1) k) ?_
      show Goes p e below s _ _ _ (s₁.setTop (mkF m 86 #[.val (.int pp), .val (.int pq), .val (.int (pp &&& (3 : Int32))), .val (.int (1 : Int32)), .val (.int (1 : Int32)), .val (.int (1 : Int32))] []))
      refine Goes.by (fun t k => XS.iconst X0.here hx rfl (hb hby d11_86) k) ?_
      show Goes p e below s _ _ _ (s₁.setTop (mkF m 87 #[.val (.int pp), .val (.int pq), .val (.int (pp &&& (3 : Int32))), .val (.int (1 : Int32)), .val (.int (1 : Int32)), .val (.int (1 : Int32))] [(.int (1 : Int32))]))
      refine Goes.by (fun t k => XS.goto X0.here hx rfl (pc0 := 87) (pc' := 91) rfl (hb hby d11_87) (by decide) (by decide) k) ?_
      show Goes p e below s _ _ _ (s₁.setTop (mkF m 91 #[.val (.int pp), .val (.int pq), .val (.int (pp &&& (3 : Int32))), .val (.int (1 : Int32)), .val (.int (1 : Int32)), .val (.int (1 : Int32))] [(.int (1 : Int32))]))
      exact Goes.retN X0 hx Bd.returns rfl (hb hby d11_91) hlk (by rw [e0]; exact ⟨_, rfl, N0, rfl, Or.inl ⟨rfl, hl, Or.inl (by rw [hp]; decide), Or.inl (by rw [hp]; decide), Or.inl (by rw [hp]; decide)⟩⟩) (by decide) (by decide)
    · skip
      refine Goes.by (fun t k => XS.iloadN X0.here hx rfl (hb hby d11_13) rfl k) ?_
      show Goes p e below s _ _ _ (s₁.setTop (mkF m 14 #[.val (.int pp), .val (.int pq), .val (.int (pp &&& (3 : Int32))), .unset, .unset, .unset] [(.int (pp &&& (3 : Int32)))]))
      refine Goes.by (fun t k => XS.iconst X0.here hx rfl (hb hby d11_14) k) ?_
      show Goes p e below s _ _ _ (s₁.setTop (mkF m 15 #[.val (.int pp), .val (.int pq), .val (.int (pp &&& (3 : Int32))), .unset, .unset, .unset] [(.int (1 : Int32)), (.int (pp &&& (3 : Int32)))]))
      refine Goes.by (fun t k => XS.icmpNo X0.here hx rfl (hb hby d11_15) rfl (flt (by rw [hp]; decide)).1 k) ?_
      show Goes p e below s _ _ _ (s₁.setTop (mkF m 18 #[.val (.int pp), .val (.int pq), .val (.int (pp &&& (3 : Int32))), .unset, .unset, .unset] []))
      refine Goes.by (fun t k => XS.iloadN X0.here hx rfl (hb hby d11_18) rfl k) ?_
      show Goes p e below s _ _ _ (s₁.setTop (mkF m 19 #[.val (.int pp), .val (.int pq), .val (.int (pp &&& (3 : Int32))), .unset, .unset, .unset] [(.int pq)]))
      refine Goes.by (fun t k => XS.iconst X0.here hx rfl (hb hby d11_19) k) ?_
      show Goes p e below s _ _ _ (s₁.setTop (mkF m 20 #[.val (.int pp), .val (.int pq), .val (.int (pp &&& (3 : Int32))), .unset, .unset, .unset] [(.int (1 : Int32)), (.int pq)]))
      obtain ⟨_, _, ⟨T1, L1, k1, n1⟩, -, X1, ⟨Lc1, hQ1, l1, y1, z1⟩, st1⟩ := Jvm.LawKit.callS X0 hx (y := (⟨"com/example/diogenes/diogenes/format/TopicEqualsPinLaw", "b", "(II)I"⟩ : MethodName)) hown (mvT hZ (hw _ (List.mem_of_getElem? (i := 0) rfl))) (mvT hZ (hw _ (List.mem_of_getElem? (i := 1) rfl))) (mvT hZ (hw _ (List.mem_of_getElem? (i := 2) rfl))) (mvT hZ (hw _ (List.mem_of_getElem? (i := 3) rfl))) (by decide) (backOf (W := 0) (rm1 l Z a0 hw [] pq 1 _ n0 Z0) hZ (hw _ (List.mem_of_getElem? (i := 3) rfl)) (hw _ (List.mem_of_getElem? (i := 2) rfl)) (by decide) (by decide)) (g := (mkF m 20 #[.val (.int pp), .val (.int pq), .val (.int (pp &&& (3 : Int32))), .unset, .unset, .unset] [(.int (1 : Int32)), (.int pq)])) rfl (by rw [hml]; rfl) (argsL := [(.int pq), (.int (1 : Int32))]) (rest := []) (lenOf pd_1 rfl) rfl (by show 2 * 0 + _ ≤ _; exact Nat.le_of_eq rfl) (hb hby d11_20) (fun _ _ => ⟨rfl, e0, (by decide : 0 + 0 ≤ _), (by decide : 0 + 0 ≤ _)⟩)
      dsimp only [Pt.U, Pt.locs, Pt.cells, Pt.slots] at X1 l1 y1 z1 st1 hQ1
      rw [l1, y1, z1] at X1
      obtain ⟨rfl, N1q, hh1⟩ := hQ1
      have N1 := Fr.app N0 N1q
      refine Goes.by (fun t k => st1 _ k) ?_
      show Goes p e below s _ _ _ (T1.setTop (mkF m 23 #[.val (.int pp), .val (.int pq), .val (.int (pp &&& (3 : Int32))), .unset, .unset, .unset] [(.int (bb pq 1))]))
      have eH1 : T1.heap = h0 := hh1
      by_cases hb1 : (bb pq 1) = (0 : Int32)
      · skip
        refine Goes.by (fun t k => XS.ifNo X1.here hx rfl (hb hby d11_23) rfl ((if0 _ _).trans (teq (hb1)).2) k) ?_
        show Goes p e below s _ _ _ (T1.setTop (mkF m 26 #[.val (.int pp), .val (.int pq), .val (.int (pp &&& (3 : Int32))), .unset, .unset, .unset] []))
        refine Goes.by (fun t k => XS.iconst X1.here hx rfl (hb hby d11_26) k) ?_
        show Goes p e below s _ _ _ (T1.setTop (mkF m 27 #[.val (.int pp), .val (.int pq), .val (.int (pp &&& (3 : Int32))), .unset, .unset, .unset] [(.int (1 : Int32))]))
        refine Goes.by (fun t k => XS.goto X1.here hx rfl (pc0 := 27) (pc' := 31) rfl (hb hby d11_27) (by decide) (by decide) k) ?_
        show Goes p e below s _ _ _ (T1.setTop (mkF m 31 #[.val (.int pp), .val (.int pq), .val (.int (pp &&& (3 : Int32))), .unset, .unset, .unset] [(.int (1 : Int32))]))
        refine Goes.by (fun t k => XS.istoreN X1.here hx rfl (hb hby d11_31) rfl (l' := #[.val (.int pp), .val (.int pq), .val (.int (pp &&& (3 : Int32))), .val (.int (1 : Int32)), .unset, .unset]) rfl k) ?_
        show Goes p e below s _ _ _ (T1.setTop (mkF m 32 #[.val (.int pp), .val (.int pq), .val (.int (pp &&& (3 : Int32))), .val (.int (1 : Int32)), .unset, .unset] []))
        refine Goes.by (fun t k => XS.iloadN X1.here hx rfl (hb hby d11_32) rfl k) ?_
        show Goes p e below s _ _ _ (T1.setTop (mkF m 33 #[.val (.int pp), .val (.int pq), .val (.int (pp &&& (3 : Int32))), .val (.int (1 : Int32)), .unset, .unset] [(.int (pp &&& (3 : Int32)))]))
        refine Goes.by (fun t k => XS.iconst X1.here hx rfl (hb hby d11_33) k) ?_
        show Goes p e below s _ _ _ (T1.setTop (mkF m 34 #[.val (.int pp), .val (.int pq), .val (.int (pp &&& (3 : Int32))), .val (.int (1 : Int32)), .unset, .unset] [(.int (2 : Int32)), (.int (pp &&& (3 : Int32)))]))
        refine Goes.by (fun t k => XS.icmpYes X1.here hx rfl (pc0 := 34) (pc' := 45) rfl (hb hby d11_34) rfl (tlt (by rw [hp]; decide)).1 (by decide) (by decide) k) ?_
        show Goes p e below s _ _ _ (T1.setTop (mkF m 45 #[.val (.int pp), .val (.int pq), .val (.int (pp &&& (3 : Int32))), .val (.int (1 : Int32)), .unset, .unset] []))
        refine Goes.by (fun t k => XS.iconst X1.here hx rfl (hb hby d11_45) k) ?_
        show Goes p e below s _ _ _ (T1.setTop (mkF m 46 #[.val (.int pp), .val (.int pq), .val (.int (pp &&& (3 : Int32))), .val (.int (1 : Int32)), .unset, .unset] [(.int (1 : Int32))]))
        refine Goes.by (fun t k => XS.goto X1.here hx rfl (pc0 := 46) (pc' := 50) rfl (hb hby d11_46) (by decide) (by decide) k) ?_
        show Goes p e below s _ _ _ (T1.setTop (mkF m 50 #[.val (.int pp), .val (.int pq), .val (.int (pp &&& (3 : Int32))), .val (.int (1 : Int32)), .unset, .unset] [(.int (1 : Int32))]))
        refine Goes.by (fun t k => XS.istore X1.here hx rfl (hb hby d11_50) rfl (l' := #[.val (.int pp), .val (.int pq), .val (.int (pp &&& (3 : Int32))), .val (.int (1 : Int32)), .val (.int (1 : Int32)), .unset]) rfl k) ?_
        show Goes p e below s _ _ _ (T1.setTop (mkF m 52 #[.val (.int pp), .val (.int pq), .val (.int (pp &&& (3 : Int32))), .val (.int (1 : Int32)), .val (.int (1 : Int32)), .unset] []))
        refine Goes.by (fun t k => XS.iloadN X1.here hx rfl (hb hby d11_52) rfl k) ?_
        show Goes p e below s _ _ _ (T1.setTop (mkF m 53 #[.val (.int pp), .val (.int pq), .val (.int (pp &&& (3 : Int32))), .val (.int (1 : Int32)), .val (.int (1 : Int32)), .unset] [(.int (pp &&& (3 : Int32)))]))
        refine Goes.by (fun t k => XS.iconst X1.here hx rfl (hb hby d11_53) k) ?_
        show Goes p e below s _ _ _ (T1.setTop (mkF m 54 #[.val (.int pp), .val (.int pq), .val (.int (pp &&& (3 : Int32))), .val (.int (1 : Int32)), .val (.int (1 : Int32)), .unset] [(.int (3 : Int32)), (.int (pp &&& (3 : Int32)))]))
        refine Goes.by (fun t k => XS.icmpYes X1.here hx rfl (pc0 := 54) (pc' := 65) rfl (hb hby d11_54) rfl (tlt (by rw [hp]; decide)).1 (by decide) (by decide) k) ?_
        show Goes p e below s _ _ _ (T1.setTop (mkF m 65 #[.val (.int pp), .val (.int pq), .val (.int (pp &&& (3 : Int32))), .val (.int (1 : Int32)), .val (.int (1 : Int32)), .unset] []))
        refine Goes.by (fun t k => XS.iconst X1.here hx rfl (hb hby d11_65) k) ?_
        show Goes p e below s _ _ _ (T1.setTop (mkF m 66 #[.val (.int pp), .val (.int pq), .val (.int (pp &&& (3 : Int32))), .val (.int (1 : Int32)), .val (.int (1 : Int32)), .unset] [(.int (1 : Int32))]))
        refine Goes.by (fun t k => XS.goto X1.here hx rfl (pc0 := 66) (pc' := 70) rfl (hb hby d11_66) (by decide) (by decide) k) ?_
        show Goes p e below s _ _ _ (T1.setTop (mkF m 70 #[.val (.int pp), .val (.int pq), .val (.int (pp &&& (3 : Int32))), .val (.int (1 : Int32)), .val (.int (1 : Int32)), .unset] [(.int (1 : Int32))]))
        refine Goes.by (fun t k => XS.istore X1.here hx rfl (hb hby d11_70) rfl (l' := #[.val (.int pp), .val (.int pq), .val (.int (pp &&& (3 : Int32))), .val (.int (1 : Int32)), .val (.int (1 : Int32)), .val (.int (1 : Int32))]) rfl k) ?_
        show Goes p e below s _ _ _ (T1.setTop (mkF m 72 #[.val (.int pp), .val (.int pq), .val (.int (pp &&& (3 : Int32))), .val (.int (1 : Int32)), .val (.int (1 : Int32)), .val (.int (1 : Int32))] []))
        refine Goes.by (fun t k => XS.iloadN X1.here hx rfl (hb hby d11_72) rfl k) ?_
        show Goes p e below s _ _ _ (T1.setTop (mkF m 73 #[.val (.int pp), .val (.int pq), .val (.int (pp &&& (3 : Int32))), .val (.int (1 : Int32)), .val (.int (1 : Int32)), .val (.int (1 : Int32))] [(.int (1 : Int32))]))
        refine Goes.by (fun t k => XS.ifNo X1.here hx rfl (hb hby d11_73) rfl ((if0 _ _).trans (feq (by decide)).1) k) ?_
        show Goes p e below s _ _ _ (T1.setTop (mkF m 76 #[.val (.int pp), .val (.int pq), .val (.int (pp &&& (3 : Int32))), .val (.int (1 : Int32)), .val (.int (1 : Int32)), .val (.int (1 : Int32))] []))
        refine Goes.by (fun t k => XS.iload X1.here hx rfl (hb hby d11_76) rfl k) ?_
        show Goes p e below s _ _ _ (T1.setTop (mkF m 78 #[.val (.int pp), .val (.int pq), .val (.int (pp &&& (3 : Int32))), .val (.int (1 : Int32)), .val (.int (1 : Int32)), .val (.int (1 : Int32))] [(.int (1 : Int32))]))
        refine Goes.by (fun t k => XS.ifNo X1.here hx rfl (hb hby d11_78) rfl ((if0 _ _).trans (feq (by decide)).1) k) ?_
        show Goes p e below s _ _ _ (T1.setTop (mkF m 81 #[.val (.int pp), .val (.int pq), .val (.int (pp &&& (3 : Int32))), .val (.int (1 : Int32)), .val (.int (1 : Int32)), .val (.int (1 : Int32))] []))
        refine Goes.by (fun t k => XS.iload X1.here hx rfl (hb hby d11_81) rfl k) ?_
        show Goes p e below s _ _ _ (T1.setTop (mkF m 83 #[.val (.int pp), .val (.int pq), .val (.int (pp &&& (3 : Int32))), .val (.int (1 : Int32)), .val (.int (1 : Int32)), .val (.int (1 : Int32))] [(.int (1 : Int32))]))
        refine Goes.by (fun t k => XS.ifNo X1.here hx rfl (hb hby d11_83) rfl ((if0 _ _).trans (feq (by decide)).1) k) ?_
        show Goes p e below s _ _ _ (T1.setTop (mkF m 86 #[.val (.int pp), .val (.int pq), .val (.int (pp &&& (3 : Int32))), .val (.int (1 : Int32)), .val (.int (1 : Int32)), .val (.int (1 : Int32))] []))
        refine Goes.by (fun t k => XS.iconst X1.here hx rfl (hb hby d11_86) k) ?_
        show Goes p e below s _ _ _ (T1.setTop (mkF m 87 #[.val (.int pp), .val (.int pq), .val (.int (pp &&& (3 : Int32))), .val (.int (1 : Int32)), .val (.int (1 : Int32)), .val (.int (1 : Int32))] [(.int (1 : Int32))]))
        refine Goes.by (fun t k => XS.goto X1.here hx rfl (pc0 := 87) (pc' := 91) rfl (hb hby d11_87) (by decide) (by decide) k) ?_
        show Goes p e below s _ _ _ (T1.setTop (mkF m 91 #[.val (.int pp), .val (.int pq), .val (.int (pp &&& (3 : Int32))), .val (.int (1 : Int32)), .val (.int (1 : Int32)), .val (.int (1 : Int32))] [(.int (1 : Int32))]))
        exact Goes.retN X1 hx Bd.returns rfl (hb hby d11_91) hlk (by rw [eH1]; exact ⟨_, rfl, N1, rfl, Or.inl ⟨rfl, hl, Or.inr hb1, Or.inl (by rw [hp]; decide), Or.inl (by rw [hp]; decide)⟩⟩) (by decide) (by decide)
      · skip
        refine Goes.by (fun t k => XS.ifYes X1.here hx rfl (pc0 := 23) (pc' := 30) rfl (hb hby d11_23) rfl ((if0 _ _).trans (feq (hb1)).2) (by decide) (by decide) k) ?_
        show Goes p e below s _ _ _ (T1.setTop (mkF m 30 #[.val (.int pp), .val (.int pq), .val (.int (pp &&& (3 : Int32))), .unset, .unset, .unset] []))
        refine Goes.by (fun t k => XS.iconst X1.here hx rfl (hb hby d11_30) k) ?_
        show Goes p e below s _ _ _ (T1.setTop (mkF m 31 #[.val (.int pp), .val (.int pq), .val (.int (pp &&& (3 : Int32))), .unset, .unset, .unset] [(.int (0 : Int32))]))
        refine Goes.by (fun t k => XS.istoreN X1.here hx rfl (hb hby d11_31) rfl (l' := #[.val (.int pp), .val (.int pq), .val (.int (pp &&& (3 : Int32))), .val (.int (0 : Int32)), .unset, .unset]) rfl k) ?_
        show Goes p e below s _ _ _ (T1.setTop (mkF m 32 #[.val (.int pp), .val (.int pq), .val (.int (pp &&& (3 : Int32))), .val (.int (0 : Int32)), .unset, .unset] []))
        refine Goes.by (fun t k => XS.iloadN X1.here hx rfl (hb hby d11_32) rfl k) ?_
        show Goes p e below s _ _ _ (T1.setTop (mkF m 33 #[.val (.int pp), .val (.int pq), .val (.int (pp &&& (3 : Int32))), .val (.int (0 : Int32)), .unset, .unset] [(.int (pp &&& (3 : Int32)))]))
        refine Goes.by (fun t k => XS.iconst X1.here hx rfl (hb hby d11_33) k) ?_
        show Goes p e below s _ _ _ (T1.setTop (mkF m 34 #[.val (.int pp), .val (.int pq), .val (.int (pp &&& (3 : Int32))), .val (.int (0 : Int32)), .unset, .unset] [(.int (2 : Int32)), (.int (pp &&& (3 : Int32)))]))
        refine Goes.by (fun t k => XS.icmpYes X1.here hx rfl (pc0 := 34) (pc' := 45) rfl (hb hby d11_34) rfl (tlt (by rw [hp]; decide)).1 (by decide) (by decide) k) ?_
        show Goes p e below s _ _ _ (T1.setTop (mkF m 45 #[.val (.int pp), .val (.int pq), .val (.int (pp &&& (3 : Int32))), .val (.int (0 : Int32)), .unset, .unset] []))
        refine Goes.by (fun t k => XS.iconst X1.here hx rfl (hb hby d11_45) k) ?_
        show Goes p e below s _ _ _ (T1.setTop (mkF m 46 #[.val (.int pp), .val (.int pq), .val (.int (pp &&& (3 : Int32))), .val (.int (0 : Int32)), .unset, .unset] [(.int (1 : Int32))]))
        refine Goes.by (fun t k => XS.goto X1.here hx rfl (pc0 := 46) (pc' := 50) rfl (hb hby d11_46) (by decide) (by decide) k) ?_
        show Goes p e below s _ _ _ (T1.setTop (mkF m 50 #[.val (.int pp), .val (.int pq), .val (.int (pp &&& (3 : Int32))), .val (.int (0 : Int32)), .unset, .unset] [(.int (1 : Int32))]))
        refine Goes.by (fun t k => XS.istore X1.here hx rfl (hb hby d11_50) rfl (l' := #[.val (.int pp), .val (.int pq), .val (.int (pp &&& (3 : Int32))), .val (.int (0 : Int32)), .val (.int (1 : Int32)), .unset]) rfl k) ?_
        show Goes p e below s _ _ _ (T1.setTop (mkF m 52 #[.val (.int pp), .val (.int pq), .val (.int (pp &&& (3 : Int32))), .val (.int (0 : Int32)), .val (.int (1 : Int32)), .unset] []))
        refine Goes.by (fun t k => XS.iloadN X1.here hx rfl (hb hby d11_52) rfl k) ?_
        show Goes p e below s _ _ _ (T1.setTop (mkF m 53 #[.val (.int pp), .val (.int pq), .val (.int (pp &&& (3 : Int32))), .val (.int (0 : Int32)), .val (.int (1 : Int32)), .unset] [(.int (pp &&& (3 : Int32)))]))
        refine Goes.by (fun t k => XS.iconst X1.here hx rfl (hb hby d11_53) k) ?_
        show Goes p e below s _ _ _ (T1.setTop (mkF m 54 #[.val (.int pp), .val (.int pq), .val (.int (pp &&& (3 : Int32))), .val (.int (0 : Int32)), .val (.int (1 : Int32)), .unset] [(.int (3 : Int32)), (.int (pp &&& (3 : Int32)))]))
        refine Goes.by (fun t k => XS.icmpYes X1.here hx rfl (pc0 := 54) (pc' := 65) rfl (hb hby d11_54) rfl (tlt (by rw [hp]; decide)).1 (by decide) (by decide) k) ?_
        show Goes p e below s _ _ _ (T1.setTop (mkF m 65 #[.val (.int pp), .val (.int pq), .val (.int (pp &&& (3 : Int32))), .val (.int (0 : Int32)), .val (.int (1 : Int32)), .unset] []))
        refine Goes.by (fun t k => XS.iconst X1.here hx rfl (hb hby d11_65) k) ?_
        show Goes p e below s _ _ _ (T1.setTop (mkF m 66 #[.val (.int pp), .val (.int pq), .val (.int (pp &&& (3 : Int32))), .val (.int (0 : Int32)), .val (.int (1 : Int32)), .unset] [(.int (1 : Int32))]))
        refine Goes.by (fun t k => XS.goto X1.here hx rfl (pc0 := 66) (pc' := 70) rfl (hb hby d11_66) (by decide) (by decide) k) ?_
        show Goes p e below s _ _ _ (T1.setTop (mkF m 70 #[.val (.int pp), .val (.int pq), .val (.int (pp &&& (3 : Int32))), .val (.int (0 : Int32)), .val (.int (1 : Int32)), .unset] [(.int (1 : Int32))]))
        refine Goes.by (fun t k => XS.istore X1.here hx rfl (hb hby d11_70) rfl (l' := #[.val (.int pp), .val (.int pq), .val (.int (pp &&& (3 : Int32))), .val (.int (0 : Int32)), .val (.int (1 : Int32)), .val (.int (1 : Int32))]) rfl k) ?_
        show Goes p e below s _ _ _ (T1.setTop (mkF m 72 #[.val (.int pp), .val (.int pq), .val (.int (pp &&& (3 : Int32))), .val (.int (0 : Int32)), .val (.int (1 : Int32)), .val (.int (1 : Int32))] []))
        refine Goes.by (fun t k => XS.iloadN X1.here hx rfl (hb hby d11_72) rfl k) ?_
        show Goes p e below s _ _ _ (T1.setTop (mkF m 73 #[.val (.int pp), .val (.int pq), .val (.int (pp &&& (3 : Int32))), .val (.int (0 : Int32)), .val (.int (1 : Int32)), .val (.int (1 : Int32))] [(.int (0 : Int32))]))
        refine Goes.by (fun t k => XS.ifYes X1.here hx rfl (pc0 := 73) (pc' := 90) rfl (hb hby d11_73) rfl ((if0 _ _).trans (teq (by decide)).1) (by decide) (by decide) k) ?_
        show Goes p e below s _ _ _ (T1.setTop (mkF m 90 #[.val (.int pp), .val (.int pq), .val (.int (pp &&& (3 : Int32))), .val (.int (0 : Int32)), .val (.int (1 : Int32)), .val (.int (1 : Int32))] []))
        refine Goes.by (fun t k => XS.iconst X1.here hx rfl (hb hby d11_90) k) ?_
        show Goes p e below s _ _ _ (T1.setTop (mkF m 91 #[.val (.int pp), .val (.int pq), .val (.int (pp &&& (3 : Int32))), .val (.int (0 : Int32)), .val (.int (1 : Int32)), .val (.int (1 : Int32))] [(.int (0 : Int32))]))
        exact Goes.retN X1 hx Bd.returns rfl (hb hby d11_91) hlk (by rw [eH1]; exact ⟨_, rfl, N1, rfl, Or.inr ⟨rfl, fun z => hb1 (z.2.1.resolve_left (by rw [hp]; decide))⟩⟩) (by decide) (by decide)
    · skip
      refine Goes.by (fun t k => XS.iloadN X0.here hx rfl (hb hby d11_13) rfl k) ?_
      show Goes p e below s _ _ _ (s₁.setTop (mkF m 14 #[.val (.int pp), .val (.int pq), .val (.int (pp &&& (3 : Int32))), .unset, .unset, .unset] [(.int (pp &&& (3 : Int32)))]))
      refine Goes.by (fun t k => XS.iconst X0.here hx rfl (hb hby d11_14) k) ?_
      show Goes p e below s _ _ _ (s₁.setTop (mkF m 15 #[.val (.int pp), .val (.int pq), .val (.int (pp &&& (3 : Int32))), .unset, .unset, .unset] [(.int (1 : Int32)), (.int (pp &&& (3 : Int32)))]))
      refine Goes.by (fun t k => XS.icmpNo X0.here hx rfl (hb hby d11_15) rfl (flt (by rw [hp]; decide)).1 k) ?_
      show Goes p e below s _ _ _ (s₁.setTop (mkF m 18 #[.val (.int pp), .val (.int pq), .val (.int (pp &&& (3 : Int32))), .unset, .unset, .unset] []))
      refine Goes.by (fun t k => XS.iloadN X0.here hx rfl (hb hby d11_18) rfl k) ?_
      show Goes p e below s _ _ _ (s₁.setTop (mkF m 19 #[.val (.int pp), .val (.int pq), .val (.int (pp &&& (3 : Int32))), .unset, .unset, .unset] [(.int pq)]))
      refine Goes.by (fun t k => XS.iconst X0.here hx rfl (hb hby d11_19) k) ?_
      show Goes p e below s _ _ _ (s₁.setTop (mkF m 20 #[.val (.int pp), .val (.int pq), .val (.int (pp &&& (3 : Int32))), .unset, .unset, .unset] [(.int (1 : Int32)), (.int pq)]))
      obtain ⟨_, _, ⟨T2, L2, k2, n2⟩, -, X2, ⟨Lc2, hQ2, l2, y2, z2⟩, st2⟩ := Jvm.LawKit.callS X0 hx (y := (⟨"com/example/diogenes/diogenes/format/TopicEqualsPinLaw", "b", "(II)I"⟩ : MethodName)) hown (mvT hZ (hw _ (List.mem_of_getElem? (i := 0) rfl))) (mvT hZ (hw _ (List.mem_of_getElem? (i := 1) rfl))) (mvT hZ (hw _ (List.mem_of_getElem? (i := 2) rfl))) (mvT hZ (hw _ (List.mem_of_getElem? (i := 3) rfl))) (by decide) (backOf (W := 0) (rm1 l Z a0 hw [] pq 1 _ n0 Z0) hZ (hw _ (List.mem_of_getElem? (i := 3) rfl)) (hw _ (List.mem_of_getElem? (i := 2) rfl)) (by decide) (by decide)) (g := (mkF m 20 #[.val (.int pp), .val (.int pq), .val (.int (pp &&& (3 : Int32))), .unset, .unset, .unset] [(.int (1 : Int32)), (.int pq)])) rfl (by rw [hml]; rfl) (argsL := [(.int pq), (.int (1 : Int32))]) (rest := []) (lenOf pd_1 rfl) rfl (by show 2 * 0 + _ ≤ _; exact Nat.le_of_eq rfl) (hb hby d11_20) (fun _ _ => ⟨rfl, e0, (by decide : 0 + 0 ≤ _), (by decide : 0 + 0 ≤ _)⟩)
      dsimp only [Pt.U, Pt.locs, Pt.cells, Pt.slots] at X2 l2 y2 z2 st2 hQ2
      rw [l2, y2, z2] at X2
      obtain ⟨rfl, N2q, hh2⟩ := hQ2
      have N2 := Fr.app N0 N2q
      refine Goes.by (fun t k => st2 _ k) ?_
      show Goes p e below s _ _ _ (T2.setTop (mkF m 23 #[.val (.int pp), .val (.int pq), .val (.int (pp &&& (3 : Int32))), .unset, .unset, .unset] [(.int (bb pq 1))]))
      have eH2 : T2.heap = h0 := hh2
      by_cases hb1 : (bb pq 1) = (0 : Int32)
      · skip
        refine Goes.by (fun t k => XS.ifNo X2.here hx rfl (hb hby d11_23) rfl ((if0 _ _).trans (teq (hb1)).2) k) ?_
        show Goes p e below s _ _ _ (T2.setTop (mkF m 26 #[.val (.int pp), .val (.int pq), .val (.int (pp &&& (3 : Int32))), .unset, .unset, .unset] []))
        refine Goes.by (fun t k => XS.iconst X2.here hx rfl (hb hby d11_26) k) ?_
        show Goes p e below s _ _ _ (T2.setTop (mkF m 27 #[.val (.int pp), .val (.int pq), .val (.int (pp &&& (3 : Int32))), .unset, .unset, .unset] [(.int (1 : Int32))]))
        refine Goes.by (fun t k => XS.goto X2.here hx rfl (pc0 := 27) (pc' := 31) rfl (hb hby d11_27) (by decide) (by decide) k) ?_
        show Goes p e below s _ _ _ (T2.setTop (mkF m 31 #[.val (.int pp), .val (.int pq), .val (.int (pp &&& (3 : Int32))), .unset, .unset, .unset] [(.int (1 : Int32))]))
        refine Goes.by (fun t k => XS.istoreN X2.here hx rfl (hb hby d11_31) rfl (l' := #[.val (.int pp), .val (.int pq), .val (.int (pp &&& (3 : Int32))), .val (.int (1 : Int32)), .unset, .unset]) rfl k) ?_
        show Goes p e below s _ _ _ (T2.setTop (mkF m 32 #[.val (.int pp), .val (.int pq), .val (.int (pp &&& (3 : Int32))), .val (.int (1 : Int32)), .unset, .unset] []))
        refine Goes.by (fun t k => XS.iloadN X2.here hx rfl (hb hby d11_32) rfl k) ?_
        show Goes p e below s _ _ _ (T2.setTop (mkF m 33 #[.val (.int pp), .val (.int pq), .val (.int (pp &&& (3 : Int32))), .val (.int (1 : Int32)), .unset, .unset] [(.int (pp &&& (3 : Int32)))]))
        refine Goes.by (fun t k => XS.iconst X2.here hx rfl (hb hby d11_33) k) ?_
        show Goes p e below s _ _ _ (T2.setTop (mkF m 34 #[.val (.int pp), .val (.int pq), .val (.int (pp &&& (3 : Int32))), .val (.int (1 : Int32)), .unset, .unset] [(.int (2 : Int32)), (.int (pp &&& (3 : Int32)))]))
        refine Goes.by (fun t k => XS.icmpNo X2.here hx rfl (hb hby d11_34) rfl (flt (by rw [hp]; decide)).1 k) ?_
        show Goes p e below s _ _ _ (T2.setTop (mkF m 37 #[.val (.int pp), .val (.int pq), .val (.int (pp &&& (3 : Int32))), .val (.int (1 : Int32)), .unset, .unset] []))
        refine Goes.by (fun t k => XS.iloadN X2.here hx rfl (hb hby d11_37) rfl k) ?_
        show Goes p e below s _ _ _ (T2.setTop (mkF m 38 #[.val (.int pp), .val (.int pq), .val (.int (pp &&& (3 : Int32))), .val (.int (1 : Int32)), .unset, .unset] [(.int pq)]))
        refine Goes.by (fun t k => XS.iconst X2.here hx rfl (hb hby d11_38) k) ?_
        show Goes p e below s _ _ _ (T2.setTop (mkF m 39 #[.val (.int pp), .val (.int pq), .val (.int (pp &&& (3 : Int32))), .val (.int (1 : Int32)), .unset, .unset] [(.int (2 : Int32)), (.int pq)]))
        obtain ⟨_, _, ⟨T3, L3, k3, n3⟩, -, X3, ⟨Lc3, hQ3, l3, y3, z3⟩, st3⟩ := Jvm.LawKit.callS X2 hx (y := (⟨"com/example/diogenes/diogenes/format/TopicEqualsPinLaw", "b", "(II)I"⟩ : MethodName)) hown (mvT hZ (hw _ (List.mem_of_getElem? (i := 0) rfl))) (mvT hZ (hw _ (List.mem_of_getElem? (i := 1) rfl))) (mvT hZ (hw _ (List.mem_of_getElem? (i := 2) rfl))) (mvT hZ (hw _ (List.mem_of_getElem? (i := 3) rfl))) (by decide) (backOf (W := 0) (rm1 l Z a0 hw [] pq 2 _ n0 Z0) hZ (hw _ (List.mem_of_getElem? (i := 3) rfl)) (hw _ (List.mem_of_getElem? (i := 2) rfl)) (by decide) (by decide)) (g := (mkF m 39 #[.val (.int pp), .val (.int pq), .val (.int (pp &&& (3 : Int32))), .val (.int (1 : Int32)), .unset, .unset] [(.int (2 : Int32)), (.int pq)])) rfl (by rw [hml]; rfl) (argsL := [(.int pq), (.int (2 : Int32))]) (rest := []) (lenOf pd_1 rfl) rfl (by show 2 * 0 + _ ≤ _; exact Nat.le_of_eq rfl) (hb hby d11_39) (fun _ _ => ⟨rfl, eH2, (by decide : 0 + 0 ≤ _), (by decide : 0 + 0 ≤ _)⟩)
        dsimp only [Pt.U, Pt.locs, Pt.cells, Pt.slots] at X3 l3 y3 z3 st3 hQ3
        rw [l3, y3, z3] at X3
        obtain ⟨rfl, N3q, hh3⟩ := hQ3
        have N3 := Fr.app N2 N3q
        refine Goes.by (fun t k => st3 _ k) ?_
        show Goes p e below s _ _ _ (T3.setTop (mkF m 42 #[.val (.int pp), .val (.int pq), .val (.int (pp &&& (3 : Int32))), .val (.int (1 : Int32)), .unset, .unset] [(.int (bb pq 2))]))
        have eH3 : T3.heap = h0 := hh3
        by_cases hb2 : (bb pq 2) = (0 : Int32)
        · skip
          refine Goes.by (fun t k => XS.ifNo X3.here hx rfl (hb hby d11_42) rfl ((if0 _ _).trans (teq (hb2)).2) k) ?_
          show Goes p e below s _ _ _ (T3.setTop (mkF m 45 #[.val (.int pp), .val (.int pq), .val (.int (pp &&& (3 : Int32))), .val (.int (1 : Int32)), .unset, .unset] []))
          refine Goes.by (fun t k => XS.iconst X3.here hx rfl (hb hby d11_45) k) ?_
          show Goes p e below s _ _ _ (T3.setTop (mkF m 46 #[.val (.int pp), .val (.int pq), .val (.int (pp &&& (3 : Int32))), .val (.int (1 : Int32)), .unset, .unset] [(.int (1 : Int32))]))
          refine Goes.by (fun t k => XS.goto X3.here hx rfl (pc0 := 46) (pc' := 50) rfl (hb hby d11_46) (by decide) (by decide) k) ?_
          show Goes p e below s _ _ _ (T3.setTop (mkF m 50 #[.val (.int pp), .val (.int pq), .val (.int (pp &&& (3 : Int32))), .val (.int (1 : Int32)), .unset, .unset] [(.int (1 : Int32))]))
          refine Goes.by (fun t k => XS.istore X3.here hx rfl (hb hby d11_50) rfl (l' := #[.val (.int pp), .val (.int pq), .val (.int (pp &&& (3 : Int32))), .val (.int (1 : Int32)), .val (.int (1 : Int32)), .unset]) rfl k) ?_
          show Goes p e below s _ _ _ (T3.setTop (mkF m 52 #[.val (.int pp), .val (.int pq), .val (.int (pp &&& (3 : Int32))), .val (.int (1 : Int32)), .val (.int (1 : Int32)), .unset] []))
          refine Goes.by (fun t k => XS.iloadN X3.here hx rfl (hb hby d11_52) rfl k) ?_
          show Goes p e below s _ _ _ (T3.setTop (mkF m 53 #[.val (.int pp), .val (.int pq), .val (.int (pp &&& (3 : Int32))), .val (.int (1 : Int32)), .val (.int (1 : Int32)), .unset] [(.int (pp &&& (3 : Int32)))]))
          refine Goes.by (fun t k => XS.iconst X3.here hx rfl (hb hby d11_53) k) ?_
          show Goes p e below s _ _ _ (T3.setTop (mkF m 54 #[.val (.int pp), .val (.int pq), .val (.int (pp &&& (3 : Int32))), .val (.int (1 : Int32)), .val (.int (1 : Int32)), .unset] [(.int (3 : Int32)), (.int (pp &&& (3 : Int32)))]))
          refine Goes.by (fun t k => XS.icmpYes X3.here hx rfl (pc0 := 54) (pc' := 65) rfl (hb hby d11_54) rfl (tlt (by rw [hp]; decide)).1 (by decide) (by decide) k) ?_
          show Goes p e below s _ _ _ (T3.setTop (mkF m 65 #[.val (.int pp), .val (.int pq), .val (.int (pp &&& (3 : Int32))), .val (.int (1 : Int32)), .val (.int (1 : Int32)), .unset] []))
          refine Goes.by (fun t k => XS.iconst X3.here hx rfl (hb hby d11_65) k) ?_
          show Goes p e below s _ _ _ (T3.setTop (mkF m 66 #[.val (.int pp), .val (.int pq), .val (.int (pp &&& (3 : Int32))), .val (.int (1 : Int32)), .val (.int (1 : Int32)), .unset] [(.int (1 : Int32))]))
          refine Goes.by (fun t k => XS.goto X3.here hx rfl (pc0 := 66) (pc' := 70) rfl (hb hby d11_66) (by decide) (by decide) k) ?_
          show Goes p e below s _ _ _ (T3.setTop (mkF m 70 #[.val (.int pp), .val (.int pq), .val (.int (pp &&& (3 : Int32))), .val (.int (1 : Int32)), .val (.int (1 : Int32)), .unset] [(.int (1 : Int32))]))
          refine Goes.by (fun t k => XS.istore X3.here hx rfl (hb hby d11_70) rfl (l' := #[.val (.int pp), .val (.int pq), .val (.int (pp &&& (3 : Int32))), .val (.int (1 : Int32)), .val (.int (1 : Int32)), .val (.int (1 : Int32))]) rfl k) ?_
          show Goes p e below s _ _ _ (T3.setTop (mkF m 72 #[.val (.int pp), .val (.int pq), .val (.int (pp &&& (3 : Int32))), .val (.int (1 : Int32)), .val (.int (1 : Int32)), .val (.int (1 : Int32))] []))
          refine Goes.by (fun t k => XS.iloadN X3.here hx rfl (hb hby d11_72) rfl k) ?_
          show Goes p e below s _ _ _ (T3.setTop (mkF m 73 #[.val (.int pp), .val (.int pq), .val (.int (pp &&& (3 : Int32))), .val (.int (1 : Int32)), .val (.int (1 : Int32)), .val (.int (1 : Int32))] [(.int (1 : Int32))]))
          refine Goes.by (fun t k => XS.ifNo X3.here hx rfl (hb hby d11_73) rfl ((if0 _ _).trans (feq (by decide)).1) k) ?_
          show Goes p e below s _ _ _ (T3.setTop (mkF m 76 #[.val (.int pp), .val (.int pq), .val (.int (pp &&& (3 : Int32))), .val (.int (1 : Int32)), .val (.int (1 : Int32)), .val (.int (1 : Int32))] []))
          refine Goes.by (fun t k => XS.iload X3.here hx rfl (hb hby d11_76) rfl k) ?_
          show Goes p e below s _ _ _ (T3.setTop (mkF m 78 #[.val (.int pp), .val (.int pq), .val (.int (pp &&& (3 : Int32))), .val (.int (1 : Int32)), .val (.int (1 : Int32)), .val (.int (1 : Int32))] [(.int (1 : Int32))]))
          refine Goes.by (fun t k => XS.ifNo X3.here hx rfl (hb hby d11_78) rfl ((if0 _ _).trans (feq (by decide)).1) k) ?_
          show Goes p e below s _ _ _ (T3.setTop (mkF m 81 #[.val (.int pp), .val (.int pq), .val (.int (pp &&& (3 : Int32))), .val (.int (1 : Int32)), .val (.int (1 : Int32)), .val (.int (1 : Int32))] []))
          refine Goes.by (fun t k => XS.iload X3.here hx rfl (hb hby d11_81) rfl k) ?_
          show Goes p e below s _ _ _ (T3.setTop (mkF m 83 #[.val (.int pp), .val (.int pq), .val (.int (pp &&& (3 : Int32))), .val (.int (1 : Int32)), .val (.int (1 : Int32)), .val (.int (1 : Int32))] [(.int (1 : Int32))]))
          refine Goes.by (fun t k => XS.ifNo X3.here hx rfl (hb hby d11_83) rfl ((if0 _ _).trans (feq (by decide)).1) k) ?_
          show Goes p e below s _ _ _ (T3.setTop (mkF m 86 #[.val (.int pp), .val (.int pq), .val (.int (pp &&& (3 : Int32))), .val (.int (1 : Int32)), .val (.int (1 : Int32)), .val (.int (1 : Int32))] []))
          refine Goes.by (fun t k => XS.iconst X3.here hx rfl (hb hby d11_86) k) ?_
          show Goes p e below s _ _ _ (T3.setTop (mkF m 87 #[.val (.int pp), .val (.int pq), .val (.int (pp &&& (3 : Int32))), .val (.int (1 : Int32)), .val (.int (1 : Int32)), .val (.int (1 : Int32))] [(.int (1 : Int32))]))
          refine Goes.by (fun t k => XS.goto X3.here hx rfl (pc0 := 87) (pc' := 91) rfl (hb hby d11_87) (by decide) (by decide) k) ?_
          show Goes p e below s _ _ _ (T3.setTop (mkF m 91 #[.val (.int pp), .val (.int pq), .val (.int (pp &&& (3 : Int32))), .val (.int (1 : Int32)), .val (.int (1 : Int32)), .val (.int (1 : Int32))] [(.int (1 : Int32))]))
          exact Goes.retN X3 hx Bd.returns rfl (hb hby d11_91) hlk (by rw [eH3]; exact ⟨_, rfl, N3, rfl, Or.inl ⟨rfl, hl, Or.inr hb1, Or.inr hb2, Or.inl (by rw [hp]; decide)⟩⟩) (by decide) (by decide)
        · skip
          refine Goes.by (fun t k => XS.ifYes X3.here hx rfl (pc0 := 42) (pc' := 49) rfl (hb hby d11_42) rfl ((if0 _ _).trans (feq (hb2)).2) (by decide) (by decide) k) ?_
          show Goes p e below s _ _ _ (T3.setTop (mkF m 49 #[.val (.int pp), .val (.int pq), .val (.int (pp &&& (3 : Int32))), .val (.int (1 : Int32)), .unset, .unset] []))
          refine Goes.by (fun t k => XS.iconst X3.here hx rfl (hb hby d11_49) k) ?_
          show Goes p e below s _ _ _ (T3.setTop (mkF m 50 #[.val (.int pp), .val (.int pq), .val (.int (pp &&& (3 : Int32))), .val (.int (1 : Int32)), .unset, .unset] [(.int (0 : Int32))]))
          refine Goes.by (fun t k => XS.istore X3.here hx rfl (hb hby d11_50) rfl (l' := #[.val (.int pp), .val (.int pq), .val (.int (pp &&& (3 : Int32))), .val (.int (1 : Int32)), .val (.int (0 : Int32)), .unset]) rfl k) ?_
          show Goes p e below s _ _ _ (T3.setTop (mkF m 52 #[.val (.int pp), .val (.int pq), .val (.int (pp &&& (3 : Int32))), .val (.int (1 : Int32)), .val (.int (0 : Int32)), .unset] []))
          refine Goes.by (fun t k => XS.iloadN X3.here hx rfl (hb hby d11_52) rfl k) ?_
          show Goes p e below s _ _ _ (T3.setTop (mkF m 53 #[.val (.int pp), .val (.int pq), .val (.int (pp &&& (3 : Int32))), .val (.int (1 : Int32)), .val (.int (0 : Int32)), .unset] [(.int (pp &&& (3 : Int32)))]))
          refine Goes.by (fun t k => XS.iconst X3.here hx rfl (hb hby d11_53) k) ?_
          show Goes p e below s _ _ _ (T3.setTop (mkF m 54 #[.val (.int pp), .val (.int pq), .val (.int (pp &&& (3 : Int32))), .val (.int (1 : Int32)), .val (.int (0 : Int32)), .unset] [(.int (3 : Int32)), (.int (pp &&& (3 : Int32)))]))
          refine Goes.by (fun t k => XS.icmpYes X3.here hx rfl (pc0 := 54) (pc' := 65) rfl (hb hby d11_54) rfl (tlt (by rw [hp]; decide)).1 (by decide) (by decide) k) ?_
          show Goes p e below s _ _ _ (T3.setTop (mkF m 65 #[.val (.int pp), .val (.int pq), .val (.int (pp &&& (3 : Int32))), .val (.int (1 : Int32)), .val (.int (0 : Int32)), .unset] []))
          refine Goes.by (fun t k => XS.iconst X3.here hx rfl (hb hby d11_65) k) ?_
          show Goes p e below s _ _ _ (T3.setTop (mkF m 66 #[.val (.int pp), .val (.int pq), .val (.int (pp &&& (3 : Int32))), .val (.int (1 : Int32)), .val (.int (0 : Int32)), .unset] [(.int (1 : Int32))]))
          refine Goes.by (fun t k => XS.goto X3.here hx rfl (pc0 := 66) (pc' := 70) rfl (hb hby d11_66) (by decide) (by decide) k) ?_
          show Goes p e below s _ _ _ (T3.setTop (mkF m 70 #[.val (.int pp), .val (.int pq), .val (.int (pp &&& (3 : Int32))), .val (.int (1 : Int32)), .val (.int (0 : Int32)), .unset] [(.int (1 : Int32))]))
          refine Goes.by (fun t k => XS.istore X3.here hx rfl (hb hby d11_70) rfl (l' := #[.val (.int pp), .val (.int pq), .val (.int (pp &&& (3 : Int32))), .val (.int (1 : Int32)), .val (.int (0 : Int32)), .val (.int (1 : Int32))]) rfl k) ?_
          show Goes p e below s _ _ _ (T3.setTop (mkF m 72 #[.val (.int pp), .val (.int pq), .val (.int (pp &&& (3 : Int32))), .val (.int (1 : Int32)), .val (.int (0 : Int32)), .val (.int (1 : Int32))] []))
          refine Goes.by (fun t k => XS.iloadN X3.here hx rfl (hb hby d11_72) rfl k) ?_
          show Goes p e below s _ _ _ (T3.setTop (mkF m 73 #[.val (.int pp), .val (.int pq), .val (.int (pp &&& (3 : Int32))), .val (.int (1 : Int32)), .val (.int (0 : Int32)), .val (.int (1 : Int32))] [(.int (1 : Int32))]))
          refine Goes.by (fun t k => XS.ifNo X3.here hx rfl (hb hby d11_73) rfl ((if0 _ _).trans (feq (by decide)).1) k) ?_
          show Goes p e below s _ _ _ (T3.setTop (mkF m 76 #[.val (.int pp), .val (.int pq), .val (.int (pp &&& (3 : Int32))), .val (.int (1 : Int32)), .val (.int (0 : Int32)), .val (.int (1 : Int32))] []))
          refine Goes.by (fun t k => XS.iload X3.here hx rfl (hb hby d11_76) rfl k) ?_
          show Goes p e below s _ _ _ (T3.setTop (mkF m 78 #[.val (.int pp), .val (.int pq), .val (.int (pp &&& (3 : Int32))), .val (.int (1 : Int32)), .val (.int (0 : Int32)), .val (.int (1 : Int32))] [(.int (0 : Int32))]))
          refine Goes.by (fun t k => XS.ifYes X3.here hx rfl (pc0 := 78) (pc' := 90) rfl (hb hby d11_78) rfl ((if0 _ _).trans (teq (by decide)).1) (by decide) (by decide) k) ?_
          show Goes p e below s _ _ _ (T3.setTop (mkF m 90 #[.val (.int pp), .val (.int pq), .val (.int (pp &&& (3 : Int32))), .val (.int (1 : Int32)), .val (.int (0 : Int32)), .val (.int (1 : Int32))] []))
          refine Goes.by (fun t k => XS.iconst X3.here hx rfl (hb hby d11_90) k) ?_
          show Goes p e below s _ _ _ (T3.setTop (mkF m 91 #[.val (.int pp), .val (.int pq), .val (.int (pp &&& (3 : Int32))), .val (.int (1 : Int32)), .val (.int (0 : Int32)), .val (.int (1 : Int32))] [(.int (0 : Int32))]))
          exact Goes.retN X3 hx Bd.returns rfl (hb hby d11_91) hlk (by rw [eH3]; exact ⟨_, rfl, N3, rfl, Or.inr ⟨rfl, fun z => hb2 (z.2.2.1.resolve_left (by rw [hp]; decide))⟩⟩) (by decide) (by decide)
      · skip
        refine Goes.by (fun t k => XS.ifYes X2.here hx rfl (pc0 := 23) (pc' := 30) rfl (hb hby d11_23) rfl ((if0 _ _).trans (feq (hb1)).2) (by decide) (by decide) k) ?_
        show Goes p e below s _ _ _ (T2.setTop (mkF m 30 #[.val (.int pp), .val (.int pq), .val (.int (pp &&& (3 : Int32))), .unset, .unset, .unset] []))
        refine Goes.by (fun t k => XS.iconst X2.here hx rfl (hb hby d11_30) k) ?_
        show Goes p e below s _ _ _ (T2.setTop (mkF m 31 #[.val (.int pp), .val (.int pq), .val (.int (pp &&& (3 : Int32))), .unset, .unset, .unset] [(.int (0 : Int32))]))
        refine Goes.by (fun t k => XS.istoreN X2.here hx rfl (hb hby d11_31) rfl (l' := #[.val (.int pp), .val (.int pq), .val (.int (pp &&& (3 : Int32))), .val (.int (0 : Int32)), .unset, .unset]) rfl k) ?_
        show Goes p e below s _ _ _ (T2.setTop (mkF m 32 #[.val (.int pp), .val (.int pq), .val (.int (pp &&& (3 : Int32))), .val (.int (0 : Int32)), .unset, .unset] []))
        refine Goes.by (fun t k => XS.iloadN X2.here hx rfl (hb hby d11_32) rfl k) ?_
        show Goes p e below s _ _ _ (T2.setTop (mkF m 33 #[.val (.int pp), .val (.int pq), .val (.int (pp &&& (3 : Int32))), .val (.int (0 : Int32)), .unset, .unset] [(.int (pp &&& (3 : Int32)))]))
        refine Goes.by (fun t k => XS.iconst X2.here hx rfl (hb hby d11_33) k) ?_
        show Goes p e below s _ _ _ (T2.setTop (mkF m 34 #[.val (.int pp), .val (.int pq), .val (.int (pp &&& (3 : Int32))), .val (.int (0 : Int32)), .unset, .unset] [(.int (2 : Int32)), (.int (pp &&& (3 : Int32)))]))
        refine Goes.by (fun t k => XS.icmpNo X2.here hx rfl (hb hby d11_34) rfl (flt (by rw [hp]; decide)).1 k) ?_
        show Goes p e below s _ _ _ (T2.setTop (mkF m 37 #[.val (.int pp), .val (.int pq), .val (.int (pp &&& (3 : Int32))), .val (.int (0 : Int32)), .unset, .unset] []))
        refine Goes.by (fun t k => XS.iloadN X2.here hx rfl (hb hby d11_37) rfl k) ?_
        show Goes p e below s _ _ _ (T2.setTop (mkF m 38 #[.val (.int pp), .val (.int pq), .val (.int (pp &&& (3 : Int32))), .val (.int (0 : Int32)), .unset, .unset] [(.int pq)]))
        refine Goes.by (fun t k => XS.iconst X2.here hx rfl (hb hby d11_38) k) ?_
        show Goes p e below s _ _ _ (T2.setTop (mkF m 39 #[.val (.int pp), .val (.int pq), .val (.int (pp &&& (3 : Int32))), .val (.int (0 : Int32)), .unset, .unset] [(.int (2 : Int32)), (.int pq)]))
        obtain ⟨_, _, ⟨T4, L4, k4, n4⟩, -, X4, ⟨Lc4, hQ4, l4, y4, z4⟩, st4⟩ := Jvm.LawKit.callS X2 hx (y := (⟨"com/example/diogenes/diogenes/format/TopicEqualsPinLaw", "b", "(II)I"⟩ : MethodName)) hown (mvT hZ (hw _ (List.mem_of_getElem? (i := 0) rfl))) (mvT hZ (hw _ (List.mem_of_getElem? (i := 1) rfl))) (mvT hZ (hw _ (List.mem_of_getElem? (i := 2) rfl))) (mvT hZ (hw _ (List.mem_of_getElem? (i := 3) rfl))) (by decide) (backOf (W := 0) (rm1 l Z a0 hw [] pq 2 _ n0 Z0) hZ (hw _ (List.mem_of_getElem? (i := 3) rfl)) (hw _ (List.mem_of_getElem? (i := 2) rfl)) (by decide) (by decide)) (g := (mkF m 39 #[.val (.int pp), .val (.int pq), .val (.int (pp &&& (3 : Int32))), .val (.int (0 : Int32)), .unset, .unset] [(.int (2 : Int32)), (.int pq)])) rfl (by rw [hml]; rfl) (argsL := [(.int pq), (.int (2 : Int32))]) (rest := []) (lenOf pd_1 rfl) rfl (by show 2 * 0 + _ ≤ _; exact Nat.le_of_eq rfl) (hb hby d11_39) (fun _ _ => ⟨rfl, eH2, (by decide : 0 + 0 ≤ _), (by decide : 0 + 0 ≤ _)⟩)
        dsimp only [Pt.U, Pt.locs, Pt.cells, Pt.slots] at X4 l4 y4 z4 st4 hQ4
        rw [l4, y4, z4] at X4
        obtain ⟨rfl, N4q, hh4⟩ := hQ4
        have N4 := Fr.app N2 N4q
        refine Goes.by (fun t k => st4 _ k) ?_
        show Goes p e below s _ _ _ (T4.setTop (mkF m 42 #[.val (.int pp), .val (.int pq), .val (.int (pp &&& (3 : Int32))), .val (.int (0 : Int32)), .unset, .unset] [(.int (bb pq 2))]))
        have eH4 : T4.heap = h0 := hh4
        by_cases hb2 : (bb pq 2) = (0 : Int32)
        · skip
          refine Goes.by (fun t k => XS.ifNo X4.here hx rfl (hb hby d11_42) rfl ((if0 _ _).trans (teq (hb2)).2) k) ?_
          show Goes p e below s _ _ _ (T4.setTop (mkF m 45 #[.val (.int pp), .val (.int pq), .val (.int (pp &&& (3 : Int32))), .val (.int (0 : Int32)), .unset, .unset] []))
          refine Goes.by (fun t k => XS.iconst X4.here hx rfl (hb hby d11_45) k) ?_
          show Goes p e below s _ _ _ (T4.setTop (mkF m 46 #[.val (.int pp), .val (.int pq), .val (.int (pp &&& (3 : Int32))), .val (.int (0 : Int32)), .unset, .unset] [(.int (1 : Int32))]))
          refine Goes.by (fun t k => XS.goto X4.here hx rfl (pc0 := 46) (pc' := 50) rfl (hb hby d11_46) (by decide) (by decide) k) ?_
          show Goes p e below s _ _ _ (T4.setTop (mkF m 50 #[.val (.int pp), .val (.int pq), .val (.int (pp &&& (3 : Int32))), .val (.int (0 : Int32)), .unset, .unset] [(.int (1 : Int32))]))
          refine Goes.by (fun t k => XS.istore X4.here hx rfl (hb hby d11_50) rfl (l' := #[.val (.int pp), .val (.int pq), .val (.int (pp &&& (3 : Int32))), .val (.int (0 : Int32)), .val (.int (1 : Int32)), .unset]) rfl k) ?_
          show Goes p e below s _ _ _ (T4.setTop (mkF m 52 #[.val (.int pp), .val (.int pq), .val (.int (pp &&& (3 : Int32))), .val (.int (0 : Int32)), .val (.int (1 : Int32)), .unset] []))
          refine Goes.by (fun t k => XS.iloadN X4.here hx rfl (hb hby d11_52) rfl k) ?_
          show Goes p e below s _ _ _ (T4.setTop (mkF m 53 #[.val (.int pp), .val (.int pq), .val (.int (pp &&& (3 : Int32))), .val (.int (0 : Int32)), .val (.int (1 : Int32)), .unset] [(.int (pp &&& (3 : Int32)))]))
          refine Goes.by (fun t k => XS.iconst X4.here hx rfl (hb hby d11_53) k) ?_
          show Goes p e below s _ _ _ (T4.setTop (mkF m 54 #[.val (.int pp), .val (.int pq), .val (.int (pp &&& (3 : Int32))), .val (.int (0 : Int32)), .val (.int (1 : Int32)), .unset] [(.int (3 : Int32)), (.int (pp &&& (3 : Int32)))]))
          refine Goes.by (fun t k => XS.icmpYes X4.here hx rfl (pc0 := 54) (pc' := 65) rfl (hb hby d11_54) rfl (tlt (by rw [hp]; decide)).1 (by decide) (by decide) k) ?_
          show Goes p e below s _ _ _ (T4.setTop (mkF m 65 #[.val (.int pp), .val (.int pq), .val (.int (pp &&& (3 : Int32))), .val (.int (0 : Int32)), .val (.int (1 : Int32)), .unset] []))
          refine Goes.by (fun t k => XS.iconst X4.here hx rfl (hb hby d11_65) k) ?_
          show Goes p e below s _ _ _ (T4.setTop (mkF m 66 #[.val (.int pp), .val (.int pq), .val (.int (pp &&& (3 : Int32))), .val (.int (0 : Int32)), .val (.int (1 : Int32)), .unset] [(.int (1 : Int32))]))
          refine Goes.by (fun t k => XS.goto X4.here hx rfl (pc0 := 66) (pc' := 70) rfl (hb hby d11_66) (by decide) (by decide) k) ?_
          show Goes p e below s _ _ _ (T4.setTop (mkF m 70 #[.val (.int pp), .val (.int pq), .val (.int (pp &&& (3 : Int32))), .val (.int (0 : Int32)), .val (.int (1 : Int32)), .unset] [(.int (1 : Int32))]))
          refine Goes.by (fun t k => XS.istore X4.here hx rfl (hb hby d11_70) rfl (l' := #[.val (.int pp), .val (.int pq), .val (.int (pp &&& (3 : Int32))), .val (.int (0 : Int32)), .val (.int (1 : Int32)), .val (.int (1 : Int32))]) rfl k) ?_
          show Goes p e below s _ _ _ (T4.setTop (mkF m 72 #[.val (.int pp), .val (.int pq), .val (.int (pp &&& (3 : Int32))), .val (.int (0 : Int32)), .val (.int (1 : Int32)), .val (.int (1 : Int32))] []))
          refine Goes.by (fun t k => XS.iloadN X4.here hx rfl (hb hby d11_72) rfl k) ?_
          show Goes p e below s _ _ _ (T4.setTop (mkF m 73 #[.val (.int pp), .val (.int pq), .val (.int (pp &&& (3 : Int32))), .val (.int (0 : Int32)), .val (.int (1 : Int32)), .val (.int (1 : Int32))] [(.int (0 : Int32))]))
          refine Goes.by (fun t k => XS.ifYes X4.here hx rfl (pc0 := 73) (pc' := 90) rfl (hb hby d11_73) rfl ((if0 _ _).trans (teq (by decide)).1) (by decide) (by decide) k) ?_
          show Goes p e below s _ _ _ (T4.setTop (mkF m 90 #[.val (.int pp), .val (.int pq), .val (.int (pp &&& (3 : Int32))), .val (.int (0 : Int32)), .val (.int (1 : Int32)), .val (.int (1 : Int32))] []))
          refine Goes.by (fun t k => XS.iconst X4.here hx rfl (hb hby d11_90) k) ?_
          show Goes p e below s _ _ _ (T4.setTop (mkF m 91 #[.val (.int pp), .val (.int pq), .val (.int (pp &&& (3 : Int32))), .val (.int (0 : Int32)), .val (.int (1 : Int32)), .val (.int (1 : Int32))] [(.int (0 : Int32))]))
          exact Goes.retN X4 hx Bd.returns rfl (hb hby d11_91) hlk (by rw [eH4]; exact ⟨_, rfl, N4, rfl, Or.inr ⟨rfl, fun z => hb1 (z.2.1.resolve_left (by rw [hp]; decide))⟩⟩) (by decide) (by decide)
        · skip
          refine Goes.by (fun t k => XS.ifYes X4.here hx rfl (pc0 := 42) (pc' := 49) rfl (hb hby d11_42) rfl ((if0 _ _).trans (feq (hb2)).2) (by decide) (by decide) k) ?_
          show Goes p e below s _ _ _ (T4.setTop (mkF m 49 #[.val (.int pp), .val (.int pq), .val (.int (pp &&& (3 : Int32))), .val (.int (0 : Int32)), .unset, .unset] []))
          refine Goes.by (fun t k => XS.iconst X4.here hx rfl (hb hby d11_49) k) ?_
          show Goes p e below s _ _ _ (T4.setTop (mkF m 50 #[.val (.int pp), .val (.int pq), .val (.int (pp &&& (3 : Int32))), .val (.int (0 : Int32)), .unset, .unset] [(.int (0 : Int32))]))
          refine Goes.by (fun t k => XS.istore X4.here hx rfl (hb hby d11_50) rfl (l' := #[.val (.int pp), .val (.int pq), .val (.int (pp &&& (3 : Int32))), .val (.int (0 : Int32)), .val (.int (0 : Int32)), .unset]) rfl k) ?_
          show Goes p e below s _ _ _ (T4.setTop (mkF m 52 #[.val (.int pp), .val (.int pq), .val (.int (pp &&& (3 : Int32))), .val (.int (0 : Int32)), .val (.int (0 : Int32)), .unset] []))
          refine Goes.by (fun t k => XS.iloadN X4.here hx rfl (hb hby d11_52) rfl k) ?_
          show Goes p e below s _ _ _ (T4.setTop (mkF m 53 #[.val (.int pp), .val (.int pq), .val (.int (pp &&& (3 : Int32))), .val (.int (0 : Int32)), .val (.int (0 : Int32)), .unset] [(.int (pp &&& (3 : Int32)))]))
          refine Goes.by (fun t k => XS.iconst X4.here hx rfl (hb hby d11_53) k) ?_
          show Goes p e below s _ _ _ (T4.setTop (mkF m 54 #[.val (.int pp), .val (.int pq), .val (.int (pp &&& (3 : Int32))), .val (.int (0 : Int32)), .val (.int (0 : Int32)), .unset] [(.int (3 : Int32)), (.int (pp &&& (3 : Int32)))]))
          refine Goes.by (fun t k => XS.icmpYes X4.here hx rfl (pc0 := 54) (pc' := 65) rfl (hb hby d11_54) rfl (tlt (by rw [hp]; decide)).1 (by decide) (by decide) k) ?_
          show Goes p e below s _ _ _ (T4.setTop (mkF m 65 #[.val (.int pp), .val (.int pq), .val (.int (pp &&& (3 : Int32))), .val (.int (0 : Int32)), .val (.int (0 : Int32)), .unset] []))
          refine Goes.by (fun t k => XS.iconst X4.here hx rfl (hb hby d11_65) k) ?_
          show Goes p e below s _ _ _ (T4.setTop (mkF m 66 #[.val (.int pp), .val (.int pq), .val (.int (pp &&& (3 : Int32))), .val (.int (0 : Int32)), .val (.int (0 : Int32)), .unset] [(.int (1 : Int32))]))
          refine Goes.by (fun t k => XS.goto X4.here hx rfl (pc0 := 66) (pc' := 70) rfl (hb hby d11_66) (by decide) (by decide) k) ?_
          show Goes p e below s _ _ _ (T4.setTop (mkF m 70 #[.val (.int pp), .val (.int pq), .val (.int (pp &&& (3 : Int32))), .val (.int (0 : Int32)), .val (.int (0 : Int32)), .unset] [(.int (1 : Int32))]))
          refine Goes.by (fun t k => XS.istore X4.here hx rfl (hb hby d11_70) rfl (l' := #[.val (.int pp), .val (.int pq), .val (.int (pp &&& (3 : Int32))), .val (.int (0 : Int32)), .val (.int (0 : Int32)), .val (.int (1 : Int32))]) rfl k) ?_
          show Goes p e below s _ _ _ (T4.setTop (mkF m 72 #[.val (.int pp), .val (.int pq), .val (.int (pp &&& (3 : Int32))), .val (.int (0 : Int32)), .val (.int (0 : Int32)), .val (.int (1 : Int32))] []))
          refine Goes.by (fun t k => XS.iloadN X4.here hx rfl (hb hby d11_72) rfl k) ?_
          show Goes p e below s _ _ _ (T4.setTop (mkF m 73 #[.val (.int pp), .val (.int pq), .val (.int (pp &&& (3 : Int32))), .val (.int (0 : Int32)), .val (.int (0 : Int32)), .val (.int (1 : Int32))] [(.int (0 : Int32))]))
          refine Goes.by (fun t k => XS.ifYes X4.here hx rfl (pc0 := 73) (pc' := 90) rfl (hb hby d11_73) rfl ((if0 _ _).trans (teq (by decide)).1) (by decide) (by decide) k) ?_
          show Goes p e below s _ _ _ (T4.setTop (mkF m 90 #[.val (.int pp), .val (.int pq), .val (.int (pp &&& (3 : Int32))), .val (.int (0 : Int32)), .val (.int (0 : Int32)), .val (.int (1 : Int32))] []))
          refine Goes.by (fun t k => XS.iconst X4.here hx rfl (hb hby d11_90) k) ?_
          show Goes p e below s _ _ _ (T4.setTop (mkF m 91 #[.val (.int pp), .val (.int pq), .val (.int (pp &&& (3 : Int32))), .val (.int (0 : Int32)), .val (.int (0 : Int32)), .val (.int (1 : Int32))] [(.int (0 : Int32))]))
          exact Goes.retN X4 hx Bd.returns rfl (hb hby d11_91) hlk (by rw [eH4]; exact ⟨_, rfl, N4, rfl, Or.inr ⟨rfl, fun z => hb1 (z.2.1.resolve_left (by rw [hp]; decide))⟩⟩) (by decide) (by decide)
    · skip
      refine Goes.by (fun t k => XS.iloadN X0.here hx rfl (hb hby d11_13) rfl k) ?_
      show Goes p e below s _ _ _ (s₁.setTop (mkF m 14 #[.val (.int pp), .val (.int pq), .val (.int (pp &&& (3 : Int32))), .unset, .unset, .unset] [(.int (pp &&& (3 : Int32)))]))
      refine Goes.by (fun t k => XS.iconst X0.here hx rfl (hb hby d11_14) k) ?_
      show Goes p e below s _ _ _ (s₁.setTop (mkF m 15 #[.val (.int pp), .val (.int pq), .val (.int (pp &&& (3 : Int32))), .unset, .unset, .unset] [(.int (1 : Int32)), (.int (pp &&& (3 : Int32)))]))
      refine Goes.by (fun t k => XS.icmpNo X0.here hx rfl (hb hby d11_15) rfl (flt (by rw [hp]; decide)).1 k) ?_
      show Goes p e below s _ _ _ (s₁.setTop (mkF m 18 #[.val (.int pp), .val (.int pq), .val (.int (pp &&& (3 : Int32))), .unset, .unset, .unset] []))
      refine Goes.by (fun t k => XS.iloadN X0.here hx rfl (hb hby d11_18) rfl k) ?_
      show Goes p e below s _ _ _ (s₁.setTop (mkF m 19 #[.val (.int pp), .val (.int pq), .val (.int (pp &&& (3 : Int32))), .unset, .unset, .unset] [(.int pq)]))
      refine Goes.by (fun t k => XS.iconst X0.here hx rfl (hb hby d11_19) k) ?_
      show Goes p e below s _ _ _ (s₁.setTop (mkF m 20 #[.val (.int pp), .val (.int pq), .val (.int (pp &&& (3 : Int32))), .unset, .unset, .unset] [(.int (1 : Int32)), (.int pq)]))
      obtain ⟨_, _, ⟨T5, L5, k5, n5⟩, -, X5, ⟨Lc5, hQ5, l5, y5, z5⟩, st5⟩ := Jvm.LawKit.callS X0 hx (y := (⟨"com/example/diogenes/diogenes/format/TopicEqualsPinLaw", "b", "(II)I"⟩ : MethodName)) hown (mvT hZ (hw _ (List.mem_of_getElem? (i := 0) rfl))) (mvT hZ (hw _ (List.mem_of_getElem? (i := 1) rfl))) (mvT hZ (hw _ (List.mem_of_getElem? (i := 2) rfl))) (mvT hZ (hw _ (List.mem_of_getElem? (i := 3) rfl))) (by decide) (backOf (W := 0) (rm1 l Z a0 hw [] pq 1 _ n0 Z0) hZ (hw _ (List.mem_of_getElem? (i := 3) rfl)) (hw _ (List.mem_of_getElem? (i := 2) rfl)) (by decide) (by decide)) (g := (mkF m 20 #[.val (.int pp), .val (.int pq), .val (.int (pp &&& (3 : Int32))), .unset, .unset, .unset] [(.int (1 : Int32)), (.int pq)])) rfl (by rw [hml]; rfl) (argsL := [(.int pq), (.int (1 : Int32))]) (rest := []) (lenOf pd_1 rfl) rfl (by show 2 * 0 + _ ≤ _; exact Nat.le_of_eq rfl) (hb hby d11_20) (fun _ _ => ⟨rfl, e0, (by decide : 0 + 0 ≤ _), (by decide : 0 + 0 ≤ _)⟩)
      dsimp only [Pt.U, Pt.locs, Pt.cells, Pt.slots] at X5 l5 y5 z5 st5 hQ5
      rw [l5, y5, z5] at X5
      obtain ⟨rfl, N5q, hh5⟩ := hQ5
      have N5 := Fr.app N0 N5q
      refine Goes.by (fun t k => st5 _ k) ?_
      show Goes p e below s _ _ _ (T5.setTop (mkF m 23 #[.val (.int pp), .val (.int pq), .val (.int (pp &&& (3 : Int32))), .unset, .unset, .unset] [(.int (bb pq 1))]))
      have eH5 : T5.heap = h0 := hh5
      by_cases hb1 : (bb pq 1) = (0 : Int32)
      · skip
        refine Goes.by (fun t k => XS.ifNo X5.here hx rfl (hb hby d11_23) rfl ((if0 _ _).trans (teq (hb1)).2) k) ?_
        show Goes p e below s _ _ _ (T5.setTop (mkF m 26 #[.val (.int pp), .val (.int pq), .val (.int (pp &&& (3 : Int32))), .unset, .unset, .unset] []))
        refine Goes.by (fun t k => XS.iconst X5.here hx rfl (hb hby d11_26) k) ?_
        show Goes p e below s _ _ _ (T5.setTop (mkF m 27 #[.val (.int pp), .val (.int pq), .val (.int (pp &&& (3 : Int32))), .unset, .unset, .unset] [(.int (1 : Int32))]))
        refine Goes.by (fun t k => XS.goto X5.here hx rfl (pc0 := 27) (pc' := 31) rfl (hb hby d11_27) (by decide) (by decide) k) ?_
        show Goes p e below s _ _ _ (T5.setTop (mkF m 31 #[.val (.int pp), .val (.int pq), .val (.int (pp &&& (3 : Int32))), .unset, .unset, .unset] [(.int (1 : Int32))]))
        refine Goes.by (fun t k => XS.istoreN X5.here hx rfl (hb hby d11_31) rfl (l' := #[.val (.int pp), .val (.int pq), .val (.int (pp &&& (3 : Int32))), .val (.int (1 : Int32)), .unset, .unset]) rfl k) ?_
        show Goes p e below s _ _ _ (T5.setTop (mkF m 32 #[.val (.int pp), .val (.int pq), .val (.int (pp &&& (3 : Int32))), .val (.int (1 : Int32)), .unset, .unset] []))
        refine Goes.by (fun t k => XS.iloadN X5.here hx rfl (hb hby d11_32) rfl k) ?_
        show Goes p e below s _ _ _ (T5.setTop (mkF m 33 #[.val (.int pp), .val (.int pq), .val (.int (pp &&& (3 : Int32))), .val (.int (1 : Int32)), .unset, .unset] [(.int (pp &&& (3 : Int32)))]))
        refine Goes.by (fun t k => XS.iconst X5.here hx rfl (hb hby d11_33) k) ?_
        show Goes p e below s _ _ _ (T5.setTop (mkF m 34 #[.val (.int pp), .val (.int pq), .val (.int (pp &&& (3 : Int32))), .val (.int (1 : Int32)), .unset, .unset] [(.int (2 : Int32)), (.int (pp &&& (3 : Int32)))]))
        refine Goes.by (fun t k => XS.icmpNo X5.here hx rfl (hb hby d11_34) rfl (flt (by rw [hp]; decide)).1 k) ?_
        show Goes p e below s _ _ _ (T5.setTop (mkF m 37 #[.val (.int pp), .val (.int pq), .val (.int (pp &&& (3 : Int32))), .val (.int (1 : Int32)), .unset, .unset] []))
        refine Goes.by (fun t k => XS.iloadN X5.here hx rfl (hb hby d11_37) rfl k) ?_
        show Goes p e below s _ _ _ (T5.setTop (mkF m 38 #[.val (.int pp), .val (.int pq), .val (.int (pp &&& (3 : Int32))), .val (.int (1 : Int32)), .unset, .unset] [(.int pq)]))
        refine Goes.by (fun t k => XS.iconst X5.here hx rfl (hb hby d11_38) k) ?_
        show Goes p e below s _ _ _ (T5.setTop (mkF m 39 #[.val (.int pp), .val (.int pq), .val (.int (pp &&& (3 : Int32))), .val (.int (1 : Int32)), .unset, .unset] [(.int (2 : Int32)), (.int pq)]))
        obtain ⟨_, _, ⟨T6, L6, k6, n6⟩, -, X6, ⟨Lc6, hQ6, l6, y6, z6⟩, st6⟩ := Jvm.LawKit.callS X5 hx (y := (⟨"com/example/diogenes/diogenes/format/TopicEqualsPinLaw", "b", "(II)I"⟩ : MethodName)) hown (mvT hZ (hw _ (List.mem_of_getElem? (i := 0) rfl))) (mvT hZ (hw _ (List.mem_of_getElem? (i := 1) rfl))) (mvT hZ (hw _ (List.mem_of_getElem? (i := 2) rfl))) (mvT hZ (hw _ (List.mem_of_getElem? (i := 3) rfl))) (by decide) (backOf (W := 0) (rm1 l Z a0 hw [] pq 2 _ n0 Z0) hZ (hw _ (List.mem_of_getElem? (i := 3) rfl)) (hw _ (List.mem_of_getElem? (i := 2) rfl)) (by decide) (by decide)) (g := (mkF m 39 #[.val (.int pp), .val (.int pq), .val (.int (pp &&& (3 : Int32))), .val (.int (1 : Int32)), .unset, .unset] [(.int (2 : Int32)), (.int pq)])) rfl (by rw [hml]; rfl) (argsL := [(.int pq), (.int (2 : Int32))]) (rest := []) (lenOf pd_1 rfl) rfl (by show 2 * 0 + _ ≤ _; exact Nat.le_of_eq rfl) (hb hby d11_39) (fun _ _ => ⟨rfl, eH5, (by decide : 0 + 0 ≤ _), (by decide : 0 + 0 ≤ _)⟩)
        dsimp only [Pt.U, Pt.locs, Pt.cells, Pt.slots] at X6 l6 y6 z6 st6 hQ6
        rw [l6, y6, z6] at X6
        obtain ⟨rfl, N6q, hh6⟩ := hQ6
        have N6 := Fr.app N5 N6q
        refine Goes.by (fun t k => st6 _ k) ?_
        show Goes p e below s _ _ _ (T6.setTop (mkF m 42 #[.val (.int pp), .val (.int pq), .val (.int (pp &&& (3 : Int32))), .val (.int (1 : Int32)), .unset, .unset] [(.int (bb pq 2))]))
        have eH6 : T6.heap = h0 := hh6
        by_cases hb2 : (bb pq 2) = (0 : Int32)
        · skip
          refine Goes.by (fun t k => XS.ifNo X6.here hx rfl (hb hby d11_42) rfl ((if0 _ _).trans (teq (hb2)).2) k) ?_
          show Goes p e below s _ _ _ (T6.setTop (mkF m 45 #[.val (.int pp), .val (.int pq), .val (.int (pp &&& (3 : Int32))), .val (.int (1 : Int32)), .unset, .unset] []))
          refine Goes.by (fun t k => XS.iconst X6.here hx rfl (hb hby d11_45) k) ?_
          show Goes p e below s _ _ _ (T6.setTop (mkF m 46 #[.val (.int pp), .val (.int pq), .val (.int (pp &&& (3 : Int32))), .val (.int (1 : Int32)), .unset, .unset] [(.int (1 : Int32))]))
          refine Goes.by (fun t k => XS.goto X6.here hx rfl (pc0 := 46) (pc' := 50) rfl (hb hby d11_46) (by decide) (by decide) k) ?_
          show Goes p e below s _ _ _ (T6.setTop (mkF m 50 #[.val (.int pp), .val (.int pq), .val (.int (pp &&& (3 : Int32))), .val (.int (1 : Int32)), .unset, .unset] [(.int (1 : Int32))]))
          refine Goes.by (fun t k => XS.istore X6.here hx rfl (hb hby d11_50) rfl (l' := #[.val (.int pp), .val (.int pq), .val (.int (pp &&& (3 : Int32))), .val (.int (1 : Int32)), .val (.int (1 : Int32)), .unset]) rfl k) ?_
          show Goes p e below s _ _ _ (T6.setTop (mkF m 52 #[.val (.int pp), .val (.int pq), .val (.int (pp &&& (3 : Int32))), .val (.int (1 : Int32)), .val (.int (1 : Int32)), .unset] []))
          refine Goes.by (fun t k => XS.iloadN X6.here hx rfl (hb hby d11_52) rfl k) ?_
          show Goes p e below s _ _ _ (T6.setTop (mkF m 53 #[.val (.int pp), .val (.int pq), .val (.int (pp &&& (3 : Int32))), .val (.int (1 : Int32)), .val (.int (1 : Int32)), .unset] [(.int (pp &&& (3 : Int32)))]))
          refine Goes.by (fun t k => XS.iconst X6.here hx rfl (hb hby d11_53) k) ?_
          show Goes p e below s _ _ _ (T6.setTop (mkF m 54 #[.val (.int pp), .val (.int pq), .val (.int (pp &&& (3 : Int32))), .val (.int (1 : Int32)), .val (.int (1 : Int32)), .unset] [(.int (3 : Int32)), (.int (pp &&& (3 : Int32)))]))
          refine Goes.by (fun t k => XS.icmpNo X6.here hx rfl (hb hby d11_54) rfl (flt (by rw [hp]; decide)).1 k) ?_
          show Goes p e below s _ _ _ (T6.setTop (mkF m 57 #[.val (.int pp), .val (.int pq), .val (.int (pp &&& (3 : Int32))), .val (.int (1 : Int32)), .val (.int (1 : Int32)), .unset] []))
          refine Goes.by (fun t k => XS.iloadN X6.here hx rfl (hb hby d11_57) rfl k) ?_
          show Goes p e below s _ _ _ (T6.setTop (mkF m 58 #[.val (.int pp), .val (.int pq), .val (.int (pp &&& (3 : Int32))), .val (.int (1 : Int32)), .val (.int (1 : Int32)), .unset] [(.int pq)]))
          refine Goes.by (fun t k => XS.iconst X6.here hx rfl (hb hby d11_58) k) ?_
          show Goes p e below s _ _ _ (T6.setTop (mkF m 59 #[.val (.int pp), .val (.int pq), .val (.int (pp &&& (3 : Int32))), .val (.int (1 : Int32)), .val (.int (1 : Int32)), .unset] [(.int (3 : Int32)), (.int pq)]))
          obtain ⟨_, _, ⟨T7, L7, k7, n7⟩, -, X7, ⟨Lc7, hQ7, l7, y7, z7⟩, st7⟩ := Jvm.LawKit.callS X6 hx (y := (⟨"com/example/diogenes/diogenes/format/TopicEqualsPinLaw", "b", "(II)I"⟩ : MethodName)) hown (mvT hZ (hw _ (List.mem_of_getElem? (i := 0) rfl))) (mvT hZ (hw _ (List.mem_of_getElem? (i := 1) rfl))) (mvT hZ (hw _ (List.mem_of_getElem? (i := 2) rfl))) (mvT hZ (hw _ (List.mem_of_getElem? (i := 3) rfl))) (by decide) (backOf (W := 0) (rm1 l Z a0 hw [] pq 3 _ n0 Z0) hZ (hw _ (List.mem_of_getElem? (i := 3) rfl)) (hw _ (List.mem_of_getElem? (i := 2) rfl)) (by decide) (by decide)) (g := (mkF m 59 #[.val (.int pp), .val (.int pq), .val (.int (pp &&& (3 : Int32))), .val (.int (1 : Int32)), .val (.int (1 : Int32)), .unset] [(.int (3 : Int32)), (.int pq)])) rfl (by rw [hml]; rfl) (argsL := [(.int pq), (.int (3 : Int32))]) (rest := []) (lenOf pd_1 rfl) rfl (by show 2 * 0 + _ ≤ _; exact Nat.le_of_eq rfl) (hb hby d11_59) (fun _ _ => ⟨rfl, eH6, (by decide : 0 + 0 ≤ _), (by decide : 0 + 0 ≤ _)⟩)
          dsimp only [Pt.U, Pt.locs, Pt.cells, Pt.slots] at X7 l7 y7 z7 st7 hQ7
          rw [l7, y7, z7] at X7
          obtain ⟨rfl, N7q, hh7⟩ := hQ7
          have N7 := Fr.app N6 N7q
          refine Goes.by (fun t k => st7 _ k) ?_
          show Goes p e below s _ _ _ (T7.setTop (mkF m 62 #[.val (.int pp), .val (.int pq), .val (.int (pp &&& (3 : Int32))), .val (.int (1 : Int32)), .val (.int (1 : Int32)), .unset] [(.int (bb pq 3))]))
          have eH7 : T7.heap = h0 := hh7
          by_cases hb3 : (bb pq 3) = (0 : Int32)
          · skip
            refine Goes.by (fun t k => XS.ifNo X7.here hx rfl (hb hby d11_62) rfl ((if0 _ _).trans (teq (hb3)).2) k) ?_
            show Goes p e below s _ _ _ (T7.setTop (mkF m 65 #[.val (.int pp), .val (.int pq), .val (.int (pp &&& (3 : Int32))), .val (.int (1 : Int32)), .val (.int (1 : Int32)), .unset] []))
            refine Goes.by (fun t k => XS.iconst X7.here hx rfl (hb hby d11_65) k) ?_
            show Goes p e below s _ _ _ (T7.setTop (mkF m 66 #[.val (.int pp), .val (.int pq), .val (.int (pp &&& (3 : Int32))), .val (.int (1 : Int32)), .val (.int (1 : Int32)), .unset] [(.int (1 : Int32))]))
            refine Goes.by (fun t k => XS.goto X7.here hx rfl (pc0 := 66) (pc' := 70) rfl (hb hby d11_66) (by decide) (by decide) k) ?_
            show Goes p e below s _ _ _ (T7.setTop (mkF m 70 #[.val (.int pp), .val (.int pq), .val (.int (pp &&& (3 : Int32))), .val (.int (1 : Int32)), .val (.int (1 : Int32)), .unset] [(.int (1 : Int32))]))
            refine Goes.by (fun t k => XS.istore X7.here hx rfl (hb hby d11_70) rfl (l' := #[.val (.int pp), .val (.int pq), .val (.int (pp &&& (3 : Int32))), .val (.int (1 : Int32)), .val (.int (1 : Int32)), .val (.int (1 : Int32))]) rfl k) ?_
            show Goes p e below s _ _ _ (T7.setTop (mkF m 72 #[.val (.int pp), .val (.int pq), .val (.int (pp &&& (3 : Int32))), .val (.int (1 : Int32)), .val (.int (1 : Int32)), .val (.int (1 : Int32))] []))
            refine Goes.by (fun t k => XS.iloadN X7.here hx rfl (hb hby d11_72) rfl k) ?_
            show Goes p e below s _ _ _ (T7.setTop (mkF m 73 #[.val (.int pp), .val (.int pq), .val (.int (pp &&& (3 : Int32))), .val (.int (1 : Int32)), .val (.int (1 : Int32)), .val (.int (1 : Int32))] [(.int (1 : Int32))]))
            refine Goes.by (fun t k => XS.ifNo X7.here hx rfl (hb hby d11_73) rfl ((if0 _ _).trans (feq (by decide)).1) k) ?_
            show Goes p e below s _ _ _ (T7.setTop (mkF m 76 #[.val (.int pp), .val (.int pq), .val (.int (pp &&& (3 : Int32))), .val (.int (1 : Int32)), .val (.int (1 : Int32)), .val (.int (1 : Int32))] []))
            refine Goes.by (fun t k => XS.iload X7.here hx rfl (hb hby d11_76) rfl k) ?_
            show Goes p e below s _ _ _ (T7.setTop (mkF m 78 #[.val (.int pp), .val (.int pq), .val (.int (pp &&& (3 : Int32))), .val (.int (1 : Int32)), .val (.int (1 : Int32)), .val (.int (1 : Int32))] [(.int (1 : Int32))]))
            refine Goes.by (fun t k => XS.ifNo X7.here hx rfl (hb hby d11_78) rfl ((if0 _ _).trans (feq (by decide)).1) k) ?_
            show Goes p e below s _ _ _ (T7.setTop (mkF m 81 #[.val (.int pp), .val (.int pq), .val (.int (pp &&& (3 : Int32))), .val (.int (1 : Int32)), .val (.int (1 : Int32)), .val (.int (1 : Int32))] []))
            refine Goes.by (fun t k => XS.iload X7.here hx rfl (hb hby d11_81) rfl k) ?_
            show Goes p e below s _ _ _ (T7.setTop (mkF m 83 #[.val (.int pp), .val (.int pq), .val (.int (pp &&& (3 : Int32))), .val (.int (1 : Int32)), .val (.int (1 : Int32)), .val (.int (1 : Int32))] [(.int (1 : Int32))]))
            refine Goes.by (fun t k => XS.ifNo X7.here hx rfl (hb hby d11_83) rfl ((if0 _ _).trans (feq (by decide)).1) k) ?_
            show Goes p e below s _ _ _ (T7.setTop (mkF m 86 #[.val (.int pp), .val (.int pq), .val (.int (pp &&& (3 : Int32))), .val (.int (1 : Int32)), .val (.int (1 : Int32)), .val (.int (1 : Int32))] []))
            refine Goes.by (fun t k => XS.iconst X7.here hx rfl (hb hby d11_86) k) ?_
            show Goes p e below s _ _ _ (T7.setTop (mkF m 87 #[.val (.int pp), .val (.int pq), .val (.int (pp &&& (3 : Int32))), .val (.int (1 : Int32)), .val (.int (1 : Int32)), .val (.int (1 : Int32))] [(.int (1 : Int32))]))
            refine Goes.by (fun t k => XS.goto X7.here hx rfl (pc0 := 87) (pc' := 91) rfl (hb hby d11_87) (by decide) (by decide) k) ?_
            show Goes p e below s _ _ _ (T7.setTop (mkF m 91 #[.val (.int pp), .val (.int pq), .val (.int (pp &&& (3 : Int32))), .val (.int (1 : Int32)), .val (.int (1 : Int32)), .val (.int (1 : Int32))] [(.int (1 : Int32))]))
            exact Goes.retN X7 hx Bd.returns rfl (hb hby d11_91) hlk (by rw [eH7]; exact ⟨_, rfl, N7, rfl, Or.inl ⟨rfl, hl, Or.inr hb1, Or.inr hb2, Or.inr hb3⟩⟩) (by decide) (by decide)
          · skip
            refine Goes.by (fun t k => XS.ifYes X7.here hx rfl (pc0 := 62) (pc' := 69) rfl (hb hby d11_62) rfl ((if0 _ _).trans (feq (hb3)).2) (by decide) (by decide) k) ?_
            show Goes p e below s _ _ _ (T7.setTop (mkF m 69 #[.val (.int pp), .val (.int pq), .val (.int (pp &&& (3 : Int32))), .val (.int (1 : Int32)), .val (.int (1 : Int32)), .unset] []))
            refine Goes.by (fun t k => XS.iconst X7.here hx rfl (hb hby d11_69) k) ?_
            show Goes p e below s _ _ _ (T7.setTop (mkF m 70 #[.val (.int pp), .val (.int pq), .val (.int (pp &&& (3 : Int32))), .val (.int (1 : Int32)), .val (.int (1 : Int32)), .unset] [(.int (0 : Int32))]))
            refine Goes.by (fun t k => XS.istore X7.here hx rfl (hb hby d11_70) rfl (l' := #[.val (.int pp), .val (.int pq), .val (.int (pp &&& (3 : Int32))), .val (.int (1 : Int32)), .val (.int (1 : Int32)), .val (.int (0 : Int32))]) rfl k) ?_
            show Goes p e below s _ _ _ (T7.setTop (mkF m 72 #[.val (.int pp), .val (.int pq), .val (.int (pp &&& (3 : Int32))), .val (.int (1 : Int32)), .val (.int (1 : Int32)), .val (.int (0 : Int32))] []))
            refine Goes.by (fun t k => XS.iloadN X7.here hx rfl (hb hby d11_72) rfl k) ?_
            show Goes p e below s _ _ _ (T7.setTop (mkF m 73 #[.val (.int pp), .val (.int pq), .val (.int (pp &&& (3 : Int32))), .val (.int (1 : Int32)), .val (.int (1 : Int32)), .val (.int (0 : Int32))] [(.int (1 : Int32))]))
            refine Goes.by (fun t k => XS.ifNo X7.here hx rfl (hb hby d11_73) rfl ((if0 _ _).trans (feq (by decide)).1) k) ?_
            show Goes p e below s _ _ _ (T7.setTop (mkF m 76 #[.val (.int pp), .val (.int pq), .val (.int (pp &&& (3 : Int32))), .val (.int (1 : Int32)), .val (.int (1 : Int32)), .val (.int (0 : Int32))] []))
            refine Goes.by (fun t k => XS.iload X7.here hx rfl (hb hby d11_76) rfl k) ?_
            show Goes p e below s _ _ _ (T7.setTop (mkF m 78 #[.val (.int pp), .val (.int pq), .val (.int (pp &&& (3 : Int32))), .val (.int (1 : Int32)), .val (.int (1 : Int32)), .val (.int (0 : Int32))] [(.int (1 : Int32))]))
            refine Goes.by (fun t k => XS.ifNo X7.here hx rfl (hb hby d11_78) rfl ((if0 _ _).trans (feq (by decide)).1) k) ?_
            show Goes p e below s _ _ _ (T7.setTop (mkF m 81 #[.val (.int pp), .val (.int pq), .val (.int (pp &&& (3 : Int32))), .val (.int (1 : Int32)), .val (.int (1 : Int32)), .val (.int (0 : Int32))] []))
            refine Goes.by (fun t k => XS.iload X7.here hx rfl (hb hby d11_81) rfl k) ?_
            show Goes p e below s _ _ _ (T7.setTop (mkF m 83 #[.val (.int pp), .val (.int pq), .val (.int (pp &&& (3 : Int32))), .val (.int (1 : Int32)), .val (.int (1 : Int32)), .val (.int (0 : Int32))] [(.int (0 : Int32))]))
            refine Goes.by (fun t k => XS.ifYes X7.here hx rfl (pc0 := 83) (pc' := 90) rfl (hb hby d11_83) rfl ((if0 _ _).trans (teq (by decide)).1) (by decide) (by decide) k) ?_
            show Goes p e below s _ _ _ (T7.setTop (mkF m 90 #[.val (.int pp), .val (.int pq), .val (.int (pp &&& (3 : Int32))), .val (.int (1 : Int32)), .val (.int (1 : Int32)), .val (.int (0 : Int32))] []))
            refine Goes.by (fun t k => XS.iconst X7.here hx rfl (hb hby d11_90) k) ?_
            show Goes p e below s _ _ _ (T7.setTop (mkF m 91 #[.val (.int pp), .val (.int pq), .val (.int (pp &&& (3 : Int32))), .val (.int (1 : Int32)), .val (.int (1 : Int32)), .val (.int (0 : Int32))] [(.int (0 : Int32))]))
            exact Goes.retN X7 hx Bd.returns rfl (hb hby d11_91) hlk (by rw [eH7]; exact ⟨_, rfl, N7, rfl, Or.inr ⟨rfl, fun z => hb3 (z.2.2.2.resolve_left (by rw [hp]; decide))⟩⟩) (by decide) (by decide)
        · skip
          refine Goes.by (fun t k => XS.ifYes X6.here hx rfl (pc0 := 42) (pc' := 49) rfl (hb hby d11_42) rfl ((if0 _ _).trans (feq (hb2)).2) (by decide) (by decide) k) ?_
          show Goes p e below s _ _ _ (T6.setTop (mkF m 49 #[.val (.int pp), .val (.int pq), .val (.int (pp &&& (3 : Int32))), .val (.int (1 : Int32)), .unset, .unset] []))
          refine Goes.by (fun t k => XS.iconst X6.here hx rfl (hb hby d11_49) k) ?_
          show Goes p e below s _ _ _ (T6.setTop (mkF m 50 #[.val (.int pp), .val (.int pq), .val (.int (pp &&& (3 : Int32))), .val (.int (1 : Int32)), .unset, .unset] [(.int (0 : Int32))]))
          refine Goes.by (fun t k => XS.istore X6.here hx rfl (hb hby d11_50) rfl (l' := #[.val (.int pp), .val (.int pq), .val (.int (pp &&& (3 : Int32))), .val (.int (1 : Int32)), .val (.int (0 : Int32)), .unset]) rfl k) ?_
          show Goes p e below s _ _ _ (T6.setTop (mkF m 52 #[.val (.int pp), .val (.int pq), .val (.int (pp &&& (3 : Int32))), .val (.int (1 : Int32)), .val (.int (0 : Int32)), .unset] []))
          refine Goes.by (fun t k => XS.iloadN X6.here hx rfl (hb hby d11_52) rfl k) ?_
          show Goes p e below s _ _ _ (T6.setTop (mkF m 53 #[.val (.int pp), .val (.int pq), .val (.int (pp &&& (3 : Int32))), .val (.int (1 : Int32)), .val (.int (0 : Int32)), .unset] [(.int (pp &&& (3 : Int32)))]))
          refine Goes.by (fun t k => XS.iconst X6.here hx rfl (hb hby d11_53) k) ?_
          show Goes p e below s _ _ _ (T6.setTop (mkF m 54 #[.val (.int pp), .val (.int pq), .val (.int (pp &&& (3 : Int32))), .val (.int (1 : Int32)), .val (.int (0 : Int32)), .unset] [(.int (3 : Int32)), (.int (pp &&& (3 : Int32)))]))
          refine Goes.by (fun t k => XS.icmpNo X6.here hx rfl (hb hby d11_54) rfl (flt (by rw [hp]; decide)).1 k) ?_
          show Goes p e below s _ _ _ (T6.setTop (mkF m 57 #[.val (.int pp), .val (.int pq), .val (.int (pp &&& (3 : Int32))), .val (.int (1 : Int32)), .val (.int (0 : Int32)), .unset] []))
          refine Goes.by (fun t k => XS.iloadN X6.here hx rfl (hb hby d11_57) rfl k) ?_
          show Goes p e below s _ _ _ (T6.setTop (mkF m 58 #[.val (.int pp), .val (.int pq), .val (.int (pp &&& (3 : Int32))), .val (.int (1 : Int32)), .val (.int (0 : Int32)), .unset] [(.int pq)]))
          refine Goes.by (fun t k => XS.iconst X6.here hx rfl (hb hby d11_58) k) ?_
          show Goes p e below s _ _ _ (T6.setTop (mkF m 59 #[.val (.int pp), .val (.int pq), .val (.int (pp &&& (3 : Int32))), .val (.int (1 : Int32)), .val (.int (0 : Int32)), .unset] [(.int (3 : Int32)), (.int pq)]))
          obtain ⟨_, _, ⟨T8, L8, k8, n8⟩, -, X8, ⟨Lc8, hQ8, l8, y8, z8⟩, st8⟩ := Jvm.LawKit.callS X6 hx (y := (⟨"com/example/diogenes/diogenes/format/TopicEqualsPinLaw", "b", "(II)I"⟩ : MethodName)) hown (mvT hZ (hw _ (List.mem_of_getElem? (i := 0) rfl))) (mvT hZ (hw _ (List.mem_of_getElem? (i := 1) rfl))) (mvT hZ (hw _ (List.mem_of_getElem? (i := 2) rfl))) (mvT hZ (hw _ (List.mem_of_getElem? (i := 3) rfl))) (by decide) (backOf (W := 0) (rm1 l Z a0 hw [] pq 3 _ n0 Z0) hZ (hw _ (List.mem_of_getElem? (i := 3) rfl)) (hw _ (List.mem_of_getElem? (i := 2) rfl)) (by decide) (by decide)) (g := (mkF m 59 #[.val (.int pp), .val (.int pq), .val (.int (pp &&& (3 : Int32))), .val (.int (1 : Int32)), .val (.int (0 : Int32)), .unset] [(.int (3 : Int32)), (.int pq)])) rfl (by rw [hml]; rfl) (argsL := [(.int pq), (.int (3 : Int32))]) (rest := []) (lenOf pd_1 rfl) rfl (by show 2 * 0 + _ ≤ _; exact Nat.le_of_eq rfl) (hb hby d11_59) (fun _ _ => ⟨rfl, eH6, (by decide : 0 + 0 ≤ _), (by decide : 0 + 0 ≤ _)⟩)
          dsimp only [Pt.U, Pt.locs, Pt.cells, Pt.slots] at X8 l8 y8 z8 st8 hQ8
          rw [l8, y8, z8] at X8
          obtain ⟨rfl, N8q, hh8⟩ := hQ8
          have N8 := Fr.app N6 N8q
          refine Goes.by (fun t k => st8 _ k) ?_
          show Goes p e below s _ _ _ (T8.setTop (mkF m 62 #[.val (.int pp), .val (.int pq), .val (.int (pp &&& (3 : Int32))), .val (.int (1 : Int32)), .val (.int (0 : Int32)), .unset] [(.int (bb pq 3))]))
          have eH8 : T8.heap = h0 := hh8
          by_cases hb3 : (bb pq 3) = (0 : Int32)
          · skip
            refine Goes.by (fun t k => XS.ifNo X8.here hx rfl (hb hby d11_62) rfl ((if0 _ _).trans (teq (hb3)).2) k) ?_
            show Goes p e below s _ _ _ (T8.setTop (mkF m 65 #[.val (.int pp), .val (.int pq), .val (.int (pp &&& (3 : Int32))), .val (.int (1 : Int32)), .val (.int (0 : Int32)), .unset] []))
            refine Goes.by (fun t k => XS.iconst X8.here hx rfl (hb hby d11_65) k) ?_
            show Goes p e below s _ _ _ (T8.setTop (mkF m 66 #[.val (.int pp), .val (.int pq), .val (.int (pp &&& (3 : Int32))), .val (.int (1 : Int32)), .val (.int (0 : Int32)), .unset] [(.int (1 : Int32))]))
            refine Goes.by (fun t k => XS.goto X8.here hx rfl (pc0 := 66) (pc' := 70) rfl (hb hby d11_66) (by decide) (by decide) k) ?_
            show Goes p e below s _ _ _ (T8.setTop (mkF m 70 #[.val (.int pp), .val (.int pq), .val (.int (pp &&& (3 : Int32))), .val (.int (1 : Int32)), .val (.int (0 : Int32)), .unset] [(.int (1 : Int32))]))
            refine Goes.by (fun t k => XS.istore X8.here hx rfl (hb hby d11_70) rfl (l' := #[.val (.int pp), .val (.int pq), .val (.int (pp &&& (3 : Int32))), .val (.int (1 : Int32)), .val (.int (0 : Int32)), .val (.int (1 : Int32))]) rfl k) ?_
            show Goes p e below s _ _ _ (T8.setTop (mkF m 72 #[.val (.int pp), .val (.int pq), .val (.int (pp &&& (3 : Int32))), .val (.int (1 : Int32)), .val (.int (0 : Int32)), .val (.int (1 : Int32))] []))
            refine Goes.by (fun t k => XS.iloadN X8.here hx rfl (hb hby d11_72) rfl k) ?_
            show Goes p e below s _ _ _ (T8.setTop (mkF m 73 #[.val (.int pp), .val (.int pq), .val (.int (pp &&& (3 : Int32))), .val (.int (1 : Int32)), .val (.int (0 : Int32)), .val (.int (1 : Int32))] [(.int (1 : Int32))]))
            refine Goes.by (fun t k => XS.ifNo X8.here hx rfl (hb hby d11_73) rfl ((if0 _ _).trans (feq (by decide)).1) k) ?_
            show Goes p e below s _ _ _ (T8.setTop (mkF m 76 #[.val (.int pp), .val (.int pq), .val (.int (pp &&& (3 : Int32))), .val (.int (1 : Int32)), .val (.int (0 : Int32)), .val (.int (1 : Int32))] []))
            refine Goes.by (fun t k => XS.iload X8.here hx rfl (hb hby d11_76) rfl k) ?_
            show Goes p e below s _ _ _ (T8.setTop (mkF m 78 #[.val (.int pp), .val (.int pq), .val (.int (pp &&& (3 : Int32))), .val (.int (1 : Int32)), .val (.int (0 : Int32)), .val (.int (1 : Int32))] [(.int (0 : Int32))]))
            refine Goes.by (fun t k => XS.ifYes X8.here hx rfl (pc0 := 78) (pc' := 90) rfl (hb hby d11_78) rfl ((if0 _ _).trans (teq (by decide)).1) (by decide) (by decide) k) ?_
            show Goes p e below s _ _ _ (T8.setTop (mkF m 90 #[.val (.int pp), .val (.int pq), .val (.int (pp &&& (3 : Int32))), .val (.int (1 : Int32)), .val (.int (0 : Int32)), .val (.int (1 : Int32))] []))
            refine Goes.by (fun t k => XS.iconst X8.here hx rfl (hb hby d11_90) k) ?_
            show Goes p e below s _ _ _ (T8.setTop (mkF m 91 #[.val (.int pp), .val (.int pq), .val (.int (pp &&& (3 : Int32))), .val (.int (1 : Int32)), .val (.int (0 : Int32)), .val (.int (1 : Int32))] [(.int (0 : Int32))]))
            exact Goes.retN X8 hx Bd.returns rfl (hb hby d11_91) hlk (by rw [eH8]; exact ⟨_, rfl, N8, rfl, Or.inr ⟨rfl, fun z => hb2 (z.2.2.1.resolve_left (by rw [hp]; decide))⟩⟩) (by decide) (by decide)
          · skip
            refine Goes.by (fun t k => XS.ifYes X8.here hx rfl (pc0 := 62) (pc' := 69) rfl (hb hby d11_62) rfl ((if0 _ _).trans (feq (hb3)).2) (by decide) (by decide) k) ?_
            show Goes p e below s _ _ _ (T8.setTop (mkF m 69 #[.val (.int pp), .val (.int pq), .val (.int (pp &&& (3 : Int32))), .val (.int (1 : Int32)), .val (.int (0 : Int32)), .unset] []))
            refine Goes.by (fun t k => XS.iconst X8.here hx rfl (hb hby d11_69) k) ?_
            show Goes p e below s _ _ _ (T8.setTop (mkF m 70 #[.val (.int pp), .val (.int pq), .val (.int (pp &&& (3 : Int32))), .val (.int (1 : Int32)), .val (.int (0 : Int32)), .unset] [(.int (0 : Int32))]))
            refine Goes.by (fun t k => XS.istore X8.here hx rfl (hb hby d11_70) rfl (l' := #[.val (.int pp), .val (.int pq), .val (.int (pp &&& (3 : Int32))), .val (.int (1 : Int32)), .val (.int (0 : Int32)), .val (.int (0 : Int32))]) rfl k) ?_
            show Goes p e below s _ _ _ (T8.setTop (mkF m 72 #[.val (.int pp), .val (.int pq), .val (.int (pp &&& (3 : Int32))), .val (.int (1 : Int32)), .val (.int (0 : Int32)), .val (.int (0 : Int32))] []))
            refine Goes.by (fun t k => XS.iloadN X8.here hx rfl (hb hby d11_72) rfl k) ?_
            show Goes p e below s _ _ _ (T8.setTop (mkF m 73 #[.val (.int pp), .val (.int pq), .val (.int (pp &&& (3 : Int32))), .val (.int (1 : Int32)), .val (.int (0 : Int32)), .val (.int (0 : Int32))] [(.int (1 : Int32))]))
            refine Goes.by (fun t k => XS.ifNo X8.here hx rfl (hb hby d11_73) rfl ((if0 _ _).trans (feq (by decide)).1) k) ?_
            show Goes p e below s _ _ _ (T8.setTop (mkF m 76 #[.val (.int pp), .val (.int pq), .val (.int (pp &&& (3 : Int32))), .val (.int (1 : Int32)), .val (.int (0 : Int32)), .val (.int (0 : Int32))] []))
            refine Goes.by (fun t k => XS.iload X8.here hx rfl (hb hby d11_76) rfl k) ?_
            show Goes p e below s _ _ _ (T8.setTop (mkF m 78 #[.val (.int pp), .val (.int pq), .val (.int (pp &&& (3 : Int32))), .val (.int (1 : Int32)), .val (.int (0 : Int32)), .val (.int (0 : Int32))] [(.int (0 : Int32))]))
            refine Goes.by (fun t k => XS.ifYes X8.here hx rfl (pc0 := 78) (pc' := 90) rfl (hb hby d11_78) rfl ((if0 _ _).trans (teq (by decide)).1) (by decide) (by decide) k) ?_
            show Goes p e below s _ _ _ (T8.setTop (mkF m 90 #[.val (.int pp), .val (.int pq), .val (.int (pp &&& (3 : Int32))), .val (.int (1 : Int32)), .val (.int (0 : Int32)), .val (.int (0 : Int32))] []))
            refine Goes.by (fun t k => XS.iconst X8.here hx rfl (hb hby d11_90) k) ?_
            show Goes p e below s _ _ _ (T8.setTop (mkF m 91 #[.val (.int pp), .val (.int pq), .val (.int (pp &&& (3 : Int32))), .val (.int (1 : Int32)), .val (.int (0 : Int32)), .val (.int (0 : Int32))] [(.int (0 : Int32))]))
            exact Goes.retN X8 hx Bd.returns rfl (hb hby d11_91) hlk (by rw [eH8]; exact ⟨_, rfl, N8, rfl, Or.inr ⟨rfl, fun z => hb2 (z.2.2.1.resolve_left (by rw [hp]; decide))⟩⟩) (by decide) (by decide)
      · skip
        refine Goes.by (fun t k => XS.ifYes X5.here hx rfl (pc0 := 23) (pc' := 30) rfl (hb hby d11_23) rfl ((if0 _ _).trans (feq (hb1)).2) (by decide) (by decide) k) ?_
        show Goes p e below s _ _ _ (T5.setTop (mkF m 30 #[.val (.int pp), .val (.int pq), .val (.int (pp &&& (3 : Int32))), .unset, .unset, .unset] []))
        refine Goes.by (fun t k => XS.iconst X5.here hx rfl (hb hby d11_30) k) ?_
        show Goes p e below s _ _ _ (T5.setTop (mkF m 31 #[.val (.int pp), .val (.int pq), .val (.int (pp &&& (3 : Int32))), .unset, .unset, .unset] [(.int (0 : Int32))]))
        refine Goes.by (fun t k => XS.istoreN X5.here hx rfl (hb hby d11_31) rfl (l' := #[.val (.int pp), .val (.int pq), .val (.int (pp &&& (3 : Int32))), .val (.int (0 : Int32)), .unset, .unset]) rfl k) ?_
        show Goes p e below s _ _ _ (T5.setTop (mkF m 32 #[.val (.int pp), .val (.int pq), .val (.int (pp &&& (3 : Int32))), .val (.int (0 : Int32)), .unset, .unset] []))
        refine Goes.by (fun t k => XS.iloadN X5.here hx rfl (hb hby d11_32) rfl k) ?_
        show Goes p e below s _ _ _ (T5.setTop (mkF m 33 #[.val (.int pp), .val (.int pq), .val (.int (pp &&& (3 : Int32))), .val (.int (0 : Int32)), .unset, .unset] [(.int (pp &&& (3 : Int32)))]))
        refine Goes.by (fun t k => XS.iconst X5.here hx rfl (hb hby d11_33) k) ?_
        show Goes p e below s _ _ _ (T5.setTop (mkF m 34 #[.val (.int pp), .val (.int pq), .val (.int (pp &&& (3 : Int32))), .val (.int (0 : Int32)), .unset, .unset] [(.int (2 : Int32)), (.int (pp &&& (3 : Int32)))]))
        refine Goes.by (fun t k => XS.icmpNo X5.here hx rfl (hb hby d11_34) rfl (flt (by rw [hp]; decide)).1 k) ?_
        show Goes p e below s _ _ _ (T5.setTop (mkF m 37 #[.val (.int pp), .val (.int pq), .val (.int (pp &&& (3 : Int32))), .val (.int (0 : Int32)), .unset, .unset] []))
        refine Goes.by (fun t k => XS.iloadN X5.here hx rfl (hb hby d11_37) rfl k) ?_
        show Goes p e below s _ _ _ (T5.setTop (mkF m 38 #[.val (.int pp), .val (.int pq), .val (.int (pp &&& (3 : Int32))), .val (.int (0 : Int32)), .unset, .unset] [(.int pq)]))
        refine Goes.by (fun t k => XS.iconst X5.here hx rfl (hb hby d11_38) k) ?_
        show Goes p e below s _ _ _ (T5.setTop (mkF m 39 #[.val (.int pp), .val (.int pq), .val (.int (pp &&& (3 : Int32))), .val (.int (0 : Int32)), .unset, .unset] [(.int (2 : Int32)), (.int pq)]))
        obtain ⟨_, _, ⟨T9, L9, k9, n9⟩, -, X9, ⟨Lc9, hQ9, l9, y9, z9⟩, st9⟩ := Jvm.LawKit.callS X5 hx (y := (⟨"com/example/diogenes/diogenes/format/TopicEqualsPinLaw", "b", "(II)I"⟩ : MethodName)) hown (mvT hZ (hw _ (List.mem_of_getElem? (i := 0) rfl))) (mvT hZ (hw _ (List.mem_of_getElem? (i := 1) rfl))) (mvT hZ (hw _ (List.mem_of_getElem? (i := 2) rfl))) (mvT hZ (hw _ (List.mem_of_getElem? (i := 3) rfl))) (by decide) (backOf (W := 0) (rm1 l Z a0 hw [] pq 2 _ n0 Z0) hZ (hw _ (List.mem_of_getElem? (i := 3) rfl)) (hw _ (List.mem_of_getElem? (i := 2) rfl)) (by decide) (by decide)) (g := (mkF m 39 #[.val (.int pp), .val (.int pq), .val (.int (pp &&& (3 : Int32))), .val (.int (0 : Int32)), .unset, .unset] [(.int (2 : Int32)), (.int pq)])) rfl (by rw [hml]; rfl) (argsL := [(.int pq), (.int (2 : Int32))]) (rest := []) (lenOf pd_1 rfl) rfl (by show 2 * 0 + _ ≤ _; exact Nat.le_of_eq rfl) (hb hby d11_39) (fun _ _ => ⟨rfl, eH5, (by decide : 0 + 0 ≤ _), (by decide : 0 + 0 ≤ _)⟩)
        dsimp only [Pt.U, Pt.locs, Pt.cells, Pt.slots] at X9 l9 y9 z9 st9 hQ9
        rw [l9, y9, z9] at X9
        obtain ⟨rfl, N9q, hh9⟩ := hQ9
        have N9 := Fr.app N5 N9q
        refine Goes.by (fun t k => st9 _ k) ?_
        show Goes p e below s _ _ _ (T9.setTop (mkF m 42 #[.val (.int pp), .val (.int pq), .val (.int (pp &&& (3 : Int32))), .val (.int (0 : Int32)), .unset, .unset] [(.int (bb pq 2))]))
        have eH9 : T9.heap = h0 := hh9
        by_cases hb2 : (bb pq 2) = (0 : Int32)
        · skip
          refine Goes.by (fun t k => XS.ifNo X9.here hx rfl (hb hby d11_42) rfl ((if0 _ _).trans (teq (hb2)).2) k) ?_
          show Goes p e below s _ _ _ (T9.setTop (mkF m 45 #[.val (.int pp), .val (.int pq), .val (.int (pp &&& (3 : Int32))), .val (.int (0 : Int32)), .unset, .unset] []))
          refine Goes.by (fun t k => XS.iconst X9.here hx rfl (hb hby d11_45) k) ?_
          show Goes p e below s _ _ _ (T9.setTop (mkF m 46 #[.val (.int pp), .val (.int pq), .val (.int (pp &&& (3 : Int32))), .val (.int (0 : Int32)), .unset, .unset] [(.int (1 : Int32))]))
          refine Goes.by (fun t k => XS.goto X9.here hx rfl (pc0 := 46) (pc' := 50) rfl (hb hby d11_46) (by decide) (by decide) k) ?_
          show Goes p e below s _ _ _ (T9.setTop (mkF m 50 #[.val (.int pp), .val (.int pq), .val (.int (pp &&& (3 : Int32))), .val (.int (0 : Int32)), .unset, .unset] [(.int (1 : Int32))]))
          refine Goes.by (fun t k => XS.istore X9.here hx rfl (hb hby d11_50) rfl (l' := #[.val (.int pp), .val (.int pq), .val (.int (pp &&& (3 : Int32))), .val (.int (0 : Int32)), .val (.int (1 : Int32)), .unset]) rfl k) ?_
          show Goes p e below s _ _ _ (T9.setTop (mkF m 52 #[.val (.int pp), .val (.int pq), .val (.int (pp &&& (3 : Int32))), .val (.int (0 : Int32)), .val (.int (1 : Int32)), .unset] []))
          refine Goes.by (fun t k => XS.iloadN X9.here hx rfl (hb hby d11_52) rfl k) ?_
          show Goes p e below s _ _ _ (T9.setTop (mkF m 53 #[.val (.int pp), .val (.int pq), .val (.int (pp &&& (3 : Int32))), .val (.int (0 : Int32)), .val (.int (1 : Int32)), .unset] [(.int (pp &&& (3 : Int32)))]))
          refine Goes.by (fun t k => XS.iconst X9.here hx rfl (hb hby d11_53) k) ?_
          show Goes p e below s _ _ _ (T9.setTop (mkF m 54 #[.val (.int pp), .val (.int pq), .val (.int (pp &&& (3 : Int32))), .val (.int (0 : Int32)), .val (.int (1 : Int32)), .unset] [(.int (3 : Int32)), (.int (pp &&& (3 : Int32)))]))
          refine Goes.by (fun t k => XS.icmpNo X9.here hx rfl (hb hby d11_54) rfl (flt (by rw [hp]; decide)).1 k) ?_
          show Goes p e below s _ _ _ (T9.setTop (mkF m 57 #[.val (.int pp), .val (.int pq), .val (.int (pp &&& (3 : Int32))), .val (.int (0 : Int32)), .val (.int (1 : Int32)), .unset] []))
          refine Goes.by (fun t k => XS.iloadN X9.here hx rfl (hb hby d11_57) rfl k) ?_
          show Goes p e below s _ _ _ (T9.setTop (mkF m 58 #[.val (.int pp), .val (.int pq), .val (.int (pp &&& (3 : Int32))), .val (.int (0 : Int32)), .val (.int (1 : Int32)), .unset] [(.int pq)]))
          refine Goes.by (fun t k => XS.iconst X9.here hx rfl (hb hby d11_58) k) ?_
          show Goes p e below s _ _ _ (T9.setTop (mkF m 59 #[.val (.int pp), .val (.int pq), .val (.int (pp &&& (3 : Int32))), .val (.int (0 : Int32)), .val (.int (1 : Int32)), .unset] [(.int (3 : Int32)), (.int pq)]))
          obtain ⟨_, _, ⟨T10, L10, k10, n10⟩, -, X10, ⟨Lc10, hQ10, l10, y10, z10⟩, st10⟩ := Jvm.LawKit.callS X9 hx (y := (⟨"com/example/diogenes/diogenes/format/TopicEqualsPinLaw", "b", "(II)I"⟩ : MethodName)) hown (mvT hZ (hw _ (List.mem_of_getElem? (i := 0) rfl))) (mvT hZ (hw _ (List.mem_of_getElem? (i := 1) rfl))) (mvT hZ (hw _ (List.mem_of_getElem? (i := 2) rfl))) (mvT hZ (hw _ (List.mem_of_getElem? (i := 3) rfl))) (by decide) (backOf (W := 0) (rm1 l Z a0 hw [] pq 3 _ n0 Z0) hZ (hw _ (List.mem_of_getElem? (i := 3) rfl)) (hw _ (List.mem_of_getElem? (i := 2) rfl)) (by decide) (by decide)) (g := (mkF m 59 #[.val (.int pp), .val (.int pq), .val (.int (pp &&& (3 : Int32))), .val (.int (0 : Int32)), .val (.int (1 : Int32)), .unset] [(.int (3 : Int32)), (.int pq)])) rfl (by rw [hml]; rfl) (argsL := [(.int pq), (.int (3 : Int32))]) (rest := []) (lenOf pd_1 rfl) rfl (by show 2 * 0 + _ ≤ _; exact Nat.le_of_eq rfl) (hb hby d11_59) (fun _ _ => ⟨rfl, eH9, (by decide : 0 + 0 ≤ _), (by decide : 0 + 0 ≤ _)⟩)
          dsimp only [Pt.U, Pt.locs, Pt.cells, Pt.slots] at X10 l10 y10 z10 st10 hQ10
          rw [l10, y10, z10] at X10
          obtain ⟨rfl, N10q, hh10⟩ := hQ10
          have N10 := Fr.app N9 N10q
          refine Goes.by (fun t k => st10 _ k) ?_
          show Goes p e below s _ _ _ (T10.setTop (mkF m 62 #[.val (.int pp), .val (.int pq), .val (.int (pp &&& (3 : Int32))), .val (.int (0 : Int32)), .val (.int (1 : Int32)), .unset] [(.int (bb pq 3))]))
          have eH10 : T10.heap = h0 := hh10
          by_cases hb3 : (bb pq 3) = (0 : Int32)
          · skip
            refine Goes.by (fun t k => XS.ifNo X10.here hx rfl (hb hby d11_62) rfl ((if0 _ _).trans (teq (hb3)).2) k) ?_
            show Goes p e below s _ _ _ (T10.setTop (mkF m 65 #[.val (.int pp), .val (.int pq), .val (.int (pp &&& (3 : Int32))), .val (.int (0 : Int32)), .val (.int (1 : Int32)), .unset] []))
            refine Goes.by (fun t k => XS.iconst X10.here hx rfl (hb hby d11_65) k) ?_
            show Goes p e below s _ _ _ (T10.setTop (mkF m 66 #[.val (.int pp), .val (.int pq), .val (.int (pp &&& (3 : Int32))), .val (.int (0 : Int32)), .val (.int (1 : Int32)), .unset] [(.int (1 : Int32))]))
            refine Goes.by (fun t k => XS.goto X10.here hx rfl (pc0 := 66) (pc' := 70) rfl (hb hby d11_66) (by decide) (by decide) k) ?_
            show Goes p e below s _ _ _ (T10.setTop (mkF m 70 #[.val (.int pp), .val (.int pq), .val (.int (pp &&& (3 : Int32))), .val (.int (0 : Int32)), .val (.int (1 : Int32)), .unset] [(.int (1 : Int32))]))
            refine Goes.by (fun t k => XS.istore X10.here hx rfl (hb hby d11_70) rfl (l' := #[.val (.int pp), .val (.int pq), .val (.int (pp &&& (3 : Int32))), .val (.int (0 : Int32)), .val (.int (1 : Int32)), .val (.int (1 : Int32))]) rfl k) ?_
            show Goes p e below s _ _ _ (T10.setTop (mkF m 72 #[.val (.int pp), .val (.int pq), .val (.int (pp &&& (3 : Int32))), .val (.int (0 : Int32)), .val (.int (1 : Int32)), .val (.int (1 : Int32))] []))
            refine Goes.by (fun t k => XS.iloadN X10.here hx rfl (hb hby d11_72) rfl k) ?_
            show Goes p e below s _ _ _ (T10.setTop (mkF m 73 #[.val (.int pp), .val (.int pq), .val (.int (pp &&& (3 : Int32))), .val (.int (0 : Int32)), .val (.int (1 : Int32)), .val (.int (1 : Int32))] [(.int (0 : Int32))]))
            refine Goes.by (fun t k => XS.ifYes X10.here hx rfl (pc0 := 73) (pc' := 90) rfl (hb hby d11_73) rfl ((if0 _ _).trans (teq (by decide)).1) (by decide) (by decide) k) ?_
            show Goes p e below s _ _ _ (T10.setTop (mkF m 90 #[.val (.int pp), .val (.int pq), .val (.int (pp &&& (3 : Int32))), .val (.int (0 : Int32)), .val (.int (1 : Int32)), .val (.int (1 : Int32))] []))
            refine Goes.by (fun t k => XS.iconst X10.here hx rfl (hb hby d11_90) k) ?_
            show Goes p e below s _ _ _ (T10.setTop (mkF m 91 #[.val (.int pp), .val (.int pq), .val (.int (pp &&& (3 : Int32))), .val (.int (0 : Int32)), .val (.int (1 : Int32)), .val (.int (1 : Int32))] [(.int (0 : Int32))]))
            exact Goes.retN X10 hx Bd.returns rfl (hb hby d11_91) hlk (by rw [eH10]; exact ⟨_, rfl, N10, rfl, Or.inr ⟨rfl, fun z => hb1 (z.2.1.resolve_left (by rw [hp]; decide))⟩⟩) (by decide) (by decide)
          · skip
            refine Goes.by (fun t k => XS.ifYes X10.here hx rfl (pc0 := 62) (pc' := 69) rfl (hb hby d11_62) rfl ((if0 _ _).trans (feq (hb3)).2) (by decide) (by decide) k) ?_
            show Goes p e below s _ _ _ (T10.setTop (mkF m 69 #[.val (.int pp), .val (.int pq), .val (.int (pp &&& (3 : Int32))), .val (.int (0 : Int32)), .val (.int (1 : Int32)), .unset] []))
            refine Goes.by (fun t k => XS.iconst X10.here hx rfl (hb hby d11_69) k) ?_
            show Goes p e below s _ _ _ (T10.setTop (mkF m 70 #[.val (.int pp), .val (.int pq), .val (.int (pp &&& (3 : Int32))), .val (.int (0 : Int32)), .val (.int (1 : Int32)), .unset] [(.int (0 : Int32))]))
            refine Goes.by (fun t k => XS.istore X10.here hx rfl (hb hby d11_70) rfl (l' := #[.val (.int pp), .val (.int pq), .val (.int (pp &&& (3 : Int32))), .val (.int (0 : Int32)), .val (.int (1 : Int32)), .val (.int (0 : Int32))]) rfl k) ?_
            show Goes p e below s _ _ _ (T10.setTop (mkF m 72 #[.val (.int pp), .val (.int pq), .val (.int (pp &&& (3 : Int32))), .val (.int (0 : Int32)), .val (.int (1 : Int32)), .val (.int (0 : Int32))] []))
            refine Goes.by (fun t k => XS.iloadN X10.here hx rfl (hb hby d11_72) rfl k) ?_
            show Goes p e below s _ _ _ (T10.setTop (mkF m 73 #[.val (.int pp), .val (.int pq), .val (.int (pp &&& (3 : Int32))), .val (.int (0 : Int32)), .val (.int (1 : Int32)), .val (.int (0 : Int32))] [(.int (0 : Int32))]))
            refine Goes.by (fun t k => XS.ifYes X10.here hx rfl (pc0 := 73) (pc' := 90) rfl (hb hby d11_73) rfl ((if0 _ _).trans (teq (by decide)).1) (by decide) (by decide) k) ?_
            show Goes p e below s _ _ _ (T10.setTop (mkF m 90 #[.val (.int pp), .val (.int pq), .val (.int (pp &&& (3 : Int32))), .val (.int (0 : Int32)), .val (.int (1 : Int32)), .val (.int (0 : Int32))] []))
            refine Goes.by (fun t k => XS.iconst X10.here hx rfl (hb hby d11_90) k) ?_
            show Goes p e below s _ _ _ (T10.setTop (mkF m 91 #[.val (.int pp), .val (.int pq), .val (.int (pp &&& (3 : Int32))), .val (.int (0 : Int32)), .val (.int (1 : Int32)), .val (.int (0 : Int32))] [(.int (0 : Int32))]))
            exact Goes.retN X10 hx Bd.returns rfl (hb hby d11_91) hlk (by rw [eH10]; exact ⟨_, rfl, N10, rfl, Or.inr ⟨rfl, fun z => hb1 (z.2.1.resolve_left (by rw [hp]; decide))⟩⟩) (by decide) (by decide)
        · skip
          refine Goes.by (fun t k => XS.ifYes X9.here hx rfl (pc0 := 42) (pc' := 49) rfl (hb hby d11_42) rfl ((if0 _ _).trans (feq (hb2)).2) (by decide) (by decide) k) ?_
          show Goes p e below s _ _ _ (T9.setTop (mkF m 49 #[.val (.int pp), .val (.int pq), .val (.int (pp &&& (3 : Int32))), .val (.int (0 : Int32)), .unset, .unset] []))
          refine Goes.by (fun t k => XS.iconst X9.here hx rfl (hb hby d11_49) k) ?_
          show Goes p e below s _ _ _ (T9.setTop (mkF m 50 #[.val (.int pp), .val (.int pq), .val (.int (pp &&& (3 : Int32))), .val (.int (0 : Int32)), .unset, .unset] [(.int (0 : Int32))]))
          refine Goes.by (fun t k => XS.istore X9.here hx rfl (hb hby d11_50) rfl (l' := #[.val (.int pp), .val (.int pq), .val (.int (pp &&& (3 : Int32))), .val (.int (0 : Int32)), .val (.int (0 : Int32)), .unset]) rfl k) ?_
          show Goes p e below s _ _ _ (T9.setTop (mkF m 52 #[.val (.int pp), .val (.int pq), .val (.int (pp &&& (3 : Int32))), .val (.int (0 : Int32)), .val (.int (0 : Int32)), .unset] []))
          refine Goes.by (fun t k => XS.iloadN X9.here hx rfl (hb hby d11_52) rfl k) ?_
          show Goes p e below s _ _ _ (T9.setTop (mkF m 53 #[.val (.int pp), .val (.int pq), .val (.int (pp &&& (3 : Int32))), .val (.int (0 : Int32)), .val (.int (0 : Int32)), .unset] [(.int (pp &&& (3 : Int32)))]))
          refine Goes.by (fun t k => XS.iconst X9.here hx rfl (hb hby d11_53) k) ?_
          show Goes p e below s _ _ _ (T9.setTop (mkF m 54 #[.val (.int pp), .val (.int pq), .val (.int (pp &&& (3 : Int32))), .val (.int (0 : Int32)), .val (.int (0 : Int32)), .unset] [(.int (3 : Int32)), (.int (pp &&& (3 : Int32)))]))
          refine Goes.by (fun t k => XS.icmpNo X9.here hx rfl (hb hby d11_54) rfl (flt (by rw [hp]; decide)).1 k) ?_
          show Goes p e below s _ _ _ (T9.setTop (mkF m 57 #[.val (.int pp), .val (.int pq), .val (.int (pp &&& (3 : Int32))), .val (.int (0 : Int32)), .val (.int (0 : Int32)), .unset] []))
          refine Goes.by (fun t k => XS.iloadN X9.here hx rfl (hb hby d11_57) rfl k) ?_
          show Goes p e below s _ _ _ (T9.setTop (mkF m 58 #[.val (.int pp), .val (.int pq), .val (.int (pp &&& (3 : Int32))), .val (.int (0 : Int32)), .val (.int (0 : Int32)), .unset] [(.int pq)]))
          refine Goes.by (fun t k => XS.iconst X9.here hx rfl (hb hby d11_58) k) ?_
          show Goes p e below s _ _ _ (T9.setTop (mkF m 59 #[.val (.int pp), .val (.int pq), .val (.int (pp &&& (3 : Int32))), .val (.int (0 : Int32)), .val (.int (0 : Int32)), .unset] [(.int (3 : Int32)), (.int pq)]))
          obtain ⟨_, _, ⟨T11, L11, k11, n11⟩, -, X11, ⟨Lc11, hQ11, l11, y11, z11⟩, st11⟩ := Jvm.LawKit.callS X9 hx (y := (⟨"com/example/diogenes/diogenes/format/TopicEqualsPinLaw", "b", "(II)I"⟩ : MethodName)) hown (mvT hZ (hw _ (List.mem_of_getElem? (i := 0) rfl))) (mvT hZ (hw _ (List.mem_of_getElem? (i := 1) rfl))) (mvT hZ (hw _ (List.mem_of_getElem? (i := 2) rfl))) (mvT hZ (hw _ (List.mem_of_getElem? (i := 3) rfl))) (by decide) (backOf (W := 0) (rm1 l Z a0 hw [] pq 3 _ n0 Z0) hZ (hw _ (List.mem_of_getElem? (i := 3) rfl)) (hw _ (List.mem_of_getElem? (i := 2) rfl)) (by decide) (by decide)) (g := (mkF m 59 #[.val (.int pp), .val (.int pq), .val (.int (pp &&& (3 : Int32))), .val (.int (0 : Int32)), .val (.int (0 : Int32)), .unset] [(.int (3 : Int32)), (.int pq)])) rfl (by rw [hml]; rfl) (argsL := [(.int pq), (.int (3 : Int32))]) (rest := []) (lenOf pd_1 rfl) rfl (by show 2 * 0 + _ ≤ _; exact Nat.le_of_eq rfl) (hb hby d11_59) (fun _ _ => ⟨rfl, eH9, (by decide : 0 + 0 ≤ _), (by decide : 0 + 0 ≤ _)⟩)
          dsimp only [Pt.U, Pt.locs, Pt.cells, Pt.slots] at X11 l11 y11 z11 st11 hQ11
          rw [l11, y11, z11] at X11
          obtain ⟨rfl, N11q, hh11⟩ := hQ11
          have N11 := Fr.app N9 N11q
          refine Goes.by (fun t k => st11 _ k) ?_
          show Goes p e below s _ _ _ (T11.setTop (mkF m 62 #[.val (.int pp), .val (.int pq), .val (.int (pp &&& (3 : Int32))), .val (.int (0 : Int32)), .val (.int (0 : Int32)), .unset] [(.int (bb pq 3))]))
          have eH11 : T11.heap = h0 := hh11
          by_cases hb3 : (bb pq 3) = (0 : Int32)
          · skip
            refine Goes.by (fun t k => XS.ifNo X11.here hx rfl (hb hby d11_62) rfl ((if0 _ _).trans (teq (hb3)).2) k) ?_
            show Goes p e below s _ _ _ (T11.setTop (mkF m 65 #[.val (.int pp), .val (.int pq), .val (.int (pp &&& (3 : Int32))), .val (.int (0 : Int32)), .val (.int (0 : Int32)), .unset] []))
            refine Goes.by (fun t k => XS.iconst X11.here hx rfl (hb hby d11_65) k) ?_
            show Goes p e below s _ _ _ (T11.setTop (mkF m 66 #[.val (.int pp), .val (.int pq), .val (.int (pp &&& (3 : Int32))), .val (.int (0 : Int32)), .val (.int (0 : Int32)), .unset] [(.int (1 : Int32))]))
            refine Goes.by (fun t k => XS.goto X11.here hx rfl (pc0 := 66) (pc' := 70) rfl (hb hby d11_66) (by decide) (by decide) k) ?_
            show Goes p e below s _ _ _ (T11.setTop (mkF m 70 #[.val (.int pp), .val (.int pq), .val (.int (pp &&& (3 : Int32))), .val (.int (0 : Int32)), .val (.int (0 : Int32)), .unset] [(.int (1 : Int32))]))
            refine Goes.by (fun t k => XS.istore X11.here hx rfl (hb hby d11_70) rfl (l' := #[.val (.int pp), .val (.int pq), .val (.int (pp &&& (3 : Int32))), .val (.int (0 : Int32)), .val (.int (0 : Int32)), .val (.int (1 : Int32))]) rfl k) ?_
            show Goes p e below s _ _ _ (T11.setTop (mkF m 72 #[.val (.int pp), .val (.int pq), .val (.int (pp &&& (3 : Int32))), .val (.int (0 : Int32)), .val (.int (0 : Int32)), .val (.int (1 : Int32))] []))
            refine Goes.by (fun t k => XS.iloadN X11.here hx rfl (hb hby d11_72) rfl k) ?_
            show Goes p e below s _ _ _ (T11.setTop (mkF m 73 #[.val (.int pp), .val (.int pq), .val (.int (pp &&& (3 : Int32))), .val (.int (0 : Int32)), .val (.int (0 : Int32)), .val (.int (1 : Int32))] [(.int (0 : Int32))]))
            refine Goes.by (fun t k => XS.ifYes X11.here hx rfl (pc0 := 73) (pc' := 90) rfl (hb hby d11_73) rfl ((if0 _ _).trans (teq (by decide)).1) (by decide) (by decide) k) ?_
            show Goes p e below s _ _ _ (T11.setTop (mkF m 90 #[.val (.int pp), .val (.int pq), .val (.int (pp &&& (3 : Int32))), .val (.int (0 : Int32)), .val (.int (0 : Int32)), .val (.int (1 : Int32))] []))
            refine Goes.by (fun t k => XS.iconst X11.here hx rfl (hb hby d11_90) k) ?_
            show Goes p e below s _ _ _ (T11.setTop (mkF m 91 #[.val (.int pp), .val (.int pq), .val (.int (pp &&& (3 : Int32))), .val (.int (0 : Int32)), .val (.int (0 : Int32)), .val (.int (1 : Int32))] [(.int (0 : Int32))]))
            exact Goes.retN X11 hx Bd.returns rfl (hb hby d11_91) hlk (by rw [eH11]; exact ⟨_, rfl, N11, rfl, Or.inr ⟨rfl, fun z => hb1 (z.2.1.resolve_left (by rw [hp]; decide))⟩⟩) (by decide) (by decide)
          · skip
            refine Goes.by (fun t k => XS.ifYes X11.here hx rfl (pc0 := 62) (pc' := 69) rfl (hb hby d11_62) rfl ((if0 _ _).trans (feq (hb3)).2) (by decide) (by decide) k) ?_
            show Goes p e below s _ _ _ (T11.setTop (mkF m 69 #[.val (.int pp), .val (.int pq), .val (.int (pp &&& (3 : Int32))), .val (.int (0 : Int32)), .val (.int (0 : Int32)), .unset] []))
            refine Goes.by (fun t k => XS.iconst X11.here hx rfl (hb hby d11_69) k) ?_
            show Goes p e below s _ _ _ (T11.setTop (mkF m 70 #[.val (.int pp), .val (.int pq), .val (.int (pp &&& (3 : Int32))), .val (.int (0 : Int32)), .val (.int (0 : Int32)), .unset] [(.int (0 : Int32))]))
            refine Goes.by (fun t k => XS.istore X11.here hx rfl (hb hby d11_70) rfl (l' := #[.val (.int pp), .val (.int pq), .val (.int (pp &&& (3 : Int32))), .val (.int (0 : Int32)), .val (.int (0 : Int32)), .val (.int (0 : Int32))]) rfl k) ?_
            show Goes p e below s _ _ _ (T11.setTop (mkF m 72 #[.val (.int pp), .val (.int pq), .val (.int (pp &&& (3 : Int32))), .val (.int (0 : Int32)), .val (.int (0 : Int32)), .val (.int (0 : Int32))] []))
            refine Goes.by (fun t k => XS.iloadN X11.here hx rfl (hb hby d11_72) rfl k) ?_
            show Goes p e below s _ _ _ (T11.setTop (mkF m 73 #[.val (.int pp), .val (.int pq), .val (.int (pp &&& (3 : Int32))), .val (.int (0 : Int32)), .val (.int (0 : Int32)), .val (.int (0 : Int32))] [(.int (0 : Int32))]))
            refine Goes.by (fun t k => XS.ifYes X11.here hx rfl (pc0 := 73) (pc' := 90) rfl (hb hby d11_73) rfl ((if0 _ _).trans (teq (by decide)).1) (by decide) (by decide) k) ?_
            show Goes p e below s _ _ _ (T11.setTop (mkF m 90 #[.val (.int pp), .val (.int pq), .val (.int (pp &&& (3 : Int32))), .val (.int (0 : Int32)), .val (.int (0 : Int32)), .val (.int (0 : Int32))] []))
            refine Goes.by (fun t k => XS.iconst X11.here hx rfl (hb hby d11_90) k) ?_
            show Goes p e below s _ _ _ (T11.setTop (mkF m 91 #[.val (.int pp), .val (.int pq), .val (.int (pp &&& (3 : Int32))), .val (.int (0 : Int32)), .val (.int (0 : Int32)), .val (.int (0 : Int32))] [(.int (0 : Int32))]))
            exact Goes.retN X11 hx Bd.returns rfl (hb hby d11_91) hlk (by rw [eH11]; exact ⟨_, rfl, N11, rfl, Or.inr ⟨rfl, fun z => hb1 (z.2.1.resolve_left (by rw [hp]; decide))⟩⟩) (by decide) (by decide)
  · skip
    refine Goes.by (fun t k => XS.icmpNo X0.here hx rfl (hb hby d11_8) rfl (feq (hl)).1 k) ?_
    show Goes p e below s _ _ _ (s₁.setTop (mkF m 11 #[.val (.int pp), .val (.int pq), .val (.int (pp &&& (3 : Int32))), .unset, .unset, .unset] []))
    refine Goes.by (fun t k => XS.iconst X0.here hx rfl (hb hby d11_11) k) ?_
    show Goes p e below s _ _ _ (s₁.setTop (mkF m 12 #[.val (.int pp), .val (.int pq), .val (.int (pp &&& (3 : Int32))), .unset, .unset, .unset] [(.int (0 : Int32))]))
    exact Goes.retN X0 hx Bd.returns rfl (hb hby d11_12) hlk (by rw [e0]; exact ⟨_, rfl, N0, rfl, Or.inr ⟨rfl, fun z => hl z.1⟩⟩) (by decide) (by decide)
def Q12f (h0 : Heap) (n0 : Nat) (v : Option Value) (h : Heap) (L : List Loc) : Prop := v = some (.int 0) ∧ Fr n0 L ∧ h = h0
theorem d12_0 : decode prog_19_method_4_code 0 = .ok (.aload_n 1, 1) := by decide +kernel
theorem d12_1 : decode prog_19_method_4_code 1 = .ok (.instanceof 16, 3) := by decide +kernel
theorem d12_4 : decode prog_19_method_4_code 4 = .ok (.ifCond .eq 41, 3) := by decide +kernel
theorem d12_7 : decode prog_19_method_4_code 7 = .ok (.aload_n 0, 1) := by decide +kernel
theorem d12_8 : decode prog_19_method_4_code 8 = .ok (.getfield 15, 3) := by decide +kernel
theorem d12_11 : decode prog_19_method_4_code 11 = .ok (.aload_n 1, 1) := by decide +kernel
theorem d12_12 : decode prog_19_method_4_code 12 = .ok (.checkcast 16, 3) := by decide +kernel
theorem d12_15 : decode prog_19_method_4_code 15 = .ok (.getfield 15, 3) := by decide +kernel
theorem d12_18 : decode prog_19_method_4_code 18 = .ok (.invokevirtual 24, 3) := by decide +kernel
theorem d12_21 : decode prog_19_method_4_code 21 = .ok (.ifCond .eq 24, 3) := by decide +kernel
theorem d12_24 : decode prog_19_method_4_code 24 = .ok (.aload_n 0, 1) := by decide +kernel
theorem d12_25 : decode prog_19_method_4_code 25 = .ok (.getfield 21, 3) := by decide +kernel
theorem d12_28 : decode prog_19_method_4_code 28 = .ok (.aload_n 1, 1) := by decide +kernel
theorem d12_29 : decode prog_19_method_4_code 29 = .ok (.checkcast 16, 3) := by decide +kernel
theorem d12_32 : decode prog_19_method_4_code 32 = .ok (.getfield 21, 3) := by decide +kernel
theorem d12_35 : decode prog_19_method_4_code 35 = .ok (.invokevirtual 24, 3) := by decide +kernel
theorem d12_38 : decode prog_19_method_4_code 38 = .ok (.ifCond .eq 7, 3) := by decide +kernel
theorem d12_41 : decode prog_19_method_4_code 41 = .ok (.iconst 1, 1) := by decide +kernel
theorem d12_42 : decode prog_19_method_4_code 42 = .ok (.goto 4, 3) := by decide +kernel
theorem d12_45 : decode prog_19_method_4_code 45 = .ok (.iconst 0, 1) := by decide +kernel
theorem d12_46 : decode prog_19_method_4_code 46 = .ok (.ireturn, 1) := by decide +kernel
theorem ef_rm12n (m : MethodId) (x0 : Addr) : entryFrame m #[(.ref x0), .null] 2 = mkF m 0 #[.val (.ref x0), .val .null] [] := by first | (simp [entryFrame, mkF, argsToLocals, Value.category]; done) | rfl
set_option maxRecDepth 65536 in
set_option maxHeartbeats 40000000 in
theorem rm12n (l : Launch) (Z : State) (a0 : Array Value) (hw : ∀ d ∈ tables_1, d.before a0 Z = true) (ws : List Jvm.Cond) (a1 : Addr) (h0 : Heap) (n0 : Nat) (Z0 : n0 ≤ h0.size)  :
    MetFree l (⟨"com/example/diogenes/diogenes/format/Topic", "equals", "(Ljava/lang/Object;)Z"⟩ : MethodName) (head1 (Jvm.Cond.code (⟨"com/example/diogenes/diogenes/format/Topic", "equals", "(Ljava/lang/Object;)Z"⟩ : MethodName) prog_19_method_4_code 2 (some .boolean) :: ws) ({ frames := 0, cells := 0, slots := 0, locals := 0 } : Room)) (fun a U => a = #[(.ref a1), .null] ∧ Z.Warmed39 U.vm ∧ U.heap = h0) (fun _ _ _ _ _ => True) (fun _ U o U' => ∃ v L, o = .returned v ∧ (Q12f h0 n0) v U'.heap L ∧ FrameEnd U o U' L ({ frames := 0, cells := 0, slots := 0, locals := 0 } : Room).cells ({ frames := 0, cells := 0, slots := 0, locals := 0 } : Room).slots) := by
  refine MetFree.of_bodySF (plainFor_of_name pn_3) hisR ?_
  intro p e s m args below meth c s₁ Bd hml0 hP hK
  obtain ⟨rfl, hZ, hh⟩ := hP
  have hx := Bd.exec
  have hby := Bd.bytes
  have hlk : meth.locks = false := BodyLoose.notSynchronized Bd
  have hml : c.maxLocals = 2 := hml0
  have hown : s.vm.findClass "com/example/diogenes/diogenes/format/Topic" = some m.cls := findClass_of_methodNamed Bd.named
  have hnm := (name_of_methodNamed Bd.named Bd.method).1
  have X0 : Stand p l e ({ frames := 0, cells := 0, slots := 0, locals := 0 } : Room) s m #[(.ref a1), .null] below meth c s₁ [] 0 0 := Stand.of_body Bd
  have e0 : s₁.heap = h0 := by rw [← hh, Bd.state]; rfl
  have N0 := Fr.nil n0
  show Goes p e below s (Q12f h0 n0) ({ frames := 0, cells := 0, slots := 0, locals := 0 } : Room).cells ({ frames := 0, cells := 0, slots := 0, locals := 0 } : Room).slots (s₁.setTop (entryFrame m #[(.ref a1), .null] 2))
  refine Goes.by (fun t k => castTop (ef_rm12n m a1) k) ?_
  show Goes p e below s _ _ _ (s₁.setTop (mkF m 0 #[.val (.ref a1), .val .null] []))
  refine Goes.by (fun t k => XS.aloadN X0.here hx rfl (hb hby d12_0) rfl rfl k) ?_
  show Goes p e below s _ _ _ (s₁.setTop (mkF m 1 #[.val (.ref a1), .val .null] [.null]))
  refine Goes.by (fun t k => X0.instanceofNull hx (g := (mkF m 1 #[.val (.ref a1), .val .null] [.null])) rfl (rest := []) rfl (hb hby d12_1) _ k) ?_
  show Goes p e below s _ _ _ (s₁.setTop (mkF m 4 #[.val (.ref a1), .val .null] [(.int (0 : Int32))]))
  refine Goes.by (fun t k => XS.ifYes X0.here hx rfl (pc0 := 4) (pc' := 45) rfl (hb hby d12_4) rfl ((if0 _ _).trans (teq (by decide)).1) (by decide) (by decide) k) ?_
  show Goes p e below s _ _ _ (s₁.setTop (mkF m 45 #[.val (.ref a1), .val .null] []))
  refine Goes.by (fun t k => XS.iconst X0.here hx rfl (hb hby d12_45) k) ?_
  show Goes p e below s _ _ _ (s₁.setTop (mkF m 46 #[.val (.ref a1), .val .null] [(.int (0 : Int32))]))
  exact Goes.retN X0 hx Bd.returns rfl (hb hby d12_46) hlk (by rw [e0]; exact ⟨rfl, N0, rfl⟩) (by decide) (by decide)
theorem ef_rm12s (m : MethodId) (x0 : Addr) (x1 : Addr) : entryFrame m #[(.ref x0), (.ref x1)] 2 = mkF m 0 #[.val (.ref x0), .val (.ref x1)] [] := by first | (simp [entryFrame, mkF, argsToLocals, Value.category]; done) | rfl
set_option maxRecDepth 65536 in
set_option maxHeartbeats 40000000 in
theorem rm12s (l : Launch) (Z : State) (a0 : Array Value) (hw : ∀ d ∈ tables_1, d.before a0 Z = true) (ws : List Jvm.Cond) (a1 a2 : Addr) (h0 : Heap) (n0 : Nat) (Z0 : n0 ≤ h0.size) (E2 : Exa Z h0 a2 "java/lang/String") :
    MetFree l (⟨"com/example/diogenes/diogenes/format/Topic", "equals", "(Ljava/lang/Object;)Z"⟩ : MethodName) (head1 (Jvm.Cond.code (⟨"com/example/diogenes/diogenes/format/Topic", "equals", "(Ljava/lang/Object;)Z"⟩ : MethodName) prog_19_method_4_code 2 (some .boolean) :: ws) ({ frames := 0, cells := 0, slots := 0, locals := 0 } : Room)) (fun a U => a = #[(.ref a1), (.ref a2)] ∧ Z.Warmed39 U.vm ∧ U.heap = h0) (fun _ _ _ _ _ => True) (fun _ U o U' => ∃ v L, o = .returned v ∧ (Q12f h0 n0) v U'.heap L ∧ FrameEnd U o U' L ({ frames := 0, cells := 0, slots := 0, locals := 0 } : Room).cells ({ frames := 0, cells := 0, slots := 0, locals := 0 } : Room).slots) := by
  refine MetFree.of_bodySF (plainFor_of_name pn_3) hisR ?_
  intro p e s m args below meth c s₁ Bd hml0 hP hK
  obtain ⟨rfl, hZ, hh⟩ := hP
  have hx := Bd.exec
  have hby := Bd.bytes
  have hlk : meth.locks = false := BodyLoose.notSynchronized Bd
  have hml : c.maxLocals = 2 := hml0
  have hown : s.vm.findClass "com/example/diogenes/diogenes/format/Topic" = some m.cls := findClass_of_methodNamed Bd.named
  have hnm := (name_of_methodNamed Bd.named Bd.method).1
  have X0 : Stand p l e ({ frames := 0, cells := 0, slots := 0, locals := 0 } : Room) s m #[(.ref a1), (.ref a2)] below meth c s₁ [] 0 0 := Stand.of_body Bd
  have e0 : s₁.heap = h0 := by rw [← hh, Bd.state]; rfl
  have N0 := Fr.nil n0
  show Goes p e below s (Q12f h0 n0) ({ frames := 0, cells := 0, slots := 0, locals := 0 } : Room).cells ({ frames := 0, cells := 0, slots := 0, locals := 0 } : Room).slots (s₁.setTop (entryFrame m #[(.ref a1), (.ref a2)] 2))
  refine Goes.by (fun t k => castTop (ef_rm12s m a1 a2) k) ?_
  show Goes p e below s _ _ _ (s₁.setTop (mkF m 0 #[.val (.ref a1), .val (.ref a2)] []))
  refine Goes.by (fun t k => XS.aloadN X0.here hx rfl (hb hby d12_0) rfl rfl k) ?_
  show Goes p e below s _ _ _ (s₁.setTop (mkF m 1 #[.val (.ref a1), .val (.ref a2)] [(.ref a2)]))
  obtain ⟨T1, X1, e1, st1⟩ := instNo X0 hx hZ hown (hw _ (List.mem_of_getElem? (i := 64) rfl)) e0 E2 (own_noSub (hw _ (List.mem_of_getElem? (i := 76) rfl)) (hw _ (List.mem_of_getElem? (i := 77) rfl)) (hw _ (List.mem_of_getElem? (i := 41) rfl)) own_ne2 own_ne3) (g := (mkF m 1 #[.val (.ref a1), .val (.ref a2)] [(.ref a2)])) rfl rfl (hb hby d12_1)
  refine Goes.by (fun t k => st1 t k) ?_
  show Goes p e below s _ _ _ (T1.setTop (mkF m 4 #[.val (.ref a1), .val (.ref a2)] [(.int (0 : Int32))]))
  refine Goes.by (fun t k => XS.ifYes X1.here hx rfl (pc0 := 4) (pc' := 45) rfl (hb hby d12_4) rfl ((if0 _ _).trans (teq (by decide)).1) (by decide) (by decide) k) ?_
  show Goes p e below s _ _ _ (T1.setTop (mkF m 45 #[.val (.ref a1), .val (.ref a2)] []))
  refine Goes.by (fun t k => XS.iconst X1.here hx rfl (hb hby d12_45) k) ?_
  show Goes p e below s _ _ _ (T1.setTop (mkF m 46 #[.val (.ref a1), .val (.ref a2)] [(.int (0 : Int32))]))
  exact Goes.retN X1 hx Bd.returns rfl (hb hby d12_46) hlk (by rw [e1]; exact ⟨rfl, N0, rfl⟩) (by decide) (by decide)
def Q12 (P : Prop) (h0 : Heap) (n0 : Nat) (v : Option Value) (h : Heap) (L : List Loc) : Prop := ∃ r : Int32, v = some (.int r) ∧ Fr n0 L ∧ h = h0 ∧ ((r = 1 ∧ P) ∨ (r = 0 ∧ ¬ P))
theorem ef_rm12 (m : MethodId) (x0 : Addr) (x1 : Addr) : entryFrame m #[(.ref x0), (.ref x1)] 2 = mkF m 0 #[.val (.ref x0), .val (.ref x1)] [] := by first | (simp [entryFrame, mkF, argsToLocals, Value.category]; done) | rfl
set_option maxRecDepth 65536 in
set_option maxHeartbeats 40000000 in
theorem rm12 (l : Launch) (Z : State) (a0 : Array Value) (hw : ∀ d ∈ tables_1, d.before a0 Z = true) (ws : List Jvm.Cond) (a1 a2 i1 i2 t1 t2 : Addr) (ci cj ct cu : List Int32) (z : Int32) (h0 : Heap) (n0 : Nat) (Z0 : n0 ≤ h0.size) (O0 : Old Z n0 h0) (SC : Sta Z Z.heap "java/lang/String" "COMPACT_STRINGS" "Z" (.int z)) (hz : ¬ z = 0) (Ea : Exa Z h0 a1 "com/example/diogenes/diogenes/format/Topic") (Ia : Fld Z h0 a1 "com/example/diogenes/diogenes/format/Topic" "id" "Ljava/lang/String;" (.ref i1)) (Xa_ : Fld Z h0 a1 "com/example/diogenes/diogenes/format/Topic" "text" "Ljava/lang/String;" (.ref t1)) (Eb : Exa Z h0 a2 "com/example/diogenes/diogenes/format/Topic") (Ib : Fld Z h0 a2 "com/example/diogenes/diogenes/format/Topic" "id" "Ljava/lang/String;" (.ref i2)) (Xb_ : Fld Z h0 a2 "com/example/diogenes/diogenes/format/Topic" "text" "Ljava/lang/String;" (.ref t2)) (S1 : STR Z h0 i1 ci) (S2 : STR Z h0 i2 cj) (S3 : STR Z h0 t1 ct) (S4 : STR Z h0 t2 cu) :
    MetFree l (⟨"com/example/diogenes/diogenes/format/Topic", "equals", "(Ljava/lang/Object;)Z"⟩ : MethodName) (head1 (Jvm.Cond.code (⟨"com/example/diogenes/diogenes/format/Topic", "equals", "(Ljava/lang/Object;)Z"⟩ : MethodName) prog_19_method_4_code 2 (some .boolean) :: ws) ({ frames := 2, cells := 0, slots := 0, locals := 30 } : Room)) (fun a U => a = #[(.ref a1), (.ref a2)] ∧ Z.Warmed39 U.vm ∧ U.heap = h0) (fun _ _ _ _ _ => True) (fun _ U o U' => ∃ v L, o = .returned v ∧ (Q12 (ci = cj ∧ ct = cu) h0 n0) v U'.heap L ∧ FrameEnd U o U' L ({ frames := 2, cells := 0, slots := 0, locals := 30 } : Room).cells ({ frames := 2, cells := 0, slots := 0, locals := 30 } : Room).slots) := by
  refine MetFree.of_bodySF (plainFor_of_name pn_3) hisR ?_
  intro p e s m args below meth c s₁ Bd hml0 hP hK
  obtain ⟨rfl, hZ, hh⟩ := hP
  have hx := Bd.exec
  have hby := Bd.bytes
  have hlk : meth.locks = false := BodyLoose.notSynchronized Bd
  have hml : c.maxLocals = 2 := hml0
  have hown : s.vm.findClass "com/example/diogenes/diogenes/format/Topic" = some m.cls := findClass_of_methodNamed Bd.named
  have hnm := (name_of_methodNamed Bd.named Bd.method).1
  have X0 : Stand p l e ({ frames := 2, cells := 0, slots := 0, locals := 30 } : Room) s m #[(.ref a1), (.ref a2)] below meth c s₁ [] 0 0 := Stand.of_body Bd
  have e0 : s₁.heap = h0 := by rw [← hh, Bd.state]; rfl
  have N0 := Fr.nil n0
  show Goes p e below s (Q12 (ci = cj ∧ ct = cu) h0 n0) ({ frames := 2, cells := 0, slots := 0, locals := 30 } : Room).cells ({ frames := 2, cells := 0, slots := 0, locals := 30 } : Room).slots (s₁.setTop (entryFrame m #[(.ref a1), (.ref a2)] 2))
  refine Goes.by (fun t k => castTop (ef_rm12 m a1 a2) k) ?_
  show Goes p e below s _ _ _ (s₁.setTop (mkF m 0 #[.val (.ref a1), .val (.ref a2)] []))
  have heq : ∀ d ∈ StrChars.Road.wordsEq, d.before a0 Z = true := fun d hd => hw d ((by decide +kernel : ∀ d ∈ StrChars.Road.wordsEq, d ∈ tables_1) d hd)
  obtain ⟨Ei_, Ci_, ti_, kbi_, Ni_, vsi_, Vi_, Ai_, ci_d, bi_, li_⟩ := S1
  obtain ⟨Ej_, Cj_, tj_, kbj_, Nj_, vsj_, Vj_, Aj_, cj_d, bj_, lj_⟩ := S2
  obtain ⟨Et_, Ct_, tt_, kbt_, Nt_, vst_, Vt_, At_, ct_d, bt_, lt_⟩ := S3
  obtain ⟨Eu_, Cu_, tu_, kbu_, Nu_, vsu_, Vu_, Au_, cu_d, bu_, lu_⟩ := S4
  refine Goes.by (fun t k => XS.aloadN X0.here hx rfl (hb hby d12_0) rfl rfl k) ?_
  show Goes p e below s _ _ _ (s₁.setTop (mkF m 1 #[.val (.ref a1), .val (.ref a2)] [(.ref a2)]))
  obtain ⟨T1, X1, e1, st1⟩ := instY X0 hx hZ hown (hw _ (List.mem_of_getElem? (i := 64) rfl)) e0 (Ins.self Eb) (g := (mkF m 1 #[.val (.ref a1), .val (.ref a2)] [(.ref a2)])) rfl rfl (hb hby d12_1)
  refine Goes.by (fun t k => st1 t k) ?_
  show Goes p e below s _ _ _ (T1.setTop (mkF m 4 #[.val (.ref a1), .val (.ref a2)] [(.int (1 : Int32))]))
  refine Goes.by (fun t k => XS.ifNo X1.here hx rfl (hb hby d12_4) rfl ((if0 _ _).trans (feq (by decide)).1) k) ?_
  show Goes p e below s _ _ _ (T1.setTop (mkF m 7 #[.val (.ref a1), .val (.ref a2)] []))
  refine Goes.by (fun t k => XS.aloadN X1.here hx rfl (hb hby d12_7) rfl rfl k) ?_
  show Goes p e below s _ _ _ (T1.setTop (mkF m 8 #[.val (.ref a1), .val (.ref a2)] [(.ref a1)]))
  obtain ⟨T2, X2, e2, st2⟩ := getF X1 hx hZ hown (host := "") (Or.inl (hw _ (List.mem_of_getElem? (i := 52) rfl))) Via.refl e1 (Ia) (g := (mkF m 8 #[.val (.ref a1), .val (.ref a2)] [(.ref a1)])) rfl rfl (hb hby d12_8)
  refine Goes.by (fun t k => st2 t k) ?_
  show Goes p e below s _ _ _ (T2.setTop (mkF m 11 #[.val (.ref a1), .val (.ref a2)] [(.ref i1)]))
  refine Goes.by (fun t k => XS.aloadN X2.here hx rfl (hb hby d12_11) rfl rfl k) ?_
  show Goes p e below s _ _ _ (T2.setTop (mkF m 12 #[.val (.ref a1), .val (.ref a2)] [(.ref a2), (.ref i1)]))
  obtain ⟨T3, X3, e3, st3⟩ := castY X2 hx hZ hown (hw _ (List.mem_of_getElem? (i := 64) rfl)) e2 (Ins.self Eb) (g := (mkF m 12 #[.val (.ref a1), .val (.ref a2)] [(.ref a2), (.ref i1)])) rfl rfl (hb hby d12_12)
  refine Goes.by (fun t k => st3 t k) ?_
  show Goes p e below s _ _ _ (T3.setTop (mkF m 15 #[.val (.ref a1), .val (.ref a2)] [(.ref a2), (.ref i1)]))
  obtain ⟨T4, X4, e4, st4⟩ := getF X3 hx hZ hown (host := "") (Or.inl (hw _ (List.mem_of_getElem? (i := 52) rfl))) Via.refl e3 (Ib) (g := (mkF m 15 #[.val (.ref a1), .val (.ref a2)] [(.ref a2), (.ref i1)])) rfl rfl (hb hby d12_15)
  refine Goes.by (fun t k => st4 t k) ?_
  show Goes p e below s _ _ _ (T4.setTop (mkF m 18 #[.val (.ref a1), .val (.ref a2)] [(.ref i2), (.ref i1)]))
  obtain ⟨cq5, kq5, q5a, q5b, q5c⟩ := isOf hZ e4 (Ei_)
  obtain ⟨_, _, ⟨T5, L5, k5, n5⟩, -, X5, ⟨Lc5, hQ5, l5, y5, z5⟩, st5⟩ := X4.virtualBack hx (y := (⟨"java/lang/String", "equals", "(Ljava/lang/Object;)Z"⟩ : MethodName)) (z := (⟨"java/lang/String", "equals", "(Ljava/lang/Object;)Z"⟩ : MethodName)) hown (mvT hZ (hw _ (List.mem_of_getElem? (i := 66) rfl))) (mvT hZ (hw _ (List.mem_of_getElem? (i := 67) rfl))) (notFace_of_selects (args := #[]) (mvT hZ (hw _ (List.mem_of_getElem? (i := 69) rfl)))) (mvT hZ (hw _ (List.mem_of_getElem? (i := 69) rfl))) (mvT hZ (hw _ (List.mem_of_getElem? (i := 68) rfl))) (by decide) (StrChars.Road.eqW (W := 0) hZ heq (kI := 4) (hw _ (List.mem_of_getElem? (i := 8) rfl)) Ei_ Vi_ Ci_ Ai_ ci_d bi_ li_ Ej_ Vj_ Cj_ Aj_ cj_d bj_ lj_ (SC.ext O0.2) hz (by decide) (by decide)) q5a q5c (g := (mkF m 18 #[.val (.ref a1), .val (.ref a2)] [(.ref i2), (.ref i1)])) rfl (by rw [hml]; rfl) (Steps.refl _) (argsL := [(.ref i2)]) (rest := []) (lenOf pd_12 rfl) rfl (by show 2 * 0 + _ ≤ _; exact Nat.le_of_eq rfl) (hb hby d12_18) (fun _ _ => ⟨rfl, e4, (by decide : 0 + 0 ≤ _), (by decide : 0 + 0 ≤ _)⟩)
  dsimp only [Pt.U, Pt.locs, Pt.cells, Pt.slots] at X5 l5 y5 z5 st5 hQ5
  rw [l5, y5, z5] at X5
  have N5q := Fr.nil n0
  obtain ⟨hv5, rfl, hh5⟩ := hQ5
  have N5 := Fr.app N0 N5q
  refine Goes.by (fun t k => st5.trans k) ?_
  have eH5 : T5.heap = h0 := hh5
  rcases hv5 with ⟨rfl, hdi⟩ | ⟨rfl, hdi⟩
  · skip
    show Goes p e below s _ _ _ (T5.setTop (mkF m 21 #[.val (.ref a1), .val (.ref a2)] [(.int (1 : Int32))]))
    refine Goes.by (fun t k => XS.ifNo X5.here hx rfl (hb hby d12_21) rfl ((if0 _ _).trans (feq (by decide)).1) k) ?_
    show Goes p e below s _ _ _ (T5.setTop (mkF m 24 #[.val (.ref a1), .val (.ref a2)] []))
    refine Goes.by (fun t k => XS.aloadN X5.here hx rfl (hb hby d12_24) rfl rfl k) ?_
    show Goes p e below s _ _ _ (T5.setTop (mkF m 25 #[.val (.ref a1), .val (.ref a2)] [(.ref a1)]))
    obtain ⟨T6, X6, e6, st6⟩ := getF X5 hx hZ hown (host := "") (Or.inl (hw _ (List.mem_of_getElem? (i := 54) rfl))) Via.refl eH5 (Xa_) (g := (mkF m 25 #[.val (.ref a1), .val (.ref a2)] [(.ref a1)])) rfl rfl (hb hby d12_25)
    refine Goes.by (fun t k => st6 t k) ?_
    show Goes p e below s _ _ _ (T6.setTop (mkF m 28 #[.val (.ref a1), .val (.ref a2)] [(.ref t1)]))
    refine Goes.by (fun t k => XS.aloadN X6.here hx rfl (hb hby d12_28) rfl rfl k) ?_
    show Goes p e below s _ _ _ (T6.setTop (mkF m 29 #[.val (.ref a1), .val (.ref a2)] [(.ref a2), (.ref t1)]))
    obtain ⟨T7, X7, e7, st7⟩ := castY X6 hx hZ hown (hw _ (List.mem_of_getElem? (i := 64) rfl)) e6 (Ins.self Eb) (g := (mkF m 29 #[.val (.ref a1), .val (.ref a2)] [(.ref a2), (.ref t1)])) rfl rfl (hb hby d12_29)
    refine Goes.by (fun t k => st7 t k) ?_
    show Goes p e below s _ _ _ (T7.setTop (mkF m 32 #[.val (.ref a1), .val (.ref a2)] [(.ref a2), (.ref t1)]))
    obtain ⟨T8, X8, e8, st8⟩ := getF X7 hx hZ hown (host := "") (Or.inl (hw _ (List.mem_of_getElem? (i := 54) rfl))) Via.refl e7 (Xb_) (g := (mkF m 32 #[.val (.ref a1), .val (.ref a2)] [(.ref a2), (.ref t1)])) rfl rfl (hb hby d12_32)
    refine Goes.by (fun t k => st8 t k) ?_
    show Goes p e below s _ _ _ (T8.setTop (mkF m 35 #[.val (.ref a1), .val (.ref a2)] [(.ref t2), (.ref t1)]))
    obtain ⟨cq9, kq9, q9a, q9b, q9c⟩ := isOf hZ e8 (Et_)
    obtain ⟨_, _, ⟨T9, L9, k9, n9⟩, -, X9, ⟨Lc9, hQ9, l9, y9, z9⟩, st9⟩ := X8.virtualBack hx (y := (⟨"java/lang/String", "equals", "(Ljava/lang/Object;)Z"⟩ : MethodName)) (z := (⟨"java/lang/String", "equals", "(Ljava/lang/Object;)Z"⟩ : MethodName)) hown (mvT hZ (hw _ (List.mem_of_getElem? (i := 66) rfl))) (mvT hZ (hw _ (List.mem_of_getElem? (i := 67) rfl))) (notFace_of_selects (args := #[]) (mvT hZ (hw _ (List.mem_of_getElem? (i := 69) rfl)))) (mvT hZ (hw _ (List.mem_of_getElem? (i := 69) rfl))) (mvT hZ (hw _ (List.mem_of_getElem? (i := 68) rfl))) (by decide) (StrChars.Road.eqW (W := 0) hZ heq (kI := 4) (hw _ (List.mem_of_getElem? (i := 8) rfl)) Et_ Vt_ Ct_ At_ ct_d bt_ lt_ Eu_ Vu_ Cu_ Au_ cu_d bu_ lu_ (SC.ext O0.2) hz (by decide) (by decide)) q9a q9c (g := (mkF m 35 #[.val (.ref a1), .val (.ref a2)] [(.ref t2), (.ref t1)])) rfl (by rw [hml]; rfl) (Steps.refl _) (argsL := [(.ref t2)]) (rest := []) (lenOf pd_12 rfl) rfl (by show 2 * 0 + _ ≤ _; exact Nat.le_of_eq rfl) (hb hby d12_35) (fun _ _ => ⟨rfl, e8, (by decide : 0 + 0 ≤ _), (by decide : 0 + 0 ≤ _)⟩)
    dsimp only [Pt.U, Pt.locs, Pt.cells, Pt.slots] at X9 l9 y9 z9 st9 hQ9
    rw [l9, y9, z9] at X9
    have N9q := Fr.nil n0
    obtain ⟨hv9, rfl, hh9⟩ := hQ9
    have N9 := Fr.app N5 N9q
    refine Goes.by (fun t k => st9.trans k) ?_
    have eH9 : T9.heap = h0 := hh9
    rcases hv9 with ⟨rfl, hdt⟩ | ⟨rfl, hdt⟩
    · skip
      show Goes p e below s _ _ _ (T9.setTop (mkF m 38 #[.val (.ref a1), .val (.ref a2)] [(.int (1 : Int32))]))
      refine Goes.by (fun t k => XS.ifNo X9.here hx rfl (hb hby d12_38) rfl ((if0 _ _).trans (feq (by decide)).1) k) ?_
      show Goes p e below s _ _ _ (T9.setTop (mkF m 41 #[.val (.ref a1), .val (.ref a2)] []))
      refine Goes.by (fun t k => XS.iconst X9.here hx rfl (hb hby d12_41) k) ?_
      show Goes p e below s _ _ _ (T9.setTop (mkF m 42 #[.val (.ref a1), .val (.ref a2)] [(.int (1 : Int32))]))
      refine Goes.by (fun t k => XS.goto X9.here hx rfl (pc0 := 42) (pc' := 46) rfl (hb hby d12_42) (by decide) (by decide) k) ?_
      show Goes p e below s _ _ _ (T9.setTop (mkF m 46 #[.val (.ref a1), .val (.ref a2)] [(.int (1 : Int32))]))
      exact Goes.retN X9 hx Bd.returns rfl (hb hby d12_46) hlk (by rw [eH9]; exact ⟨_, rfl, N9, rfl, Or.inl ⟨rfl, hdi, hdt⟩⟩) (by decide) (by decide)
    · skip
      show Goes p e below s _ _ _ (T9.setTop (mkF m 38 #[.val (.ref a1), .val (.ref a2)] [(.int (0 : Int32))]))
      refine Goes.by (fun t k => XS.ifYes X9.here hx rfl (pc0 := 38) (pc' := 45) rfl (hb hby d12_38) rfl ((if0 _ _).trans (teq (by decide)).1) (by decide) (by decide) k) ?_
      show Goes p e below s _ _ _ (T9.setTop (mkF m 45 #[.val (.ref a1), .val (.ref a2)] []))
      refine Goes.by (fun t k => XS.iconst X9.here hx rfl (hb hby d12_45) k) ?_
      show Goes p e below s _ _ _ (T9.setTop (mkF m 46 #[.val (.ref a1), .val (.ref a2)] [(.int (0 : Int32))]))
      exact Goes.retN X9 hx Bd.returns rfl (hb hby d12_46) hlk (by rw [eH9]; exact ⟨_, rfl, N9, rfl, Or.inr ⟨rfl, fun q => hdt q.2⟩⟩) (by decide) (by decide)
  · skip
    show Goes p e below s _ _ _ (T5.setTop (mkF m 21 #[.val (.ref a1), .val (.ref a2)] [(.int (0 : Int32))]))
    refine Goes.by (fun t k => XS.ifYes X5.here hx rfl (pc0 := 21) (pc' := 45) rfl (hb hby d12_21) rfl ((if0 _ _).trans (teq (by decide)).1) (by decide) (by decide) k) ?_
    show Goes p e below s _ _ _ (T5.setTop (mkF m 45 #[.val (.ref a1), .val (.ref a2)] []))
    refine Goes.by (fun t k => XS.iconst X5.here hx rfl (hb hby d12_45) k) ?_
    show Goes p e below s _ _ _ (T5.setTop (mkF m 46 #[.val (.ref a1), .val (.ref a2)] [(.int (0 : Int32))]))
    exact Goes.retN X5 hx Bd.returns rfl (hb hby d12_46) hlk (by rw [eH5]; exact ⟨_, rfl, N5, rfl, Or.inr ⟨rfl, fun q => hdi q.1⟩⟩) (by decide) (by decide)
def Q0 (n0 : Nat) (v : Option Value) (h : Heap) (L : List Loc) : Prop := v = some (.int 1) ∧ Fr n0 L
theorem ef_rm0 (m : MethodId) (x0 : Int32) (x1 : Int32) (x2 : Int32) (x3 : Int32) (x4 : Int32) : entryFrame m #[(.int x0), (.int x1), (.int x2), (.int x3), (.int x4)] maxLocals = mkF m 0 #[.val (.int x0), .val (.int x1), .val (.int x2), .val (.int x3), .val (.int x4), .unset, .unset, .unset, .unset, .unset, .unset, .unset, .unset, .unset] [] := by first | (simp [entryFrame, mkF, argsToLocals, Value.category, maxLocals]; done) | rfl
set_option maxRecDepth 65536 in
set_option maxHeartbeats 40000000 in
theorem rm0 (l : Launch) (Z : State) (a0 : Array Value) (hw : ∀ d ∈ tables_1, d.before a0 Z = true) (ws : List Jvm.Cond) (p0 p1 p2 p3 p4 z : Int32) (h0 : Heap) (n0 : Nat) (Z0 : n0 ≤ h0.size) (O0 : Old Z n0 h0) (SC : Sta Z Z.heap "java/lang/String" "COMPACT_STRINGS" "Z" (.int z)) (hz : ¬ z = 0) (wS : ∀ a ∈ Bundle.stringAtoms, a.before a0 Z = true) :
    MetFree l x (head1 (Jvm.Cond.code x code maxLocals ret :: ws) room_1) (fun a U => a = #[(.int p0), (.int p1), (.int p2), (.int p3), (.int p4)] ∧ Z.Warmed39 U.vm ∧ U.heap = h0 ∧ CHv Z EL1 U.vm h0) (fun _ _ _ _ _ => True) (fun _ U o U' => ∃ v L, o = .returned v ∧ (Q0 n0) v U'.heap L ∧ ReturnedEndW U o U' L room_1.cells room_1.slots) := by
  refine MetFree.of_bodySF (plainFor_of_name pn_1) hisR ?_
  intro p e s m args below meth c s₁ Bd hml0 hP hK
  obtain ⟨rfl, hZ, hh, hCH⟩ := hP
  have hx := Bd.exec
  have hby := Bd.bytes
  have hlk : meth.locks = false := BodyLoose.notSynchronized Bd
  have hml : c.maxLocals = 14 := hml0
  have hown : s.vm.findClass "com/example/diogenes/diogenes/format/TopicEqualsPinLaw" = some m.cls := findClass_of_methodNamed Bd.named
  have hnm := (name_of_methodNamed Bd.named Bd.method).1
  have X0 : Stand p l e room_1 (s.setVm s.vm) m #[(.int p0), (.int p1), (.int p2), (.int p3), (.int p4)] below meth c s₁ [] 0 0 := Stand.of_body Bd
  have e0 : s₁.heap = h0 := by rw [← hh, Bd.state]; rfl
  have N0 := Fr.nil n0
  show GoesW p e below s (Q0 n0) room_1.cells room_1.slots (s₁.setTop (entryFrame m #[(.int p0), (.int p1), (.int p2), (.int p3), (.int p4)] maxLocals))
  refine GoesW.by (fun t k => castTop (ef_rm0 m p0 p1 p2 p3 p4) k) ?_
  have hS : s.Since s.vm 0 := (State.WarmedH.refl s).since 0
  have hk0 : 0 ≤ h0.size := Nat.zero_le _
  have hEL := own_EW hw
  have CH0 : CHr Z EL1 s.vm h0 s.vm h0 := CHr.refl hCH
  show GoesW p e below s _ _ _ (s₁.setTop (mkF m 0 #[.val (.int p0), .val (.int p1), .val (.int p2), .val (.int p3), .val (.int p4), .unset, .unset, .unset, .unset, .unset, .unset, .unset, .unset, .unset] []))
  refine GoesW.by (fun t k => XS.iloadN X0.here hx rfl (hb hby at_0) rfl k) ?_
  show GoesW p e below s _ _ _ (s₁.setTop (mkF m 1 #[.val (.int p0), .val (.int p1), .val (.int p2), .val (.int p3), .val (.int p4), .unset, .unset, .unset, .unset, .unset, .unset, .unset, .unset, .unset] [(.int p0)]))
  refine GoesW.by (fun t k => XS.iconst X0.here hx rfl (hb hby at_1) k) ?_
  show GoesW p e below s _ _ _ (s₁.setTop (mkF m 2 #[.val (.int p0), .val (.int p1), .val (.int p2), .val (.int p3), .val (.int p4), .unset, .unset, .unset, .unset, .unset, .unset, .unset, .unset, .unset] [(.int (3 : Int32)), (.int p0)]))
  refine GoesW.by (fun t k => XS.iand X0.here hx rfl (hb hby at_2) rfl k) ?_
  show GoesW p e below s _ _ _ (s₁.setTop (mkF m 3 #[.val (.int p0), .val (.int p1), .val (.int p2), .val (.int p3), .val (.int p4), .unset, .unset, .unset, .unset, .unset, .unset, .unset, .unset, .unset] [(.int (p0 &&& (3 : Int32)))]))
  refine GoesW.by (fun t k => XS.iloadN X0.here hx rfl (hb hby at_3) rfl k) ?_
  show GoesW p e below s _ _ _ (s₁.setTop (mkF m 4 #[.val (.int p0), .val (.int p1), .val (.int p2), .val (.int p3), .val (.int p4), .unset, .unset, .unset, .unset, .unset, .unset, .unset, .unset, .unset] [(.int p0), (.int (p0 &&& (3 : Int32)))]))
  refine GoesW.by (fun t k => XS.iconst X0.here hx rfl (hb hby at_4) k) ?_
  show GoesW p e below s _ _ _ (s₁.setTop (mkF m 5 #[.val (.int p0), .val (.int p1), .val (.int p2), .val (.int p3), .val (.int p4), .unset, .unset, .unset, .unset, .unset, .unset, .unset, .unset, .unset] [(.int (1 : Int32)), (.int p0), (.int (p0 &&& (3 : Int32)))]))
  obtain ⟨_, _, ⟨T1, L1, k1, n1⟩, -, X1, ⟨Lc1, hQ1, l1, y1, z1⟩, st1⟩ := Jvm.LawKit.callS X0 hx (y := (⟨"com/example/diogenes/diogenes/format/TopicEqualsPinLaw", "b", "(II)I"⟩ : MethodName)) hown (mvT hZ (hw _ (List.mem_of_getElem? (i := 0) rfl))) (mvT hZ (hw _ (List.mem_of_getElem? (i := 1) rfl))) (mvT hZ (hw _ (List.mem_of_getElem? (i := 2) rfl))) (mvT hZ (hw _ (List.mem_of_getElem? (i := 3) rfl))) (by decide) (backOf (W := 1) (rm1 l Z a0 hw [] p0 (1 : Int32) _ n0 Z0) hZ (hw _ (List.mem_of_getElem? (i := 3) rfl)) (hw _ (List.mem_of_getElem? (i := 2) rfl)) (by decide) (by decide)) (g := (mkF m 5 #[.val (.int p0), .val (.int p1), .val (.int p2), .val (.int p3), .val (.int p4), .unset, .unset, .unset, .unset, .unset, .unset, .unset, .unset, .unset] [(.int (1 : Int32)), (.int p0), (.int (p0 &&& (3 : Int32)))])) rfl (by rw [hml]; rfl) (argsL := [(.int p0), (.int (1 : Int32))]) (rest := [(.int (p0 &&& (3 : Int32)))]) (lenOf pd_1 rfl) rfl (by show 2 * 0 + _ ≤ _; exact Nat.le_of_eq rfl) (hb hby at_5) (fun _ _ => ⟨rfl, e0, (by decide : 0 + 0 ≤ _), (by decide : 0 + 0 ≤ _)⟩)
  dsimp only [Pt.U, Pt.locs, Pt.cells, Pt.slots] at X1 l1 y1 z1 st1 hQ1
  rw [l1, y1, z1] at X1
  obtain ⟨rfl, N1q, hh1⟩ := hQ1
  have N1 := Fr.app N0 N1q
  refine GoesW.by (fun t k => st1 _ k) ?_
  show GoesW p e below s _ _ _ (T1.setTop (mkF m 8 #[.val (.int p0), .val (.int p1), .val (.int p2), .val (.int p3), .val (.int p4), .unset, .unset, .unset, .unset, .unset, .unset, .unset, .unset, .unset] [(.int (bb p0 (1 : Int32))), (.int (p0 &&& (3 : Int32)))]))
  have KK1 : Keep (h0) T1.heap [] := by rw [hh1]; exact Keep.refl _ _
  have hCf1 := CHr.keep KK1 all0 CH0.1
  have f2 := CH0.trans hCf1
  have OLD_KK1 := O0.keep KK1 all0
  have f3 := Nat.le_trans Z0 KK1.1
  have f4 := Nat.le_trans hk0 KK1.1
  refine GoesW.by (fun t k => XS.iloadN X1.here hx rfl (hb hby at_8) rfl k) ?_
  show GoesW p e below s _ _ _ (T1.setTop (mkF m 9 #[.val (.int p0), .val (.int p1), .val (.int p2), .val (.int p3), .val (.int p4), .unset, .unset, .unset, .unset, .unset, .unset, .unset, .unset, .unset] [(.int p0), (.int (bb p0 (1 : Int32))), (.int (p0 &&& (3 : Int32)))]))
  refine GoesW.by (fun t k => XS.iconst X1.here hx rfl (hb hby at_9) k) ?_
  show GoesW p e below s _ _ _ (T1.setTop (mkF m 10 #[.val (.int p0), .val (.int p1), .val (.int p2), .val (.int p3), .val (.int p4), .unset, .unset, .unset, .unset, .unset, .unset, .unset, .unset, .unset] [(.int (2 : Int32)), (.int p0), (.int (bb p0 (1 : Int32))), (.int (p0 &&& (3 : Int32)))]))
  obtain ⟨_, _, ⟨T2, L2, k2, n2⟩, -, X2, ⟨Lc2, hQ2, l2, y2, z2⟩, st2⟩ := Jvm.LawKit.callS X1 hx (y := (⟨"com/example/diogenes/diogenes/format/TopicEqualsPinLaw", "b", "(II)I"⟩ : MethodName)) hown (mvT hZ (hw _ (List.mem_of_getElem? (i := 0) rfl))) (mvT hZ (hw _ (List.mem_of_getElem? (i := 1) rfl))) (mvT hZ (hw _ (List.mem_of_getElem? (i := 2) rfl))) (mvT hZ (hw _ (List.mem_of_getElem? (i := 3) rfl))) (by decide) (backOf (W := 2) (rm1 l Z a0 hw [] p0 (2 : Int32) _ n0 f3) hZ (hw _ (List.mem_of_getElem? (i := 3) rfl)) (hw _ (List.mem_of_getElem? (i := 2) rfl)) (by decide) (by decide)) (g := (mkF m 10 #[.val (.int p0), .val (.int p1), .val (.int p2), .val (.int p3), .val (.int p4), .unset, .unset, .unset, .unset, .unset, .unset, .unset, .unset, .unset] [(.int (2 : Int32)), (.int p0), (.int (bb p0 (1 : Int32))), (.int (p0 &&& (3 : Int32)))])) rfl (by rw [hml]; rfl) (argsL := [(.int p0), (.int (2 : Int32))]) (rest := [(.int (bb p0 (1 : Int32))), (.int (p0 &&& (3 : Int32)))]) (lenOf pd_1 rfl) rfl (by show 2 * 0 + _ ≤ _; exact Nat.le_of_eq rfl) (hb hby at_10) (fun _ _ => ⟨rfl, rfl, (by decide : 0 + 0 ≤ _), (by decide : 0 + 0 ≤ _)⟩)
  dsimp only [Pt.U, Pt.locs, Pt.cells, Pt.slots] at X2 l2 y2 z2 st2 hQ2
  rw [l2, y2, z2] at X2
  obtain ⟨rfl, N2q, hh2⟩ := hQ2
  have N2 := Fr.app N1 N2q
  refine GoesW.by (fun t k => st2 _ k) ?_
  show GoesW p e below s _ _ _ (T2.setTop (mkF m 13 #[.val (.int p0), .val (.int p1), .val (.int p2), .val (.int p3), .val (.int p4), .unset, .unset, .unset, .unset, .unset, .unset, .unset, .unset, .unset] [(.int (bb p0 (2 : Int32))), (.int (bb p0 (1 : Int32))), (.int (p0 &&& (3 : Int32)))]))
  have KK2 : Keep (T1.heap) T2.heap [] := by rw [hh2]; exact Keep.refl _ _
  have hCf5 := CHr.keep KK2 all0 f2.1
  have f6 := f2.trans hCf5
  have OLD_KK2 := OLD_KK1.keep KK2 all0
  have f7 := Nat.le_trans f3 KK2.1
  have f8 := Nat.le_trans f4 KK2.1
  refine GoesW.by (fun t k => XS.iloadN X2.here hx rfl (hb hby at_13) rfl k) ?_
  show GoesW p e below s _ _ _ (T2.setTop (mkF m 14 #[.val (.int p0), .val (.int p1), .val (.int p2), .val (.int p3), .val (.int p4), .unset, .unset, .unset, .unset, .unset, .unset, .unset, .unset, .unset] [(.int p0), (.int (bb p0 (2 : Int32))), (.int (bb p0 (1 : Int32))), (.int (p0 &&& (3 : Int32)))]))
  refine GoesW.by (fun t k => XS.iconst X2.here hx rfl (hb hby at_14) k) ?_
  show GoesW p e below s _ _ _ (T2.setTop (mkF m 15 #[.val (.int p0), .val (.int p1), .val (.int p2), .val (.int p3), .val (.int p4), .unset, .unset, .unset, .unset, .unset, .unset, .unset, .unset, .unset] [(.int (3 : Int32)), (.int p0), (.int (bb p0 (2 : Int32))), (.int (bb p0 (1 : Int32))), (.int (p0 &&& (3 : Int32)))]))
  obtain ⟨_, _, ⟨T3, L3, k3, n3⟩, -, X3, ⟨Lc3, hQ3, l3, y3, z3⟩, st3⟩ := Jvm.LawKit.callS X2 hx (y := (⟨"com/example/diogenes/diogenes/format/TopicEqualsPinLaw", "b", "(II)I"⟩ : MethodName)) hown (mvT hZ (hw _ (List.mem_of_getElem? (i := 0) rfl))) (mvT hZ (hw _ (List.mem_of_getElem? (i := 1) rfl))) (mvT hZ (hw _ (List.mem_of_getElem? (i := 2) rfl))) (mvT hZ (hw _ (List.mem_of_getElem? (i := 3) rfl))) (by decide) (backOf (W := 3) (rm1 l Z a0 hw [] p0 (3 : Int32) _ n0 f7) hZ (hw _ (List.mem_of_getElem? (i := 3) rfl)) (hw _ (List.mem_of_getElem? (i := 2) rfl)) (by decide) (by decide)) (g := (mkF m 15 #[.val (.int p0), .val (.int p1), .val (.int p2), .val (.int p3), .val (.int p4), .unset, .unset, .unset, .unset, .unset, .unset, .unset, .unset, .unset] [(.int (3 : Int32)), (.int p0), (.int (bb p0 (2 : Int32))), (.int (bb p0 (1 : Int32))), (.int (p0 &&& (3 : Int32)))])) rfl (by rw [hml]; rfl) (argsL := [(.int p0), (.int (3 : Int32))]) (rest := [(.int (bb p0 (2 : Int32))), (.int (bb p0 (1 : Int32))), (.int (p0 &&& (3 : Int32)))]) (lenOf pd_1 rfl) rfl (by show 2 * 0 + _ ≤ _; exact Nat.le_of_eq rfl) (hb hby at_15) (fun _ _ => ⟨rfl, rfl, (by decide : 0 + 0 ≤ _), (by decide : 0 + 0 ≤ _)⟩)
  dsimp only [Pt.U, Pt.locs, Pt.cells, Pt.slots] at X3 l3 y3 z3 st3 hQ3
  rw [l3, y3, z3] at X3
  obtain ⟨rfl, N3q, hh3⟩ := hQ3
  have N3 := Fr.app N2 N3q
  refine GoesW.by (fun t k => st3 _ k) ?_
  show GoesW p e below s _ _ _ (T3.setTop (mkF m 18 #[.val (.int p0), .val (.int p1), .val (.int p2), .val (.int p3), .val (.int p4), .unset, .unset, .unset, .unset, .unset, .unset, .unset, .unset, .unset] [(.int (bb p0 (3 : Int32))), (.int (bb p0 (2 : Int32))), (.int (bb p0 (1 : Int32))), (.int (p0 &&& (3 : Int32)))]))
  have KK3 : Keep (T2.heap) T3.heap [] := by rw [hh3]; exact Keep.refl _ _
  have hCf9 := CHr.keep KK3 all0 f6.1
  have f10 := f6.trans hCf9
  have OLD_KK3 := OLD_KK2.keep KK3 all0
  have f11 := Nat.le_trans f7 KK3.1
  have f12 := Nat.le_trans f8 KK3.1
  obtain ⟨_, _, ⟨T4, L4, k4, n4⟩, -, X4, hSi4, hgr4, ⟨Lc4, hQ4, l4, y4, z4, hCi4⟩, st4⟩ := Jvm.RoadKit.callSS X3 hx (y := (⟨"com/example/diogenes/diogenes/format/TopicEqualsPinLaw", "mk", "(IIII)Ljava/lang/String;"⟩ : MethodName)) hown (mvT hZ (hw _ (List.mem_of_getElem? (i := 4) rfl))) (mvT hZ (hw _ (List.mem_of_getElem? (i := 5) rfl))) (mvT hZ (hw _ (List.mem_of_getElem? (i := 2) rfl))) (mvT hZ (hw _ (List.mem_of_getElem? (i := 6) rfl))) (by decide) (backOfSH (W := 0) (rm2 l Z a0 hw [] (p0 &&& (3 : Int32)) (bb p0 (1 : Int32)) (bb p0 (2 : Int32)) (bb p0 (3 : Int32)) z _ n0 f11 OLD_KK3 SC hz wS (own_bb _ _) (own_bb _ _) (own_bb _ _)) hZ (hw _ (List.mem_of_getElem? (i := 6) rfl)) (hw _ (List.mem_of_getElem? (i := 2) rfl)) (by decide) (by decide) hEL f10.1) (g := (mkF m 18 #[.val (.int p0), .val (.int p1), .val (.int p2), .val (.int p3), .val (.int p4), .unset, .unset, .unset, .unset, .unset, .unset, .unset, .unset, .unset] [(.int (bb p0 (3 : Int32))), (.int (bb p0 (2 : Int32))), (.int (bb p0 (1 : Int32))), (.int (p0 &&& (3 : Int32)))])) rfl (by rw [hml]; rfl) (argsL := [(.int (p0 &&& (3 : Int32))), (.int (bb p0 (1 : Int32))), (.int (bb p0 (2 : Int32))), (.int (bb p0 (3 : Int32)))]) (rest := []) (lenOf pd_2 rfl) rfl (by show 2 * 0 + _ ≤ _; exact Nat.le_of_eq rfl) (hb hby at_18) (fun _ _ => ⟨rfl, rfl, (by decide : 0 + 6 ≤ _), (by decide : 0 + 12 ≤ _)⟩)
  dsimp only [Pt.U, Pt.locs, Pt.cells, Pt.slots] at X4 l4 y4 z4 st4 hQ4 hSi4 hgr4
  rw [l4, y4, z4] at X4
  obtain ⟨X4, hS, hZ, hown⟩ := rebS hS (by exact f12) X4 hSi4 hgr4 hZ hown
  have hkS4 : T4.heap.size ≤ T4.heap.size := Nat.le_refl _
  dsimp only [Pt.U] at hCi4
  have f13 := f10.trans hCi4
  obtain ⟨r4, rfl, N4q, K4, S4⟩ := hQ4
  have N4 := Fr.app N3 N4q
  refine GoesW.by (fun t k => st4.trans k) ?_
  show GoesW p e below s _ _ _ (T4.setTop (mkF m 21 #[.val (.int p0), .val (.int p1), .val (.int p2), .val (.int p3), .val (.int p4), .unset, .unset, .unset, .unset, .unset, .unset, .unset, .unset, .unset] [(.ref r4)]))
  have OLD_K4 := OLD_KK3.keep K4 all0
  have f14 := Nat.le_trans f11 K4.1
  refine GoesW.by (fun t k => XS.astore X4.here hx rfl (hb hby at_21) rfl rfl (l' := #[.val (.int p0), .val (.int p1), .val (.int p2), .val (.int p3), .val (.int p4), .val (.ref r4), .unset, .unset, .unset, .unset, .unset, .unset, .unset, .unset]) rfl k) ?_
  show GoesW p e below s _ _ _ (T4.setTop (mkF m 23 #[.val (.int p0), .val (.int p1), .val (.int p2), .val (.int p3), .val (.int p4), .val (.ref r4), .unset, .unset, .unset, .unset, .unset, .unset, .unset, .unset] []))
  refine GoesW.by (fun t k => XS.iloadN X4.here hx rfl (hb hby at_23) rfl k) ?_
  show GoesW p e below s _ _ _ (T4.setTop (mkF m 24 #[.val (.int p0), .val (.int p1), .val (.int p2), .val (.int p3), .val (.int p4), .val (.ref r4), .unset, .unset, .unset, .unset, .unset, .unset, .unset, .unset] [(.int p1)]))
  refine GoesW.by (fun t k => XS.iconst X4.here hx rfl (hb hby at_24) k) ?_
  show GoesW p e below s _ _ _ (T4.setTop (mkF m 25 #[.val (.int p0), .val (.int p1), .val (.int p2), .val (.int p3), .val (.int p4), .val (.ref r4), .unset, .unset, .unset, .unset, .unset, .unset, .unset, .unset] [(.int (3 : Int32)), (.int p1)]))
  refine GoesW.by (fun t k => XS.iand X4.here hx rfl (hb hby at_25) rfl k) ?_
  show GoesW p e below s _ _ _ (T4.setTop (mkF m 26 #[.val (.int p0), .val (.int p1), .val (.int p2), .val (.int p3), .val (.int p4), .val (.ref r4), .unset, .unset, .unset, .unset, .unset, .unset, .unset, .unset] [(.int (p1 &&& (3 : Int32)))]))
  refine GoesW.by (fun t k => XS.iloadN X4.here hx rfl (hb hby at_26) rfl k) ?_
  show GoesW p e below s _ _ _ (T4.setTop (mkF m 27 #[.val (.int p0), .val (.int p1), .val (.int p2), .val (.int p3), .val (.int p4), .val (.ref r4), .unset, .unset, .unset, .unset, .unset, .unset, .unset, .unset] [(.int p0), (.int (p1 &&& (3 : Int32)))]))
  refine GoesW.by (fun t k => XS.iconst X4.here hx rfl (hb hby at_27) k) ?_
  show GoesW p e below s _ _ _ (T4.setTop (mkF m 28 #[.val (.int p0), .val (.int p1), .val (.int p2), .val (.int p3), .val (.int p4), .val (.ref r4), .unset, .unset, .unset, .unset, .unset, .unset, .unset, .unset] [(.int (1 : Int32)), (.int p0), (.int (p1 &&& (3 : Int32)))]))
  obtain ⟨_, _, ⟨T5, L5, k5, n5⟩, -, X5, ⟨Lc5, hQ5, l5, y5, z5⟩, st5⟩ := Jvm.LawKit.callS X4 hx (y := (⟨"com/example/diogenes/diogenes/format/TopicEqualsPinLaw", "b", "(II)I"⟩ : MethodName)) hown (mvT hZ (hw _ (List.mem_of_getElem? (i := 0) rfl))) (mvT hZ (hw _ (List.mem_of_getElem? (i := 1) rfl))) (mvT hZ (hw _ (List.mem_of_getElem? (i := 2) rfl))) (mvT hZ (hw _ (List.mem_of_getElem? (i := 3) rfl))) (by decide) (backOf (W := 1) (rm1 l Z a0 hw [] p0 (1 : Int32) _ n0 f14) hZ (hw _ (List.mem_of_getElem? (i := 3) rfl)) (hw _ (List.mem_of_getElem? (i := 2) rfl)) (by decide) (by decide)) (g := (mkF m 28 #[.val (.int p0), .val (.int p1), .val (.int p2), .val (.int p3), .val (.int p4), .val (.ref r4), .unset, .unset, .unset, .unset, .unset, .unset, .unset, .unset] [(.int (1 : Int32)), (.int p0), (.int (p1 &&& (3 : Int32)))])) rfl (by rw [hml]; rfl) (argsL := [(.int p0), (.int (1 : Int32))]) (rest := [(.int (p1 &&& (3 : Int32)))]) (lenOf pd_1 rfl) rfl (by show 2 * 0 + _ ≤ _; exact Nat.le_of_eq rfl) (hb hby at_28) (fun _ _ => ⟨rfl, rfl, (by decide : 6 + 0 ≤ _), (by decide : 12 + 0 ≤ _)⟩)
  dsimp only [Pt.U, Pt.locs, Pt.cells, Pt.slots] at X5 l5 y5 z5 st5 hQ5
  rw [l5, y5, z5] at X5
  obtain ⟨rfl, N5q, hh5⟩ := hQ5
  have N5 := Fr.app N4 N5q
  refine GoesW.by (fun t k => st5 _ k) ?_
  show GoesW p e below s _ _ _ (T5.setTop (mkF m 31 #[.val (.int p0), .val (.int p1), .val (.int p2), .val (.int p3), .val (.int p4), .val (.ref r4), .unset, .unset, .unset, .unset, .unset, .unset, .unset, .unset] [(.int (bb p0 (1 : Int32))), (.int (p1 &&& (3 : Int32)))]))
  have KK5 : Keep (T4.heap) T5.heap [] := by rw [hh5]; exact Keep.refl _ _
  have hCf15 := CHr.keep KK5 all0 f13.1
  have f16 := f13.trans hCf15
  have OLD_KK5 := OLD_K4.keep KK5 all0
  have f17 := Nat.le_trans f14 KK5.1
  have f18 := Nat.le_trans hkS4 KK5.1
  have f19 := S4.keep KK5 nin0
  refine GoesW.by (fun t k => XS.iloadN X5.here hx rfl (hb hby at_31) rfl k) ?_
  show GoesW p e below s _ _ _ (T5.setTop (mkF m 32 #[.val (.int p0), .val (.int p1), .val (.int p2), .val (.int p3), .val (.int p4), .val (.ref r4), .unset, .unset, .unset, .unset, .unset, .unset, .unset, .unset] [(.int p1), (.int (bb p0 (1 : Int32))), (.int (p1 &&& (3 : Int32)))]))
  refine GoesW.by (fun t k => XS.iconst X5.here hx rfl (hb hby at_32) k) ?_
  show GoesW p e below s _ _ _ (T5.setTop (mkF m 33 #[.val (.int p0), .val (.int p1), .val (.int p2), .val (.int p3), .val (.int p4), .val (.ref r4), .unset, .unset, .unset, .unset, .unset, .unset, .unset, .unset] [(.int (1 : Int32)), (.int p1), (.int (bb p0 (1 : Int32))), (.int (p1 &&& (3 : Int32)))]))
  obtain ⟨_, _, ⟨T6, L6, k6, n6⟩, -, X6, ⟨Lc6, hQ6, l6, y6, z6⟩, st6⟩ := Jvm.LawKit.callS X5 hx (y := (⟨"com/example/diogenes/diogenes/format/TopicEqualsPinLaw", "b", "(II)I"⟩ : MethodName)) hown (mvT hZ (hw _ (List.mem_of_getElem? (i := 0) rfl))) (mvT hZ (hw _ (List.mem_of_getElem? (i := 1) rfl))) (mvT hZ (hw _ (List.mem_of_getElem? (i := 2) rfl))) (mvT hZ (hw _ (List.mem_of_getElem? (i := 3) rfl))) (by decide) (backOf (W := 2) (rm1 l Z a0 hw [] p1 (1 : Int32) _ n0 f17) hZ (hw _ (List.mem_of_getElem? (i := 3) rfl)) (hw _ (List.mem_of_getElem? (i := 2) rfl)) (by decide) (by decide)) (g := (mkF m 33 #[.val (.int p0), .val (.int p1), .val (.int p2), .val (.int p3), .val (.int p4), .val (.ref r4), .unset, .unset, .unset, .unset, .unset, .unset, .unset, .unset] [(.int (1 : Int32)), (.int p1), (.int (bb p0 (1 : Int32))), (.int (p1 &&& (3 : Int32)))])) rfl (by rw [hml]; rfl) (argsL := [(.int p1), (.int (1 : Int32))]) (rest := [(.int (bb p0 (1 : Int32))), (.int (p1 &&& (3 : Int32)))]) (lenOf pd_1 rfl) rfl (by show 2 * 0 + _ ≤ _; exact Nat.le_of_eq rfl) (hb hby at_33) (fun _ _ => ⟨rfl, rfl, (by decide : 6 + 0 ≤ _), (by decide : 12 + 0 ≤ _)⟩)
  dsimp only [Pt.U, Pt.locs, Pt.cells, Pt.slots] at X6 l6 y6 z6 st6 hQ6
  rw [l6, y6, z6] at X6
  obtain ⟨rfl, N6q, hh6⟩ := hQ6
  have N6 := Fr.app N5 N6q
  refine GoesW.by (fun t k => st6 _ k) ?_
  show GoesW p e below s _ _ _ (T6.setTop (mkF m 36 #[.val (.int p0), .val (.int p1), .val (.int p2), .val (.int p3), .val (.int p4), .val (.ref r4), .unset, .unset, .unset, .unset, .unset, .unset, .unset, .unset] [(.int (bb p1 (1 : Int32))), (.int (bb p0 (1 : Int32))), (.int (p1 &&& (3 : Int32)))]))
  have KK6 : Keep (T5.heap) T6.heap [] := by rw [hh6]; exact Keep.refl _ _
  have hCf20 := CHr.keep KK6 all0 f16.1
  have f21 := f16.trans hCf20
  have OLD_KK6 := OLD_KK5.keep KK6 all0
  have f22 := Nat.le_trans f17 KK6.1
  have f23 := Nat.le_trans f18 KK6.1
  have f24 := f19.keep KK6 nin0
  refine GoesW.by (fun t k => XS.ixor X6.here hx rfl (hb hby at_36) rfl k) ?_
  show GoesW p e below s _ _ _ (T6.setTop (mkF m 37 #[.val (.int p0), .val (.int p1), .val (.int p2), .val (.int p3), .val (.int p4), .val (.ref r4), .unset, .unset, .unset, .unset, .unset, .unset, .unset, .unset] [(.int ((bb p0 (1 : Int32)) ^^^ (bb p1 (1 : Int32)))), (.int (p1 &&& (3 : Int32)))]))
  refine GoesW.by (fun t k => XS.iloadN X6.here hx rfl (hb hby at_37) rfl k) ?_
  show GoesW p e below s _ _ _ (T6.setTop (mkF m 38 #[.val (.int p0), .val (.int p1), .val (.int p2), .val (.int p3), .val (.int p4), .val (.ref r4), .unset, .unset, .unset, .unset, .unset, .unset, .unset, .unset] [(.int p0), (.int ((bb p0 (1 : Int32)) ^^^ (bb p1 (1 : Int32)))), (.int (p1 &&& (3 : Int32)))]))
  refine GoesW.by (fun t k => XS.iconst X6.here hx rfl (hb hby at_38) k) ?_
  show GoesW p e below s _ _ _ (T6.setTop (mkF m 39 #[.val (.int p0), .val (.int p1), .val (.int p2), .val (.int p3), .val (.int p4), .val (.ref r4), .unset, .unset, .unset, .unset, .unset, .unset, .unset, .unset] [(.int (2 : Int32)), (.int p0), (.int ((bb p0 (1 : Int32)) ^^^ (bb p1 (1 : Int32)))), (.int (p1 &&& (3 : Int32)))]))
  obtain ⟨_, _, ⟨T7, L7, k7, n7⟩, -, X7, ⟨Lc7, hQ7, l7, y7, z7⟩, st7⟩ := Jvm.LawKit.callS X6 hx (y := (⟨"com/example/diogenes/diogenes/format/TopicEqualsPinLaw", "b", "(II)I"⟩ : MethodName)) hown (mvT hZ (hw _ (List.mem_of_getElem? (i := 0) rfl))) (mvT hZ (hw _ (List.mem_of_getElem? (i := 1) rfl))) (mvT hZ (hw _ (List.mem_of_getElem? (i := 2) rfl))) (mvT hZ (hw _ (List.mem_of_getElem? (i := 3) rfl))) (by decide) (backOf (W := 2) (rm1 l Z a0 hw [] p0 (2 : Int32) _ n0 f22) hZ (hw _ (List.mem_of_getElem? (i := 3) rfl)) (hw _ (List.mem_of_getElem? (i := 2) rfl)) (by decide) (by decide)) (g := (mkF m 39 #[.val (.int p0), .val (.int p1), .val (.int p2), .val (.int p3), .val (.int p4), .val (.ref r4), .unset, .unset, .unset, .unset, .unset, .unset, .unset, .unset] [(.int (2 : Int32)), (.int p0), (.int ((bb p0 (1 : Int32)) ^^^ (bb p1 (1 : Int32)))), (.int (p1 &&& (3 : Int32)))])) rfl (by rw [hml]; rfl) (argsL := [(.int p0), (.int (2 : Int32))]) (rest := [(.int ((bb p0 (1 : Int32)) ^^^ (bb p1 (1 : Int32)))), (.int (p1 &&& (3 : Int32)))]) (lenOf pd_1 rfl) rfl (by show 2 * 0 + _ ≤ _; exact Nat.le_of_eq rfl) (hb hby at_39) (fun _ _ => ⟨rfl, rfl, (by decide : 6 + 0 ≤ _), (by decide : 12 + 0 ≤ _)⟩)
  dsimp only [Pt.U, Pt.locs, Pt.cells, Pt.slots] at X7 l7 y7 z7 st7 hQ7
  rw [l7, y7, z7] at X7
  obtain ⟨rfl, N7q, hh7⟩ := hQ7
  have N7 := Fr.app N6 N7q
  refine GoesW.by (fun t k => st7 _ k) ?_
  show GoesW p e below s _ _ _ (T7.setTop (mkF m 42 #[.val (.int p0), .val (.int p1), .val (.int p2), .val (.int p3), .val (.int p4), .val (.ref r4), .unset, .unset, .unset, .unset, .unset, .unset, .unset, .unset] [(.int (bb p0 (2 : Int32))), (.int ((bb p0 (1 : Int32)) ^^^ (bb p1 (1 : Int32)))), (.int (p1 &&& (3 : Int32)))]))
  have KK7 : Keep (T6.heap) T7.heap [] := by rw [hh7]; exact Keep.refl _ _
  have hCf25 := CHr.keep KK7 all0 f21.1
  have f26 := f21.trans hCf25
  have OLD_KK7 := OLD_KK6.keep KK7 all0
  have f27 := Nat.le_trans f22 KK7.1
  have f28 := Nat.le_trans f23 KK7.1
  have f29 := f24.keep KK7 nin0
  refine GoesW.by (fun t k => XS.iloadN X7.here hx rfl (hb hby at_42) rfl k) ?_
  show GoesW p e below s _ _ _ (T7.setTop (mkF m 43 #[.val (.int p0), .val (.int p1), .val (.int p2), .val (.int p3), .val (.int p4), .val (.ref r4), .unset, .unset, .unset, .unset, .unset, .unset, .unset, .unset] [(.int p1), (.int (bb p0 (2 : Int32))), (.int ((bb p0 (1 : Int32)) ^^^ (bb p1 (1 : Int32)))), (.int (p1 &&& (3 : Int32)))]))
  refine GoesW.by (fun t k => XS.iconst X7.here hx rfl (hb hby at_43) k) ?_
  show GoesW p e below s _ _ _ (T7.setTop (mkF m 44 #[.val (.int p0), .val (.int p1), .val (.int p2), .val (.int p3), .val (.int p4), .val (.ref r4), .unset, .unset, .unset, .unset, .unset, .unset, .unset, .unset] [(.int (2 : Int32)), (.int p1), (.int (bb p0 (2 : Int32))), (.int ((bb p0 (1 : Int32)) ^^^ (bb p1 (1 : Int32)))), (.int (p1 &&& (3 : Int32)))]))
  obtain ⟨_, _, ⟨T8, L8, k8, n8⟩, -, X8, ⟨Lc8, hQ8, l8, y8, z8⟩, st8⟩ := Jvm.LawKit.callS X7 hx (y := (⟨"com/example/diogenes/diogenes/format/TopicEqualsPinLaw", "b", "(II)I"⟩ : MethodName)) hown (mvT hZ (hw _ (List.mem_of_getElem? (i := 0) rfl))) (mvT hZ (hw _ (List.mem_of_getElem? (i := 1) rfl))) (mvT hZ (hw _ (List.mem_of_getElem? (i := 2) rfl))) (mvT hZ (hw _ (List.mem_of_getElem? (i := 3) rfl))) (by decide) (backOf (W := 3) (rm1 l Z a0 hw [] p1 (2 : Int32) _ n0 f27) hZ (hw _ (List.mem_of_getElem? (i := 3) rfl)) (hw _ (List.mem_of_getElem? (i := 2) rfl)) (by decide) (by decide)) (g := (mkF m 44 #[.val (.int p0), .val (.int p1), .val (.int p2), .val (.int p3), .val (.int p4), .val (.ref r4), .unset, .unset, .unset, .unset, .unset, .unset, .unset, .unset] [(.int (2 : Int32)), (.int p1), (.int (bb p0 (2 : Int32))), (.int ((bb p0 (1 : Int32)) ^^^ (bb p1 (1 : Int32)))), (.int (p1 &&& (3 : Int32)))])) rfl (by rw [hml]; rfl) (argsL := [(.int p1), (.int (2 : Int32))]) (rest := [(.int (bb p0 (2 : Int32))), (.int ((bb p0 (1 : Int32)) ^^^ (bb p1 (1 : Int32)))), (.int (p1 &&& (3 : Int32)))]) (lenOf pd_1 rfl) rfl (by show 2 * 0 + _ ≤ _; exact Nat.le_of_eq rfl) (hb hby at_44) (fun _ _ => ⟨rfl, rfl, (by decide : 6 + 0 ≤ _), (by decide : 12 + 0 ≤ _)⟩)
  dsimp only [Pt.U, Pt.locs, Pt.cells, Pt.slots] at X8 l8 y8 z8 st8 hQ8
  rw [l8, y8, z8] at X8
  obtain ⟨rfl, N8q, hh8⟩ := hQ8
  have N8 := Fr.app N7 N8q
  refine GoesW.by (fun t k => st8 _ k) ?_
  show GoesW p e below s _ _ _ (T8.setTop (mkF m 47 #[.val (.int p0), .val (.int p1), .val (.int p2), .val (.int p3), .val (.int p4), .val (.ref r4), .unset, .unset, .unset, .unset, .unset, .unset, .unset, .unset] [(.int (bb p1 (2 : Int32))), (.int (bb p0 (2 : Int32))), (.int ((bb p0 (1 : Int32)) ^^^ (bb p1 (1 : Int32)))), (.int (p1 &&& (3 : Int32)))]))
  have KK8 : Keep (T7.heap) T8.heap [] := by rw [hh8]; exact Keep.refl _ _
  have hCf30 := CHr.keep KK8 all0 f26.1
  have f31 := f26.trans hCf30
  have OLD_KK8 := OLD_KK7.keep KK8 all0
  have f32 := Nat.le_trans f27 KK8.1
  have f33 := Nat.le_trans f28 KK8.1
  have f34 := f29.keep KK8 nin0
  refine GoesW.by (fun t k => XS.ixor X8.here hx rfl (hb hby at_47) rfl k) ?_
  show GoesW p e below s _ _ _ (T8.setTop (mkF m 48 #[.val (.int p0), .val (.int p1), .val (.int p2), .val (.int p3), .val (.int p4), .val (.ref r4), .unset, .unset, .unset, .unset, .unset, .unset, .unset, .unset] [(.int ((bb p0 (2 : Int32)) ^^^ (bb p1 (2 : Int32)))), (.int ((bb p0 (1 : Int32)) ^^^ (bb p1 (1 : Int32)))), (.int (p1 &&& (3 : Int32)))]))
  refine GoesW.by (fun t k => XS.iloadN X8.here hx rfl (hb hby at_48) rfl k) ?_
  show GoesW p e below s _ _ _ (T8.setTop (mkF m 49 #[.val (.int p0), .val (.int p1), .val (.int p2), .val (.int p3), .val (.int p4), .val (.ref r4), .unset, .unset, .unset, .unset, .unset, .unset, .unset, .unset] [(.int p0), (.int ((bb p0 (2 : Int32)) ^^^ (bb p1 (2 : Int32)))), (.int ((bb p0 (1 : Int32)) ^^^ (bb p1 (1 : Int32)))), (.int (p1 &&& (3 : Int32)))]))
  refine GoesW.by (fun t k => XS.iconst X8.here hx rfl (hb hby at_49) k) ?_
  show GoesW p e below s _ _ _ (T8.setTop (mkF m 50 #[.val (.int p0), .val (.int p1), .val (.int p2), .val (.int p3), .val (.int p4), .val (.ref r4), .unset, .unset, .unset, .unset, .unset, .unset, .unset, .unset] [(.int (3 : Int32)), (.int p0), (.int ((bb p0 (2 : Int32)) ^^^ (bb p1 (2 : Int32)))), (.int ((bb p0 (1 : Int32)) ^^^ (bb p1 (1 : Int32)))), (.int (p1 &&& (3 : Int32)))]))
  obtain ⟨_, _, ⟨T9, L9, k9, n9⟩, -, X9, ⟨Lc9, hQ9, l9, y9, z9⟩, st9⟩ := Jvm.LawKit.callS X8 hx (y := (⟨"com/example/diogenes/diogenes/format/TopicEqualsPinLaw", "b", "(II)I"⟩ : MethodName)) hown (mvT hZ (hw _ (List.mem_of_getElem? (i := 0) rfl))) (mvT hZ (hw _ (List.mem_of_getElem? (i := 1) rfl))) (mvT hZ (hw _ (List.mem_of_getElem? (i := 2) rfl))) (mvT hZ (hw _ (List.mem_of_getElem? (i := 3) rfl))) (by decide) (backOf (W := 3) (rm1 l Z a0 hw [] p0 (3 : Int32) _ n0 f32) hZ (hw _ (List.mem_of_getElem? (i := 3) rfl)) (hw _ (List.mem_of_getElem? (i := 2) rfl)) (by decide) (by decide)) (g := (mkF m 50 #[.val (.int p0), .val (.int p1), .val (.int p2), .val (.int p3), .val (.int p4), .val (.ref r4), .unset, .unset, .unset, .unset, .unset, .unset, .unset, .unset] [(.int (3 : Int32)), (.int p0), (.int ((bb p0 (2 : Int32)) ^^^ (bb p1 (2 : Int32)))), (.int ((bb p0 (1 : Int32)) ^^^ (bb p1 (1 : Int32)))), (.int (p1 &&& (3 : Int32)))])) rfl (by rw [hml]; rfl) (argsL := [(.int p0), (.int (3 : Int32))]) (rest := [(.int ((bb p0 (2 : Int32)) ^^^ (bb p1 (2 : Int32)))), (.int ((bb p0 (1 : Int32)) ^^^ (bb p1 (1 : Int32)))), (.int (p1 &&& (3 : Int32)))]) (lenOf pd_1 rfl) rfl (by show 2 * 0 + _ ≤ _; exact Nat.le_of_eq rfl) (hb hby at_50) (fun _ _ => ⟨rfl, rfl, (by decide : 6 + 0 ≤ _), (by decide : 12 + 0 ≤ _)⟩)
  dsimp only [Pt.U, Pt.locs, Pt.cells, Pt.slots] at X9 l9 y9 z9 st9 hQ9
  rw [l9, y9, z9] at X9
  obtain ⟨rfl, N9q, hh9⟩ := hQ9
  have N9 := Fr.app N8 N9q
  refine GoesW.by (fun t k => st9 _ k) ?_
  show GoesW p e below s _ _ _ (T9.setTop (mkF m 53 #[.val (.int p0), .val (.int p1), .val (.int p2), .val (.int p3), .val (.int p4), .val (.ref r4), .unset, .unset, .unset, .unset, .unset, .unset, .unset, .unset] [(.int (bb p0 (3 : Int32))), (.int ((bb p0 (2 : Int32)) ^^^ (bb p1 (2 : Int32)))), (.int ((bb p0 (1 : Int32)) ^^^ (bb p1 (1 : Int32)))), (.int (p1 &&& (3 : Int32)))]))
  have KK9 : Keep (T8.heap) T9.heap [] := by rw [hh9]; exact Keep.refl _ _
  have hCf35 := CHr.keep KK9 all0 f31.1
  have f36 := f31.trans hCf35
  have OLD_KK9 := OLD_KK8.keep KK9 all0
  have f37 := Nat.le_trans f32 KK9.1
  have f38 := Nat.le_trans f33 KK9.1
  have f39 := f34.keep KK9 nin0
  refine GoesW.by (fun t k => XS.iloadN X9.here hx rfl (hb hby at_53) rfl k) ?_
  show GoesW p e below s _ _ _ (T9.setTop (mkF m 54 #[.val (.int p0), .val (.int p1), .val (.int p2), .val (.int p3), .val (.int p4), .val (.ref r4), .unset, .unset, .unset, .unset, .unset, .unset, .unset, .unset] [(.int p1), (.int (bb p0 (3 : Int32))), (.int ((bb p0 (2 : Int32)) ^^^ (bb p1 (2 : Int32)))), (.int ((bb p0 (1 : Int32)) ^^^ (bb p1 (1 : Int32)))), (.int (p1 &&& (3 : Int32)))]))
  refine GoesW.by (fun t k => XS.iconst X9.here hx rfl (hb hby at_54) k) ?_
  show GoesW p e below s _ _ _ (T9.setTop (mkF m 55 #[.val (.int p0), .val (.int p1), .val (.int p2), .val (.int p3), .val (.int p4), .val (.ref r4), .unset, .unset, .unset, .unset, .unset, .unset, .unset, .unset] [(.int (3 : Int32)), (.int p1), (.int (bb p0 (3 : Int32))), (.int ((bb p0 (2 : Int32)) ^^^ (bb p1 (2 : Int32)))), (.int ((bb p0 (1 : Int32)) ^^^ (bb p1 (1 : Int32)))), (.int (p1 &&& (3 : Int32)))]))
  obtain ⟨_, _, ⟨T10, L10, k10, n10⟩, -, X10, ⟨Lc10, hQ10, l10, y10, z10⟩, st10⟩ := Jvm.LawKit.callS X9 hx (y := (⟨"com/example/diogenes/diogenes/format/TopicEqualsPinLaw", "b", "(II)I"⟩ : MethodName)) hown (mvT hZ (hw _ (List.mem_of_getElem? (i := 0) rfl))) (mvT hZ (hw _ (List.mem_of_getElem? (i := 1) rfl))) (mvT hZ (hw _ (List.mem_of_getElem? (i := 2) rfl))) (mvT hZ (hw _ (List.mem_of_getElem? (i := 3) rfl))) (by decide) (backOf (W := 4) (rm1 l Z a0 hw [] p1 (3 : Int32) _ n0 f37) hZ (hw _ (List.mem_of_getElem? (i := 3) rfl)) (hw _ (List.mem_of_getElem? (i := 2) rfl)) (by decide) (by decide)) (g := (mkF m 55 #[.val (.int p0), .val (.int p1), .val (.int p2), .val (.int p3), .val (.int p4), .val (.ref r4), .unset, .unset, .unset, .unset, .unset, .unset, .unset, .unset] [(.int (3 : Int32)), (.int p1), (.int (bb p0 (3 : Int32))), (.int ((bb p0 (2 : Int32)) ^^^ (bb p1 (2 : Int32)))), (.int ((bb p0 (1 : Int32)) ^^^ (bb p1 (1 : Int32)))), (.int (p1 &&& (3 : Int32)))])) rfl (by rw [hml]; rfl) (argsL := [(.int p1), (.int (3 : Int32))]) (rest := [(.int (bb p0 (3 : Int32))), (.int ((bb p0 (2 : Int32)) ^^^ (bb p1 (2 : Int32)))), (.int ((bb p0 (1 : Int32)) ^^^ (bb p1 (1 : Int32)))), (.int (p1 &&& (3 : Int32)))]) (lenOf pd_1 rfl) rfl (by show 2 * 0 + _ ≤ _; exact Nat.le_of_eq rfl) (hb hby at_55) (fun _ _ => ⟨rfl, rfl, (by decide : 6 + 0 ≤ _), (by decide : 12 + 0 ≤ _)⟩)
  dsimp only [Pt.U, Pt.locs, Pt.cells, Pt.slots] at X10 l10 y10 z10 st10 hQ10
  rw [l10, y10, z10] at X10
  obtain ⟨rfl, N10q, hh10⟩ := hQ10
  have N10 := Fr.app N9 N10q
  refine GoesW.by (fun t k => st10 _ k) ?_
  show GoesW p e below s _ _ _ (T10.setTop (mkF m 58 #[.val (.int p0), .val (.int p1), .val (.int p2), .val (.int p3), .val (.int p4), .val (.ref r4), .unset, .unset, .unset, .unset, .unset, .unset, .unset, .unset] [(.int (bb p1 (3 : Int32))), (.int (bb p0 (3 : Int32))), (.int ((bb p0 (2 : Int32)) ^^^ (bb p1 (2 : Int32)))), (.int ((bb p0 (1 : Int32)) ^^^ (bb p1 (1 : Int32)))), (.int (p1 &&& (3 : Int32)))]))
  have KK10 : Keep (T9.heap) T10.heap [] := by rw [hh10]; exact Keep.refl _ _
  have hCf40 := CHr.keep KK10 all0 f36.1
  have f41 := f36.trans hCf40
  have OLD_KK10 := OLD_KK9.keep KK10 all0
  have f42 := Nat.le_trans f37 KK10.1
  have f43 := Nat.le_trans f38 KK10.1
  have f44 := f39.keep KK10 nin0
  refine GoesW.by (fun t k => XS.ixor X10.here hx rfl (hb hby at_58) rfl k) ?_
  show GoesW p e below s _ _ _ (T10.setTop (mkF m 59 #[.val (.int p0), .val (.int p1), .val (.int p2), .val (.int p3), .val (.int p4), .val (.ref r4), .unset, .unset, .unset, .unset, .unset, .unset, .unset, .unset] [(.int ((bb p0 (3 : Int32)) ^^^ (bb p1 (3 : Int32)))), (.int ((bb p0 (2 : Int32)) ^^^ (bb p1 (2 : Int32)))), (.int ((bb p0 (1 : Int32)) ^^^ (bb p1 (1 : Int32)))), (.int (p1 &&& (3 : Int32)))]))
  obtain ⟨_, _, ⟨T11, L11, k11, n11⟩, -, X11, hSi11, hgr11, ⟨Lc11, hQ11, l11, y11, z11, hCi11⟩, st11⟩ := Jvm.RoadKit.callSS X10 hx (y := (⟨"com/example/diogenes/diogenes/format/TopicEqualsPinLaw", "mk", "(IIII)Ljava/lang/String;"⟩ : MethodName)) hown (mvT hZ (hw _ (List.mem_of_getElem? (i := 4) rfl))) (mvT hZ (hw _ (List.mem_of_getElem? (i := 5) rfl))) (mvT hZ (hw _ (List.mem_of_getElem? (i := 2) rfl))) (mvT hZ (hw _ (List.mem_of_getElem? (i := 6) rfl))) (by decide) (backOfSH (W := 0) (rm2 l Z a0 hw [] (p1 &&& (3 : Int32)) ((bb p0 (1 : Int32)) ^^^ (bb p1 (1 : Int32))) ((bb p0 (2 : Int32)) ^^^ (bb p1 (2 : Int32))) ((bb p0 (3 : Int32)) ^^^ (bb p1 (3 : Int32))) z _ n0 f42 OLD_KK10 SC hz wS (own_bx _ _ _ _) (own_bx _ _ _ _) (own_bx _ _ _ _)) hZ (hw _ (List.mem_of_getElem? (i := 6) rfl)) (hw _ (List.mem_of_getElem? (i := 2) rfl)) (by decide) (by decide) hEL f41.1) (g := (mkF m 59 #[.val (.int p0), .val (.int p1), .val (.int p2), .val (.int p3), .val (.int p4), .val (.ref r4), .unset, .unset, .unset, .unset, .unset, .unset, .unset, .unset] [(.int ((bb p0 (3 : Int32)) ^^^ (bb p1 (3 : Int32)))), (.int ((bb p0 (2 : Int32)) ^^^ (bb p1 (2 : Int32)))), (.int ((bb p0 (1 : Int32)) ^^^ (bb p1 (1 : Int32)))), (.int (p1 &&& (3 : Int32)))])) rfl (by rw [hml]; rfl) (argsL := [(.int (p1 &&& (3 : Int32))), (.int ((bb p0 (1 : Int32)) ^^^ (bb p1 (1 : Int32)))), (.int ((bb p0 (2 : Int32)) ^^^ (bb p1 (2 : Int32)))), (.int ((bb p0 (3 : Int32)) ^^^ (bb p1 (3 : Int32))))]) (rest := []) (lenOf pd_2 rfl) rfl (by show 2 * 0 + _ ≤ _; exact Nat.le_of_eq rfl) (hb hby at_59) (fun _ _ => ⟨rfl, rfl, (by decide : 6 + 6 ≤ _), (by decide : 12 + 12 ≤ _)⟩)
  dsimp only [Pt.U, Pt.locs, Pt.cells, Pt.slots] at X11 l11 y11 z11 st11 hQ11 hSi11 hgr11
  rw [l11, y11, z11] at X11
  obtain ⟨X11, hS, hZ, hown⟩ := rebS hS (by exact f43) X11 hSi11 hgr11 hZ hown
  have hkS11 : T11.heap.size ≤ T11.heap.size := Nat.le_refl _
  dsimp only [Pt.U] at hCi11
  have f45 := f41.trans hCi11
  obtain ⟨r11, rfl, N11q, K11, S11⟩ := hQ11
  have N11 := Fr.app N10 N11q
  refine GoesW.by (fun t k => st11.trans k) ?_
  show GoesW p e below s _ _ _ (T11.setTop (mkF m 62 #[.val (.int p0), .val (.int p1), .val (.int p2), .val (.int p3), .val (.int p4), .val (.ref r4), .unset, .unset, .unset, .unset, .unset, .unset, .unset, .unset] [(.ref r11)]))
  have OLD_K11 := OLD_KK10.keep K11 all0
  have f46 := Nat.le_trans f42 K11.1
  have f47 := f44.keep K11 nin0
  refine GoesW.by (fun t k => XS.astore X11.here hx rfl (hb hby at_62) rfl rfl (l' := #[.val (.int p0), .val (.int p1), .val (.int p2), .val (.int p3), .val (.int p4), .val (.ref r4), .val (.ref r11), .unset, .unset, .unset, .unset, .unset, .unset, .unset]) rfl k) ?_
  show GoesW p e below s _ _ _ (T11.setTop (mkF m 64 #[.val (.int p0), .val (.int p1), .val (.int p2), .val (.int p3), .val (.int p4), .val (.ref r4), .val (.ref r11), .unset, .unset, .unset, .unset, .unset, .unset, .unset] []))
  refine GoesW.by (fun t k => XS.iloadN X11.here hx rfl (hb hby at_64) rfl k) ?_
  show GoesW p e below s _ _ _ (T11.setTop (mkF m 65 #[.val (.int p0), .val (.int p1), .val (.int p2), .val (.int p3), .val (.int p4), .val (.ref r4), .val (.ref r11), .unset, .unset, .unset, .unset, .unset, .unset, .unset] [(.int p2)]))
  refine GoesW.by (fun t k => XS.iconst X11.here hx rfl (hb hby at_65) k) ?_
  show GoesW p e below s _ _ _ (T11.setTop (mkF m 66 #[.val (.int p0), .val (.int p1), .val (.int p2), .val (.int p3), .val (.int p4), .val (.ref r4), .val (.ref r11), .unset, .unset, .unset, .unset, .unset, .unset, .unset] [(.int (3 : Int32)), (.int p2)]))
  refine GoesW.by (fun t k => XS.iand X11.here hx rfl (hb hby at_66) rfl k) ?_
  show GoesW p e below s _ _ _ (T11.setTop (mkF m 67 #[.val (.int p0), .val (.int p1), .val (.int p2), .val (.int p3), .val (.int p4), .val (.ref r4), .val (.ref r11), .unset, .unset, .unset, .unset, .unset, .unset, .unset] [(.int (p2 &&& (3 : Int32)))]))
  refine GoesW.by (fun t k => XS.iloadN X11.here hx rfl (hb hby at_67) rfl k) ?_
  show GoesW p e below s _ _ _ (T11.setTop (mkF m 68 #[.val (.int p0), .val (.int p1), .val (.int p2), .val (.int p3), .val (.int p4), .val (.ref r4), .val (.ref r11), .unset, .unset, .unset, .unset, .unset, .unset, .unset] [(.int p2), (.int (p2 &&& (3 : Int32)))]))
  refine GoesW.by (fun t k => XS.iconst X11.here hx rfl (hb hby at_68) k) ?_
  show GoesW p e below s _ _ _ (T11.setTop (mkF m 69 #[.val (.int p0), .val (.int p1), .val (.int p2), .val (.int p3), .val (.int p4), .val (.ref r4), .val (.ref r11), .unset, .unset, .unset, .unset, .unset, .unset, .unset] [(.int (1 : Int32)), (.int p2), (.int (p2 &&& (3 : Int32)))]))
  obtain ⟨_, _, ⟨T12, L12, k12, n12⟩, -, X12, ⟨Lc12, hQ12, l12, y12, z12⟩, st12⟩ := Jvm.LawKit.callS X11 hx (y := (⟨"com/example/diogenes/diogenes/format/TopicEqualsPinLaw", "b", "(II)I"⟩ : MethodName)) hown (mvT hZ (hw _ (List.mem_of_getElem? (i := 0) rfl))) (mvT hZ (hw _ (List.mem_of_getElem? (i := 1) rfl))) (mvT hZ (hw _ (List.mem_of_getElem? (i := 2) rfl))) (mvT hZ (hw _ (List.mem_of_getElem? (i := 3) rfl))) (by decide) (backOf (W := 1) (rm1 l Z a0 hw [] p2 (1 : Int32) _ n0 f46) hZ (hw _ (List.mem_of_getElem? (i := 3) rfl)) (hw _ (List.mem_of_getElem? (i := 2) rfl)) (by decide) (by decide)) (g := (mkF m 69 #[.val (.int p0), .val (.int p1), .val (.int p2), .val (.int p3), .val (.int p4), .val (.ref r4), .val (.ref r11), .unset, .unset, .unset, .unset, .unset, .unset, .unset] [(.int (1 : Int32)), (.int p2), (.int (p2 &&& (3 : Int32)))])) rfl (by rw [hml]; rfl) (argsL := [(.int p2), (.int (1 : Int32))]) (rest := [(.int (p2 &&& (3 : Int32)))]) (lenOf pd_1 rfl) rfl (by show 2 * 0 + _ ≤ _; exact Nat.le_of_eq rfl) (hb hby at_69) (fun _ _ => ⟨rfl, rfl, (by decide : 12 + 0 ≤ _), (by decide : 24 + 0 ≤ _)⟩)
  dsimp only [Pt.U, Pt.locs, Pt.cells, Pt.slots] at X12 l12 y12 z12 st12 hQ12
  rw [l12, y12, z12] at X12
  obtain ⟨rfl, N12q, hh12⟩ := hQ12
  have N12 := Fr.app N11 N12q
  refine GoesW.by (fun t k => st12 _ k) ?_
  show GoesW p e below s _ _ _ (T12.setTop (mkF m 72 #[.val (.int p0), .val (.int p1), .val (.int p2), .val (.int p3), .val (.int p4), .val (.ref r4), .val (.ref r11), .unset, .unset, .unset, .unset, .unset, .unset, .unset] [(.int (bb p2 (1 : Int32))), (.int (p2 &&& (3 : Int32)))]))
  have KK12 : Keep (T11.heap) T12.heap [] := by rw [hh12]; exact Keep.refl _ _
  have hCf48 := CHr.keep KK12 all0 f45.1
  have f49 := f45.trans hCf48
  have OLD_KK12 := OLD_K11.keep KK12 all0
  have f50 := Nat.le_trans f46 KK12.1
  have f51 := Nat.le_trans hkS11 KK12.1
  have f52 := f47.keep KK12 nin0
  have f53 := S11.keep KK12 nin0
  refine GoesW.by (fun t k => XS.iloadN X12.here hx rfl (hb hby at_72) rfl k) ?_
  show GoesW p e below s _ _ _ (T12.setTop (mkF m 73 #[.val (.int p0), .val (.int p1), .val (.int p2), .val (.int p3), .val (.int p4), .val (.ref r4), .val (.ref r11), .unset, .unset, .unset, .unset, .unset, .unset, .unset] [(.int p2), (.int (bb p2 (1 : Int32))), (.int (p2 &&& (3 : Int32)))]))
  refine GoesW.by (fun t k => XS.iconst X12.here hx rfl (hb hby at_73) k) ?_
  show GoesW p e below s _ _ _ (T12.setTop (mkF m 74 #[.val (.int p0), .val (.int p1), .val (.int p2), .val (.int p3), .val (.int p4), .val (.ref r4), .val (.ref r11), .unset, .unset, .unset, .unset, .unset, .unset, .unset] [(.int (2 : Int32)), (.int p2), (.int (bb p2 (1 : Int32))), (.int (p2 &&& (3 : Int32)))]))
  obtain ⟨_, _, ⟨T13, L13, k13, n13⟩, -, X13, ⟨Lc13, hQ13, l13, y13, z13⟩, st13⟩ := Jvm.LawKit.callS X12 hx (y := (⟨"com/example/diogenes/diogenes/format/TopicEqualsPinLaw", "b", "(II)I"⟩ : MethodName)) hown (mvT hZ (hw _ (List.mem_of_getElem? (i := 0) rfl))) (mvT hZ (hw _ (List.mem_of_getElem? (i := 1) rfl))) (mvT hZ (hw _ (List.mem_of_getElem? (i := 2) rfl))) (mvT hZ (hw _ (List.mem_of_getElem? (i := 3) rfl))) (by decide) (backOf (W := 2) (rm1 l Z a0 hw [] p2 (2 : Int32) _ n0 f50) hZ (hw _ (List.mem_of_getElem? (i := 3) rfl)) (hw _ (List.mem_of_getElem? (i := 2) rfl)) (by decide) (by decide)) (g := (mkF m 74 #[.val (.int p0), .val (.int p1), .val (.int p2), .val (.int p3), .val (.int p4), .val (.ref r4), .val (.ref r11), .unset, .unset, .unset, .unset, .unset, .unset, .unset] [(.int (2 : Int32)), (.int p2), (.int (bb p2 (1 : Int32))), (.int (p2 &&& (3 : Int32)))])) rfl (by rw [hml]; rfl) (argsL := [(.int p2), (.int (2 : Int32))]) (rest := [(.int (bb p2 (1 : Int32))), (.int (p2 &&& (3 : Int32)))]) (lenOf pd_1 rfl) rfl (by show 2 * 0 + _ ≤ _; exact Nat.le_of_eq rfl) (hb hby at_74) (fun _ _ => ⟨rfl, rfl, (by decide : 12 + 0 ≤ _), (by decide : 24 + 0 ≤ _)⟩)
  dsimp only [Pt.U, Pt.locs, Pt.cells, Pt.slots] at X13 l13 y13 z13 st13 hQ13
  rw [l13, y13, z13] at X13
  obtain ⟨rfl, N13q, hh13⟩ := hQ13
  have N13 := Fr.app N12 N13q
  refine GoesW.by (fun t k => st13 _ k) ?_
  show GoesW p e below s _ _ _ (T13.setTop (mkF m 77 #[.val (.int p0), .val (.int p1), .val (.int p2), .val (.int p3), .val (.int p4), .val (.ref r4), .val (.ref r11), .unset, .unset, .unset, .unset, .unset, .unset, .unset] [(.int (bb p2 (2 : Int32))), (.int (bb p2 (1 : Int32))), (.int (p2 &&& (3 : Int32)))]))
  have KK13 : Keep (T12.heap) T13.heap [] := by rw [hh13]; exact Keep.refl _ _
  have hCf54 := CHr.keep KK13 all0 f49.1
  have f55 := f49.trans hCf54
  have OLD_KK13 := OLD_KK12.keep KK13 all0
  have f56 := Nat.le_trans f50 KK13.1
  have f57 := Nat.le_trans f51 KK13.1
  have f58 := f52.keep KK13 nin0
  have f59 := f53.keep KK13 nin0
  refine GoesW.by (fun t k => XS.iloadN X13.here hx rfl (hb hby at_77) rfl k) ?_
  show GoesW p e below s _ _ _ (T13.setTop (mkF m 78 #[.val (.int p0), .val (.int p1), .val (.int p2), .val (.int p3), .val (.int p4), .val (.ref r4), .val (.ref r11), .unset, .unset, .unset, .unset, .unset, .unset, .unset] [(.int p2), (.int (bb p2 (2 : Int32))), (.int (bb p2 (1 : Int32))), (.int (p2 &&& (3 : Int32)))]))
  refine GoesW.by (fun t k => XS.iconst X13.here hx rfl (hb hby at_78) k) ?_
  show GoesW p e below s _ _ _ (T13.setTop (mkF m 79 #[.val (.int p0), .val (.int p1), .val (.int p2), .val (.int p3), .val (.int p4), .val (.ref r4), .val (.ref r11), .unset, .unset, .unset, .unset, .unset, .unset, .unset] [(.int (3 : Int32)), (.int p2), (.int (bb p2 (2 : Int32))), (.int (bb p2 (1 : Int32))), (.int (p2 &&& (3 : Int32)))]))
  obtain ⟨_, _, ⟨T14, L14, k14, n14⟩, -, X14, ⟨Lc14, hQ14, l14, y14, z14⟩, st14⟩ := Jvm.LawKit.callS X13 hx (y := (⟨"com/example/diogenes/diogenes/format/TopicEqualsPinLaw", "b", "(II)I"⟩ : MethodName)) hown (mvT hZ (hw _ (List.mem_of_getElem? (i := 0) rfl))) (mvT hZ (hw _ (List.mem_of_getElem? (i := 1) rfl))) (mvT hZ (hw _ (List.mem_of_getElem? (i := 2) rfl))) (mvT hZ (hw _ (List.mem_of_getElem? (i := 3) rfl))) (by decide) (backOf (W := 3) (rm1 l Z a0 hw [] p2 (3 : Int32) _ n0 f56) hZ (hw _ (List.mem_of_getElem? (i := 3) rfl)) (hw _ (List.mem_of_getElem? (i := 2) rfl)) (by decide) (by decide)) (g := (mkF m 79 #[.val (.int p0), .val (.int p1), .val (.int p2), .val (.int p3), .val (.int p4), .val (.ref r4), .val (.ref r11), .unset, .unset, .unset, .unset, .unset, .unset, .unset] [(.int (3 : Int32)), (.int p2), (.int (bb p2 (2 : Int32))), (.int (bb p2 (1 : Int32))), (.int (p2 &&& (3 : Int32)))])) rfl (by rw [hml]; rfl) (argsL := [(.int p2), (.int (3 : Int32))]) (rest := [(.int (bb p2 (2 : Int32))), (.int (bb p2 (1 : Int32))), (.int (p2 &&& (3 : Int32)))]) (lenOf pd_1 rfl) rfl (by show 2 * 0 + _ ≤ _; exact Nat.le_of_eq rfl) (hb hby at_79) (fun _ _ => ⟨rfl, rfl, (by decide : 12 + 0 ≤ _), (by decide : 24 + 0 ≤ _)⟩)
  dsimp only [Pt.U, Pt.locs, Pt.cells, Pt.slots] at X14 l14 y14 z14 st14 hQ14
  rw [l14, y14, z14] at X14
  obtain ⟨rfl, N14q, hh14⟩ := hQ14
  have N14 := Fr.app N13 N14q
  refine GoesW.by (fun t k => st14 _ k) ?_
  show GoesW p e below s _ _ _ (T14.setTop (mkF m 82 #[.val (.int p0), .val (.int p1), .val (.int p2), .val (.int p3), .val (.int p4), .val (.ref r4), .val (.ref r11), .unset, .unset, .unset, .unset, .unset, .unset, .unset] [(.int (bb p2 (3 : Int32))), (.int (bb p2 (2 : Int32))), (.int (bb p2 (1 : Int32))), (.int (p2 &&& (3 : Int32)))]))
  have KK14 : Keep (T13.heap) T14.heap [] := by rw [hh14]; exact Keep.refl _ _
  have hCf60 := CHr.keep KK14 all0 f55.1
  have f61 := f55.trans hCf60
  have OLD_KK14 := OLD_KK13.keep KK14 all0
  have f62 := Nat.le_trans f56 KK14.1
  have f63 := Nat.le_trans f57 KK14.1
  have f64 := f58.keep KK14 nin0
  have f65 := f59.keep KK14 nin0
  obtain ⟨_, _, ⟨T15, L15, k15, n15⟩, -, X15, hSi15, hgr15, ⟨Lc15, hQ15, l15, y15, z15, hCi15⟩, st15⟩ := Jvm.RoadKit.callSS X14 hx (y := (⟨"com/example/diogenes/diogenes/format/TopicEqualsPinLaw", "mk", "(IIII)Ljava/lang/String;"⟩ : MethodName)) hown (mvT hZ (hw _ (List.mem_of_getElem? (i := 4) rfl))) (mvT hZ (hw _ (List.mem_of_getElem? (i := 5) rfl))) (mvT hZ (hw _ (List.mem_of_getElem? (i := 2) rfl))) (mvT hZ (hw _ (List.mem_of_getElem? (i := 6) rfl))) (by decide) (backOfSH (W := 0) (rm2 l Z a0 hw [] (p2 &&& (3 : Int32)) (bb p2 (1 : Int32)) (bb p2 (2 : Int32)) (bb p2 (3 : Int32)) z _ n0 f62 OLD_KK14 SC hz wS (own_bb _ _) (own_bb _ _) (own_bb _ _)) hZ (hw _ (List.mem_of_getElem? (i := 6) rfl)) (hw _ (List.mem_of_getElem? (i := 2) rfl)) (by decide) (by decide) hEL f61.1) (g := (mkF m 82 #[.val (.int p0), .val (.int p1), .val (.int p2), .val (.int p3), .val (.int p4), .val (.ref r4), .val (.ref r11), .unset, .unset, .unset, .unset, .unset, .unset, .unset] [(.int (bb p2 (3 : Int32))), (.int (bb p2 (2 : Int32))), (.int (bb p2 (1 : Int32))), (.int (p2 &&& (3 : Int32)))])) rfl (by rw [hml]; rfl) (argsL := [(.int (p2 &&& (3 : Int32))), (.int (bb p2 (1 : Int32))), (.int (bb p2 (2 : Int32))), (.int (bb p2 (3 : Int32)))]) (rest := []) (lenOf pd_2 rfl) rfl (by show 2 * 0 + _ ≤ _; exact Nat.le_of_eq rfl) (hb hby at_82) (fun _ _ => ⟨rfl, rfl, (by decide : 12 + 6 ≤ _), (by decide : 24 + 12 ≤ _)⟩)
  dsimp only [Pt.U, Pt.locs, Pt.cells, Pt.slots] at X15 l15 y15 z15 st15 hQ15 hSi15 hgr15
  rw [l15, y15, z15] at X15
  obtain ⟨X15, hS, hZ, hown⟩ := rebS hS (by exact f63) X15 hSi15 hgr15 hZ hown
  have hkS15 : T15.heap.size ≤ T15.heap.size := Nat.le_refl _
  dsimp only [Pt.U] at hCi15
  have f66 := f61.trans hCi15
  obtain ⟨r15, rfl, N15q, K15, S15⟩ := hQ15
  have N15 := Fr.app N14 N15q
  refine GoesW.by (fun t k => st15.trans k) ?_
  show GoesW p e below s _ _ _ (T15.setTop (mkF m 85 #[.val (.int p0), .val (.int p1), .val (.int p2), .val (.int p3), .val (.int p4), .val (.ref r4), .val (.ref r11), .unset, .unset, .unset, .unset, .unset, .unset, .unset] [(.ref r15)]))
  have OLD_K15 := OLD_KK14.keep K15 all0
  have f67 := Nat.le_trans f62 K15.1
  have f68 := f64.keep K15 nin0
  have f69 := f65.keep K15 nin0
  refine GoesW.by (fun t k => XS.astore X15.here hx rfl (hb hby at_85) rfl rfl (l' := #[.val (.int p0), .val (.int p1), .val (.int p2), .val (.int p3), .val (.int p4), .val (.ref r4), .val (.ref r11), .val (.ref r15), .unset, .unset, .unset, .unset, .unset, .unset]) rfl k) ?_
  show GoesW p e below s _ _ _ (T15.setTop (mkF m 87 #[.val (.int p0), .val (.int p1), .val (.int p2), .val (.int p3), .val (.int p4), .val (.ref r4), .val (.ref r11), .val (.ref r15), .unset, .unset, .unset, .unset, .unset, .unset] []))
  refine GoesW.by (fun t k => XS.iloadN X15.here hx rfl (hb hby at_87) rfl k) ?_
  show GoesW p e below s _ _ _ (T15.setTop (mkF m 88 #[.val (.int p0), .val (.int p1), .val (.int p2), .val (.int p3), .val (.int p4), .val (.ref r4), .val (.ref r11), .val (.ref r15), .unset, .unset, .unset, .unset, .unset, .unset] [(.int p3)]))
  refine GoesW.by (fun t k => XS.iconst X15.here hx rfl (hb hby at_88) k) ?_
  show GoesW p e below s _ _ _ (T15.setTop (mkF m 89 #[.val (.int p0), .val (.int p1), .val (.int p2), .val (.int p3), .val (.int p4), .val (.ref r4), .val (.ref r11), .val (.ref r15), .unset, .unset, .unset, .unset, .unset, .unset] [(.int (3 : Int32)), (.int p3)]))
  refine GoesW.by (fun t k => XS.iand X15.here hx rfl (hb hby at_89) rfl k) ?_
  show GoesW p e below s _ _ _ (T15.setTop (mkF m 90 #[.val (.int p0), .val (.int p1), .val (.int p2), .val (.int p3), .val (.int p4), .val (.ref r4), .val (.ref r11), .val (.ref r15), .unset, .unset, .unset, .unset, .unset, .unset] [(.int (p3 &&& (3 : Int32)))]))
  refine GoesW.by (fun t k => XS.iloadN X15.here hx rfl (hb hby at_90) rfl k) ?_
  show GoesW p e below s _ _ _ (T15.setTop (mkF m 91 #[.val (.int p0), .val (.int p1), .val (.int p2), .val (.int p3), .val (.int p4), .val (.ref r4), .val (.ref r11), .val (.ref r15), .unset, .unset, .unset, .unset, .unset, .unset] [(.int p2), (.int (p3 &&& (3 : Int32)))]))
  refine GoesW.by (fun t k => XS.iconst X15.here hx rfl (hb hby at_91) k) ?_
  show GoesW p e below s _ _ _ (T15.setTop (mkF m 92 #[.val (.int p0), .val (.int p1), .val (.int p2), .val (.int p3), .val (.int p4), .val (.ref r4), .val (.ref r11), .val (.ref r15), .unset, .unset, .unset, .unset, .unset, .unset] [(.int (1 : Int32)), (.int p2), (.int (p3 &&& (3 : Int32)))]))
  obtain ⟨_, _, ⟨T16, L16, k16, n16⟩, -, X16, ⟨Lc16, hQ16, l16, y16, z16⟩, st16⟩ := Jvm.LawKit.callS X15 hx (y := (⟨"com/example/diogenes/diogenes/format/TopicEqualsPinLaw", "b", "(II)I"⟩ : MethodName)) hown (mvT hZ (hw _ (List.mem_of_getElem? (i := 0) rfl))) (mvT hZ (hw _ (List.mem_of_getElem? (i := 1) rfl))) (mvT hZ (hw _ (List.mem_of_getElem? (i := 2) rfl))) (mvT hZ (hw _ (List.mem_of_getElem? (i := 3) rfl))) (by decide) (backOf (W := 1) (rm1 l Z a0 hw [] p2 (1 : Int32) _ n0 f67) hZ (hw _ (List.mem_of_getElem? (i := 3) rfl)) (hw _ (List.mem_of_getElem? (i := 2) rfl)) (by decide) (by decide)) (g := (mkF m 92 #[.val (.int p0), .val (.int p1), .val (.int p2), .val (.int p3), .val (.int p4), .val (.ref r4), .val (.ref r11), .val (.ref r15), .unset, .unset, .unset, .unset, .unset, .unset] [(.int (1 : Int32)), (.int p2), (.int (p3 &&& (3 : Int32)))])) rfl (by rw [hml]; rfl) (argsL := [(.int p2), (.int (1 : Int32))]) (rest := [(.int (p3 &&& (3 : Int32)))]) (lenOf pd_1 rfl) rfl (by show 2 * 0 + _ ≤ _; exact Nat.le_of_eq rfl) (hb hby at_92) (fun _ _ => ⟨rfl, rfl, (by decide : 18 + 0 ≤ _), (by decide : 36 + 0 ≤ _)⟩)
  dsimp only [Pt.U, Pt.locs, Pt.cells, Pt.slots] at X16 l16 y16 z16 st16 hQ16
  rw [l16, y16, z16] at X16
  obtain ⟨rfl, N16q, hh16⟩ := hQ16
  have N16 := Fr.app N15 N16q
  refine GoesW.by (fun t k => st16 _ k) ?_
  show GoesW p e below s _ _ _ (T16.setTop (mkF m 95 #[.val (.int p0), .val (.int p1), .val (.int p2), .val (.int p3), .val (.int p4), .val (.ref r4), .val (.ref r11), .val (.ref r15), .unset, .unset, .unset, .unset, .unset, .unset] [(.int (bb p2 (1 : Int32))), (.int (p3 &&& (3 : Int32)))]))
  have KK16 : Keep (T15.heap) T16.heap [] := by rw [hh16]; exact Keep.refl _ _
  have hCf70 := CHr.keep KK16 all0 f66.1
  have f71 := f66.trans hCf70
  have OLD_KK16 := OLD_K15.keep KK16 all0
  have f72 := Nat.le_trans f67 KK16.1
  have f73 := Nat.le_trans hkS15 KK16.1
  have f74 := f68.keep KK16 nin0
  have f75 := f69.keep KK16 nin0
  have f76 := S15.keep KK16 nin0
  refine GoesW.by (fun t k => XS.iloadN X16.here hx rfl (hb hby at_95) rfl k) ?_
  show GoesW p e below s _ _ _ (T16.setTop (mkF m 96 #[.val (.int p0), .val (.int p1), .val (.int p2), .val (.int p3), .val (.int p4), .val (.ref r4), .val (.ref r11), .val (.ref r15), .unset, .unset, .unset, .unset, .unset, .unset] [(.int p3), (.int (bb p2 (1 : Int32))), (.int (p3 &&& (3 : Int32)))]))
  refine GoesW.by (fun t k => XS.iconst X16.here hx rfl (hb hby at_96) k) ?_
  show GoesW p e below s _ _ _ (T16.setTop (mkF m 97 #[.val (.int p0), .val (.int p1), .val (.int p2), .val (.int p3), .val (.int p4), .val (.ref r4), .val (.ref r11), .val (.ref r15), .unset, .unset, .unset, .unset, .unset, .unset] [(.int (1 : Int32)), (.int p3), (.int (bb p2 (1 : Int32))), (.int (p3 &&& (3 : Int32)))]))
  obtain ⟨_, _, ⟨T17, L17, k17, n17⟩, -, X17, ⟨Lc17, hQ17, l17, y17, z17⟩, st17⟩ := Jvm.LawKit.callS X16 hx (y := (⟨"com/example/diogenes/diogenes/format/TopicEqualsPinLaw", "b", "(II)I"⟩ : MethodName)) hown (mvT hZ (hw _ (List.mem_of_getElem? (i := 0) rfl))) (mvT hZ (hw _ (List.mem_of_getElem? (i := 1) rfl))) (mvT hZ (hw _ (List.mem_of_getElem? (i := 2) rfl))) (mvT hZ (hw _ (List.mem_of_getElem? (i := 3) rfl))) (by decide) (backOf (W := 2) (rm1 l Z a0 hw [] p3 (1 : Int32) _ n0 f72) hZ (hw _ (List.mem_of_getElem? (i := 3) rfl)) (hw _ (List.mem_of_getElem? (i := 2) rfl)) (by decide) (by decide)) (g := (mkF m 97 #[.val (.int p0), .val (.int p1), .val (.int p2), .val (.int p3), .val (.int p4), .val (.ref r4), .val (.ref r11), .val (.ref r15), .unset, .unset, .unset, .unset, .unset, .unset] [(.int (1 : Int32)), (.int p3), (.int (bb p2 (1 : Int32))), (.int (p3 &&& (3 : Int32)))])) rfl (by rw [hml]; rfl) (argsL := [(.int p3), (.int (1 : Int32))]) (rest := [(.int (bb p2 (1 : Int32))), (.int (p3 &&& (3 : Int32)))]) (lenOf pd_1 rfl) rfl (by show 2 * 0 + _ ≤ _; exact Nat.le_of_eq rfl) (hb hby at_97) (fun _ _ => ⟨rfl, rfl, (by decide : 18 + 0 ≤ _), (by decide : 36 + 0 ≤ _)⟩)
  dsimp only [Pt.U, Pt.locs, Pt.cells, Pt.slots] at X17 l17 y17 z17 st17 hQ17
  rw [l17, y17, z17] at X17
  obtain ⟨rfl, N17q, hh17⟩ := hQ17
  have N17 := Fr.app N16 N17q
  refine GoesW.by (fun t k => st17 _ k) ?_
  show GoesW p e below s _ _ _ (T17.setTop (mkF m 100 #[.val (.int p0), .val (.int p1), .val (.int p2), .val (.int p3), .val (.int p4), .val (.ref r4), .val (.ref r11), .val (.ref r15), .unset, .unset, .unset, .unset, .unset, .unset] [(.int (bb p3 (1 : Int32))), (.int (bb p2 (1 : Int32))), (.int (p3 &&& (3 : Int32)))]))
  have KK17 : Keep (T16.heap) T17.heap [] := by rw [hh17]; exact Keep.refl _ _
  have hCf77 := CHr.keep KK17 all0 f71.1
  have f78 := f71.trans hCf77
  have OLD_KK17 := OLD_KK16.keep KK17 all0
  have f79 := Nat.le_trans f72 KK17.1
  have f80 := Nat.le_trans f73 KK17.1
  have f81 := f74.keep KK17 nin0
  have f82 := f75.keep KK17 nin0
  have f83 := f76.keep KK17 nin0
  refine GoesW.by (fun t k => XS.ixor X17.here hx rfl (hb hby at_100) rfl k) ?_
  show GoesW p e below s _ _ _ (T17.setTop (mkF m 101 #[.val (.int p0), .val (.int p1), .val (.int p2), .val (.int p3), .val (.int p4), .val (.ref r4), .val (.ref r11), .val (.ref r15), .unset, .unset, .unset, .unset, .unset, .unset] [(.int ((bb p2 (1 : Int32)) ^^^ (bb p3 (1 : Int32)))), (.int (p3 &&& (3 : Int32)))]))
  refine GoesW.by (fun t k => XS.iloadN X17.here hx rfl (hb hby at_101) rfl k) ?_
  show GoesW p e below s _ _ _ (T17.setTop (mkF m 102 #[.val (.int p0), .val (.int p1), .val (.int p2), .val (.int p3), .val (.int p4), .val (.ref r4), .val (.ref r11), .val (.ref r15), .unset, .unset, .unset, .unset, .unset, .unset] [(.int p2), (.int ((bb p2 (1 : Int32)) ^^^ (bb p3 (1 : Int32)))), (.int (p3 &&& (3 : Int32)))]))
  refine GoesW.by (fun t k => XS.iconst X17.here hx rfl (hb hby at_102) k) ?_
  show GoesW p e below s _ _ _ (T17.setTop (mkF m 103 #[.val (.int p0), .val (.int p1), .val (.int p2), .val (.int p3), .val (.int p4), .val (.ref r4), .val (.ref r11), .val (.ref r15), .unset, .unset, .unset, .unset, .unset, .unset] [(.int (2 : Int32)), (.int p2), (.int ((bb p2 (1 : Int32)) ^^^ (bb p3 (1 : Int32)))), (.int (p3 &&& (3 : Int32)))]))
  obtain ⟨_, _, ⟨T18, L18, k18, n18⟩, -, X18, ⟨Lc18, hQ18, l18, y18, z18⟩, st18⟩ := Jvm.LawKit.callS X17 hx (y := (⟨"com/example/diogenes/diogenes/format/TopicEqualsPinLaw", "b", "(II)I"⟩ : MethodName)) hown (mvT hZ (hw _ (List.mem_of_getElem? (i := 0) rfl))) (mvT hZ (hw _ (List.mem_of_getElem? (i := 1) rfl))) (mvT hZ (hw _ (List.mem_of_getElem? (i := 2) rfl))) (mvT hZ (hw _ (List.mem_of_getElem? (i := 3) rfl))) (by decide) (backOf (W := 2) (rm1 l Z a0 hw [] p2 (2 : Int32) _ n0 f79) hZ (hw _ (List.mem_of_getElem? (i := 3) rfl)) (hw _ (List.mem_of_getElem? (i := 2) rfl)) (by decide) (by decide)) (g := (mkF m 103 #[.val (.int p0), .val (.int p1), .val (.int p2), .val (.int p3), .val (.int p4), .val (.ref r4), .val (.ref r11), .val (.ref r15), .unset, .unset, .unset, .unset, .unset, .unset] [(.int (2 : Int32)), (.int p2), (.int ((bb p2 (1 : Int32)) ^^^ (bb p3 (1 : Int32)))), (.int (p3 &&& (3 : Int32)))])) rfl (by rw [hml]; rfl) (argsL := [(.int p2), (.int (2 : Int32))]) (rest := [(.int ((bb p2 (1 : Int32)) ^^^ (bb p3 (1 : Int32)))), (.int (p3 &&& (3 : Int32)))]) (lenOf pd_1 rfl) rfl (by show 2 * 0 + _ ≤ _; exact Nat.le_of_eq rfl) (hb hby at_103) (fun _ _ => ⟨rfl, rfl, (by decide : 18 + 0 ≤ _), (by decide : 36 + 0 ≤ _)⟩)
  dsimp only [Pt.U, Pt.locs, Pt.cells, Pt.slots] at X18 l18 y18 z18 st18 hQ18
  rw [l18, y18, z18] at X18
  obtain ⟨rfl, N18q, hh18⟩ := hQ18
  have N18 := Fr.app N17 N18q
  refine GoesW.by (fun t k => st18 _ k) ?_
  show GoesW p e below s _ _ _ (T18.setTop (mkF m 106 #[.val (.int p0), .val (.int p1), .val (.int p2), .val (.int p3), .val (.int p4), .val (.ref r4), .val (.ref r11), .val (.ref r15), .unset, .unset, .unset, .unset, .unset, .unset] [(.int (bb p2 (2 : Int32))), (.int ((bb p2 (1 : Int32)) ^^^ (bb p3 (1 : Int32)))), (.int (p3 &&& (3 : Int32)))]))
  have KK18 : Keep (T17.heap) T18.heap [] := by rw [hh18]; exact Keep.refl _ _
  have hCf84 := CHr.keep KK18 all0 f78.1
  have f85 := f78.trans hCf84
  have OLD_KK18 := OLD_KK17.keep KK18 all0
  have f86 := Nat.le_trans f79 KK18.1
  have f87 := Nat.le_trans f80 KK18.1
  have f88 := f81.keep KK18 nin0
  have f89 := f82.keep KK18 nin0
  have f90 := f83.keep KK18 nin0
  refine GoesW.by (fun t k => XS.iloadN X18.here hx rfl (hb hby at_106) rfl k) ?_
  show GoesW p e below s _ _ _ (T18.setTop (mkF m 107 #[.val (.int p0), .val (.int p1), .val (.int p2), .val (.int p3), .val (.int p4), .val (.ref r4), .val (.ref r11), .val (.ref r15), .unset, .unset, .unset, .unset, .unset, .unset] [(.int p3), (.int (bb p2 (2 : Int32))), (.int ((bb p2 (1 : Int32)) ^^^ (bb p3 (1 : Int32)))), (.int (p3 &&& (3 : Int32)))]))
  refine GoesW.by (fun t k => XS.iconst X18.here hx rfl (hb hby at_107) k) ?_
  show GoesW p e below s _ _ _ (T18.setTop (mkF m 108 #[.val (.int p0), .val (.int p1), .val (.int p2), .val (.int p3), .val (.int p4), .val (.ref r4), .val (.ref r11), .val (.ref r15), .unset, .unset, .unset, .unset, .unset, .unset] [(.int (2 : Int32)), (.int p3), (.int (bb p2 (2 : Int32))), (.int ((bb p2 (1 : Int32)) ^^^ (bb p3 (1 : Int32)))), (.int (p3 &&& (3 : Int32)))]))
  obtain ⟨_, _, ⟨T19, L19, k19, n19⟩, -, X19, ⟨Lc19, hQ19, l19, y19, z19⟩, st19⟩ := Jvm.LawKit.callS X18 hx (y := (⟨"com/example/diogenes/diogenes/format/TopicEqualsPinLaw", "b", "(II)I"⟩ : MethodName)) hown (mvT hZ (hw _ (List.mem_of_getElem? (i := 0) rfl))) (mvT hZ (hw _ (List.mem_of_getElem? (i := 1) rfl))) (mvT hZ (hw _ (List.mem_of_getElem? (i := 2) rfl))) (mvT hZ (hw _ (List.mem_of_getElem? (i := 3) rfl))) (by decide) (backOf (W := 3) (rm1 l Z a0 hw [] p3 (2 : Int32) _ n0 f86) hZ (hw _ (List.mem_of_getElem? (i := 3) rfl)) (hw _ (List.mem_of_getElem? (i := 2) rfl)) (by decide) (by decide)) (g := (mkF m 108 #[.val (.int p0), .val (.int p1), .val (.int p2), .val (.int p3), .val (.int p4), .val (.ref r4), .val (.ref r11), .val (.ref r15), .unset, .unset, .unset, .unset, .unset, .unset] [(.int (2 : Int32)), (.int p3), (.int (bb p2 (2 : Int32))), (.int ((bb p2 (1 : Int32)) ^^^ (bb p3 (1 : Int32)))), (.int (p3 &&& (3 : Int32)))])) rfl (by rw [hml]; rfl) (argsL := [(.int p3), (.int (2 : Int32))]) (rest := [(.int (bb p2 (2 : Int32))), (.int ((bb p2 (1 : Int32)) ^^^ (bb p3 (1 : Int32)))), (.int (p3 &&& (3 : Int32)))]) (lenOf pd_1 rfl) rfl (by show 2 * 0 + _ ≤ _; exact Nat.le_of_eq rfl) (hb hby at_108) (fun _ _ => ⟨rfl, rfl, (by decide : 18 + 0 ≤ _), (by decide : 36 + 0 ≤ _)⟩)
  dsimp only [Pt.U, Pt.locs, Pt.cells, Pt.slots] at X19 l19 y19 z19 st19 hQ19
  rw [l19, y19, z19] at X19
  obtain ⟨rfl, N19q, hh19⟩ := hQ19
  have N19 := Fr.app N18 N19q
  refine GoesW.by (fun t k => st19 _ k) ?_
  show GoesW p e below s _ _ _ (T19.setTop (mkF m 111 #[.val (.int p0), .val (.int p1), .val (.int p2), .val (.int p3), .val (.int p4), .val (.ref r4), .val (.ref r11), .val (.ref r15), .unset, .unset, .unset, .unset, .unset, .unset] [(.int (bb p3 (2 : Int32))), (.int (bb p2 (2 : Int32))), (.int ((bb p2 (1 : Int32)) ^^^ (bb p3 (1 : Int32)))), (.int (p3 &&& (3 : Int32)))]))
  have KK19 : Keep (T18.heap) T19.heap [] := by rw [hh19]; exact Keep.refl _ _
  have hCf91 := CHr.keep KK19 all0 f85.1
  have f92 := f85.trans hCf91
  have OLD_KK19 := OLD_KK18.keep KK19 all0
  have f93 := Nat.le_trans f86 KK19.1
  have f94 := Nat.le_trans f87 KK19.1
  have f95 := f88.keep KK19 nin0
  have f96 := f89.keep KK19 nin0
  have f97 := f90.keep KK19 nin0
  refine GoesW.by (fun t k => XS.ixor X19.here hx rfl (hb hby at_111) rfl k) ?_
  show GoesW p e below s _ _ _ (T19.setTop (mkF m 112 #[.val (.int p0), .val (.int p1), .val (.int p2), .val (.int p3), .val (.int p4), .val (.ref r4), .val (.ref r11), .val (.ref r15), .unset, .unset, .unset, .unset, .unset, .unset] [(.int ((bb p2 (2 : Int32)) ^^^ (bb p3 (2 : Int32)))), (.int ((bb p2 (1 : Int32)) ^^^ (bb p3 (1 : Int32)))), (.int (p3 &&& (3 : Int32)))]))
  refine GoesW.by (fun t k => XS.iloadN X19.here hx rfl (hb hby at_112) rfl k) ?_
  show GoesW p e below s _ _ _ (T19.setTop (mkF m 113 #[.val (.int p0), .val (.int p1), .val (.int p2), .val (.int p3), .val (.int p4), .val (.ref r4), .val (.ref r11), .val (.ref r15), .unset, .unset, .unset, .unset, .unset, .unset] [(.int p2), (.int ((bb p2 (2 : Int32)) ^^^ (bb p3 (2 : Int32)))), (.int ((bb p2 (1 : Int32)) ^^^ (bb p3 (1 : Int32)))), (.int (p3 &&& (3 : Int32)))]))
  refine GoesW.by (fun t k => XS.iconst X19.here hx rfl (hb hby at_113) k) ?_
  show GoesW p e below s _ _ _ (T19.setTop (mkF m 114 #[.val (.int p0), .val (.int p1), .val (.int p2), .val (.int p3), .val (.int p4), .val (.ref r4), .val (.ref r11), .val (.ref r15), .unset, .unset, .unset, .unset, .unset, .unset] [(.int (3 : Int32)), (.int p2), (.int ((bb p2 (2 : Int32)) ^^^ (bb p3 (2 : Int32)))), (.int ((bb p2 (1 : Int32)) ^^^ (bb p3 (1 : Int32)))), (.int (p3 &&& (3 : Int32)))]))
  obtain ⟨_, _, ⟨T20, L20, k20, n20⟩, -, X20, ⟨Lc20, hQ20, l20, y20, z20⟩, st20⟩ := Jvm.LawKit.callS X19 hx (y := (⟨"com/example/diogenes/diogenes/format/TopicEqualsPinLaw", "b", "(II)I"⟩ : MethodName)) hown (mvT hZ (hw _ (List.mem_of_getElem? (i := 0) rfl))) (mvT hZ (hw _ (List.mem_of_getElem? (i := 1) rfl))) (mvT hZ (hw _ (List.mem_of_getElem? (i := 2) rfl))) (mvT hZ (hw _ (List.mem_of_getElem? (i := 3) rfl))) (by decide) (backOf (W := 3) (rm1 l Z a0 hw [] p2 (3 : Int32) _ n0 f93) hZ (hw _ (List.mem_of_getElem? (i := 3) rfl)) (hw _ (List.mem_of_getElem? (i := 2) rfl)) (by decide) (by decide)) (g := (mkF m 114 #[.val (.int p0), .val (.int p1), .val (.int p2), .val (.int p3), .val (.int p4), .val (.ref r4), .val (.ref r11), .val (.ref r15), .unset, .unset, .unset, .unset, .unset, .unset] [(.int (3 : Int32)), (.int p2), (.int ((bb p2 (2 : Int32)) ^^^ (bb p3 (2 : Int32)))), (.int ((bb p2 (1 : Int32)) ^^^ (bb p3 (1 : Int32)))), (.int (p3 &&& (3 : Int32)))])) rfl (by rw [hml]; rfl) (argsL := [(.int p2), (.int (3 : Int32))]) (rest := [(.int ((bb p2 (2 : Int32)) ^^^ (bb p3 (2 : Int32)))), (.int ((bb p2 (1 : Int32)) ^^^ (bb p3 (1 : Int32)))), (.int (p3 &&& (3 : Int32)))]) (lenOf pd_1 rfl) rfl (by show 2 * 0 + _ ≤ _; exact Nat.le_of_eq rfl) (hb hby at_114) (fun _ _ => ⟨rfl, rfl, (by decide : 18 + 0 ≤ _), (by decide : 36 + 0 ≤ _)⟩)
  dsimp only [Pt.U, Pt.locs, Pt.cells, Pt.slots] at X20 l20 y20 z20 st20 hQ20
  rw [l20, y20, z20] at X20
  obtain ⟨rfl, N20q, hh20⟩ := hQ20
  have N20 := Fr.app N19 N20q
  refine GoesW.by (fun t k => st20 _ k) ?_
  show GoesW p e below s _ _ _ (T20.setTop (mkF m 117 #[.val (.int p0), .val (.int p1), .val (.int p2), .val (.int p3), .val (.int p4), .val (.ref r4), .val (.ref r11), .val (.ref r15), .unset, .unset, .unset, .unset, .unset, .unset] [(.int (bb p2 (3 : Int32))), (.int ((bb p2 (2 : Int32)) ^^^ (bb p3 (2 : Int32)))), (.int ((bb p2 (1 : Int32)) ^^^ (bb p3 (1 : Int32)))), (.int (p3 &&& (3 : Int32)))]))
  have KK20 : Keep (T19.heap) T20.heap [] := by rw [hh20]; exact Keep.refl _ _
  have hCf98 := CHr.keep KK20 all0 f92.1
  have f99 := f92.trans hCf98
  have OLD_KK20 := OLD_KK19.keep KK20 all0
  have f100 := Nat.le_trans f93 KK20.1
  have f101 := Nat.le_trans f94 KK20.1
  have f102 := f95.keep KK20 nin0
  have f103 := f96.keep KK20 nin0
  have f104 := f97.keep KK20 nin0
  refine GoesW.by (fun t k => XS.iloadN X20.here hx rfl (hb hby at_117) rfl k) ?_
  show GoesW p e below s _ _ _ (T20.setTop (mkF m 118 #[.val (.int p0), .val (.int p1), .val (.int p2), .val (.int p3), .val (.int p4), .val (.ref r4), .val (.ref r11), .val (.ref r15), .unset, .unset, .unset, .unset, .unset, .unset] [(.int p3), (.int (bb p2 (3 : Int32))), (.int ((bb p2 (2 : Int32)) ^^^ (bb p3 (2 : Int32)))), (.int ((bb p2 (1 : Int32)) ^^^ (bb p3 (1 : Int32)))), (.int (p3 &&& (3 : Int32)))]))
  refine GoesW.by (fun t k => XS.iconst X20.here hx rfl (hb hby at_118) k) ?_
  show GoesW p e below s _ _ _ (T20.setTop (mkF m 119 #[.val (.int p0), .val (.int p1), .val (.int p2), .val (.int p3), .val (.int p4), .val (.ref r4), .val (.ref r11), .val (.ref r15), .unset, .unset, .unset, .unset, .unset, .unset] [(.int (3 : Int32)), (.int p3), (.int (bb p2 (3 : Int32))), (.int ((bb p2 (2 : Int32)) ^^^ (bb p3 (2 : Int32)))), (.int ((bb p2 (1 : Int32)) ^^^ (bb p3 (1 : Int32)))), (.int (p3 &&& (3 : Int32)))]))
  obtain ⟨_, _, ⟨T21, L21, k21, n21⟩, -, X21, ⟨Lc21, hQ21, l21, y21, z21⟩, st21⟩ := Jvm.LawKit.callS X20 hx (y := (⟨"com/example/diogenes/diogenes/format/TopicEqualsPinLaw", "b", "(II)I"⟩ : MethodName)) hown (mvT hZ (hw _ (List.mem_of_getElem? (i := 0) rfl))) (mvT hZ (hw _ (List.mem_of_getElem? (i := 1) rfl))) (mvT hZ (hw _ (List.mem_of_getElem? (i := 2) rfl))) (mvT hZ (hw _ (List.mem_of_getElem? (i := 3) rfl))) (by decide) (backOf (W := 4) (rm1 l Z a0 hw [] p3 (3 : Int32) _ n0 f100) hZ (hw _ (List.mem_of_getElem? (i := 3) rfl)) (hw _ (List.mem_of_getElem? (i := 2) rfl)) (by decide) (by decide)) (g := (mkF m 119 #[.val (.int p0), .val (.int p1), .val (.int p2), .val (.int p3), .val (.int p4), .val (.ref r4), .val (.ref r11), .val (.ref r15), .unset, .unset, .unset, .unset, .unset, .unset] [(.int (3 : Int32)), (.int p3), (.int (bb p2 (3 : Int32))), (.int ((bb p2 (2 : Int32)) ^^^ (bb p3 (2 : Int32)))), (.int ((bb p2 (1 : Int32)) ^^^ (bb p3 (1 : Int32)))), (.int (p3 &&& (3 : Int32)))])) rfl (by rw [hml]; rfl) (argsL := [(.int p3), (.int (3 : Int32))]) (rest := [(.int (bb p2 (3 : Int32))), (.int ((bb p2 (2 : Int32)) ^^^ (bb p3 (2 : Int32)))), (.int ((bb p2 (1 : Int32)) ^^^ (bb p3 (1 : Int32)))), (.int (p3 &&& (3 : Int32)))]) (lenOf pd_1 rfl) rfl (by show 2 * 0 + _ ≤ _; exact Nat.le_of_eq rfl) (hb hby at_119) (fun _ _ => ⟨rfl, rfl, (by decide : 18 + 0 ≤ _), (by decide : 36 + 0 ≤ _)⟩)
  dsimp only [Pt.U, Pt.locs, Pt.cells, Pt.slots] at X21 l21 y21 z21 st21 hQ21
  rw [l21, y21, z21] at X21
  obtain ⟨rfl, N21q, hh21⟩ := hQ21
  have N21 := Fr.app N20 N21q
  refine GoesW.by (fun t k => st21 _ k) ?_
  show GoesW p e below s _ _ _ (T21.setTop (mkF m 122 #[.val (.int p0), .val (.int p1), .val (.int p2), .val (.int p3), .val (.int p4), .val (.ref r4), .val (.ref r11), .val (.ref r15), .unset, .unset, .unset, .unset, .unset, .unset] [(.int (bb p3 (3 : Int32))), (.int (bb p2 (3 : Int32))), (.int ((bb p2 (2 : Int32)) ^^^ (bb p3 (2 : Int32)))), (.int ((bb p2 (1 : Int32)) ^^^ (bb p3 (1 : Int32)))), (.int (p3 &&& (3 : Int32)))]))
  have KK21 : Keep (T20.heap) T21.heap [] := by rw [hh21]; exact Keep.refl _ _
  have hCf105 := CHr.keep KK21 all0 f99.1
  have f106 := f99.trans hCf105
  have OLD_KK21 := OLD_KK20.keep KK21 all0
  have f107 := Nat.le_trans f100 KK21.1
  have f108 := Nat.le_trans f101 KK21.1
  have f109 := f102.keep KK21 nin0
  have f110 := f103.keep KK21 nin0
  have f111 := f104.keep KK21 nin0
  refine GoesW.by (fun t k => XS.ixor X21.here hx rfl (hb hby at_122) rfl k) ?_
  show GoesW p e below s _ _ _ (T21.setTop (mkF m 123 #[.val (.int p0), .val (.int p1), .val (.int p2), .val (.int p3), .val (.int p4), .val (.ref r4), .val (.ref r11), .val (.ref r15), .unset, .unset, .unset, .unset, .unset, .unset] [(.int ((bb p2 (3 : Int32)) ^^^ (bb p3 (3 : Int32)))), (.int ((bb p2 (2 : Int32)) ^^^ (bb p3 (2 : Int32)))), (.int ((bb p2 (1 : Int32)) ^^^ (bb p3 (1 : Int32)))), (.int (p3 &&& (3 : Int32)))]))
  obtain ⟨_, _, ⟨T22, L22, k22, n22⟩, -, X22, hSi22, hgr22, ⟨Lc22, hQ22, l22, y22, z22, hCi22⟩, st22⟩ := Jvm.RoadKit.callSS X21 hx (y := (⟨"com/example/diogenes/diogenes/format/TopicEqualsPinLaw", "mk", "(IIII)Ljava/lang/String;"⟩ : MethodName)) hown (mvT hZ (hw _ (List.mem_of_getElem? (i := 4) rfl))) (mvT hZ (hw _ (List.mem_of_getElem? (i := 5) rfl))) (mvT hZ (hw _ (List.mem_of_getElem? (i := 2) rfl))) (mvT hZ (hw _ (List.mem_of_getElem? (i := 6) rfl))) (by decide) (backOfSH (W := 0) (rm2 l Z a0 hw [] (p3 &&& (3 : Int32)) ((bb p2 (1 : Int32)) ^^^ (bb p3 (1 : Int32))) ((bb p2 (2 : Int32)) ^^^ (bb p3 (2 : Int32))) ((bb p2 (3 : Int32)) ^^^ (bb p3 (3 : Int32))) z _ n0 f107 OLD_KK21 SC hz wS (own_bx _ _ _ _) (own_bx _ _ _ _) (own_bx _ _ _ _)) hZ (hw _ (List.mem_of_getElem? (i := 6) rfl)) (hw _ (List.mem_of_getElem? (i := 2) rfl)) (by decide) (by decide) hEL f106.1) (g := (mkF m 123 #[.val (.int p0), .val (.int p1), .val (.int p2), .val (.int p3), .val (.int p4), .val (.ref r4), .val (.ref r11), .val (.ref r15), .unset, .unset, .unset, .unset, .unset, .unset] [(.int ((bb p2 (3 : Int32)) ^^^ (bb p3 (3 : Int32)))), (.int ((bb p2 (2 : Int32)) ^^^ (bb p3 (2 : Int32)))), (.int ((bb p2 (1 : Int32)) ^^^ (bb p3 (1 : Int32)))), (.int (p3 &&& (3 : Int32)))])) rfl (by rw [hml]; rfl) (argsL := [(.int (p3 &&& (3 : Int32))), (.int ((bb p2 (1 : Int32)) ^^^ (bb p3 (1 : Int32)))), (.int ((bb p2 (2 : Int32)) ^^^ (bb p3 (2 : Int32)))), (.int ((bb p2 (3 : Int32)) ^^^ (bb p3 (3 : Int32))))]) (rest := []) (lenOf pd_2 rfl) rfl (by show 2 * 0 + _ ≤ _; exact Nat.le_of_eq rfl) (hb hby at_123) (fun _ _ => ⟨rfl, rfl, (by decide : 18 + 6 ≤ _), (by decide : 36 + 12 ≤ _)⟩)
  dsimp only [Pt.U, Pt.locs, Pt.cells, Pt.slots] at X22 l22 y22 z22 st22 hQ22 hSi22 hgr22
  rw [l22, y22, z22] at X22
  obtain ⟨X22, hS, hZ, hown⟩ := rebS hS (by exact f108) X22 hSi22 hgr22 hZ hown
  have hkS22 : T22.heap.size ≤ T22.heap.size := Nat.le_refl _
  dsimp only [Pt.U] at hCi22
  have f112 := f106.trans hCi22
  obtain ⟨r22, rfl, N22q, K22, S22⟩ := hQ22
  have N22 := Fr.app N21 N22q
  refine GoesW.by (fun t k => st22.trans k) ?_
  show GoesW p e below s _ _ _ (T22.setTop (mkF m 126 #[.val (.int p0), .val (.int p1), .val (.int p2), .val (.int p3), .val (.int p4), .val (.ref r4), .val (.ref r11), .val (.ref r15), .unset, .unset, .unset, .unset, .unset, .unset] [(.ref r22)]))
  have OLD_K22 := OLD_KK21.keep K22 all0
  have f113 := Nat.le_trans f107 K22.1
  have f114 := f109.keep K22 nin0
  have f115 := f110.keep K22 nin0
  have f116 := f111.keep K22 nin0
  refine GoesW.by (fun t k => XS.astore X22.here hx rfl (hb hby at_126) rfl rfl (l' := #[.val (.int p0), .val (.int p1), .val (.int p2), .val (.int p3), .val (.int p4), .val (.ref r4), .val (.ref r11), .val (.ref r15), .val (.ref r22), .unset, .unset, .unset, .unset, .unset]) rfl k) ?_
  show GoesW p e below s _ _ _ (T22.setTop (mkF m 128 #[.val (.int p0), .val (.int p1), .val (.int p2), .val (.int p3), .val (.int p4), .val (.ref r4), .val (.ref r11), .val (.ref r15), .val (.ref r22), .unset, .unset, .unset, .unset, .unset] []))
  obtain ⟨T23, h23, X23, e23, E23, A23, D23, -, st23⟩ := newO X22 hx hZ hown (hw _ (List.mem_of_getElem? (i := 40) rfl)) (hw _ (List.mem_of_getElem? (i := 41) rfl)) (hw _ (List.mem_of_getElem? (i := 42) rfl)) rfl (g := (mkF m 128 #[.val (.int p0), .val (.int p1), .val (.int p2), .val (.int p3), .val (.int p4), .val (.ref r4), .val (.ref r11), .val (.ref r15), .val (.ref r22), .unset, .unset, .unset, .unset, .unset] [])) rfl (hb hby at_128) (by decide) (by decide)
  obtain ⟨b23, g23⟩ : ∃ z, z = T22.heap.size := ⟨_, rfl⟩
  rw [← g23] at A23 D23 st23
  refine GoesW.by (fun t k => st23 t k) ?_
  show GoesW p e below s _ _ _ (T23.setTop (mkF m 131 #[.val (.int p0), .val (.int p1), .val (.int p2), .val (.int p3), .val (.int p4), .val (.ref r4), .val (.ref r11), .val (.ref r15), .val (.ref r22), .unset, .unset, .unset, .unset, .unset] [(.ref b23)]))
  have ne_r4_b23_f117 : r4 ≠ b23 := Nat.ne_of_lt (Nat.lt_of_lt_of_le f114.lt (Nat.le_of_eq g23.symm))
  have ne_r11_b23_f118 : r11 ≠ b23 := Nat.ne_of_lt (Nat.lt_of_lt_of_le f115.lt (Nat.le_of_eq g23.symm))
  have ne_r15_b23_f119 : r15 ≠ b23 := Nat.ne_of_lt (Nat.lt_of_lt_of_le f116.lt (Nat.le_of_eq g23.symm))
  have ne_r22_b23_f120 : r22 ≠ b23 := Nat.ne_of_lt (Nat.lt_of_lt_of_le S22.lt (Nat.le_of_eq g23.symm))
  have ge_b23 : n0 ≤ b23 := Nat.le_trans f113 (Nat.le_of_eq g23.symm)
  have f121 := OLD_K22.ext E23
  have f122 := Nat.le_trans f113 E23.1
  have f123 := Nat.le_trans hkS22 E23.1
  have f124 := f114.ext E23
  have f125 := f115.ext E23
  have f126 := f116.ext E23
  have f127 := S22.ext E23
  have f128 : Fld Z h23 b23 "com/example/diogenes/diogenes/format/Topic" "id" "Ljava/lang/String;" .null := D23 (Or.inr (hw _ (List.mem_of_getElem? (i := 53) rfl))) (ty := (.object "java/lang/String")) (by decide)
  have f129 : Fld Z h23 b23 "com/example/diogenes/diogenes/format/Topic" "text" "Ljava/lang/String;" .null := D23 (Or.inr (hw _ (List.mem_of_getElem? (i := 55) rfl))) (ty := (.object "java/lang/String")) (by decide)
  refine GoesW.by (fun t k => XS.dup X23.here hx rfl (hb hby at_131) rfl rfl k) ?_
  show GoesW p e below s _ _ _ (T23.setTop (mkF m 132 #[.val (.int p0), .val (.int p1), .val (.int p2), .val (.int p3), .val (.int p4), .val (.ref r4), .val (.ref r11), .val (.ref r15), .val (.ref r22), .unset, .unset, .unset, .unset, .unset] [(.ref b23), (.ref b23)]))
  refine GoesW.by (fun t k => XS.aload X23.here hx rfl (hb hby at_132) rfl rfl k) ?_
  show GoesW p e below s _ _ _ (T23.setTop (mkF m 134 #[.val (.int p0), .val (.int p1), .val (.int p2), .val (.int p3), .val (.int p4), .val (.ref r4), .val (.ref r11), .val (.ref r15), .val (.ref r22), .unset, .unset, .unset, .unset, .unset] [(.ref r4), (.ref b23), (.ref b23)]))
  refine GoesW.by (fun t k => XS.aload X23.here hx rfl (hb hby at_134) rfl rfl k) ?_
  show GoesW p e below s _ _ _ (T23.setTop (mkF m 136 #[.val (.int p0), .val (.int p1), .val (.int p2), .val (.int p3), .val (.int p4), .val (.ref r4), .val (.ref r11), .val (.ref r15), .val (.ref r22), .unset, .unset, .unset, .unset, .unset] [(.ref r15), (.ref r4), (.ref b23), (.ref b23)]))
  obtain ⟨_, _, ⟨T24, L24, k24, n24⟩, -, X24, ⟨Lc24, hQ24, l24, y24, z24⟩, st24⟩ := X23.specialBack hx (y := (⟨"com/example/diogenes/diogenes/format/Topic", "<init>", "(Ljava/lang/String;Ljava/lang/String;)V"⟩ : MethodName)) rfl hown (mvT hZ (hw _ (List.mem_of_getElem? (i := 43) rfl))) (mvT hZ (hw _ (List.mem_of_getElem? (i := 44) rfl))) (mvT hZ (hw _ (List.mem_of_getElem? (i := 45) rfl))) (by decide) (backOf (W := 1) (rm9 l Z a0 hw [] b23 r4 r15 h23 n0 f122 A23 f128 f129 ge_b23 (f124).1 (f126).1) hZ (hw _ (List.mem_of_getElem? (i := 45) rfl)) (hw _ (List.mem_of_getElem? (i := 42) rfl)) (by decide) (by decide)) (g := (mkF m 136 #[.val (.int p0), .val (.int p1), .val (.int p2), .val (.int p3), .val (.int p4), .val (.ref r4), .val (.ref r11), .val (.ref r15), .val (.ref r22), .unset, .unset, .unset, .unset, .unset] [(.ref r15), (.ref r4), (.ref b23), (.ref b23)])) rfl (by rw [hml]; rfl) (Steps.refl _) (a := b23) (argsL := [(.ref r4), (.ref r15)]) (rest := [(.ref b23)]) (lenOf pd_9 rfl) rfl (by show 2 * 0 + _ ≤ _; exact Nat.le_of_eq rfl) (hb hby at_136) (fun _ _ => ⟨rfl, e23, (by decide : 25 + 0 ≤ _), (by decide : 50 + 0 ≤ _)⟩)
  dsimp only [Pt.U, Pt.locs, Pt.cells, Pt.slots] at X24 l24 y24 z24 st24 hQ24
  rw [l24, y24, z24] at X24
  obtain ⟨rfl, N24q, K24, E24, F24, G24⟩ := hQ24
  have N24 := Fr.app N22 N24q
  refine GoesW.by (fun t k => st24.trans k) ?_
  show GoesW p e below s _ _ _ (T24.setTop (mkF m 139 #[.val (.int p0), .val (.int p1), .val (.int p2), .val (.int p3), .val (.int p4), .val (.ref r4), .val (.ref r11), .val (.ref r15), .val (.ref r22), .unset, .unset, .unset, .unset, .unset] [(.ref b23)]))
  have SK24_r4 := (f124).keepT (hw _ (List.mem_of_getElem? (i := 41) rfl)) own_ne1 A23 K24
  have SK24_r11 := (f125).keepT (hw _ (List.mem_of_getElem? (i := 41) rfl)) own_ne1 A23 K24
  have SK24_r15 := (f126).keepT (hw _ (List.mem_of_getElem? (i := 41) rfl)) own_ne1 A23 K24
  have SK24_r22 := (f127).keepT (hw _ (List.mem_of_getElem? (i := 41) rfl)) own_ne1 A23 K24
  have OLD_K24 := f121.keep K24 (allS ge_b23 all0)
  have f130 := Nat.le_trans f122 K24.1
  have f131 := Nat.le_trans f123 K24.1
  have f132 := A23.keep K24
  refine GoesW.by (fun t k => XS.astore X24.here hx rfl (hb hby at_139) rfl rfl (l' := #[.val (.int p0), .val (.int p1), .val (.int p2), .val (.int p3), .val (.int p4), .val (.ref r4), .val (.ref r11), .val (.ref r15), .val (.ref r22), .val (.ref b23), .unset, .unset, .unset, .unset]) rfl k) ?_
  show GoesW p e below s _ _ _ (T24.setTop (mkF m 141 #[.val (.int p0), .val (.int p1), .val (.int p2), .val (.int p3), .val (.int p4), .val (.ref r4), .val (.ref r11), .val (.ref r15), .val (.ref r22), .val (.ref b23), .unset, .unset, .unset, .unset] []))
  obtain ⟨T25, h25, X25, e25, E25, A25, D25, -, st25⟩ := newO X24 hx hZ hown (hw _ (List.mem_of_getElem? (i := 40) rfl)) (hw _ (List.mem_of_getElem? (i := 41) rfl)) (hw _ (List.mem_of_getElem? (i := 42) rfl)) rfl (g := (mkF m 141 #[.val (.int p0), .val (.int p1), .val (.int p2), .val (.int p3), .val (.int p4), .val (.ref r4), .val (.ref r11), .val (.ref r15), .val (.ref r22), .val (.ref b23), .unset, .unset, .unset, .unset] [])) rfl (hb hby at_141) (by decide) (by decide)
  obtain ⟨b25, g25⟩ : ∃ z, z = T24.heap.size := ⟨_, rfl⟩
  rw [← g25] at A25 D25 st25
  refine GoesW.by (fun t k => st25 t k) ?_
  show GoesW p e below s _ _ _ (T25.setTop (mkF m 144 #[.val (.int p0), .val (.int p1), .val (.int p2), .val (.int p3), .val (.int p4), .val (.ref r4), .val (.ref r11), .val (.ref r15), .val (.ref r22), .val (.ref b23), .unset, .unset, .unset, .unset] [(.ref b25)]))
  have ne_b23_b25_f133 : b23 ≠ b25 := Nat.ne_of_lt (Nat.lt_of_lt_of_le E24.lt (Nat.le_of_eq g25.symm))
  have ne_r4_b25_f134 : r4 ≠ b25 := Nat.ne_of_lt (Nat.lt_of_lt_of_le SK24_r4.lt (Nat.le_of_eq g25.symm))
  have ne_r11_b25_f135 : r11 ≠ b25 := Nat.ne_of_lt (Nat.lt_of_lt_of_le SK24_r11.lt (Nat.le_of_eq g25.symm))
  have ne_r15_b25_f136 : r15 ≠ b25 := Nat.ne_of_lt (Nat.lt_of_lt_of_le SK24_r15.lt (Nat.le_of_eq g25.symm))
  have ne_r22_b25_f137 : r22 ≠ b25 := Nat.ne_of_lt (Nat.lt_of_lt_of_le SK24_r22.lt (Nat.le_of_eq g25.symm))
  have ge_b25 : n0 ≤ b25 := Nat.le_trans f130 (Nat.le_of_eq g25.symm)
  have f138 := OLD_K24.ext E25
  have f139 := Nat.le_trans f130 E25.1
  have f140 := Nat.le_trans f131 E25.1
  have f141 := E24.ext E25
  have f142 := SK24_r4.ext E25
  have f143 := SK24_r11.ext E25
  have f144 := SK24_r15.ext E25
  have f145 := SK24_r22.ext E25
  have f146 := F24.ext E25
  have f147 := G24.ext E25
  have f148 : Fld Z h25 b25 "com/example/diogenes/diogenes/format/Topic" "id" "Ljava/lang/String;" .null := D25 (Or.inr (hw _ (List.mem_of_getElem? (i := 53) rfl))) (ty := (.object "java/lang/String")) (by decide)
  have f149 : Fld Z h25 b25 "com/example/diogenes/diogenes/format/Topic" "text" "Ljava/lang/String;" .null := D25 (Or.inr (hw _ (List.mem_of_getElem? (i := 55) rfl))) (ty := (.object "java/lang/String")) (by decide)
  refine GoesW.by (fun t k => XS.dup X25.here hx rfl (hb hby at_144) rfl rfl k) ?_
  show GoesW p e below s _ _ _ (T25.setTop (mkF m 145 #[.val (.int p0), .val (.int p1), .val (.int p2), .val (.int p3), .val (.int p4), .val (.ref r4), .val (.ref r11), .val (.ref r15), .val (.ref r22), .val (.ref b23), .unset, .unset, .unset, .unset] [(.ref b25), (.ref b25)]))
  refine GoesW.by (fun t k => XS.aload X25.here hx rfl (hb hby at_145) rfl rfl k) ?_
  show GoesW p e below s _ _ _ (T25.setTop (mkF m 147 #[.val (.int p0), .val (.int p1), .val (.int p2), .val (.int p3), .val (.int p4), .val (.ref r4), .val (.ref r11), .val (.ref r15), .val (.ref r22), .val (.ref b23), .unset, .unset, .unset, .unset] [(.ref r11), (.ref b25), (.ref b25)]))
  refine GoesW.by (fun t k => XS.aload X25.here hx rfl (hb hby at_147) rfl rfl k) ?_
  show GoesW p e below s _ _ _ (T25.setTop (mkF m 149 #[.val (.int p0), .val (.int p1), .val (.int p2), .val (.int p3), .val (.int p4), .val (.ref r4), .val (.ref r11), .val (.ref r15), .val (.ref r22), .val (.ref b23), .unset, .unset, .unset, .unset] [(.ref r22), (.ref r11), (.ref b25), (.ref b25)]))
  obtain ⟨_, _, ⟨T26, L26, k26, n26⟩, -, X26, ⟨Lc26, hQ26, l26, y26, z26⟩, st26⟩ := X25.specialBack hx (y := (⟨"com/example/diogenes/diogenes/format/Topic", "<init>", "(Ljava/lang/String;Ljava/lang/String;)V"⟩ : MethodName)) rfl hown (mvT hZ (hw _ (List.mem_of_getElem? (i := 43) rfl))) (mvT hZ (hw _ (List.mem_of_getElem? (i := 44) rfl))) (mvT hZ (hw _ (List.mem_of_getElem? (i := 45) rfl))) (by decide) (backOf (W := 1) (rm9 l Z a0 hw [] b25 r11 r22 h25 n0 f139 A25 f148 f149 ge_b25 (f143).1 (f145).1) hZ (hw _ (List.mem_of_getElem? (i := 45) rfl)) (hw _ (List.mem_of_getElem? (i := 42) rfl)) (by decide) (by decide)) (g := (mkF m 149 #[.val (.int p0), .val (.int p1), .val (.int p2), .val (.int p3), .val (.int p4), .val (.ref r4), .val (.ref r11), .val (.ref r15), .val (.ref r22), .val (.ref b23), .unset, .unset, .unset, .unset] [(.ref r22), (.ref r11), (.ref b25), (.ref b25)])) rfl (by rw [hml]; rfl) (Steps.refl _) (a := b25) (argsL := [(.ref r11), (.ref r22)]) (rest := [(.ref b25)]) (lenOf pd_9 rfl) rfl (by show 2 * 0 + _ ≤ _; exact Nat.le_of_eq rfl) (hb hby at_149) (fun _ _ => ⟨rfl, e25, (by decide : 26 + 0 ≤ _), (by decide : 52 + 0 ≤ _)⟩)
  dsimp only [Pt.U, Pt.locs, Pt.cells, Pt.slots] at X26 l26 y26 z26 st26 hQ26
  rw [l26, y26, z26] at X26
  obtain ⟨rfl, N26q, K26, E26, F26, G26⟩ := hQ26
  have N26 := Fr.app N24 N26q
  refine GoesW.by (fun t k => st26.trans k) ?_
  show GoesW p e below s _ _ _ (T26.setTop (mkF m 152 #[.val (.int p0), .val (.int p1), .val (.int p2), .val (.int p3), .val (.int p4), .val (.ref r4), .val (.ref r11), .val (.ref r15), .val (.ref r22), .val (.ref b23), .unset, .unset, .unset, .unset] [(.ref b25)]))
  have SK26_r4 := (f142).keepT (hw _ (List.mem_of_getElem? (i := 41) rfl)) own_ne1 A25 K26
  have SK26_r11 := (f143).keepT (hw _ (List.mem_of_getElem? (i := 41) rfl)) own_ne1 A25 K26
  have SK26_r15 := (f144).keepT (hw _ (List.mem_of_getElem? (i := 41) rfl)) own_ne1 A25 K26
  have SK26_r22 := (f145).keepT (hw _ (List.mem_of_getElem? (i := 41) rfl)) own_ne1 A25 K26
  have OLD_K26 := f138.keep K26 (allS ge_b25 all0)
  have f150 := Nat.le_trans f139 K26.1
  have f151 := Nat.le_trans f140 K26.1
  have f152 := f141.keep K26
  have f153 := f146.keep K26 (ninS ne_b23_b25_f133 nin0)
  have f154 := f147.keep K26 (ninS ne_b23_b25_f133 nin0)
  have f155 := A25.keep K26
  refine GoesW.by (fun t k => XS.astore X26.here hx rfl (hb hby at_152) rfl rfl (l' := #[.val (.int p0), .val (.int p1), .val (.int p2), .val (.int p3), .val (.int p4), .val (.ref r4), .val (.ref r11), .val (.ref r15), .val (.ref r22), .val (.ref b23), .val (.ref b25), .unset, .unset, .unset]) rfl k) ?_
  show GoesW p e below s _ _ _ (T26.setTop (mkF m 154 #[.val (.int p0), .val (.int p1), .val (.int p2), .val (.int p3), .val (.int p4), .val (.ref r4), .val (.ref r11), .val (.ref r15), .val (.ref r22), .val (.ref b23), .val (.ref b25), .unset, .unset, .unset] []))
  refine GoesW.by (fun t k => XS.iload X26.here hx rfl (hb hby at_154) rfl k) ?_
  show GoesW p e below s _ _ _ (T26.setTop (mkF m 156 #[.val (.int p0), .val (.int p1), .val (.int p2), .val (.int p3), .val (.int p4), .val (.ref r4), .val (.ref r11), .val (.ref r15), .val (.ref r22), .val (.ref b23), .val (.ref b25), .unset, .unset, .unset] [(.int p4)]))
  refine GoesW.by (fun t k => XS.iconst X26.here hx rfl (hb hby at_156) k) ?_
  show GoesW p e below s _ _ _ (T26.setTop (mkF m 157 #[.val (.int p0), .val (.int p1), .val (.int p2), .val (.int p3), .val (.int p4), .val (.ref r4), .val (.ref r11), .val (.ref r15), .val (.ref r22), .val (.ref b23), .val (.ref b25), .unset, .unset, .unset] [(.int (3 : Int32)), (.int p4)]))
  refine GoesW.by (fun t k => XS.iand X26.here hx rfl (hb hby at_157) rfl k) ?_
  show GoesW p e below s _ _ _ (T26.setTop (mkF m 158 #[.val (.int p0), .val (.int p1), .val (.int p2), .val (.int p3), .val (.int p4), .val (.ref r4), .val (.ref r11), .val (.ref r15), .val (.ref r22), .val (.ref b23), .val (.ref b25), .unset, .unset, .unset] [(.int (p4 &&& (3 : Int32)))]))
  refine GoesW.by (fun t k => XS.istore X26.here hx rfl (hb hby at_158) rfl (l' := #[.val (.int p0), .val (.int p1), .val (.int p2), .val (.int p3), .val (.int p4), .val (.ref r4), .val (.ref r11), .val (.ref r15), .val (.ref r22), .val (.ref b23), .val (.ref b25), .val (.int (p4 &&& (3 : Int32))), .unset, .unset]) rfl k) ?_
  show GoesW p e below s _ _ _ (T26.setTop (mkF m 160 #[.val (.int p0), .val (.int p1), .val (.int p2), .val (.int p3), .val (.int p4), .val (.ref r4), .val (.ref r11), .val (.ref r15), .val (.ref r22), .val (.ref b23), .val (.ref b25), .val (.int (p4 &&& (3 : Int32))), .unset, .unset] []))
  refine GoesW.by (fun t k => XS.iload X26.here hx rfl (hb hby at_160) rfl k) ?_
  show GoesW p e below s _ _ _ (T26.setTop (mkF m 162 #[.val (.int p0), .val (.int p1), .val (.int p2), .val (.int p3), .val (.int p4), .val (.ref r4), .val (.ref r11), .val (.ref r15), .val (.ref r22), .val (.ref b23), .val (.ref b25), .val (.int (p4 &&& (3 : Int32))), .unset, .unset] [(.int (p4 &&& (3 : Int32)))]))
  by_cases hm0 : (p4 &&& (3 : Int32)) = (0 : Int32)
  · skip
    refine GoesW.by (fun t k => XS.ifNo X26.here hx rfl (hb hby at_162) rfl ((if0 _ _).trans (teq (hm0)).2) k) ?_
    show GoesW p e below s _ _ _ (T26.setTop (mkF m 165 #[.val (.int p0), .val (.int p1), .val (.int p2), .val (.int p3), .val (.int p4), .val (.ref r4), .val (.ref r11), .val (.ref r15), .val (.ref r22), .val (.ref b23), .val (.ref b25), .val (.int (p4 &&& (3 : Int32))), .unset, .unset] []))
    refine GoesW.by (fun t k => XS.aload X26.here hx rfl (hb hby at_165) rfl rfl k) ?_
    show GoesW p e below s _ _ _ (T26.setTop (mkF m 167 #[.val (.int p0), .val (.int p1), .val (.int p2), .val (.int p3), .val (.int p4), .val (.ref r4), .val (.ref r11), .val (.ref r15), .val (.ref r22), .val (.ref b23), .val (.ref b25), .val (.int (p4 &&& (3 : Int32))), .unset, .unset] [(.ref b25)]))
    refine GoesW.by (fun t k => XS.astore X26.here hx rfl (hb hby at_167) rfl rfl (l' := #[.val (.int p0), .val (.int p1), .val (.int p2), .val (.int p3), .val (.int p4), .val (.ref r4), .val (.ref r11), .val (.ref r15), .val (.ref r22), .val (.ref b23), .val (.ref b25), .val (.int (p4 &&& (3 : Int32))), .val (.ref b25), .unset]) rfl k) ?_
    show GoesW p e below s _ _ _ (T26.setTop (mkF m 169 #[.val (.int p0), .val (.int p1), .val (.int p2), .val (.int p3), .val (.int p4), .val (.ref r4), .val (.ref r11), .val (.ref r15), .val (.ref r22), .val (.ref b23), .val (.ref b25), .val (.int (p4 &&& (3 : Int32))), .val (.ref b25), .unset] []))
    refine GoesW.by (fun t k => XS.iloadN X26.here hx rfl (hb hby at_169) rfl k) ?_
    show GoesW p e below s _ _ _ (T26.setTop (mkF m 170 #[.val (.int p0), .val (.int p1), .val (.int p2), .val (.int p3), .val (.int p4), .val (.ref r4), .val (.ref r11), .val (.ref r15), .val (.ref r22), .val (.ref b23), .val (.ref b25), .val (.int (p4 &&& (3 : Int32))), .val (.ref b25), .unset] [(.int p0)]))
    refine GoesW.by (fun t k => XS.iloadN X26.here hx rfl (hb hby at_170) rfl k) ?_
    show GoesW p e below s _ _ _ (T26.setTop (mkF m 171 #[.val (.int p0), .val (.int p1), .val (.int p2), .val (.int p3), .val (.int p4), .val (.ref r4), .val (.ref r11), .val (.ref r15), .val (.ref r22), .val (.ref b23), .val (.ref b25), .val (.int (p4 &&& (3 : Int32))), .val (.ref b25), .unset] [(.int p1), (.int p0)]))
    obtain ⟨_, _, ⟨T27, L27, k27, n27⟩, -, X27, ⟨Lc27, hQ27, l27, y27, z27⟩, st27⟩ := Jvm.LawKit.callS X26 hx (y := (⟨"com/example/diogenes/diogenes/format/TopicEqualsPinLaw", "same", "(II)Z"⟩ : MethodName)) hown (mvT hZ (hw _ (List.mem_of_getElem? (i := 56) rfl))) (mvT hZ (hw _ (List.mem_of_getElem? (i := 57) rfl))) (mvT hZ (hw _ (List.mem_of_getElem? (i := 2) rfl))) (mvT hZ (hw _ (List.mem_of_getElem? (i := 58) rfl))) (by decide) (backOf (W := 0) (rm11 l Z a0 hw [] p0 p1 _ n0 f150) hZ (hw _ (List.mem_of_getElem? (i := 58) rfl)) (hw _ (List.mem_of_getElem? (i := 2) rfl)) (by decide) (by decide)) (g := (mkF m 171 #[.val (.int p0), .val (.int p1), .val (.int p2), .val (.int p3), .val (.int p4), .val (.ref r4), .val (.ref r11), .val (.ref r15), .val (.ref r22), .val (.ref b23), .val (.ref b25), .val (.int (p4 &&& (3 : Int32))), .val (.ref b25), .unset] [(.int p1), (.int p0)])) rfl (by rw [hml]; rfl) (argsL := [(.int p0), (.int p1)]) (rest := []) (lenOf pd_11 rfl) rfl (by show 2 * 0 + _ ≤ _; exact Nat.le_of_eq rfl) (hb hby at_171) (fun _ _ => ⟨rfl, rfl, (by decide : 26 + 0 ≤ _), (by decide : 52 + 0 ≤ _)⟩)
    dsimp only [Pt.U, Pt.locs, Pt.cells, Pt.slots] at X27 l27 y27 z27 st27 hQ27
    rw [l27, y27, z27] at X27
    obtain ⟨rr27, rfl, N27q, hh27, hr27⟩ := hQ27
    have N27 := Fr.app N26 N27q
    refine GoesW.by (fun t k => st27 _ k) ?_
    show GoesW p e below s _ _ _ (T27.setTop (mkF m 174 #[.val (.int p0), .val (.int p1), .val (.int p2), .val (.int p3), .val (.int p4), .val (.ref r4), .val (.ref r11), .val (.ref r15), .val (.ref r22), .val (.ref b23), .val (.ref b25), .val (.int (p4 &&& (3 : Int32))), .val (.ref b25), .unset] [(.int rr27)]))
    have KK27 : Keep (T26.heap) T27.heap [] := by rw [hh27]; exact Keep.refl _ _
    have OLD_KK27 := OLD_K26.keep KK27 all0
    have f156 := Nat.le_trans f150 KK27.1
    have f157 := Nat.le_trans f151 KK27.1
    have f158 := f152.keep KK27
    have f159 := f153.keep KK27 nin0
    have f160 := f154.keep KK27 nin0
    have f161 := E26.keep KK27
    have f162 := SK26_r4.keep KK27 nin0
    have f163 := SK26_r11.keep KK27 nin0
    have f164 := SK26_r15.keep KK27 nin0
    have f165 := SK26_r22.keep KK27 nin0
    have f166 := F26.keep KK27 nin0
    have f167 := G26.keep KK27 nin0
    rcases hr27 with ⟨rfl, hs1⟩ | ⟨rfl, hs1⟩
    · skip
      show GoesW p e below s _ _ _ (T27.setTop (mkF m 174 #[.val (.int p0), .val (.int p1), .val (.int p2), .val (.int p3), .val (.int p4), .val (.ref r4), .val (.ref r11), .val (.ref r15), .val (.ref r22), .val (.ref b23), .val (.ref b25), .val (.int (p4 &&& (3 : Int32))), .val (.ref b25), .unset] [(.int (1 : Int32))]))
      refine GoesW.by (fun t k => XS.ifNo X27.here hx rfl (hb hby at_174) rfl ((if0 _ _).trans (feq (by decide)).1) k) ?_
      show GoesW p e below s _ _ _ (T27.setTop (mkF m 177 #[.val (.int p0), .val (.int p1), .val (.int p2), .val (.int p3), .val (.int p4), .val (.ref r4), .val (.ref r11), .val (.ref r15), .val (.ref r22), .val (.ref b23), .val (.ref b25), .val (.int (p4 &&& (3 : Int32))), .val (.ref b25), .unset] []))
      refine GoesW.by (fun t k => XS.iloadN X27.here hx rfl (hb hby at_177) rfl k) ?_
      show GoesW p e below s _ _ _ (T27.setTop (mkF m 178 #[.val (.int p0), .val (.int p1), .val (.int p2), .val (.int p3), .val (.int p4), .val (.ref r4), .val (.ref r11), .val (.ref r15), .val (.ref r22), .val (.ref b23), .val (.ref b25), .val (.int (p4 &&& (3 : Int32))), .val (.ref b25), .unset] [(.int p2)]))
      refine GoesW.by (fun t k => XS.iloadN X27.here hx rfl (hb hby at_178) rfl k) ?_
      show GoesW p e below s _ _ _ (T27.setTop (mkF m 179 #[.val (.int p0), .val (.int p1), .val (.int p2), .val (.int p3), .val (.int p4), .val (.ref r4), .val (.ref r11), .val (.ref r15), .val (.ref r22), .val (.ref b23), .val (.ref b25), .val (.int (p4 &&& (3 : Int32))), .val (.ref b25), .unset] [(.int p3), (.int p2)]))
      obtain ⟨_, _, ⟨T28, L28, k28, n28⟩, -, X28, ⟨Lc28, hQ28, l28, y28, z28⟩, st28⟩ := Jvm.LawKit.callS X27 hx (y := (⟨"com/example/diogenes/diogenes/format/TopicEqualsPinLaw", "same", "(II)Z"⟩ : MethodName)) hown (mvT hZ (hw _ (List.mem_of_getElem? (i := 56) rfl))) (mvT hZ (hw _ (List.mem_of_getElem? (i := 57) rfl))) (mvT hZ (hw _ (List.mem_of_getElem? (i := 2) rfl))) (mvT hZ (hw _ (List.mem_of_getElem? (i := 58) rfl))) (by decide) (backOf (W := 0) (rm11 l Z a0 hw [] p2 p3 _ n0 f156) hZ (hw _ (List.mem_of_getElem? (i := 58) rfl)) (hw _ (List.mem_of_getElem? (i := 2) rfl)) (by decide) (by decide)) (g := (mkF m 179 #[.val (.int p0), .val (.int p1), .val (.int p2), .val (.int p3), .val (.int p4), .val (.ref r4), .val (.ref r11), .val (.ref r15), .val (.ref r22), .val (.ref b23), .val (.ref b25), .val (.int (p4 &&& (3 : Int32))), .val (.ref b25), .unset] [(.int p3), (.int p2)])) rfl (by rw [hml]; rfl) (argsL := [(.int p2), (.int p3)]) (rest := []) (lenOf pd_11 rfl) rfl (by show 2 * 0 + _ ≤ _; exact Nat.le_of_eq rfl) (hb hby at_179) (fun _ _ => ⟨rfl, rfl, (by decide : 26 + 0 ≤ _), (by decide : 52 + 0 ≤ _)⟩)
      dsimp only [Pt.U, Pt.locs, Pt.cells, Pt.slots] at X28 l28 y28 z28 st28 hQ28
      rw [l28, y28, z28] at X28
      obtain ⟨rr28, rfl, N28q, hh28, hr28⟩ := hQ28
      have N28 := Fr.app N27 N28q
      refine GoesW.by (fun t k => st28 _ k) ?_
      show GoesW p e below s _ _ _ (T28.setTop (mkF m 182 #[.val (.int p0), .val (.int p1), .val (.int p2), .val (.int p3), .val (.int p4), .val (.ref r4), .val (.ref r11), .val (.ref r15), .val (.ref r22), .val (.ref b23), .val (.ref b25), .val (.int (p4 &&& (3 : Int32))), .val (.ref b25), .unset] [(.int rr28)]))
      have KK28 : Keep (T27.heap) T28.heap [] := by rw [hh28]; exact Keep.refl _ _
      have OLD_KK28 := OLD_KK27.keep KK28 all0
      have f168 := Nat.le_trans f156 KK28.1
      have f169 := Nat.le_trans f157 KK28.1
      have f170 := f158.keep KK28
      have f171 := f159.keep KK28 nin0
      have f172 := f160.keep KK28 nin0
      have f173 := f161.keep KK28
      have f174 := f162.keep KK28 nin0
      have f175 := f163.keep KK28 nin0
      have f176 := f164.keep KK28 nin0
      have f177 := f165.keep KK28 nin0
      have f178 := f166.keep KK28 nin0
      have f179 := f167.keep KK28 nin0
      rcases hr28 with ⟨rfl, hs2⟩ | ⟨rfl, hs2⟩
      · skip
        show GoesW p e below s _ _ _ (T28.setTop (mkF m 182 #[.val (.int p0), .val (.int p1), .val (.int p2), .val (.int p3), .val (.int p4), .val (.ref r4), .val (.ref r11), .val (.ref r15), .val (.ref r22), .val (.ref b23), .val (.ref b25), .val (.int (p4 &&& (3 : Int32))), .val (.ref b25), .unset] [(.int (1 : Int32))]))
        refine GoesW.by (fun t k => XS.ifNo X28.here hx rfl (hb hby at_182) rfl ((if0 _ _).trans (feq (by decide)).1) k) ?_
        show GoesW p e below s _ _ _ (T28.setTop (mkF m 185 #[.val (.int p0), .val (.int p1), .val (.int p2), .val (.int p3), .val (.int p4), .val (.ref r4), .val (.ref r11), .val (.ref r15), .val (.ref r22), .val (.ref b23), .val (.ref b25), .val (.int (p4 &&& (3 : Int32))), .val (.ref b25), .unset] []))
        refine GoesW.by (fun t k => XS.iconst X28.here hx rfl (hb hby at_185) k) ?_
        show GoesW p e below s _ _ _ (T28.setTop (mkF m 186 #[.val (.int p0), .val (.int p1), .val (.int p2), .val (.int p3), .val (.int p4), .val (.ref r4), .val (.ref r11), .val (.ref r15), .val (.ref r22), .val (.ref b23), .val (.ref b25), .val (.int (p4 &&& (3 : Int32))), .val (.ref b25), .unset] [(.int (1 : Int32))]))
        refine GoesW.by (fun t k => XS.goto X28.here hx rfl (pc0 := 186) (pc' := 190) rfl (hb hby at_186) (by decide) (by decide) k) ?_
        show GoesW p e below s _ _ _ (T28.setTop (mkF m 190 #[.val (.int p0), .val (.int p1), .val (.int p2), .val (.int p3), .val (.int p4), .val (.ref r4), .val (.ref r11), .val (.ref r15), .val (.ref r22), .val (.ref b23), .val (.ref b25), .val (.int (p4 &&& (3 : Int32))), .val (.ref b25), .unset] [(.int (1 : Int32))]))
        refine GoesW.by (fun t k => XS.istore X28.here hx rfl (hb hby at_190) rfl (l' := #[.val (.int p0), .val (.int p1), .val (.int p2), .val (.int p3), .val (.int p4), .val (.ref r4), .val (.ref r11), .val (.ref r15), .val (.ref r22), .val (.ref b23), .val (.ref b25), .val (.int (p4 &&& (3 : Int32))), .val (.ref b25), .val (.int (1 : Int32))]) rfl k) ?_
        show GoesW p e below s _ _ _ (T28.setTop (mkF m 192 #[.val (.int p0), .val (.int p1), .val (.int p2), .val (.int p3), .val (.int p4), .val (.ref r4), .val (.ref r11), .val (.ref r15), .val (.ref r22), .val (.ref b23), .val (.ref b25), .val (.int (p4 &&& (3 : Int32))), .val (.ref b25), .val (.int (1 : Int32))] []))
        refine GoesW.by (fun t k => XS.goto X28.here hx rfl (pc0 := 192) (pc' := 233) rfl (hb hby at_192) (by decide) (by decide) k) ?_
        show GoesW p e below s _ _ _ (T28.setTop (mkF m 233 #[.val (.int p0), .val (.int p1), .val (.int p2), .val (.int p3), .val (.int p4), .val (.ref r4), .val (.ref r11), .val (.ref r15), .val (.ref r22), .val (.ref b23), .val (.ref b25), .val (.int (p4 &&& (3 : Int32))), .val (.ref b25), .val (.int (1 : Int32))] []))
        refine GoesW.by (fun t k => XS.aload X28.here hx rfl (hb hby at_233) rfl rfl k) ?_
        show GoesW p e below s _ _ _ (T28.setTop (mkF m 235 #[.val (.int p0), .val (.int p1), .val (.int p2), .val (.int p3), .val (.int p4), .val (.ref r4), .val (.ref r11), .val (.ref r15), .val (.ref r22), .val (.ref b23), .val (.ref b25), .val (.int (p4 &&& (3 : Int32))), .val (.ref b25), .val (.int (1 : Int32))] [(.ref b23)]))
        refine GoesW.by (fun t k => XS.aload X28.here hx rfl (hb hby at_235) rfl rfl k) ?_
        show GoesW p e below s _ _ _ (T28.setTop (mkF m 237 #[.val (.int p0), .val (.int p1), .val (.int p2), .val (.int p3), .val (.int p4), .val (.ref r4), .val (.ref r11), .val (.ref r15), .val (.ref r22), .val (.ref b23), .val (.ref b25), .val (.int (p4 &&& (3 : Int32))), .val (.ref b25), .val (.int (1 : Int32))] [(.ref b25), (.ref b23)]))
        obtain ⟨cq29, kq29, q29a, q29b, q29c⟩ := isOf hZ rfl (f170)
        obtain ⟨_, _, ⟨T29, L29, k29, n29⟩, -, X29, ⟨Lc29, hQ29, l29, y29, z29⟩, st29⟩ := X28.virtualBack hx (y := (⟨"com/example/diogenes/diogenes/format/Topic", "equals", "(Ljava/lang/Object;)Z"⟩ : MethodName)) (z := (⟨"com/example/diogenes/diogenes/format/Topic", "equals", "(Ljava/lang/Object;)Z"⟩ : MethodName)) hown (mvT hZ (hw _ (List.mem_of_getElem? (i := 59) rfl))) (mvT hZ (hw _ (List.mem_of_getElem? (i := 60) rfl))) (notFace_of_selects (args := #[]) (mvT hZ (hw _ (List.mem_of_getElem? (i := 62) rfl)))) (mvT hZ (hw _ (List.mem_of_getElem? (i := 62) rfl))) (mvT hZ (hw _ (List.mem_of_getElem? (i := 61) rfl))) (by decide) (backOf (W := 0) (rm12 l Z a0 hw [] b23 b25 r4 r11 r15 r22 _ _ _ _ z _ n0 f168 OLD_KK28 SC hz f170 f171 f172 f173 f178 f179 f174 f175 f176 f177) hZ (hw _ (List.mem_of_getElem? (i := 63) rfl)) (hw _ (List.mem_of_getElem? (i := 42) rfl)) (by decide) (by decide)) q29a q29c (g := (mkF m 237 #[.val (.int p0), .val (.int p1), .val (.int p2), .val (.int p3), .val (.int p4), .val (.ref r4), .val (.ref r11), .val (.ref r15), .val (.ref r22), .val (.ref b23), .val (.ref b25), .val (.int (p4 &&& (3 : Int32))), .val (.ref b25), .val (.int (1 : Int32))] [(.ref b25), (.ref b23)])) rfl (by rw [hml]; rfl) (Steps.refl _) (argsL := [(.ref b25)]) (rest := []) (lenOf pd_12 rfl) rfl (by show 2 * 0 + _ ≤ _; exact Nat.le_of_eq rfl) (hb hby at_237) (fun _ _ => ⟨rfl, rfl, (by decide : 26 + 0 ≤ _), (by decide : 52 + 0 ≤ _)⟩)
        dsimp only [Pt.U, Pt.locs, Pt.cells, Pt.slots] at X29 l29 y29 z29 st29 hQ29
        rw [l29, y29, z29] at X29
        obtain ⟨rr29, rfl, N29q, hh29, hr29⟩ := hQ29
        have N29 := Fr.app N28 N29q
        refine GoesW.by (fun t k => st29.trans k) ?_
        show GoesW p e below s _ _ _ (T29.setTop (mkF m 240 #[.val (.int p0), .val (.int p1), .val (.int p2), .val (.int p3), .val (.int p4), .val (.ref r4), .val (.ref r11), .val (.ref r15), .val (.ref r22), .val (.ref b23), .val (.ref b25), .val (.int (p4 &&& (3 : Int32))), .val (.ref b25), .val (.int (1 : Int32))] [(.int rr29)]))
        have KK29 : Keep (T28.heap) T29.heap [] := by rw [hh29]; exact Keep.refl _ _
        have OLD_KK29 := OLD_KK28.keep KK29 all0
        have f180 := Nat.le_trans f168 KK29.1
        have f181 := Nat.le_trans f169 KK29.1
        have f182 := f170.keep KK29
        have f183 := f171.keep KK29 nin0
        have f184 := f172.keep KK29 nin0
        have f185 := f173.keep KK29
        have f186 := f174.keep KK29 nin0
        have f187 := f175.keep KK29 nin0
        have f188 := f176.keep KK29 nin0
        have f189 := f177.keep KK29 nin0
        have f190 := f178.keep KK29 nin0
        have f191 := f179.keep KK29 nin0
        rcases hr29 with ⟨rfl, hd⟩ | ⟨rfl, hd⟩
        · skip
          show GoesW p e below s _ _ _ (T29.setTop (mkF m 240 #[.val (.int p0), .val (.int p1), .val (.int p2), .val (.int p3), .val (.int p4), .val (.ref r4), .val (.ref r11), .val (.ref r15), .val (.ref r22), .val (.ref b23), .val (.ref b25), .val (.int (p4 &&& (3 : Int32))), .val (.ref b25), .val (.int (1 : Int32))] [(.int (1 : Int32))]))
          refine GoesW.by (fun t k => XS.iload X29.here hx rfl (hb hby at_240) rfl k) ?_
          show GoesW p e below s _ _ _ (T29.setTop (mkF m 242 #[.val (.int p0), .val (.int p1), .val (.int p2), .val (.int p3), .val (.int p4), .val (.ref r4), .val (.ref r11), .val (.ref r15), .val (.ref r22), .val (.ref b23), .val (.ref b25), .val (.int (p4 &&& (3 : Int32))), .val (.ref b25), .val (.int (1 : Int32))] [(.int (1 : Int32)), (.int (1 : Int32))]))
          refine GoesW.by (fun t k => XS.icmpNo X29.here hx rfl (hb hby at_242) rfl (teq (rfl)).2 k) ?_
          show GoesW p e below s _ _ _ (T29.setTop (mkF m 245 #[.val (.int p0), .val (.int p1), .val (.int p2), .val (.int p3), .val (.int p4), .val (.ref r4), .val (.ref r11), .val (.ref r15), .val (.ref r22), .val (.ref b23), .val (.ref b25), .val (.int (p4 &&& (3 : Int32))), .val (.ref b25), .val (.int (1 : Int32))] []))
          refine GoesW.by (fun t k => XS.iconst X29.here hx rfl (hb hby at_245) k) ?_
          show GoesW p e below s _ _ _ (T29.setTop (mkF m 246 #[.val (.int p0), .val (.int p1), .val (.int p2), .val (.int p3), .val (.int p4), .val (.ref r4), .val (.ref r11), .val (.ref r15), .val (.ref r22), .val (.ref b23), .val (.ref b25), .val (.int (p4 &&& (3 : Int32))), .val (.ref b25), .val (.int (1 : Int32))] [(.int (1 : Int32))]))
          refine GoesW.by (fun t k => XS.goto X29.here hx rfl (pc0 := 246) (pc' := 250) rfl (hb hby at_246) (by decide) (by decide) k) ?_
          show GoesW p e below s _ _ _ (T29.setTop (mkF m 250 #[.val (.int p0), .val (.int p1), .val (.int p2), .val (.int p3), .val (.int p4), .val (.ref r4), .val (.ref r11), .val (.ref r15), .val (.ref r22), .val (.ref b23), .val (.ref b25), .val (.int (p4 &&& (3 : Int32))), .val (.ref b25), .val (.int (1 : Int32))] [(.int (1 : Int32))]))
          exact GoesW.retN X29 hS (by exact f181) hx Bd.returns rfl (hb hby at_250) hlk (by exact ⟨rfl, N29⟩) (by decide) (by decide)
        · skip
          exact absurd (⟨(own_same _ _ _ _ _ _ _ _ (own_and3 p0) (own_and3 p1)).mpr hs1, (own_same _ _ _ _ _ _ _ _ (own_and3 p2) (own_and3 p3)).mpr hs2⟩ : _ ∧ _) hd
      · skip
        show GoesW p e below s _ _ _ (T28.setTop (mkF m 182 #[.val (.int p0), .val (.int p1), .val (.int p2), .val (.int p3), .val (.int p4), .val (.ref r4), .val (.ref r11), .val (.ref r15), .val (.ref r22), .val (.ref b23), .val (.ref b25), .val (.int (p4 &&& (3 : Int32))), .val (.ref b25), .unset] [(.int (0 : Int32))]))
        refine GoesW.by (fun t k => XS.ifYes X28.here hx rfl (pc0 := 182) (pc' := 189) rfl (hb hby at_182) rfl ((if0 _ _).trans (teq (by decide)).1) (by decide) (by decide) k) ?_
        show GoesW p e below s _ _ _ (T28.setTop (mkF m 189 #[.val (.int p0), .val (.int p1), .val (.int p2), .val (.int p3), .val (.int p4), .val (.ref r4), .val (.ref r11), .val (.ref r15), .val (.ref r22), .val (.ref b23), .val (.ref b25), .val (.int (p4 &&& (3 : Int32))), .val (.ref b25), .unset] []))
        refine GoesW.by (fun t k => XS.iconst X28.here hx rfl (hb hby at_189) k) ?_
        show GoesW p e below s _ _ _ (T28.setTop (mkF m 190 #[.val (.int p0), .val (.int p1), .val (.int p2), .val (.int p3), .val (.int p4), .val (.ref r4), .val (.ref r11), .val (.ref r15), .val (.ref r22), .val (.ref b23), .val (.ref b25), .val (.int (p4 &&& (3 : Int32))), .val (.ref b25), .unset] [(.int (0 : Int32))]))
        refine GoesW.by (fun t k => XS.istore X28.here hx rfl (hb hby at_190) rfl (l' := #[.val (.int p0), .val (.int p1), .val (.int p2), .val (.int p3), .val (.int p4), .val (.ref r4), .val (.ref r11), .val (.ref r15), .val (.ref r22), .val (.ref b23), .val (.ref b25), .val (.int (p4 &&& (3 : Int32))), .val (.ref b25), .val (.int (0 : Int32))]) rfl k) ?_
        show GoesW p e below s _ _ _ (T28.setTop (mkF m 192 #[.val (.int p0), .val (.int p1), .val (.int p2), .val (.int p3), .val (.int p4), .val (.ref r4), .val (.ref r11), .val (.ref r15), .val (.ref r22), .val (.ref b23), .val (.ref b25), .val (.int (p4 &&& (3 : Int32))), .val (.ref b25), .val (.int (0 : Int32))] []))
        refine GoesW.by (fun t k => XS.goto X28.here hx rfl (pc0 := 192) (pc' := 233) rfl (hb hby at_192) (by decide) (by decide) k) ?_
        show GoesW p e below s _ _ _ (T28.setTop (mkF m 233 #[.val (.int p0), .val (.int p1), .val (.int p2), .val (.int p3), .val (.int p4), .val (.ref r4), .val (.ref r11), .val (.ref r15), .val (.ref r22), .val (.ref b23), .val (.ref b25), .val (.int (p4 &&& (3 : Int32))), .val (.ref b25), .val (.int (0 : Int32))] []))
        refine GoesW.by (fun t k => XS.aload X28.here hx rfl (hb hby at_233) rfl rfl k) ?_
        show GoesW p e below s _ _ _ (T28.setTop (mkF m 235 #[.val (.int p0), .val (.int p1), .val (.int p2), .val (.int p3), .val (.int p4), .val (.ref r4), .val (.ref r11), .val (.ref r15), .val (.ref r22), .val (.ref b23), .val (.ref b25), .val (.int (p4 &&& (3 : Int32))), .val (.ref b25), .val (.int (0 : Int32))] [(.ref b23)]))
        refine GoesW.by (fun t k => XS.aload X28.here hx rfl (hb hby at_235) rfl rfl k) ?_
        show GoesW p e below s _ _ _ (T28.setTop (mkF m 237 #[.val (.int p0), .val (.int p1), .val (.int p2), .val (.int p3), .val (.int p4), .val (.ref r4), .val (.ref r11), .val (.ref r15), .val (.ref r22), .val (.ref b23), .val (.ref b25), .val (.int (p4 &&& (3 : Int32))), .val (.ref b25), .val (.int (0 : Int32))] [(.ref b25), (.ref b23)]))
        obtain ⟨cq30, kq30, q30a, q30b, q30c⟩ := isOf hZ rfl (f170)
        obtain ⟨_, _, ⟨T30, L30, k30, n30⟩, -, X30, ⟨Lc30, hQ30, l30, y30, z30⟩, st30⟩ := X28.virtualBack hx (y := (⟨"com/example/diogenes/diogenes/format/Topic", "equals", "(Ljava/lang/Object;)Z"⟩ : MethodName)) (z := (⟨"com/example/diogenes/diogenes/format/Topic", "equals", "(Ljava/lang/Object;)Z"⟩ : MethodName)) hown (mvT hZ (hw _ (List.mem_of_getElem? (i := 59) rfl))) (mvT hZ (hw _ (List.mem_of_getElem? (i := 60) rfl))) (notFace_of_selects (args := #[]) (mvT hZ (hw _ (List.mem_of_getElem? (i := 62) rfl)))) (mvT hZ (hw _ (List.mem_of_getElem? (i := 62) rfl))) (mvT hZ (hw _ (List.mem_of_getElem? (i := 61) rfl))) (by decide) (backOf (W := 0) (rm12 l Z a0 hw [] b23 b25 r4 r11 r15 r22 _ _ _ _ z _ n0 f168 OLD_KK28 SC hz f170 f171 f172 f173 f178 f179 f174 f175 f176 f177) hZ (hw _ (List.mem_of_getElem? (i := 63) rfl)) (hw _ (List.mem_of_getElem? (i := 42) rfl)) (by decide) (by decide)) q30a q30c (g := (mkF m 237 #[.val (.int p0), .val (.int p1), .val (.int p2), .val (.int p3), .val (.int p4), .val (.ref r4), .val (.ref r11), .val (.ref r15), .val (.ref r22), .val (.ref b23), .val (.ref b25), .val (.int (p4 &&& (3 : Int32))), .val (.ref b25), .val (.int (0 : Int32))] [(.ref b25), (.ref b23)])) rfl (by rw [hml]; rfl) (Steps.refl _) (argsL := [(.ref b25)]) (rest := []) (lenOf pd_12 rfl) rfl (by show 2 * 0 + _ ≤ _; exact Nat.le_of_eq rfl) (hb hby at_237) (fun _ _ => ⟨rfl, rfl, (by decide : 26 + 0 ≤ _), (by decide : 52 + 0 ≤ _)⟩)
        dsimp only [Pt.U, Pt.locs, Pt.cells, Pt.slots] at X30 l30 y30 z30 st30 hQ30
        rw [l30, y30, z30] at X30
        obtain ⟨rr30, rfl, N30q, hh30, hr30⟩ := hQ30
        have N30 := Fr.app N28 N30q
        refine GoesW.by (fun t k => st30.trans k) ?_
        show GoesW p e below s _ _ _ (T30.setTop (mkF m 240 #[.val (.int p0), .val (.int p1), .val (.int p2), .val (.int p3), .val (.int p4), .val (.ref r4), .val (.ref r11), .val (.ref r15), .val (.ref r22), .val (.ref b23), .val (.ref b25), .val (.int (p4 &&& (3 : Int32))), .val (.ref b25), .val (.int (0 : Int32))] [(.int rr30)]))
        have KK30 : Keep (T28.heap) T30.heap [] := by rw [hh30]; exact Keep.refl _ _
        have OLD_KK30 := OLD_KK28.keep KK30 all0
        have f192 := Nat.le_trans f168 KK30.1
        have f193 := Nat.le_trans f169 KK30.1
        have f194 := f170.keep KK30
        have f195 := f171.keep KK30 nin0
        have f196 := f172.keep KK30 nin0
        have f197 := f173.keep KK30
        have f198 := f174.keep KK30 nin0
        have f199 := f175.keep KK30 nin0
        have f200 := f176.keep KK30 nin0
        have f201 := f177.keep KK30 nin0
        have f202 := f178.keep KK30 nin0
        have f203 := f179.keep KK30 nin0
        rcases hr30 with ⟨rfl, hd⟩ | ⟨rfl, hd⟩
        · skip
          exact absurd ((own_same _ _ _ _ _ _ _ _ (own_and3 p2) (own_and3 p3)).mp hd.2) hs2
        · skip
          show GoesW p e below s _ _ _ (T30.setTop (mkF m 240 #[.val (.int p0), .val (.int p1), .val (.int p2), .val (.int p3), .val (.int p4), .val (.ref r4), .val (.ref r11), .val (.ref r15), .val (.ref r22), .val (.ref b23), .val (.ref b25), .val (.int (p4 &&& (3 : Int32))), .val (.ref b25), .val (.int (0 : Int32))] [(.int (0 : Int32))]))
          refine GoesW.by (fun t k => XS.iload X30.here hx rfl (hb hby at_240) rfl k) ?_
          show GoesW p e below s _ _ _ (T30.setTop (mkF m 242 #[.val (.int p0), .val (.int p1), .val (.int p2), .val (.int p3), .val (.int p4), .val (.ref r4), .val (.ref r11), .val (.ref r15), .val (.ref r22), .val (.ref b23), .val (.ref b25), .val (.int (p4 &&& (3 : Int32))), .val (.ref b25), .val (.int (0 : Int32))] [(.int (0 : Int32)), (.int (0 : Int32))]))
          refine GoesW.by (fun t k => XS.icmpNo X30.here hx rfl (hb hby at_242) rfl (teq (rfl)).2 k) ?_
          show GoesW p e below s _ _ _ (T30.setTop (mkF m 245 #[.val (.int p0), .val (.int p1), .val (.int p2), .val (.int p3), .val (.int p4), .val (.ref r4), .val (.ref r11), .val (.ref r15), .val (.ref r22), .val (.ref b23), .val (.ref b25), .val (.int (p4 &&& (3 : Int32))), .val (.ref b25), .val (.int (0 : Int32))] []))
          refine GoesW.by (fun t k => XS.iconst X30.here hx rfl (hb hby at_245) k) ?_
          show GoesW p e below s _ _ _ (T30.setTop (mkF m 246 #[.val (.int p0), .val (.int p1), .val (.int p2), .val (.int p3), .val (.int p4), .val (.ref r4), .val (.ref r11), .val (.ref r15), .val (.ref r22), .val (.ref b23), .val (.ref b25), .val (.int (p4 &&& (3 : Int32))), .val (.ref b25), .val (.int (0 : Int32))] [(.int (1 : Int32))]))
          refine GoesW.by (fun t k => XS.goto X30.here hx rfl (pc0 := 246) (pc' := 250) rfl (hb hby at_246) (by decide) (by decide) k) ?_
          show GoesW p e below s _ _ _ (T30.setTop (mkF m 250 #[.val (.int p0), .val (.int p1), .val (.int p2), .val (.int p3), .val (.int p4), .val (.ref r4), .val (.ref r11), .val (.ref r15), .val (.ref r22), .val (.ref b23), .val (.ref b25), .val (.int (p4 &&& (3 : Int32))), .val (.ref b25), .val (.int (0 : Int32))] [(.int (1 : Int32))]))
          exact GoesW.retN X30 hS (by exact f193) hx Bd.returns rfl (hb hby at_250) hlk (by exact ⟨rfl, N30⟩) (by decide) (by decide)
    · skip
      show GoesW p e below s _ _ _ (T27.setTop (mkF m 174 #[.val (.int p0), .val (.int p1), .val (.int p2), .val (.int p3), .val (.int p4), .val (.ref r4), .val (.ref r11), .val (.ref r15), .val (.ref r22), .val (.ref b23), .val (.ref b25), .val (.int (p4 &&& (3 : Int32))), .val (.ref b25), .unset] [(.int (0 : Int32))]))
      refine GoesW.by (fun t k => XS.ifYes X27.here hx rfl (pc0 := 174) (pc' := 189) rfl (hb hby at_174) rfl ((if0 _ _).trans (teq (by decide)).1) (by decide) (by decide) k) ?_
      show GoesW p e below s _ _ _ (T27.setTop (mkF m 189 #[.val (.int p0), .val (.int p1), .val (.int p2), .val (.int p3), .val (.int p4), .val (.ref r4), .val (.ref r11), .val (.ref r15), .val (.ref r22), .val (.ref b23), .val (.ref b25), .val (.int (p4 &&& (3 : Int32))), .val (.ref b25), .unset] []))
      refine GoesW.by (fun t k => XS.iconst X27.here hx rfl (hb hby at_189) k) ?_
      show GoesW p e below s _ _ _ (T27.setTop (mkF m 190 #[.val (.int p0), .val (.int p1), .val (.int p2), .val (.int p3), .val (.int p4), .val (.ref r4), .val (.ref r11), .val (.ref r15), .val (.ref r22), .val (.ref b23), .val (.ref b25), .val (.int (p4 &&& (3 : Int32))), .val (.ref b25), .unset] [(.int (0 : Int32))]))
      refine GoesW.by (fun t k => XS.istore X27.here hx rfl (hb hby at_190) rfl (l' := #[.val (.int p0), .val (.int p1), .val (.int p2), .val (.int p3), .val (.int p4), .val (.ref r4), .val (.ref r11), .val (.ref r15), .val (.ref r22), .val (.ref b23), .val (.ref b25), .val (.int (p4 &&& (3 : Int32))), .val (.ref b25), .val (.int (0 : Int32))]) rfl k) ?_
      show GoesW p e below s _ _ _ (T27.setTop (mkF m 192 #[.val (.int p0), .val (.int p1), .val (.int p2), .val (.int p3), .val (.int p4), .val (.ref r4), .val (.ref r11), .val (.ref r15), .val (.ref r22), .val (.ref b23), .val (.ref b25), .val (.int (p4 &&& (3 : Int32))), .val (.ref b25), .val (.int (0 : Int32))] []))
      refine GoesW.by (fun t k => XS.goto X27.here hx rfl (pc0 := 192) (pc' := 233) rfl (hb hby at_192) (by decide) (by decide) k) ?_
      show GoesW p e below s _ _ _ (T27.setTop (mkF m 233 #[.val (.int p0), .val (.int p1), .val (.int p2), .val (.int p3), .val (.int p4), .val (.ref r4), .val (.ref r11), .val (.ref r15), .val (.ref r22), .val (.ref b23), .val (.ref b25), .val (.int (p4 &&& (3 : Int32))), .val (.ref b25), .val (.int (0 : Int32))] []))
      refine GoesW.by (fun t k => XS.aload X27.here hx rfl (hb hby at_233) rfl rfl k) ?_
      show GoesW p e below s _ _ _ (T27.setTop (mkF m 235 #[.val (.int p0), .val (.int p1), .val (.int p2), .val (.int p3), .val (.int p4), .val (.ref r4), .val (.ref r11), .val (.ref r15), .val (.ref r22), .val (.ref b23), .val (.ref b25), .val (.int (p4 &&& (3 : Int32))), .val (.ref b25), .val (.int (0 : Int32))] [(.ref b23)]))
      refine GoesW.by (fun t k => XS.aload X27.here hx rfl (hb hby at_235) rfl rfl k) ?_
      show GoesW p e below s _ _ _ (T27.setTop (mkF m 237 #[.val (.int p0), .val (.int p1), .val (.int p2), .val (.int p3), .val (.int p4), .val (.ref r4), .val (.ref r11), .val (.ref r15), .val (.ref r22), .val (.ref b23), .val (.ref b25), .val (.int (p4 &&& (3 : Int32))), .val (.ref b25), .val (.int (0 : Int32))] [(.ref b25), (.ref b23)]))
      obtain ⟨cq31, kq31, q31a, q31b, q31c⟩ := isOf hZ rfl (f158)
      obtain ⟨_, _, ⟨T31, L31, k31, n31⟩, -, X31, ⟨Lc31, hQ31, l31, y31, z31⟩, st31⟩ := X27.virtualBack hx (y := (⟨"com/example/diogenes/diogenes/format/Topic", "equals", "(Ljava/lang/Object;)Z"⟩ : MethodName)) (z := (⟨"com/example/diogenes/diogenes/format/Topic", "equals", "(Ljava/lang/Object;)Z"⟩ : MethodName)) hown (mvT hZ (hw _ (List.mem_of_getElem? (i := 59) rfl))) (mvT hZ (hw _ (List.mem_of_getElem? (i := 60) rfl))) (notFace_of_selects (args := #[]) (mvT hZ (hw _ (List.mem_of_getElem? (i := 62) rfl)))) (mvT hZ (hw _ (List.mem_of_getElem? (i := 62) rfl))) (mvT hZ (hw _ (List.mem_of_getElem? (i := 61) rfl))) (by decide) (backOf (W := 0) (rm12 l Z a0 hw [] b23 b25 r4 r11 r15 r22 _ _ _ _ z _ n0 f156 OLD_KK27 SC hz f158 f159 f160 f161 f166 f167 f162 f163 f164 f165) hZ (hw _ (List.mem_of_getElem? (i := 63) rfl)) (hw _ (List.mem_of_getElem? (i := 42) rfl)) (by decide) (by decide)) q31a q31c (g := (mkF m 237 #[.val (.int p0), .val (.int p1), .val (.int p2), .val (.int p3), .val (.int p4), .val (.ref r4), .val (.ref r11), .val (.ref r15), .val (.ref r22), .val (.ref b23), .val (.ref b25), .val (.int (p4 &&& (3 : Int32))), .val (.ref b25), .val (.int (0 : Int32))] [(.ref b25), (.ref b23)])) rfl (by rw [hml]; rfl) (Steps.refl _) (argsL := [(.ref b25)]) (rest := []) (lenOf pd_12 rfl) rfl (by show 2 * 0 + _ ≤ _; exact Nat.le_of_eq rfl) (hb hby at_237) (fun _ _ => ⟨rfl, rfl, (by decide : 26 + 0 ≤ _), (by decide : 52 + 0 ≤ _)⟩)
      dsimp only [Pt.U, Pt.locs, Pt.cells, Pt.slots] at X31 l31 y31 z31 st31 hQ31
      rw [l31, y31, z31] at X31
      obtain ⟨rr31, rfl, N31q, hh31, hr31⟩ := hQ31
      have N31 := Fr.app N27 N31q
      refine GoesW.by (fun t k => st31.trans k) ?_
      show GoesW p e below s _ _ _ (T31.setTop (mkF m 240 #[.val (.int p0), .val (.int p1), .val (.int p2), .val (.int p3), .val (.int p4), .val (.ref r4), .val (.ref r11), .val (.ref r15), .val (.ref r22), .val (.ref b23), .val (.ref b25), .val (.int (p4 &&& (3 : Int32))), .val (.ref b25), .val (.int (0 : Int32))] [(.int rr31)]))
      have KK31 : Keep (T27.heap) T31.heap [] := by rw [hh31]; exact Keep.refl _ _
      have OLD_KK31 := OLD_KK27.keep KK31 all0
      have f204 := Nat.le_trans f156 KK31.1
      have f205 := Nat.le_trans f157 KK31.1
      have f206 := f158.keep KK31
      have f207 := f159.keep KK31 nin0
      have f208 := f160.keep KK31 nin0
      have f209 := f161.keep KK31
      have f210 := f162.keep KK31 nin0
      have f211 := f163.keep KK31 nin0
      have f212 := f164.keep KK31 nin0
      have f213 := f165.keep KK31 nin0
      have f214 := f166.keep KK31 nin0
      have f215 := f167.keep KK31 nin0
      rcases hr31 with ⟨rfl, hd⟩ | ⟨rfl, hd⟩
      · skip
        exact absurd ((own_same _ _ _ _ _ _ _ _ (own_and3 p0) (own_and3 p1)).mp hd.1) hs1
      · skip
        show GoesW p e below s _ _ _ (T31.setTop (mkF m 240 #[.val (.int p0), .val (.int p1), .val (.int p2), .val (.int p3), .val (.int p4), .val (.ref r4), .val (.ref r11), .val (.ref r15), .val (.ref r22), .val (.ref b23), .val (.ref b25), .val (.int (p4 &&& (3 : Int32))), .val (.ref b25), .val (.int (0 : Int32))] [(.int (0 : Int32))]))
        refine GoesW.by (fun t k => XS.iload X31.here hx rfl (hb hby at_240) rfl k) ?_
        show GoesW p e below s _ _ _ (T31.setTop (mkF m 242 #[.val (.int p0), .val (.int p1), .val (.int p2), .val (.int p3), .val (.int p4), .val (.ref r4), .val (.ref r11), .val (.ref r15), .val (.ref r22), .val (.ref b23), .val (.ref b25), .val (.int (p4 &&& (3 : Int32))), .val (.ref b25), .val (.int (0 : Int32))] [(.int (0 : Int32)), (.int (0 : Int32))]))
        refine GoesW.by (fun t k => XS.icmpNo X31.here hx rfl (hb hby at_242) rfl (teq (rfl)).2 k) ?_
        show GoesW p e below s _ _ _ (T31.setTop (mkF m 245 #[.val (.int p0), .val (.int p1), .val (.int p2), .val (.int p3), .val (.int p4), .val (.ref r4), .val (.ref r11), .val (.ref r15), .val (.ref r22), .val (.ref b23), .val (.ref b25), .val (.int (p4 &&& (3 : Int32))), .val (.ref b25), .val (.int (0 : Int32))] []))
        refine GoesW.by (fun t k => XS.iconst X31.here hx rfl (hb hby at_245) k) ?_
        show GoesW p e below s _ _ _ (T31.setTop (mkF m 246 #[.val (.int p0), .val (.int p1), .val (.int p2), .val (.int p3), .val (.int p4), .val (.ref r4), .val (.ref r11), .val (.ref r15), .val (.ref r22), .val (.ref b23), .val (.ref b25), .val (.int (p4 &&& (3 : Int32))), .val (.ref b25), .val (.int (0 : Int32))] [(.int (1 : Int32))]))
        refine GoesW.by (fun t k => XS.goto X31.here hx rfl (pc0 := 246) (pc' := 250) rfl (hb hby at_246) (by decide) (by decide) k) ?_
        show GoesW p e below s _ _ _ (T31.setTop (mkF m 250 #[.val (.int p0), .val (.int p1), .val (.int p2), .val (.int p3), .val (.int p4), .val (.ref r4), .val (.ref r11), .val (.ref r15), .val (.ref r22), .val (.ref b23), .val (.ref b25), .val (.int (p4 &&& (3 : Int32))), .val (.ref b25), .val (.int (0 : Int32))] [(.int (1 : Int32))]))
        exact GoesW.retN X31 hS (by exact f205) hx Bd.returns rfl (hb hby at_250) hlk (by exact ⟨rfl, N31⟩) (by decide) (by decide)
  · skip
    refine GoesW.by (fun t k => XS.ifYes X26.here hx rfl (pc0 := 162) (pc' := 195) rfl (hb hby at_162) rfl ((if0 _ _).trans (feq (hm0)).2) (by decide) (by decide) k) ?_
    show GoesW p e below s _ _ _ (T26.setTop (mkF m 195 #[.val (.int p0), .val (.int p1), .val (.int p2), .val (.int p3), .val (.int p4), .val (.ref r4), .val (.ref r11), .val (.ref r15), .val (.ref r22), .val (.ref b23), .val (.ref b25), .val (.int (p4 &&& (3 : Int32))), .unset, .unset] []))
    refine GoesW.by (fun t k => XS.iload X26.here hx rfl (hb hby at_195) rfl k) ?_
    show GoesW p e below s _ _ _ (T26.setTop (mkF m 197 #[.val (.int p0), .val (.int p1), .val (.int p2), .val (.int p3), .val (.int p4), .val (.ref r4), .val (.ref r11), .val (.ref r15), .val (.ref r22), .val (.ref b23), .val (.ref b25), .val (.int (p4 &&& (3 : Int32))), .unset, .unset] [(.int (p4 &&& (3 : Int32)))]))
    refine GoesW.by (fun t k => XS.iconst X26.here hx rfl (hb hby at_197) k) ?_
    show GoesW p e below s _ _ _ (T26.setTop (mkF m 198 #[.val (.int p0), .val (.int p1), .val (.int p2), .val (.int p3), .val (.int p4), .val (.ref r4), .val (.ref r11), .val (.ref r15), .val (.ref r22), .val (.ref b23), .val (.ref b25), .val (.int (p4 &&& (3 : Int32))), .unset, .unset] [(.int (1 : Int32)), (.int (p4 &&& (3 : Int32)))]))
    by_cases hm1 : (p4 &&& (3 : Int32)) = (1 : Int32)
    · skip
      refine GoesW.by (fun t k => XS.icmpNo X26.here hx rfl (hb hby at_198) rfl (teq (hm1)).2 k) ?_
      show GoesW p e below s _ _ _ (T26.setTop (mkF m 201 #[.val (.int p0), .val (.int p1), .val (.int p2), .val (.int p3), .val (.int p4), .val (.ref r4), .val (.ref r11), .val (.ref r15), .val (.ref r22), .val (.ref b23), .val (.ref b25), .val (.int (p4 &&& (3 : Int32))), .unset, .unset] []))
      refine GoesW.by (fun t k => XS.aconstNull X26.here hx rfl (hb hby at_201) k) ?_
      show GoesW p e below s _ _ _ (T26.setTop (mkF m 202 #[.val (.int p0), .val (.int p1), .val (.int p2), .val (.int p3), .val (.int p4), .val (.ref r4), .val (.ref r11), .val (.ref r15), .val (.ref r22), .val (.ref b23), .val (.ref b25), .val (.int (p4 &&& (3 : Int32))), .unset, .unset] [.null]))
      refine GoesW.by (fun t k => XS.astore X26.here hx rfl (hb hby at_202) rfl rfl (l' := #[.val (.int p0), .val (.int p1), .val (.int p2), .val (.int p3), .val (.int p4), .val (.ref r4), .val (.ref r11), .val (.ref r15), .val (.ref r22), .val (.ref b23), .val (.ref b25), .val (.int (p4 &&& (3 : Int32))), .val .null, .unset]) rfl k) ?_
      show GoesW p e below s _ _ _ (T26.setTop (mkF m 204 #[.val (.int p0), .val (.int p1), .val (.int p2), .val (.int p3), .val (.int p4), .val (.ref r4), .val (.ref r11), .val (.ref r15), .val (.ref r22), .val (.ref b23), .val (.ref b25), .val (.int (p4 &&& (3 : Int32))), .val .null, .unset] []))
      refine GoesW.by (fun t k => XS.iconst X26.here hx rfl (hb hby at_204) k) ?_
      show GoesW p e below s _ _ _ (T26.setTop (mkF m 205 #[.val (.int p0), .val (.int p1), .val (.int p2), .val (.int p3), .val (.int p4), .val (.ref r4), .val (.ref r11), .val (.ref r15), .val (.ref r22), .val (.ref b23), .val (.ref b25), .val (.int (p4 &&& (3 : Int32))), .val .null, .unset] [(.int (0 : Int32))]))
      refine GoesW.by (fun t k => XS.istore X26.here hx rfl (hb hby at_205) rfl (l' := #[.val (.int p0), .val (.int p1), .val (.int p2), .val (.int p3), .val (.int p4), .val (.ref r4), .val (.ref r11), .val (.ref r15), .val (.ref r22), .val (.ref b23), .val (.ref b25), .val (.int (p4 &&& (3 : Int32))), .val .null, .val (.int (0 : Int32))]) rfl k) ?_
      show GoesW p e below s _ _ _ (T26.setTop (mkF m 207 #[.val (.int p0), .val (.int p1), .val (.int p2), .val (.int p3), .val (.int p4), .val (.ref r4), .val (.ref r11), .val (.ref r15), .val (.ref r22), .val (.ref b23), .val (.ref b25), .val (.int (p4 &&& (3 : Int32))), .val .null, .val (.int (0 : Int32))] []))
      refine GoesW.by (fun t k => XS.goto X26.here hx rfl (pc0 := 207) (pc' := 233) rfl (hb hby at_207) (by decide) (by decide) k) ?_
      show GoesW p e below s _ _ _ (T26.setTop (mkF m 233 #[.val (.int p0), .val (.int p1), .val (.int p2), .val (.int p3), .val (.int p4), .val (.ref r4), .val (.ref r11), .val (.ref r15), .val (.ref r22), .val (.ref b23), .val (.ref b25), .val (.int (p4 &&& (3 : Int32))), .val .null, .val (.int (0 : Int32))] []))
      refine GoesW.by (fun t k => XS.aload X26.here hx rfl (hb hby at_233) rfl rfl k) ?_
      show GoesW p e below s _ _ _ (T26.setTop (mkF m 235 #[.val (.int p0), .val (.int p1), .val (.int p2), .val (.int p3), .val (.int p4), .val (.ref r4), .val (.ref r11), .val (.ref r15), .val (.ref r22), .val (.ref b23), .val (.ref b25), .val (.int (p4 &&& (3 : Int32))), .val .null, .val (.int (0 : Int32))] [(.ref b23)]))
      refine GoesW.by (fun t k => XS.aload X26.here hx rfl (hb hby at_235) rfl rfl k) ?_
      show GoesW p e below s _ _ _ (T26.setTop (mkF m 237 #[.val (.int p0), .val (.int p1), .val (.int p2), .val (.int p3), .val (.int p4), .val (.ref r4), .val (.ref r11), .val (.ref r15), .val (.ref r22), .val (.ref b23), .val (.ref b25), .val (.int (p4 &&& (3 : Int32))), .val .null, .val (.int (0 : Int32))] [.null, (.ref b23)]))
      obtain ⟨cq32, kq32, q32a, q32b, q32c⟩ := isOf hZ rfl (f152)
      obtain ⟨_, _, ⟨T32, L32, k32, n32⟩, -, X32, ⟨Lc32, hQ32, l32, y32, z32⟩, st32⟩ := X26.virtualBack hx (y := (⟨"com/example/diogenes/diogenes/format/Topic", "equals", "(Ljava/lang/Object;)Z"⟩ : MethodName)) (z := (⟨"com/example/diogenes/diogenes/format/Topic", "equals", "(Ljava/lang/Object;)Z"⟩ : MethodName)) hown (mvT hZ (hw _ (List.mem_of_getElem? (i := 59) rfl))) (mvT hZ (hw _ (List.mem_of_getElem? (i := 60) rfl))) (notFace_of_selects (args := #[]) (mvT hZ (hw _ (List.mem_of_getElem? (i := 62) rfl)))) (mvT hZ (hw _ (List.mem_of_getElem? (i := 62) rfl))) (mvT hZ (hw _ (List.mem_of_getElem? (i := 61) rfl))) (by decide) (backOf (W := 0) (rm12n l Z a0 hw [] b23 _ n0 f150) hZ (hw _ (List.mem_of_getElem? (i := 63) rfl)) (hw _ (List.mem_of_getElem? (i := 42) rfl)) (by decide) (by decide)) q32a q32c (g := (mkF m 237 #[.val (.int p0), .val (.int p1), .val (.int p2), .val (.int p3), .val (.int p4), .val (.ref r4), .val (.ref r11), .val (.ref r15), .val (.ref r22), .val (.ref b23), .val (.ref b25), .val (.int (p4 &&& (3 : Int32))), .val .null, .val (.int (0 : Int32))] [.null, (.ref b23)])) rfl (by rw [hml]; rfl) (Steps.refl _) (argsL := [.null]) (rest := []) (lenOf pd_12 rfl) rfl (by show 2 * 0 + _ ≤ _; exact Nat.le_of_eq rfl) (hb hby at_237) (fun _ _ => ⟨rfl, rfl, (by decide : 26 + 0 ≤ _), (by decide : 52 + 0 ≤ _)⟩)
      dsimp only [Pt.U, Pt.locs, Pt.cells, Pt.slots] at X32 l32 y32 z32 st32 hQ32
      rw [l32, y32, z32] at X32
      obtain ⟨rfl, N32q, hh32⟩ := hQ32
      have N32 := Fr.app N26 N32q
      refine GoesW.by (fun t k => st32.trans k) ?_
      show GoesW p e below s _ _ _ (T32.setTop (mkF m 240 #[.val (.int p0), .val (.int p1), .val (.int p2), .val (.int p3), .val (.int p4), .val (.ref r4), .val (.ref r11), .val (.ref r15), .val (.ref r22), .val (.ref b23), .val (.ref b25), .val (.int (p4 &&& (3 : Int32))), .val .null, .val (.int (0 : Int32))] [(.int (0 : Int32))]))
      have KK32 : Keep (T26.heap) T32.heap [] := by rw [hh32]; exact Keep.refl _ _
      have OLD_KK32 := OLD_K26.keep KK32 all0
      have f216 := Nat.le_trans f150 KK32.1
      have f217 := Nat.le_trans f151 KK32.1
      have f218 := f152.keep KK32
      have f219 := f153.keep KK32 nin0
      have f220 := f154.keep KK32 nin0
      have f221 := E26.keep KK32
      have f222 := SK26_r4.keep KK32 nin0
      have f223 := SK26_r11.keep KK32 nin0
      have f224 := SK26_r15.keep KK32 nin0
      have f225 := SK26_r22.keep KK32 nin0
      have f226 := F26.keep KK32 nin0
      have f227 := G26.keep KK32 nin0
      refine GoesW.by (fun t k => XS.iload X32.here hx rfl (hb hby at_240) rfl k) ?_
      show GoesW p e below s _ _ _ (T32.setTop (mkF m 242 #[.val (.int p0), .val (.int p1), .val (.int p2), .val (.int p3), .val (.int p4), .val (.ref r4), .val (.ref r11), .val (.ref r15), .val (.ref r22), .val (.ref b23), .val (.ref b25), .val (.int (p4 &&& (3 : Int32))), .val .null, .val (.int (0 : Int32))] [(.int (0 : Int32)), (.int (0 : Int32))]))
      refine GoesW.by (fun t k => XS.icmpNo X32.here hx rfl (hb hby at_242) rfl (teq (rfl)).2 k) ?_
      show GoesW p e below s _ _ _ (T32.setTop (mkF m 245 #[.val (.int p0), .val (.int p1), .val (.int p2), .val (.int p3), .val (.int p4), .val (.ref r4), .val (.ref r11), .val (.ref r15), .val (.ref r22), .val (.ref b23), .val (.ref b25), .val (.int (p4 &&& (3 : Int32))), .val .null, .val (.int (0 : Int32))] []))
      refine GoesW.by (fun t k => XS.iconst X32.here hx rfl (hb hby at_245) k) ?_
      show GoesW p e below s _ _ _ (T32.setTop (mkF m 246 #[.val (.int p0), .val (.int p1), .val (.int p2), .val (.int p3), .val (.int p4), .val (.ref r4), .val (.ref r11), .val (.ref r15), .val (.ref r22), .val (.ref b23), .val (.ref b25), .val (.int (p4 &&& (3 : Int32))), .val .null, .val (.int (0 : Int32))] [(.int (1 : Int32))]))
      refine GoesW.by (fun t k => XS.goto X32.here hx rfl (pc0 := 246) (pc' := 250) rfl (hb hby at_246) (by decide) (by decide) k) ?_
      show GoesW p e below s _ _ _ (T32.setTop (mkF m 250 #[.val (.int p0), .val (.int p1), .val (.int p2), .val (.int p3), .val (.int p4), .val (.ref r4), .val (.ref r11), .val (.ref r15), .val (.ref r22), .val (.ref b23), .val (.ref b25), .val (.int (p4 &&& (3 : Int32))), .val .null, .val (.int (0 : Int32))] [(.int (1 : Int32))]))
      exact GoesW.retN X32 hS (by exact f217) hx Bd.returns rfl (hb hby at_250) hlk (by exact ⟨rfl, N32⟩) (by decide) (by decide)
    · skip
      refine GoesW.by (fun t k => XS.icmpYes X26.here hx rfl (pc0 := 198) (pc' := 210) rfl (hb hby at_198) rfl (feq (hm1)).2 (by decide) (by decide) k) ?_
      show GoesW p e below s _ _ _ (T26.setTop (mkF m 210 #[.val (.int p0), .val (.int p1), .val (.int p2), .val (.int p3), .val (.int p4), .val (.ref r4), .val (.ref r11), .val (.ref r15), .val (.ref r22), .val (.ref b23), .val (.ref b25), .val (.int (p4 &&& (3 : Int32))), .unset, .unset] []))
      refine GoesW.by (fun t k => XS.iload X26.here hx rfl (hb hby at_210) rfl k) ?_
      show GoesW p e below s _ _ _ (T26.setTop (mkF m 212 #[.val (.int p0), .val (.int p1), .val (.int p2), .val (.int p3), .val (.int p4), .val (.ref r4), .val (.ref r11), .val (.ref r15), .val (.ref r22), .val (.ref b23), .val (.ref b25), .val (.int (p4 &&& (3 : Int32))), .unset, .unset] [(.int (p4 &&& (3 : Int32)))]))
      refine GoesW.by (fun t k => XS.iconst X26.here hx rfl (hb hby at_212) k) ?_
      show GoesW p e below s _ _ _ (T26.setTop (mkF m 213 #[.val (.int p0), .val (.int p1), .val (.int p2), .val (.int p3), .val (.int p4), .val (.ref r4), .val (.ref r11), .val (.ref r15), .val (.ref r22), .val (.ref b23), .val (.ref b25), .val (.int (p4 &&& (3 : Int32))), .unset, .unset] [(.int (2 : Int32)), (.int (p4 &&& (3 : Int32)))]))
      by_cases hm2 : (p4 &&& (3 : Int32)) = (2 : Int32)
      · skip
        refine GoesW.by (fun t k => XS.icmpNo X26.here hx rfl (hb hby at_213) rfl (teq (hm2)).2 k) ?_
        show GoesW p e below s _ _ _ (T26.setTop (mkF m 216 #[.val (.int p0), .val (.int p1), .val (.int p2), .val (.int p3), .val (.int p4), .val (.ref r4), .val (.ref r11), .val (.ref r15), .val (.ref r22), .val (.ref b23), .val (.ref b25), .val (.int (p4 &&& (3 : Int32))), .unset, .unset] []))
        refine GoesW.by (fun t k => XS.aload X26.here hx rfl (hb hby at_216) rfl rfl k) ?_
        show GoesW p e below s _ _ _ (T26.setTop (mkF m 218 #[.val (.int p0), .val (.int p1), .val (.int p2), .val (.int p3), .val (.int p4), .val (.ref r4), .val (.ref r11), .val (.ref r15), .val (.ref r22), .val (.ref b23), .val (.ref b25), .val (.int (p4 &&& (3 : Int32))), .unset, .unset] [(.ref r4)]))
        refine GoesW.by (fun t k => XS.astore X26.here hx rfl (hb hby at_218) rfl rfl (l' := #[.val (.int p0), .val (.int p1), .val (.int p2), .val (.int p3), .val (.int p4), .val (.ref r4), .val (.ref r11), .val (.ref r15), .val (.ref r22), .val (.ref b23), .val (.ref b25), .val (.int (p4 &&& (3 : Int32))), .val (.ref r4), .unset]) rfl k) ?_
        show GoesW p e below s _ _ _ (T26.setTop (mkF m 220 #[.val (.int p0), .val (.int p1), .val (.int p2), .val (.int p3), .val (.int p4), .val (.ref r4), .val (.ref r11), .val (.ref r15), .val (.ref r22), .val (.ref b23), .val (.ref b25), .val (.int (p4 &&& (3 : Int32))), .val (.ref r4), .unset] []))
        refine GoesW.by (fun t k => XS.iconst X26.here hx rfl (hb hby at_220) k) ?_
        show GoesW p e below s _ _ _ (T26.setTop (mkF m 221 #[.val (.int p0), .val (.int p1), .val (.int p2), .val (.int p3), .val (.int p4), .val (.ref r4), .val (.ref r11), .val (.ref r15), .val (.ref r22), .val (.ref b23), .val (.ref b25), .val (.int (p4 &&& (3 : Int32))), .val (.ref r4), .unset] [(.int (0 : Int32))]))
        refine GoesW.by (fun t k => XS.istore X26.here hx rfl (hb hby at_221) rfl (l' := #[.val (.int p0), .val (.int p1), .val (.int p2), .val (.int p3), .val (.int p4), .val (.ref r4), .val (.ref r11), .val (.ref r15), .val (.ref r22), .val (.ref b23), .val (.ref b25), .val (.int (p4 &&& (3 : Int32))), .val (.ref r4), .val (.int (0 : Int32))]) rfl k) ?_
        show GoesW p e below s _ _ _ (T26.setTop (mkF m 223 #[.val (.int p0), .val (.int p1), .val (.int p2), .val (.int p3), .val (.int p4), .val (.ref r4), .val (.ref r11), .val (.ref r15), .val (.ref r22), .val (.ref b23), .val (.ref b25), .val (.int (p4 &&& (3 : Int32))), .val (.ref r4), .val (.int (0 : Int32))] []))
        refine GoesW.by (fun t k => XS.goto X26.here hx rfl (pc0 := 223) (pc' := 233) rfl (hb hby at_223) (by decide) (by decide) k) ?_
        show GoesW p e below s _ _ _ (T26.setTop (mkF m 233 #[.val (.int p0), .val (.int p1), .val (.int p2), .val (.int p3), .val (.int p4), .val (.ref r4), .val (.ref r11), .val (.ref r15), .val (.ref r22), .val (.ref b23), .val (.ref b25), .val (.int (p4 &&& (3 : Int32))), .val (.ref r4), .val (.int (0 : Int32))] []))
        refine GoesW.by (fun t k => XS.aload X26.here hx rfl (hb hby at_233) rfl rfl k) ?_
        show GoesW p e below s _ _ _ (T26.setTop (mkF m 235 #[.val (.int p0), .val (.int p1), .val (.int p2), .val (.int p3), .val (.int p4), .val (.ref r4), .val (.ref r11), .val (.ref r15), .val (.ref r22), .val (.ref b23), .val (.ref b25), .val (.int (p4 &&& (3 : Int32))), .val (.ref r4), .val (.int (0 : Int32))] [(.ref b23)]))
        refine GoesW.by (fun t k => XS.aload X26.here hx rfl (hb hby at_235) rfl rfl k) ?_
        show GoesW p e below s _ _ _ (T26.setTop (mkF m 237 #[.val (.int p0), .val (.int p1), .val (.int p2), .val (.int p3), .val (.int p4), .val (.ref r4), .val (.ref r11), .val (.ref r15), .val (.ref r22), .val (.ref b23), .val (.ref b25), .val (.int (p4 &&& (3 : Int32))), .val (.ref r4), .val (.int (0 : Int32))] [(.ref r4), (.ref b23)]))
        obtain ⟨cq33, kq33, q33a, q33b, q33c⟩ := isOf hZ rfl (f152)
        obtain ⟨_, _, ⟨T33, L33, k33, n33⟩, -, X33, ⟨Lc33, hQ33, l33, y33, z33⟩, st33⟩ := X26.virtualBack hx (y := (⟨"com/example/diogenes/diogenes/format/Topic", "equals", "(Ljava/lang/Object;)Z"⟩ : MethodName)) (z := (⟨"com/example/diogenes/diogenes/format/Topic", "equals", "(Ljava/lang/Object;)Z"⟩ : MethodName)) hown (mvT hZ (hw _ (List.mem_of_getElem? (i := 59) rfl))) (mvT hZ (hw _ (List.mem_of_getElem? (i := 60) rfl))) (notFace_of_selects (args := #[]) (mvT hZ (hw _ (List.mem_of_getElem? (i := 62) rfl)))) (mvT hZ (hw _ (List.mem_of_getElem? (i := 62) rfl))) (mvT hZ (hw _ (List.mem_of_getElem? (i := 61) rfl))) (by decide) (backOf (W := 0) (rm12s l Z a0 hw [] b23 r4 _ n0 f150 (SK26_r4).1) hZ (hw _ (List.mem_of_getElem? (i := 63) rfl)) (hw _ (List.mem_of_getElem? (i := 42) rfl)) (by decide) (by decide)) q33a q33c (g := (mkF m 237 #[.val (.int p0), .val (.int p1), .val (.int p2), .val (.int p3), .val (.int p4), .val (.ref r4), .val (.ref r11), .val (.ref r15), .val (.ref r22), .val (.ref b23), .val (.ref b25), .val (.int (p4 &&& (3 : Int32))), .val (.ref r4), .val (.int (0 : Int32))] [(.ref r4), (.ref b23)])) rfl (by rw [hml]; rfl) (Steps.refl _) (argsL := [(.ref r4)]) (rest := []) (lenOf pd_12 rfl) rfl (by show 2 * 0 + _ ≤ _; exact Nat.le_of_eq rfl) (hb hby at_237) (fun _ _ => ⟨rfl, rfl, (by decide : 26 + 0 ≤ _), (by decide : 52 + 0 ≤ _)⟩)
        dsimp only [Pt.U, Pt.locs, Pt.cells, Pt.slots] at X33 l33 y33 z33 st33 hQ33
        rw [l33, y33, z33] at X33
        obtain ⟨rfl, N33q, hh33⟩ := hQ33
        have N33 := Fr.app N26 N33q
        refine GoesW.by (fun t k => st33.trans k) ?_
        show GoesW p e below s _ _ _ (T33.setTop (mkF m 240 #[.val (.int p0), .val (.int p1), .val (.int p2), .val (.int p3), .val (.int p4), .val (.ref r4), .val (.ref r11), .val (.ref r15), .val (.ref r22), .val (.ref b23), .val (.ref b25), .val (.int (p4 &&& (3 : Int32))), .val (.ref r4), .val (.int (0 : Int32))] [(.int (0 : Int32))]))
        have KK33 : Keep (T26.heap) T33.heap [] := by rw [hh33]; exact Keep.refl _ _
        have OLD_KK33 := OLD_K26.keep KK33 all0
        have f228 := Nat.le_trans f150 KK33.1
        have f229 := Nat.le_trans f151 KK33.1
        have f230 := f152.keep KK33
        have f231 := f153.keep KK33 nin0
        have f232 := f154.keep KK33 nin0
        have f233 := E26.keep KK33
        have f234 := SK26_r4.keep KK33 nin0
        have f235 := SK26_r11.keep KK33 nin0
        have f236 := SK26_r15.keep KK33 nin0
        have f237 := SK26_r22.keep KK33 nin0
        have f238 := F26.keep KK33 nin0
        have f239 := G26.keep KK33 nin0
        refine GoesW.by (fun t k => XS.iload X33.here hx rfl (hb hby at_240) rfl k) ?_
        show GoesW p e below s _ _ _ (T33.setTop (mkF m 242 #[.val (.int p0), .val (.int p1), .val (.int p2), .val (.int p3), .val (.int p4), .val (.ref r4), .val (.ref r11), .val (.ref r15), .val (.ref r22), .val (.ref b23), .val (.ref b25), .val (.int (p4 &&& (3 : Int32))), .val (.ref r4), .val (.int (0 : Int32))] [(.int (0 : Int32)), (.int (0 : Int32))]))
        refine GoesW.by (fun t k => XS.icmpNo X33.here hx rfl (hb hby at_242) rfl (teq (rfl)).2 k) ?_
        show GoesW p e below s _ _ _ (T33.setTop (mkF m 245 #[.val (.int p0), .val (.int p1), .val (.int p2), .val (.int p3), .val (.int p4), .val (.ref r4), .val (.ref r11), .val (.ref r15), .val (.ref r22), .val (.ref b23), .val (.ref b25), .val (.int (p4 &&& (3 : Int32))), .val (.ref r4), .val (.int (0 : Int32))] []))
        refine GoesW.by (fun t k => XS.iconst X33.here hx rfl (hb hby at_245) k) ?_
        show GoesW p e below s _ _ _ (T33.setTop (mkF m 246 #[.val (.int p0), .val (.int p1), .val (.int p2), .val (.int p3), .val (.int p4), .val (.ref r4), .val (.ref r11), .val (.ref r15), .val (.ref r22), .val (.ref b23), .val (.ref b25), .val (.int (p4 &&& (3 : Int32))), .val (.ref r4), .val (.int (0 : Int32))] [(.int (1 : Int32))]))
        refine GoesW.by (fun t k => XS.goto X33.here hx rfl (pc0 := 246) (pc' := 250) rfl (hb hby at_246) (by decide) (by decide) k) ?_
        show GoesW p e below s _ _ _ (T33.setTop (mkF m 250 #[.val (.int p0), .val (.int p1), .val (.int p2), .val (.int p3), .val (.int p4), .val (.ref r4), .val (.ref r11), .val (.ref r15), .val (.ref r22), .val (.ref b23), .val (.ref b25), .val (.int (p4 &&& (3 : Int32))), .val (.ref r4), .val (.int (0 : Int32))] [(.int (1 : Int32))]))
        exact GoesW.retN X33 hS (by exact f229) hx Bd.returns rfl (hb hby at_250) hlk (by exact ⟨rfl, N33⟩) (by decide) (by decide)
      · skip
        refine GoesW.by (fun t k => XS.icmpYes X26.here hx rfl (pc0 := 213) (pc' := 226) rfl (hb hby at_213) rfl (feq (hm2)).2 (by decide) (by decide) k) ?_
        show GoesW p e below s _ _ _ (T26.setTop (mkF m 226 #[.val (.int p0), .val (.int p1), .val (.int p2), .val (.int p3), .val (.int p4), .val (.ref r4), .val (.ref r11), .val (.ref r15), .val (.ref r22), .val (.ref b23), .val (.ref b25), .val (.int (p4 &&& (3 : Int32))), .unset, .unset] []))
        refine GoesW.by (fun t k => XS.aload X26.here hx rfl (hb hby at_226) rfl rfl k) ?_
        show GoesW p e below s _ _ _ (T26.setTop (mkF m 228 #[.val (.int p0), .val (.int p1), .val (.int p2), .val (.int p3), .val (.int p4), .val (.ref r4), .val (.ref r11), .val (.ref r15), .val (.ref r22), .val (.ref b23), .val (.ref b25), .val (.int (p4 &&& (3 : Int32))), .unset, .unset] [(.ref b23)]))
        refine GoesW.by (fun t k => XS.astore X26.here hx rfl (hb hby at_228) rfl rfl (l' := #[.val (.int p0), .val (.int p1), .val (.int p2), .val (.int p3), .val (.int p4), .val (.ref r4), .val (.ref r11), .val (.ref r15), .val (.ref r22), .val (.ref b23), .val (.ref b25), .val (.int (p4 &&& (3 : Int32))), .val (.ref b23), .unset]) rfl k) ?_
        show GoesW p e below s _ _ _ (T26.setTop (mkF m 230 #[.val (.int p0), .val (.int p1), .val (.int p2), .val (.int p3), .val (.int p4), .val (.ref r4), .val (.ref r11), .val (.ref r15), .val (.ref r22), .val (.ref b23), .val (.ref b25), .val (.int (p4 &&& (3 : Int32))), .val (.ref b23), .unset] []))
        refine GoesW.by (fun t k => XS.iconst X26.here hx rfl (hb hby at_230) k) ?_
        show GoesW p e below s _ _ _ (T26.setTop (mkF m 231 #[.val (.int p0), .val (.int p1), .val (.int p2), .val (.int p3), .val (.int p4), .val (.ref r4), .val (.ref r11), .val (.ref r15), .val (.ref r22), .val (.ref b23), .val (.ref b25), .val (.int (p4 &&& (3 : Int32))), .val (.ref b23), .unset] [(.int (1 : Int32))]))
        refine GoesW.by (fun t k => XS.istore X26.here hx rfl (hb hby at_231) rfl (l' := #[.val (.int p0), .val (.int p1), .val (.int p2), .val (.int p3), .val (.int p4), .val (.ref r4), .val (.ref r11), .val (.ref r15), .val (.ref r22), .val (.ref b23), .val (.ref b25), .val (.int (p4 &&& (3 : Int32))), .val (.ref b23), .val (.int (1 : Int32))]) rfl k) ?_
        show GoesW p e below s _ _ _ (T26.setTop (mkF m 233 #[.val (.int p0), .val (.int p1), .val (.int p2), .val (.int p3), .val (.int p4), .val (.ref r4), .val (.ref r11), .val (.ref r15), .val (.ref r22), .val (.ref b23), .val (.ref b25), .val (.int (p4 &&& (3 : Int32))), .val (.ref b23), .val (.int (1 : Int32))] []))
        refine GoesW.by (fun t k => XS.aload X26.here hx rfl (hb hby at_233) rfl rfl k) ?_
        show GoesW p e below s _ _ _ (T26.setTop (mkF m 235 #[.val (.int p0), .val (.int p1), .val (.int p2), .val (.int p3), .val (.int p4), .val (.ref r4), .val (.ref r11), .val (.ref r15), .val (.ref r22), .val (.ref b23), .val (.ref b25), .val (.int (p4 &&& (3 : Int32))), .val (.ref b23), .val (.int (1 : Int32))] [(.ref b23)]))
        refine GoesW.by (fun t k => XS.aload X26.here hx rfl (hb hby at_235) rfl rfl k) ?_
        show GoesW p e below s _ _ _ (T26.setTop (mkF m 237 #[.val (.int p0), .val (.int p1), .val (.int p2), .val (.int p3), .val (.int p4), .val (.ref r4), .val (.ref r11), .val (.ref r15), .val (.ref r22), .val (.ref b23), .val (.ref b25), .val (.int (p4 &&& (3 : Int32))), .val (.ref b23), .val (.int (1 : Int32))] [(.ref b23), (.ref b23)]))
        obtain ⟨cq34, kq34, q34a, q34b, q34c⟩ := isOf hZ rfl (f152)
        obtain ⟨_, _, ⟨T34, L34, k34, n34⟩, -, X34, ⟨Lc34, hQ34, l34, y34, z34⟩, st34⟩ := X26.virtualBack hx (y := (⟨"com/example/diogenes/diogenes/format/Topic", "equals", "(Ljava/lang/Object;)Z"⟩ : MethodName)) (z := (⟨"com/example/diogenes/diogenes/format/Topic", "equals", "(Ljava/lang/Object;)Z"⟩ : MethodName)) hown (mvT hZ (hw _ (List.mem_of_getElem? (i := 59) rfl))) (mvT hZ (hw _ (List.mem_of_getElem? (i := 60) rfl))) (notFace_of_selects (args := #[]) (mvT hZ (hw _ (List.mem_of_getElem? (i := 62) rfl)))) (mvT hZ (hw _ (List.mem_of_getElem? (i := 62) rfl))) (mvT hZ (hw _ (List.mem_of_getElem? (i := 61) rfl))) (by decide) (backOf (W := 0) (rm12 l Z a0 hw [] b23 b23 r4 r4 r15 r15 _ _ _ _ z _ n0 f150 OLD_K26 SC hz f152 f153 f154 f152 f153 f154 SK26_r4 SK26_r4 SK26_r15 SK26_r15) hZ (hw _ (List.mem_of_getElem? (i := 63) rfl)) (hw _ (List.mem_of_getElem? (i := 42) rfl)) (by decide) (by decide)) q34a q34c (g := (mkF m 237 #[.val (.int p0), .val (.int p1), .val (.int p2), .val (.int p3), .val (.int p4), .val (.ref r4), .val (.ref r11), .val (.ref r15), .val (.ref r22), .val (.ref b23), .val (.ref b25), .val (.int (p4 &&& (3 : Int32))), .val (.ref b23), .val (.int (1 : Int32))] [(.ref b23), (.ref b23)])) rfl (by rw [hml]; rfl) (Steps.refl _) (argsL := [(.ref b23)]) (rest := []) (lenOf pd_12 rfl) rfl (by show 2 * 0 + _ ≤ _; exact Nat.le_of_eq rfl) (hb hby at_237) (fun _ _ => ⟨rfl, rfl, (by decide : 26 + 0 ≤ _), (by decide : 52 + 0 ≤ _)⟩)
        dsimp only [Pt.U, Pt.locs, Pt.cells, Pt.slots] at X34 l34 y34 z34 st34 hQ34
        rw [l34, y34, z34] at X34
        obtain ⟨rr34, rfl, N34q, hh34, hr34⟩ := hQ34
        have N34 := Fr.app N26 N34q
        refine GoesW.by (fun t k => st34.trans k) ?_
        show GoesW p e below s _ _ _ (T34.setTop (mkF m 240 #[.val (.int p0), .val (.int p1), .val (.int p2), .val (.int p3), .val (.int p4), .val (.ref r4), .val (.ref r11), .val (.ref r15), .val (.ref r22), .val (.ref b23), .val (.ref b25), .val (.int (p4 &&& (3 : Int32))), .val (.ref b23), .val (.int (1 : Int32))] [(.int rr34)]))
        have KK34 : Keep (T26.heap) T34.heap [] := by rw [hh34]; exact Keep.refl _ _
        have OLD_KK34 := OLD_K26.keep KK34 all0
        have f240 := Nat.le_trans f150 KK34.1
        have f241 := Nat.le_trans f151 KK34.1
        have f242 := f152.keep KK34
        have f243 := f153.keep KK34 nin0
        have f244 := f154.keep KK34 nin0
        have f245 := E26.keep KK34
        have f246 := SK26_r4.keep KK34 nin0
        have f247 := SK26_r11.keep KK34 nin0
        have f248 := SK26_r15.keep KK34 nin0
        have f249 := SK26_r22.keep KK34 nin0
        have f250 := F26.keep KK34 nin0
        have f251 := G26.keep KK34 nin0
        rcases hr34 with ⟨rfl, hd⟩ | ⟨rfl, hd⟩
        · skip
          show GoesW p e below s _ _ _ (T34.setTop (mkF m 240 #[.val (.int p0), .val (.int p1), .val (.int p2), .val (.int p3), .val (.int p4), .val (.ref r4), .val (.ref r11), .val (.ref r15), .val (.ref r22), .val (.ref b23), .val (.ref b25), .val (.int (p4 &&& (3 : Int32))), .val (.ref b23), .val (.int (1 : Int32))] [(.int (1 : Int32))]))
          refine GoesW.by (fun t k => XS.iload X34.here hx rfl (hb hby at_240) rfl k) ?_
          show GoesW p e below s _ _ _ (T34.setTop (mkF m 242 #[.val (.int p0), .val (.int p1), .val (.int p2), .val (.int p3), .val (.int p4), .val (.ref r4), .val (.ref r11), .val (.ref r15), .val (.ref r22), .val (.ref b23), .val (.ref b25), .val (.int (p4 &&& (3 : Int32))), .val (.ref b23), .val (.int (1 : Int32))] [(.int (1 : Int32)), (.int (1 : Int32))]))
          refine GoesW.by (fun t k => XS.icmpNo X34.here hx rfl (hb hby at_242) rfl (teq (rfl)).2 k) ?_
          show GoesW p e below s _ _ _ (T34.setTop (mkF m 245 #[.val (.int p0), .val (.int p1), .val (.int p2), .val (.int p3), .val (.int p4), .val (.ref r4), .val (.ref r11), .val (.ref r15), .val (.ref r22), .val (.ref b23), .val (.ref b25), .val (.int (p4 &&& (3 : Int32))), .val (.ref b23), .val (.int (1 : Int32))] []))
          refine GoesW.by (fun t k => XS.iconst X34.here hx rfl (hb hby at_245) k) ?_
          show GoesW p e below s _ _ _ (T34.setTop (mkF m 246 #[.val (.int p0), .val (.int p1), .val (.int p2), .val (.int p3), .val (.int p4), .val (.ref r4), .val (.ref r11), .val (.ref r15), .val (.ref r22), .val (.ref b23), .val (.ref b25), .val (.int (p4 &&& (3 : Int32))), .val (.ref b23), .val (.int (1 : Int32))] [(.int (1 : Int32))]))
          refine GoesW.by (fun t k => XS.goto X34.here hx rfl (pc0 := 246) (pc' := 250) rfl (hb hby at_246) (by decide) (by decide) k) ?_
          show GoesW p e below s _ _ _ (T34.setTop (mkF m 250 #[.val (.int p0), .val (.int p1), .val (.int p2), .val (.int p3), .val (.int p4), .val (.ref r4), .val (.ref r11), .val (.ref r15), .val (.ref r22), .val (.ref b23), .val (.ref b25), .val (.int (p4 &&& (3 : Int32))), .val (.ref b23), .val (.int (1 : Int32))] [(.int (1 : Int32))]))
          exact GoesW.retN X34 hS (by exact f241) hx Bd.returns rfl (hb hby at_250) hlk (by exact ⟨rfl, N34⟩) (by decide) (by decide)
        · skip
          exact absurd (⟨rfl, rfl⟩ : _ ∧ _) hd
set_option maxRecDepth 65536 in
set_option maxHeartbeats 40000000 in
theorem comes_1 {Post : Tables → Env → Array Value → State → Outcome → State → Prop} (hpost : ∀ tb e args s v u, (limb_1_1.after args s (.returned v) u = true ∧ limb_1_2.after args s (.returned v) u = true ∧ True) → ReturnedEndW s (.returned v) u (Jvm.fieldLocs frame_1_writes args s ++ Jvm.arrayLocs frame_1_arrays args s ++ Jvm.staticLocs frame_1_statics s) 40 1216 → Post tb e args s (.returned v) u) :
    ArmFor flags0 classFile x code maxLocals ret World_1 tables_1 room_1 Calls_1 rest_1 Pre_1 Post := by
  intro l hfl _ _ p e ha hc hk s m args below hf hA hF happ hP
  obtain ⟨hcalls, hrest, hpre⟩ := hP
  obtain ⟨-, -, -, hnamed, -, -, -, hat⟩ := (Spec.applies_iff hf).mp happ
  obtain ⟨hg, hn⟩ := and_e (Cond.before_iff.mp (show (Jvm.Cond.and given_1 narrow_1).before args s = true from hpre))
  obtain ⟨hcnt, hg⟩ := and_e hg
  obtain ⟨ga0, hg⟩ := and_e hg
  obtain ⟨ga1, hg⟩ := and_e hg
  obtain ⟨ga2, hg⟩ := and_e hg
  obtain ⟨ga3, hg⟩ := and_e hg
  have ga4 := hg
  obtain ⟨w0, w1, w2, w3, w4, rfl⟩ : ∃ w0 w1 w2 w3 w4 : Value, args = #[w0, w1, w2, w3, w4] := by
    have hs : args.size = 5 := by simpa [Cond.value, given_1] using hcnt
    obtain ⟨L⟩ := args
    match L, hs with
    | [w0, w1, w2, w3, w4], _ => exact ⟨w0, w1, w2, w3, w4, rfl⟩
  have hw := fun d (hd : d ∈ tables_1) => atoms_spec (ws := Jvm.Cond.code x code maxLocals ret :: tables_1) hat d (List.mem_cons_of_mem _ hd)
  obtain ⟨i0, ei0⟩ := is_v ga0
  obtain rfl : w0 = (.int i0) := Option.some.inj ei0
  obtain ⟨i1, ei1⟩ := is_v ga1
  obtain rfl : w1 = (.int i1) := Option.some.inj ei1
  obtain ⟨i2, ei2⟩ := is_v ga2
  obtain rfl : w2 = (.int i2) := Option.some.inj ei2
  obtain ⟨i3, ei3⟩ := is_v ga3
  obtain rfl : w3 = (.int i3) := Option.some.inj ei3
  obtain ⟨i4, ei4⟩ := is_v ga4
  obtain rfl : w4 = (.int i4) := Option.some.inj ei4
  obtain ⟨hsets, hown0⟩ := atoms_of _ (rest_1_c_eq ▸ (show rest_1_c.before _ s = true from hrest))
  have hcwN := Cond.before_iff.mp (hsets _ (List.mem_of_getElem? (i := 2) rfl))
  obtain ⟨z, evz⟩ := is_v (Cond.before_iff.mp (hsets _ (List.mem_of_getElem? (i := 1) rfl)))
  have SC := Sta.start evz (Or.inl (hsets _ (List.mem_of_getElem? (i := 0) rfl)))
  have hz : ¬ z = 0 := gotF (P := z = 0) (by simp [Cond.value, evz, Term.int_eval]) (not_v hcwN)
  have wS : ∀ a ∈ Bundle.stringAtoms, a.before _ s = true := fun d hd => hw d (by simp only [Bundle.stringAtoms, List.mem_cons, List.not_mem_nil, or_false] at hd; rcases hd with rfl | rfl | rfl | rfl | rfl | rfl | rfl <;> first | exact List.mem_of_getElem? (i := 8) rfl | exact List.mem_of_getElem? (i := 9) rfl | exact List.mem_of_getElem? (i := 22) rfl | exact List.mem_of_getElem? (i := 23) rfl | exact List.mem_of_getElem? (i := 24) rfl | exact List.mem_of_getElem? (i := 25) rfl | exact List.mem_of_getElem? (i := 26) rfl)
  obtain ⟨n, o, h1, h2, h3, _, L, rfl, ⟨rfl, N⟩, hq⟩ := rm0 l s _ hw tables_1 i0 i1 i2 i3 i4 z s.heap s.heap.size (Nat.le_refl _) (Old.start s) SC hz wS p e ha hc hk s m _ below hf ((Spec.applies_iff_loose hf).mp happ).1 ⟨rfl, State.Warmed39.refl s, rfl, CHv.start (own_EW hw) (fun p hp => hcalls.1 p hp) (hsets _ (List.mem_of_getElem? (i := 2) rfl)) (hw _ (List.mem_of_getElem? (i := 22) rfl)) (hw _ (List.mem_of_getElem? (i := 8) rfl))⟩ trivial
  refine ⟨n, _, h1, h2, h3, hpost _ _ _ _ _ _ ⟨Cond.after_iff.mpr rfl, Cond.after_iff.mpr (eq_i res_at (Term.int_eval (1)) rfl), trivial⟩ ⟨hq.1, hq.2.1, hq.2.2.1, (hq.2.2.2.sift fun y hy => Or.inr (N y hy)).mono (by decide) (by decide)⟩⟩
theorem main_1_1 : Claimed_1_1 := comes_1 fun _ _ _ _ _ _ h hF => ⟨h.1, hF⟩
theorem main_1_2 : Claimed_1_2 := comes_1 fun _ _ _ _ _ _ h hF => ⟨h.2.1, hF⟩
end Jvm.Pilot.@@N@@
namespace Jvm.Pilot.@@N@@
open Jvm Jvm.ClassFile Sem Op Lib Jvm.Free Jvm.Stand Jvm.Pilot.@@N@@.Jvm.D
/-! MADE BY PROGRAM (witnessworld.py) out of the Statement's table words and the real class files: 21 classes; the members and pool entries that the words name. The judged class is class 1, her method 1. -/
namespace start1
open Jvm.ClassFile
def u (s : String) : CpInfo := .utf8 (stringToUtf16 s)
/-- a pool by its gaps: so many unusable entries, then the entry; so many at the end -/
def gap : Nat → List CpInfo → List CpInfo
  | 0, r => r
  | n + 1, r => .unusable :: gap n r
def poolList (es : List (Nat × CpInfo)) (last : Nat) : List CpInfo := es.foldr (fun e r => gap e.1 (e.2 :: r)) (gap last [])
def pool (es : List (Nat × CpInfo)) (last : Nat) : Array CpInfo := ⟨poolList es last⟩
def fileOf (pool : Array CpInfo) (this : Nat) (attrs : Array Attribute := #[]) (ms : Array MethodInfo := #[]) (fl : Nat := 33) (sup : Nat := 0) (ifs : Array Nat := #[]) (fds : Array FieldInfo := #[]) : ClassFile where
  minorVersion := 0
  majorVersion := 65
  constantPool := pool
  accessFlags := fl
  thisClass := this
  superClass := sup
  interfaces := ifs
  fields := fds
  methods := ms
  attributes := attrs
def plain (name : String) (sup : Option ClassId) : Class where
  name := name
  kind := .ordinary
  loader := none
  accessFlags := 33
  super := sup
  interfaces := #[]
  cf := none
  fields := #[]
  methods := #[]
  instanceTypes := #[]
  staticTypes := #[]
  resolved := #[]
  callSites := []
  init := .initialized
  statics := none
  mirror := none

def pool0 : Array CpInfo := pool [(5, u "<init>"), (0, u "()V"), (1, .class_ 10), (1, u "java/lang/Object")] 113

def k0c0 : Code := { maxStack := 0, maxLocals := 1, code := object_method_1_code, exceptionTable := #[], attributes := #[] }
def k0m0 : Method := { name := "<init>", desc := "()V", sig := { parameters := [], returnType := none }, accessFlags := 1, code := some k0c0 }
/-- java/lang/Object -/
def k0 : Class := { plain "java/lang/Object" none with
  accessFlags := 33
  interfaces := #[]
  cf := some (fileOf pool0 8 #[] #[{ accessFlags := 1, nameIndex := 5, descriptorIndex := 6, attributes := #[] }] 33 0 #[] #[])
  fields := #[]
  methods := #[k0m0]
  instanceTypes := #[]
  staticTypes := #[]
  resolved := Array.replicate 124 none
  statics := none }

def pool1 : Array CpInfo := pool [(2, .class_ 4), (1, u "java/lang/Object"), (0, u "<init>"), (0, u "()V"), (0, .methodref 8 9), (0, .class_ 10), (0, .nameAndType 11 12), (0, u "com/example/diogenes/diogenes/format/TopicEqualsPinLaw"), (0, u "b"), (0, u "(II)I"), (0, .methodref 8 14), (0, .nameAndType 15 16), (0, u "mk"), (0, u "(IIII)Ljava/lang/String;"), (0, .class_ 18), (0, u "com/example/diogenes/diogenes/format/Topic"), (0, .methodref 17 20), (0, .nameAndType 5 21), (0, u "(Ljava/lang/String;Ljava/lang/String;)V"), (0, .methodref 8 23), (0, .nameAndType 24 25), (0, u "same"), (0, u "(II)Z"), (0, .methodref 17 27), (0, .nameAndType 28 29), (0, u "equals"), (0, u "(Ljava/lang/Object;)Z"), (0, .class_ 31), (0, u "java/lang/String"), (0, .methodref 30 33), (0, .nameAndType 5 34), (0, u "([C)V"), (2, u "law"), (0, u "(IIIII)Z")] 3

def k1m0 : Method := { name := "<init>", desc := "()V", sig := { parameters := [], returnType := none }, accessFlags := 1, code := none }
def k1c1 : Code := { maxStack := 6, maxLocals := 14, code := code, exceptionTable := #[], attributes := #[] }
def k1m1 : Method := { name := "law", desc := "(IIIII)Z", sig := { parameters := [.int, .int, .int, .int, .int], returnType := some .boolean }, accessFlags := 9, code := some k1c1 }
def k1c2 : Code := { maxStack := 3, maxLocals := 2, code := method_3_code, exceptionTable := #[], attributes := #[] }
def k1m2 : Method := { name := "b", desc := "(II)I", sig := { parameters := [.int, .int], returnType := some .int }, accessFlags := 10, code := some k1c2 }
def k1c3 : Code := { maxStack := 3, maxLocals := 6, code := method_4_code, exceptionTable := #[], attributes := #[] }
def k1m3 : Method := { name := "same", desc := "(II)Z", sig := { parameters := [.int, .int], returnType := some .boolean }, accessFlags := 10, code := some k1c3 }
def k1c4 : Code := { maxStack := 6, maxLocals := 4, code := method_5_code, exceptionTable := #[], attributes := #[] }
def k1m4 : Method := { name := "mk", desc := "(IIII)Ljava/lang/String;", sig := { parameters := [.int, .int, .int, .int], returnType := some (.object "java/lang/String") }, accessFlags := 10, code := some k1c4 }
/-- com/example/diogenes/diogenes/format/TopicEqualsPinLaw -/
def k1 : Class := { plain "com/example/diogenes/diogenes/format/TopicEqualsPinLaw" (some 0) with
  accessFlags := 49
  interfaces := #[]
  cf := some (fileOf pool1 8 #[] #[{ accessFlags := 1, nameIndex := 5, descriptorIndex := 6, attributes := #[] }, { accessFlags := 9, nameIndex := 37, descriptorIndex := 38, attributes := #[] }, { accessFlags := 10, nameIndex := 11, descriptorIndex := 12, attributes := #[] }, { accessFlags := 10, nameIndex := 24, descriptorIndex := 25, attributes := #[] }, { accessFlags := 10, nameIndex := 15, descriptorIndex := 16, attributes := #[] }] 49 2 #[] #[])
  fields := #[]
  methods := #[k1m0, k1m1, k1m2, k1m3, k1m4]
  instanceTypes := #[]
  staticTypes := #[]
  resolved := Array.replicate 42 none
  statics := none }

def pool2 : Array CpInfo := pool [(1, .class_ 2), (0, u "java/io/Serializable"), (0, .class_ 4), (0, u "java/lang/Object")] 2

/-- java/io/Serializable -/
def k2 : Class := { plain "java/io/Serializable" (some 0) with
  accessFlags := 1537
  interfaces := #[]
  cf := some (fileOf pool2 1 #[] #[] 1537 3 #[] #[])
  fields := #[]
  methods := #[]
  instanceTypes := #[]
  staticTypes := #[]
  resolved := Array.replicate 7 none
  statics := none }

def pool3 : Array CpInfo := pool [(1, .class_ 2), (0, u "java/lang/Comparable"), (0, .class_ 4), (0, u "java/lang/Object")] 7

/-- java/lang/Comparable -/
def k3 : Class := { plain "java/lang/Comparable" (some 0) with
  accessFlags := 1537
  interfaces := #[]
  cf := some (fileOf pool3 1 #[] #[] 1537 3 #[] #[])
  fields := #[]
  methods := #[]
  instanceTypes := #[]
  staticTypes := #[]
  resolved := Array.replicate 12 none
  statics := none }

def pool4 : Array CpInfo := pool [(2, .class_ 4), (1, u "java/lang/CharSequence"), (42, .class_ 48), (0, u "java/lang/CharSequence$1CodePointIterator"), (10, .class_ 60), (0, u "java/lang/CharSequence$1CharIterator"), (5, .class_ 67), (0, u "java/lang/Object")] 63

/-- java/lang/CharSequence -/
def k4 : Class := { plain "java/lang/CharSequence" (some 0) with
  accessFlags := 1537
  interfaces := #[]
  cf := some (fileOf pool4 2 #[.nestMembers #[47, 59]] #[] 1537 66 #[] #[])
  fields := #[]
  methods := #[]
  instanceTypes := #[]
  staticTypes := #[]
  resolved := Array.replicate 131 none
  statics := none }

def pool5 : Array CpInfo := pool [(1, .class_ 2), (0, u "java/lang/constant/Constable"), (0, .class_ 4), (0, u "java/lang/Object")] 6

/-- java/lang/constant/Constable -/
def k5 : Class := { plain "java/lang/constant/Constable" (some 0) with
  accessFlags := 1537
  interfaces := #[]
  cf := some (fileOf pool5 1 #[] #[] 1537 3 #[] #[])
  fields := #[]
  methods := #[]
  instanceTypes := #[]
  staticTypes := #[]
  resolved := Array.replicate 11 none
  statics := none }

def pool6 : Array CpInfo := pool [(1, .class_ 2), (0, u "java/lang/constant/ConstantDesc"), (0, .class_ 4), (0, u "java/lang/Object")] 32

/-- java/lang/constant/ConstantDesc -/
def k6 : Class := { plain "java/lang/constant/ConstantDesc" (some 0) with
  accessFlags := 1537
  interfaces := #[]
  cf := some (fileOf pool6 1 #[] #[] 1537 3 #[] #[])
  fields := #[]
  methods := #[]
  instanceTypes := #[]
  staticTypes := #[]
  resolved := Array.replicate 37 none
  statics := none }

def pool7 : Array CpInfo := pool [(1, .methodref 2 3), (0, .class_ 4), (0, .nameAndType 5 6), (0, u "java/lang/Object"), (0, u "<init>"), (0, u "()V"), (0, .string 8), (0, u ""), (0, .fieldref 10 11), (0, .class_ 12), (0, .nameAndType 13 14), (0, u "java/lang/String"), (0, u "value"), (0, u "[B"), (0, .fieldref 10 16), (0, .nameAndType 17 18), (0, u "coder"), (0, u "B"), (2, u "hash"), (0, u "I"), (2, u "hashIsZero"), (0, u "Z"), (0, .methodref 10 28), (0, .nameAndType 5 29), (0, u "([CIILjava/lang/Void;)V"), (8, .fieldref 10 39), (0, .nameAndType 40 26), (0, u "COMPACT_STRINGS"), (1, .class_ 44), (1, u "java/lang/StringUTF16"), (0, u "compress"), (1, .methodref 42 48), (0, .nameAndType 49 50), (0, u "coderFromArrayLen"), (0, u "([BI)B"), (56, .class_ 109), (1, u "java/lang/StringLatin1"), (67, .methodref 42 178), (0, .nameAndType 45 179), (0, u "([CII)[B"), (361, .methodref 107 542), (0, .nameAndType 543 544), (0, u "equals"), (0, u "([B[B)Z"), (28, u "(Ljava/lang/Object;)Z"), (1, .class_ 576), (0, u "java/lang/CharSequence"), (22, u "CASE_INSENSITIVE_ORDER"), (0, u "Ljava/util/Comparator;"), (409, u "([C)V"), (90, u "serialPersistentFields"), (0, u "[Ljava/io/ObjectStreamField;"), (0, .class_ 1104), (0, u "java/lang/String$CaseInsensitiveComparator"), (1, .class_ 1107), (0, u "java/io/Serializable"), (0, .class_ 1109), (0, u "java/lang/Comparable"), (0, .class_ 1111), (0, u "java/lang/constant/Constable"), (0, .class_ 1113), (0, u "java/lang/constant/ConstantDesc"), (2, u "serialVersionUID"), (0, u "J"), (3, u "REPL"), (0, u "C"), (2, u "LATIN1"), (1, u "UTF16")] 323

def k7m0 : Method := { name := "<init>", desc := "()V", sig := { parameters := [], returnType := none }, accessFlags := 1, code := none }
def k7c1 : Code := { maxStack := 5, maxLocals := 2, code := jdk_42_method_3_code, exceptionTable := #[], attributes := #[] }
def k7m1 : Method := { name := "<init>", desc := "([C)V", sig := { parameters := [(.array .char)], returnType := none }, accessFlags := 1, code := some k7c1 }
def k7c2 : Code := { maxStack := 2, maxLocals := 3, code := jdk_42_method_66_code, exceptionTable := #[], attributes := #[] }
def k7m2 : Method := { name := "equals", desc := "(Ljava/lang/Object;)Z", sig := { parameters := [(.object "java/lang/Object")], returnType := some .boolean }, accessFlags := 1, code := some k7c2 }
def k7c3 : Code := { maxStack := 4, maxLocals := 6, code := jdk_42_method_149_code, exceptionTable := #[], attributes := #[] }
def k7m3 : Method := { name := "<init>", desc := "([CIILjava/lang/Void;)V", sig := { parameters := [(.array .char), .int, .int, (.object "java/lang/Void")], returnType := none }, accessFlags := 2, code := some k7c3 }
/-- java/lang/String -/
def k7 : Class := { plain "java/lang/String" (some 0) with
  accessFlags := 49
  interfaces := #[2, 3, 4, 5, 6]
  cf := some (fileOf pool7 10 #[.nestMembers #[1103]] #[{ accessFlags := 1, nameIndex := 5, descriptorIndex := 6, attributes := #[] }, { accessFlags := 1, nameIndex := 5, descriptorIndex := 1010, attributes := #[] }, { accessFlags := 1, nameIndex := 543, descriptorIndex := 573, attributes := #[] }, { accessFlags := 2, nameIndex := 5, descriptorIndex := 29, attributes := #[] }] 49 2 #[1106, 1108, 575, 1110, 1112] #[{ accessFlags := 18, nameIndex := 13, descriptorIndex := 14, attributes := #[] }, { accessFlags := 18, nameIndex := 17, descriptorIndex := 18, attributes := #[] }, { accessFlags := 2, nameIndex := 21, descriptorIndex := 22, attributes := #[] }, { accessFlags := 2, nameIndex := 25, descriptorIndex := 26, attributes := #[] }, { accessFlags := 26, nameIndex := 1116, descriptorIndex := 1117, attributes := #[] }, { accessFlags := 24, nameIndex := 40, descriptorIndex := 26, attributes := #[] }, { accessFlags := 26, nameIndex := 1101, descriptorIndex := 1102, attributes := #[] }, { accessFlags := 26, nameIndex := 1121, descriptorIndex := 1122, attributes := #[] }, { accessFlags := 25, nameIndex := 599, descriptorIndex := 600, attributes := #[] }, { accessFlags := 24, nameIndex := 1125, descriptorIndex := 18, attributes := #[] }, { accessFlags := 24, nameIndex := 1127, descriptorIndex := 18, attributes := #[] }])
  fields := #[{ name := "value", type := (.array .byte), accessFlags := 18, slot := 0, constantValue := 0 }, { name := "coder", type := .byte, accessFlags := 18, slot := 1, constantValue := 0 }, { name := "hash", type := .int, accessFlags := 2, slot := 2, constantValue := 0 }, { name := "hashIsZero", type := .boolean, accessFlags := 2, slot := 3, constantValue := 0 }, { name := "serialVersionUID", type := .long, accessFlags := 26, slot := 0, constantValue := 0 }, { name := "COMPACT_STRINGS", type := .boolean, accessFlags := 24, slot := 1, constantValue := 0 }, { name := "serialPersistentFields", type := (.array (.object "java/io/ObjectStreamField")), accessFlags := 26, slot := 2, constantValue := 0 }, { name := "REPL", type := .char, accessFlags := 26, slot := 3, constantValue := 0 }, { name := "CASE_INSENSITIVE_ORDER", type := (.object "java/util/Comparator"), accessFlags := 25, slot := 4, constantValue := 0 }, { name := "LATIN1", type := .byte, accessFlags := 24, slot := 5, constantValue := 0 }, { name := "UTF16", type := .byte, accessFlags := 24, slot := 6, constantValue := 0 }]
  methods := #[k7m0, k7m1, k7m2, k7m3]
  instanceTypes := #[(.array .byte), .byte, .int, .boolean]
  staticTypes := #[.long, .boolean, (.array (.object "java/io/ObjectStreamField")), .char, (.object "java/util/Comparator"), .byte, .byte]
  resolved := Array.replicate 1451 none
  statics := some 0 }

def pool8 : Array CpInfo := pool [(6, .class_ 8), (1, u "java/lang/Object"), (0, u "<init>"), (0, u "()V"), (1, .class_ 14), (1, u "java/lang/StringUTF16"), (31, u "$assertionsDisabled"), (0, u "Z"), (13, u "HI_BYTE_SHIFT"), (0, u "I"), (2, u "LO_BYTE_SHIFT"), (49, .methodref 12 116), (0, .nameAndType 117 118), (0, u "compress"), (0, u "([CI[BII)I"), (3, u "([CII)[B"), (138, u "coderFromArrayLen"), (0, u "([BI)B"), (106, .class_ 371), (1, u "java/lang/StringUTF16$LinesSpliterator"), (58, u "MAX_LENGTH"), (196, .class_ 628), (0, u "java/lang/StringUTF16$CodePointsSpliterator"), (0, .class_ 630), (0, u "java/lang/StringUTF16$CharsSpliterator")] 4

def k8m0 : Method := { name := "<init>", desc := "()V", sig := { parameters := [], returnType := none }, accessFlags := 0, code := none }
def k8c1 : Code := { maxStack := 2, maxLocals := 2, code := jdk_52_method_15_code, exceptionTable := #[], attributes := #[] }
def k8m1 : Method := { name := "coderFromArrayLen", desc := "([BI)B", sig := { parameters := [(.array .byte), .int], returnType := some .byte }, accessFlags := 8, code := some k8c1 }
def k8c2 : Code := { maxStack := 5, maxLocals := 6, code := jdk_52_method_16_code, exceptionTable := #[], attributes := #[] }
def k8m2 : Method := { name := "compress", desc := "([CII)[B", sig := { parameters := [(.array .char), .int, .int], returnType := some (.array .byte) }, accessFlags := 9, code := some k8c2 }
def k8c3 : Code := { maxStack := 3, maxLocals := 7, code := jdk_52_method_21_code, exceptionTable := #[], attributes := #[] }
def k8m3 : Method := { name := "compress", desc := "([CI[BII)I", sig := { parameters := [(.array .char), .int, (.array .byte), .int, .int], returnType := some .int }, accessFlags := 9, code := some k8c3 }
/-- java/lang/StringUTF16 -/
def k8 : Class := { plain "java/lang/StringUTF16" (some 0) with
  accessFlags := 48
  interfaces := #[]
  cf := some (fileOf pool8 12 #[.nestMembers #[627, 629, 369]] #[{ accessFlags := 0, nameIndex := 9, descriptorIndex := 10, attributes := #[] }, { accessFlags := 8, nameIndex := 261, descriptorIndex := 262, attributes := #[] }, { accessFlags := 9, nameIndex := 117, descriptorIndex := 122, attributes := #[] }, { accessFlags := 9, nameIndex := 117, descriptorIndex := 118, attributes := #[] }] 48 6 #[] #[{ accessFlags := 26, nameIndex := 61, descriptorIndex := 62, attributes := #[] }, { accessFlags := 26, nameIndex := 65, descriptorIndex := 62, attributes := #[] }, { accessFlags := 24, nameIndex := 430, descriptorIndex := 62, attributes := #[] }, { accessFlags := 4120, nameIndex := 46, descriptorIndex := 47, attributes := #[] }])
  fields := #[{ name := "HI_BYTE_SHIFT", type := .int, accessFlags := 26, slot := 0, constantValue := 0 }, { name := "LO_BYTE_SHIFT", type := .int, accessFlags := 26, slot := 1, constantValue := 0 }, { name := "MAX_LENGTH", type := .int, accessFlags := 24, slot := 2, constantValue := 0 }, { name := "$assertionsDisabled", type := .boolean, accessFlags := 4120, slot := 3, constantValue := 0 }]
  methods := #[k8m0, k8m1, k8m2, k8m3]
  instanceTypes := #[]
  staticTypes := #[.int, .int, .int, .boolean]
  resolved := Array.replicate 635 none
  statics := none }

def pool9 : Array CpInfo := pool [(1, .methodref 2 3), (0, .class_ 4), (0, .nameAndType 5 6), (0, u "java/lang/Object"), (0, u "<init>"), (0, u "()V"), (0, .methodref 8 9), (0, .class_ 10), (0, .nameAndType 11 12), (0, u "java/util/Objects"), (0, u "requireNonNull"), (0, u "(Ljava/lang/Object;)Ljava/lang/Object;"), (0, .class_ 14), (0, u "java/lang/String"), (0, .fieldref 16 17), (0, .class_ 18), (0, .nameAndType 19 20), (0, u "com/example/diogenes/diogenes/format/Topic"), (0, u "id"), (0, u "Ljava/lang/String;"), (0, .fieldref 16 22), (0, .nameAndType 23 20), (0, u "text"), (0, .methodref 13 25), (0, .nameAndType 26 27), (0, u "equals"), (0, u "(Ljava/lang/Object;)Z"), (8, u "(Ljava/lang/String;Ljava/lang/String;)V")] 24

def k9c0 : Code := { maxStack := 2, maxLocals := 3, code := prog_19_method_1_code, exceptionTable := #[], attributes := #[] }
def k9m0 : Method := { name := "<init>", desc := "(Ljava/lang/String;Ljava/lang/String;)V", sig := { parameters := [(.object "java/lang/String"), (.object "java/lang/String")], returnType := none }, accessFlags := 1, code := some k9c0 }
def k9c1 : Code := { maxStack := 2, maxLocals := 2, code := prog_19_method_4_code, exceptionTable := #[], attributes := #[] }
def k9m1 : Method := { name := "equals", desc := "(Ljava/lang/Object;)Z", sig := { parameters := [(.object "java/lang/Object")], returnType := some .boolean }, accessFlags := 1, code := some k9c1 }
/-- com/example/diogenes/diogenes/format/Topic -/
def k9 : Class := { plain "com/example/diogenes/diogenes/format/Topic" (some 0) with
  accessFlags := 49
  interfaces := #[]
  cf := some (fileOf pool9 16 #[] #[{ accessFlags := 1, nameIndex := 5, descriptorIndex := 36, attributes := #[] }, { accessFlags := 1, nameIndex := 26, descriptorIndex := 27, attributes := #[] }] 49 2 #[] #[{ accessFlags := 18, nameIndex := 19, descriptorIndex := 20, attributes := #[] }, { accessFlags := 18, nameIndex := 23, descriptorIndex := 20, attributes := #[] }])
  fields := #[{ name := "id", type := (.object "java/lang/String"), accessFlags := 18, slot := 0, constantValue := 0 }, { name := "text", type := (.object "java/lang/String"), accessFlags := 18, slot := 1, constantValue := 0 }]
  methods := #[k9m0, k9m1]
  instanceTypes := #[(.object "java/lang/String"), (.object "java/lang/String")]
  staticTypes := #[]
  resolved := Array.replicate 61 none
  statics := none }

def pool10 : Array CpInfo := pool [(2, .class_ 4), (1, u "java/lang/Object"), (0, u "<init>"), (0, u "()V"), (35, .class_ 44), (1, u "java/util/Objects"), (0, u "requireNonNull"), (0, u "(Ljava/lang/Object;)Ljava/lang/Object;")] 137

def k10m0 : Method := { name := "<init>", desc := "()V", sig := { parameters := [], returnType := none }, accessFlags := 2, code := none }
def k10c1 : Code := { maxStack := 2, maxLocals := 1, code := jdk_31_method_10_code, exceptionTable := #[], attributes := #[] }
def k10m1 : Method := { name := "requireNonNull", desc := "(Ljava/lang/Object;)Ljava/lang/Object;", sig := { parameters := [(.object "java/lang/Object")], returnType := some (.object "java/lang/Object") }, accessFlags := 9, code := some k10c1 }
/-- java/util/Objects -/
def k10 : Class := { plain "java/util/Objects" (some 0) with
  accessFlags := 49
  interfaces := #[]
  cf := some (fileOf pool10 42 #[] #[{ accessFlags := 2, nameIndex := 5, descriptorIndex := 6, attributes := #[] }, { accessFlags := 9, nameIndex := 45, descriptorIndex := 46, attributes := #[] }] 49 2 #[] #[])
  fields := #[]
  methods := #[k10m0, k10m1]
  instanceTypes := #[]
  staticTypes := #[]
  resolved := Array.replicate 184 none
  statics := none }

def pool11 : Array CpInfo := pool [(4, .class_ 6), (1, u "java/lang/Object"), (0, u "<init>"), (0, u "()V"), (5, .class_ 16), (1, u "java/lang/StringLatin1"), (104, u "$assertionsDisabled"), (0, u "Z"), (98, .class_ 223), (1, u "java/lang/StringLatin1$LinesSpliterator"), (57, u "equals"), (0, u "([B[B)Z"), (107, .class_ 391), (0, u "java/lang/StringLatin1$CharsSpliterator")] 3

def k11m0 : Method := { name := "<init>", desc := "()V", sig := { parameters := [], returnType := none }, accessFlags := 0, code := none }
def k11c1 : Code := { maxStack := 3, maxLocals := 3, code := jdk_43_method_13_code, exceptionTable := #[], attributes := #[] }
def k11m1 : Method := { name := "equals", desc := "([B[B)Z", sig := { parameters := [(.array .byte), (.array .byte)], returnType := some .boolean }, accessFlags := 9, code := some k11c1 }
/-- java/lang/StringLatin1 -/
def k11 : Class := { plain "java/lang/StringLatin1" (some 0) with
  accessFlags := 48
  interfaces := #[]
  cf := some (fileOf pool11 14 #[.nestMembers #[390, 221]] #[{ accessFlags := 0, nameIndex := 7, descriptorIndex := 8, attributes := #[] }, { accessFlags := 9, nameIndex := 281, descriptorIndex := 282, attributes := #[] }] 48 4 #[] #[{ accessFlags := 4120, nameIndex := 121, descriptorIndex := 122, attributes := #[] }])
  fields := #[{ name := "$assertionsDisabled", type := .boolean, accessFlags := 4120, slot := 0, constantValue := 0 }]
  methods := #[k11m0, k11m1]
  instanceTypes := #[]
  staticTypes := #[.boolean]
  resolved := Array.replicate 395 none
  statics := none }

def pool12 : Array CpInfo := pool [(2, .class_ 4), (1, u "java/lang/Object"), (0, u "<init>"), (0, u "()V"), (17, .class_ 26), (1, u "jdk/internal/util/Preconditions"), (28, .class_ 56), (0, u "jdk/internal/util/Preconditions$4"), (57, .class_ 115), (0, u "jdk/internal/util/Preconditions$1"), (7, u "SIOOBE_FORMATTER"), (0, u "Ljava/util/function/BiFunction;"), (0, .class_ 126), (0, u "jdk/internal/util/Preconditions$2"), (3, u "AIOOBE_FORMATTER"), (0, .class_ 132), (0, u "jdk/internal/util/Preconditions$3"), (3, u "IOOBE_FORMATTER")] 57

def k12m0 : Method := { name := "<init>", desc := "()V", sig := { parameters := [], returnType := none }, accessFlags := 1, code := none }
/-- jdk/internal/util/Preconditions -/
def k12 : Class := { plain "jdk/internal/util/Preconditions" (some 0) with
  accessFlags := 33
  interfaces := #[]
  cf := some (fileOf pool12 24 #[.nestMembers #[55, 131, 125, 114]] #[{ accessFlags := 1, nameIndex := 5, descriptorIndex := 6, attributes := #[] }] 33 2 #[] #[{ accessFlags := 25, nameIndex := 123, descriptorIndex := 124, attributes := #[] }, { accessFlags := 25, nameIndex := 130, descriptorIndex := 124, attributes := #[] }, { accessFlags := 25, nameIndex := 136, descriptorIndex := 124, attributes := #[] }])
  fields := #[{ name := "SIOOBE_FORMATTER", type := (.object "java/util/function/BiFunction"), accessFlags := 25, slot := 0, constantValue := 0 }, { name := "AIOOBE_FORMATTER", type := (.object "java/util/function/BiFunction"), accessFlags := 25, slot := 1, constantValue := 0 }, { name := "IOOBE_FORMATTER", type := (.object "java/util/function/BiFunction"), accessFlags := 25, slot := 2, constantValue := 0 }]
  methods := #[k12m0]
  instanceTypes := #[]
  staticTypes := #[(.object "java/util/function/BiFunction"), (.object "java/util/function/BiFunction"), (.object "java/util/function/BiFunction")]
  resolved := Array.replicate 194 none
  statics := some 1 }

def pool13 : Array CpInfo := pool [(9, u "<init>"), (6, .class_ 18), (1, u "java/lang/Object"), (0, u "()V"), (1, .class_ 23), (1, u "jdk/internal/util/ArraysSupport"), (0, u "LOG2_ARRAY_LONG_INDEX_SCALE"), (0, u "I"), (2, u "U"), (0, u "Ljdk/internal/misc/Unsafe;"), (8, u "BIG_ENDIAN"), (0, u "Z"), (8, u "LOG2_BYTE_BIT_SIZE"), (4, u "LOG2_ARRAY_INT_INDEX_SCALE"), (54, u "JLA"), (0, u "Ljdk/internal/access/JavaLangAccess;"), (11, u "LOG2_ARRAY_BOOLEAN_INDEX_SCALE"), (9, u "LOG2_ARRAY_BYTE_INDEX_SCALE"), (5, u "LOG2_ARRAY_CHAR_INDEX_SCALE"), (5, u "LOG2_ARRAY_SHORT_INDEX_SCALE"), (18, u "LOG2_ARRAY_FLOAT_INDEX_SCALE"), (24, u "LOG2_ARRAY_DOUBLE_INDEX_SCALE"), (89, u "T_BOOLEAN"), (2, u "T_CHAR"), (1, u "T_FLOAT"), (1, u "T_DOUBLE"), (1, u "T_BYTE"), (1, u "T_SHORT"), (1, u "T_INT"), (1, u "T_LONG"), (1, u "SOFT_MAX_ARRAY_LENGTH")] 83

def k13m0 : Method := { name := "<init>", desc := "()V", sig := { parameters := [], returnType := none }, accessFlags := 2, code := none }
/-- jdk/internal/util/ArraysSupport -/
def k13 : Class := { plain "jdk/internal/util/ArraysSupport" (some 0) with
  accessFlags := 33
  interfaces := #[]
  cf := some (fileOf pool13 21 #[] #[{ accessFlags := 2, nameIndex := 9, descriptorIndex := 19, attributes := #[] }] 33 16 #[] #[{ accessFlags := 24, nameIndex := 28, descriptorIndex := 29, attributes := #[] }, { accessFlags := 26, nameIndex := 38, descriptorIndex := 39, attributes := #[] }, { accessFlags := 25, nameIndex := 121, descriptorIndex := 25, attributes := #[] }, { accessFlags := 25, nameIndex := 131, descriptorIndex := 25, attributes := #[] }, { accessFlags := 25, nameIndex := 137, descriptorIndex := 25, attributes := #[] }, { accessFlags := 25, nameIndex := 143, descriptorIndex := 25, attributes := #[] }, { accessFlags := 25, nameIndex := 53, descriptorIndex := 25, attributes := #[] }, { accessFlags := 25, nameIndex := 24, descriptorIndex := 25, attributes := #[] }, { accessFlags := 25, nameIndex := 162, descriptorIndex := 25, attributes := #[] }, { accessFlags := 25, nameIndex := 187, descriptorIndex := 25, attributes := #[] }, { accessFlags := 26, nameIndex := 48, descriptorIndex := 25, attributes := #[] }, { accessFlags := 25, nameIndex := 277, descriptorIndex := 25, attributes := #[] }, { accessFlags := 25, nameIndex := 280, descriptorIndex := 25, attributes := #[] }, { accessFlags := 25, nameIndex := 282, descriptorIndex := 25, attributes := #[] }, { accessFlags := 25, nameIndex := 284, descriptorIndex := 25, attributes := #[] }, { accessFlags := 25, nameIndex := 286, descriptorIndex := 25, attributes := #[] }, { accessFlags := 25, nameIndex := 288, descriptorIndex := 25, attributes := #[] }, { accessFlags := 25, nameIndex := 290, descriptorIndex := 25, attributes := #[] }, { accessFlags := 25, nameIndex := 292, descriptorIndex := 25, attributes := #[] }, { accessFlags := 26, nameIndex := 108, descriptorIndex := 109, attributes := #[] }, { accessFlags := 25, nameIndex := 294, descriptorIndex := 25, attributes := #[] }])
  fields := #[{ name := "U", type := (.object "jdk/internal/misc/Unsafe"), accessFlags := 24, slot := 0, constantValue := 0 }, { name := "BIG_ENDIAN", type := .boolean, accessFlags := 26, slot := 1, constantValue := 0 }, { name := "LOG2_ARRAY_BOOLEAN_INDEX_SCALE", type := .int, accessFlags := 25, slot := 2, constantValue := 0 }, { name := "LOG2_ARRAY_BYTE_INDEX_SCALE", type := .int, accessFlags := 25, slot := 3, constantValue := 0 }, { name := "LOG2_ARRAY_CHAR_INDEX_SCALE", type := .int, accessFlags := 25, slot := 4, constantValue := 0 }, { name := "LOG2_ARRAY_SHORT_INDEX_SCALE", type := .int, accessFlags := 25, slot := 5, constantValue := 0 }, { name := "LOG2_ARRAY_INT_INDEX_SCALE", type := .int, accessFlags := 25, slot := 6, constantValue := 0 }, { name := "LOG2_ARRAY_LONG_INDEX_SCALE", type := .int, accessFlags := 25, slot := 7, constantValue := 0 }, { name := "LOG2_ARRAY_FLOAT_INDEX_SCALE", type := .int, accessFlags := 25, slot := 8, constantValue := 0 }, { name := "LOG2_ARRAY_DOUBLE_INDEX_SCALE", type := .int, accessFlags := 25, slot := 9, constantValue := 0 }, { name := "LOG2_BYTE_BIT_SIZE", type := .int, accessFlags := 26, slot := 10, constantValue := 0 }, { name := "T_BOOLEAN", type := .int, accessFlags := 25, slot := 11, constantValue := 0 }, { name := "T_CHAR", type := .int, accessFlags := 25, slot := 12, constantValue := 0 }, { name := "T_FLOAT", type := .int, accessFlags := 25, slot := 13, constantValue := 0 }, { name := "T_DOUBLE", type := .int, accessFlags := 25, slot := 14, constantValue := 0 }, { name := "T_BYTE", type := .int, accessFlags := 25, slot := 15, constantValue := 0 }, { name := "T_SHORT", type := .int, accessFlags := 25, slot := 16, constantValue := 0 }, { name := "T_INT", type := .int, accessFlags := 25, slot := 17, constantValue := 0 }, { name := "T_LONG", type := .int, accessFlags := 25, slot := 18, constantValue := 0 }, { name := "JLA", type := (.object "jdk/internal/access/JavaLangAccess"), accessFlags := 26, slot := 19, constantValue := 0 }, { name := "SOFT_MAX_ARRAY_LENGTH", type := .int, accessFlags := 25, slot := 20, constantValue := 0 }]
  methods := #[k13m0]
  instanceTypes := #[]
  staticTypes := #[(.object "jdk/internal/misc/Unsafe"), .boolean, .int, .int, .int, .int, .int, .int, .int, .int, .int, .int, .int, .int, .int, .int, .int, .int, .int, (.object "jdk/internal/access/JavaLangAccess"), .int]
  resolved := Array.replicate 378 none
  statics := none }

def pool14 : Array CpInfo := pool [(1, u "java/lang/Cloneable"), (0, .class_ 1), (0, u "java/lang/Object"), (0, .class_ 3)] 3

/-- java/lang/Cloneable -/
def k14 : Class := { plain "java/lang/Cloneable" (some 0) with
  accessFlags := 1537
  interfaces := #[]
  cf := some (fileOf pool14 2 #[] #[] 1537 4 #[] #[])
  fields := #[]
  methods := #[]
  instanceTypes := #[]
  staticTypes := #[]
  resolved := Array.replicate 8 none
  statics := none }

/-- the primitive byte -/
def k15 : Class := { plain "byte" none with kind := .primitive 'B', accessFlags := 0x411 }
/-- [B -/
def k16 : Class := { plain "[B" (some 0) with kind := .array 15 .byte, interfaces := #[14, 2], accessFlags := 1041 }

/-- the primitive char -/
def k17 : Class := { plain "char" none with kind := .primitive 'C', accessFlags := 0x411 }
/-- [C -/
def k18 : Class := { plain "[C" (some 0) with kind := .array 17 .char, interfaces := #[14, 2], accessFlags := 1041 }

/-- the primitive int -/
def k19 : Class := { plain "int" none with kind := .primitive 'I', accessFlags := 0x411 }
/-- [I -/
def k20 : Class := { plain "[I" (some 0) with kind := .array 19 .int, interfaces := #[14, 2], accessFlags := 1041 }

def heap : Heap := #[{ cls := 7, slots := #[.long 0, .int 1, .null, .int 0, .null, .int 0, .int 0], vm := .statics 7 },
  { cls := 12, slots := #[.null, .null, .null], vm := .statics 12 }]
def classes : Array Class := #[k0, k1, k2, k3, k4, k5, k6, k7, k8, k9, k10, k11, k12, k13, k14, k15, k16, k17, k18, k19, k20]
def interned : List (Array UInt16 × Addr) := []
def slotsUsed : Nat := 10
def theMethod : MethodId := ⟨1, 1⟩
def args0 : Array Value := #[.int 5, .int 7, .int 7, .int 7, .int 7]
def aboutOver (below : List Frame) : State where
  vm := { classes := classes, interned := interned.toArray }
  heap := heap
  slotsUsed := slotsUsed
  threads := #[{ frames := .invoking theMethod args0 :: below }]
def below0 : List Frame := [.native { method := ⟨0, 0⟩, args := #[] }]
def about1 : State := aboutOver below0
def p0 : Program := .bare "" "" ""
def e0 : Env := launch0.env 0 0 0
theorem w_frames : about1.frames = Frame.invoking theMethod args0 :: below0 := rfl
set_option maxRecDepth 65536 in
theorem w_args : argsFit about1.vm theMethod args0 = true := by decide +kernel
set_option maxRecDepth 65536 in
theorem w_heap : heapFits about1 = true := by decide +kernel
set_option maxRecDepth 65536 in
theorem w_runnable : about1.curStatus? = some .runnable := by decide +kernel
set_option maxRecDepth 65536 in
theorem w_alone : about1.alone = true := by decide +kernel
set_option maxRecDepth 65536 in
theorem w_named : about1.methodNamed? x = some theMethod := by decide +kernel
set_option maxRecDepth 65536 in
theorem w_hears : about1.hears theMethod below0 = true := by decide +kernel
set_option maxRecDepth 65536 in
theorem w_ripe : about1.ripe theMethod args0 below0 = true := by decide +kernel
theorem w_running : about1.status = .running := rfl
set_option maxRecDepth 65536 in
theorem w_room : about1.hasRoom e0.platform room_1 = true :=
  launch0.hasRoom_least _ room_1 (by decide +kernel) (by decide +kernel) (by decide +kernel) (by decide +kernel) (by decide +kernel) (by decide +kernel)
theorem allAtoms_all (ts : List Jvm.Cond) (a : Array Jvm.Value) (st : Jvm.State) : (allAtoms ts).before a st = ts.all (fun c => c.before a st) := by
  induction ts with
  | nil => rfl
  | cons c t ih =>
    show (Jvm.Cond.and c (allAtoms t)).before a st = _
    rw [Jvm.Cond.before_and, ih, List.all_cons]
def words1 : List Jvm.Cond := Jvm.Cond.code x code maxLocals ret :: tables_1
/-- a 'code' word, met by the world's own term for the bytes: nothing is compared byte by byte -/
theorem code_word {y : MethodName} {bytes : ByteArray} {mx : Nat} {rt : Option FieldType} {a : Array Value} {s : State} {m : MethodId} {meth : Method} {c : Code} (h1 : s.methodNamed? y = some m) (h2 : s.vm.method? m = some meth) (h3 : meth.code = some c) (h4 : c.code = bytes)
    (h5 : (c.maxLocals == mx && c.exceptionTable.isEmpty && decide (c.maxStack ≤ mostOperands) && decide (meth.sig.returnType = rt) && !meth.locks && decide (parseMethodDescriptor y.desc = some meth.sig)) = true) : (Jvm.Cond.code y bytes mx rt).before a s = true := by
  simp only [Bool.and_eq_true, beq_iff_eq, Bool.not_eq_true', decide_eq_true_eq] at h5
  obtain ⟨⟨⟨⟨⟨g1, g2⟩, g3⟩, g4⟩, g5⟩, g6⟩ := h5
  simp [Cond.before, Cond.holds, Cond.value, h1, h2, h3, h4, g1, g2, g3, g4, g5, g6]
def isCode : Jvm.Cond → Bool
  | .code _ _ _ _ => true
  | _ => false
theorem all_split {L : List Jvm.Cond} {P : Jvm.Cond → Bool} (h1 : L.all (fun c => isCode c || P c) = true) (h2 : ∀ c ∈ L.filter isCode, P c = true) : L.all P = true := by
  refine List.all_eq_true.mpr fun c hc => ?_
  have h := List.all_eq_true.mp h1 c hc
  rcases Bool.eq_false_or_eq_true (isCode c) with hi | hi
  · exact h2 c (List.mem_filter.mpr ⟨hc, hi⟩)
  · simpa [hi] using h
set_option maxRecDepth 65536 in
theorem w_c0 : (Jvm.Cond.code x code maxLocals ret).before args0 about1 = true := code_word (m := ⟨1, 1⟩) (meth := k1m1) (c := k1c1) (by decide +kernel) rfl rfl rfl (by decide +kernel)
set_option maxRecDepth 65536 in
theorem w_c1 : (Jvm.Cond.code ({ cls := "com/example/diogenes/diogenes/format/TopicEqualsPinLaw", name := "b", desc := "(II)I" } : Jvm.MethodName) method_3_code (2 : Nat) (Option.some Jvm.ClassFile.FieldType.int)).before args0 about1 = true := code_word (m := ⟨1, 2⟩) (meth := k1m2) (c := k1c2) (by decide +kernel) rfl rfl rfl (by decide +kernel)
set_option maxRecDepth 65536 in
theorem w_c2 : (Jvm.Cond.code ({ cls := "com/example/diogenes/diogenes/format/TopicEqualsPinLaw", name := "mk", desc := "(IIII)Ljava/lang/String;" } : Jvm.MethodName) method_5_code (4 : Nat) (Option.some (Jvm.ClassFile.FieldType.object "java/lang/String"))).before args0 about1 = true := code_word (m := ⟨1, 4⟩) (meth := k1m4) (c := k1c4) (by decide +kernel) rfl rfl rfl (by decide +kernel)
set_option maxRecDepth 65536 in
theorem w_c3 : (Jvm.Cond.code ({ cls := "java/lang/String", name := "<init>", desc := "([C)V" } : Jvm.MethodName) jdk_42_method_3_code (2 : Nat) (Option.none : Option Jvm.ClassFile.FieldType)).before args0 about1 = true := code_word (m := ⟨7, 1⟩) (meth := k7m1) (c := k7c1) (by decide +kernel) rfl rfl rfl (by decide +kernel)
set_option maxRecDepth 65536 in
theorem w_c4 : (Jvm.Cond.code ({ cls := "java/lang/String", name := "<init>", desc := "([CIILjava/lang/Void;)V" } : Jvm.MethodName) jdk_42_method_149_code (6 : Nat) (Option.none : Option Jvm.ClassFile.FieldType)).before args0 about1 = true := code_word (m := ⟨7, 3⟩) (meth := k7m3) (c := k7c3) (by decide +kernel) rfl rfl rfl (by decide +kernel)
set_option maxRecDepth 65536 in
theorem w_c5 : (Jvm.Cond.code ({ cls := "java/lang/Object", name := "<init>", desc := "()V" } : Jvm.MethodName) object_method_1_code (1 : Nat) (Option.none : Option Jvm.ClassFile.FieldType)).before args0 about1 = true := code_word (m := ⟨0, 0⟩) (meth := k0m0) (c := k0c0) (by decide +kernel) rfl rfl rfl (by decide +kernel)
set_option maxRecDepth 65536 in
theorem w_c6 : (Jvm.Cond.code ({ cls := "java/lang/StringUTF16", name := "compress", desc := "([CII)[B" } : Jvm.MethodName) jdk_52_method_16_code (6 : Nat) (Option.some (Jvm.ClassFile.FieldType.array Jvm.ClassFile.FieldType.byte))).before args0 about1 = true := code_word (m := ⟨8, 2⟩) (meth := k8m2) (c := k8c2) (by decide +kernel) rfl rfl rfl (by decide +kernel)
set_option maxRecDepth 65536 in
theorem w_c7 : (Jvm.Cond.code ({ cls := "java/lang/StringUTF16", name := "compress", desc := "([CI[BII)I" } : Jvm.MethodName) jdk_52_method_21_code (7 : Nat) (Option.some Jvm.ClassFile.FieldType.int)).before args0 about1 = true := code_word (m := ⟨8, 3⟩) (meth := k8m3) (c := k8c3) (by decide +kernel) rfl rfl rfl (by decide +kernel)
set_option maxRecDepth 65536 in
theorem w_c8 : (Jvm.Cond.code ({ cls := "java/lang/StringUTF16", name := "coderFromArrayLen", desc := "([BI)B" } : Jvm.MethodName) jdk_52_method_15_code (2 : Nat) (Option.some Jvm.ClassFile.FieldType.byte)).before args0 about1 = true := code_word (m := ⟨8, 1⟩) (meth := k8m1) (c := k8c1) (by decide +kernel) rfl rfl rfl (by decide +kernel)
set_option maxRecDepth 65536 in
theorem w_c9 : (Jvm.Cond.code ({ cls := "com/example/diogenes/diogenes/format/Topic", name := "<init>", desc := "(Ljava/lang/String;Ljava/lang/String;)V" } : Jvm.MethodName) prog_19_method_1_code (3 : Nat) (Option.none : Option Jvm.ClassFile.FieldType)).before args0 about1 = true := code_word (m := ⟨9, 0⟩) (meth := k9m0) (c := k9c0) (by decide +kernel) rfl rfl rfl (by decide +kernel)
set_option maxRecDepth 65536 in
theorem w_c10 : (Jvm.Cond.code ({ cls := "java/util/Objects", name := "requireNonNull", desc := "(Ljava/lang/Object;)Ljava/lang/Object;" } : Jvm.MethodName) jdk_31_method_10_code (1 : Nat) (Option.some (Jvm.ClassFile.FieldType.object "java/lang/Object"))).before args0 about1 = true := code_word (m := ⟨10, 1⟩) (meth := k10m1) (c := k10c1) (by decide +kernel) rfl rfl rfl (by decide +kernel)
set_option maxRecDepth 65536 in
theorem w_c11 : (Jvm.Cond.code ({ cls := "com/example/diogenes/diogenes/format/TopicEqualsPinLaw", name := "same", desc := "(II)Z" } : Jvm.MethodName) method_4_code (6 : Nat) (Option.some Jvm.ClassFile.FieldType.boolean)).before args0 about1 = true := code_word (m := ⟨1, 3⟩) (meth := k1m3) (c := k1c3) (by decide +kernel) rfl rfl rfl (by decide +kernel)
set_option maxRecDepth 65536 in
theorem w_c12 : (Jvm.Cond.code ({ cls := "com/example/diogenes/diogenes/format/Topic", name := "equals", desc := "(Ljava/lang/Object;)Z" } : Jvm.MethodName) prog_19_method_4_code (2 : Nat) (Option.some Jvm.ClassFile.FieldType.boolean)).before args0 about1 = true := code_word (m := ⟨9, 1⟩) (meth := k9m1) (c := k9c1) (by decide +kernel) rfl rfl rfl (by decide +kernel)
set_option maxRecDepth 65536 in
theorem w_c13 : (Jvm.Cond.code ({ cls := "java/lang/String", name := "equals", desc := "(Ljava/lang/Object;)Z" } : Jvm.MethodName) jdk_42_method_66_code (3 : Nat) (Option.some Jvm.ClassFile.FieldType.boolean)).before args0 about1 = true := code_word (m := ⟨7, 2⟩) (meth := k7m2) (c := k7c2) (by decide +kernel) rfl rfl rfl (by decide +kernel)
set_option maxRecDepth 65536 in
theorem w_c14 : (Jvm.Cond.code ({ cls := "java/lang/StringLatin1", name := "equals", desc := "([B[B)Z" } : Jvm.MethodName) jdk_43_method_13_code (3 : Nat) (Option.some Jvm.ClassFile.FieldType.boolean)).before args0 about1 = true := code_word (m := ⟨11, 1⟩) (meth := k11m1) (c := k11c1) (by decide +kernel) rfl rfl rfl (by decide +kernel)
def codes1 : List Jvm.Cond := [Jvm.Cond.code x code maxLocals ret, Jvm.Cond.code ({ cls := "com/example/diogenes/diogenes/format/TopicEqualsPinLaw", name := "b", desc := "(II)I" } : Jvm.MethodName) method_3_code (2 : Nat) (Option.some Jvm.ClassFile.FieldType.int), Jvm.Cond.code ({ cls := "com/example/diogenes/diogenes/format/TopicEqualsPinLaw", name := "mk", desc := "(IIII)Ljava/lang/String;" } : Jvm.MethodName) method_5_code (4 : Nat) (Option.some (Jvm.ClassFile.FieldType.object "java/lang/String")), Jvm.Cond.code ({ cls := "java/lang/String", name := "<init>", desc := "([C)V" } : Jvm.MethodName) jdk_42_method_3_code (2 : Nat) (Option.none : Option Jvm.ClassFile.FieldType), Jvm.Cond.code ({ cls := "java/lang/String", name := "<init>", desc := "([CIILjava/lang/Void;)V" } : Jvm.MethodName) jdk_42_method_149_code (6 : Nat) (Option.none : Option Jvm.ClassFile.FieldType), Jvm.Cond.code ({ cls := "java/lang/Object", name := "<init>", desc := "()V" } : Jvm.MethodName) object_method_1_code (1 : Nat) (Option.none : Option Jvm.ClassFile.FieldType), Jvm.Cond.code ({ cls := "java/lang/StringUTF16", name := "compress", desc := "([CII)[B" } : Jvm.MethodName) jdk_52_method_16_code (6 : Nat) (Option.some (Jvm.ClassFile.FieldType.array Jvm.ClassFile.FieldType.byte)), Jvm.Cond.code ({ cls := "java/lang/StringUTF16", name := "compress", desc := "([CI[BII)I" } : Jvm.MethodName) jdk_52_method_21_code (7 : Nat) (Option.some Jvm.ClassFile.FieldType.int), Jvm.Cond.code ({ cls := "java/lang/StringUTF16", name := "coderFromArrayLen", desc := "([BI)B" } : Jvm.MethodName) jdk_52_method_15_code (2 : Nat) (Option.some Jvm.ClassFile.FieldType.byte), Jvm.Cond.code ({ cls := "com/example/diogenes/diogenes/format/Topic", name := "<init>", desc := "(Ljava/lang/String;Ljava/lang/String;)V" } : Jvm.MethodName) prog_19_method_1_code (3 : Nat) (Option.none : Option Jvm.ClassFile.FieldType), Jvm.Cond.code ({ cls := "java/util/Objects", name := "requireNonNull", desc := "(Ljava/lang/Object;)Ljava/lang/Object;" } : Jvm.MethodName) jdk_31_method_10_code (1 : Nat) (Option.some (Jvm.ClassFile.FieldType.object "java/lang/Object")), Jvm.Cond.code ({ cls := "com/example/diogenes/diogenes/format/TopicEqualsPinLaw", name := "same", desc := "(II)Z" } : Jvm.MethodName) method_4_code (6 : Nat) (Option.some Jvm.ClassFile.FieldType.boolean), Jvm.Cond.code ({ cls := "com/example/diogenes/diogenes/format/Topic", name := "equals", desc := "(Ljava/lang/Object;)Z" } : Jvm.MethodName) prog_19_method_4_code (2 : Nat) (Option.some Jvm.ClassFile.FieldType.boolean), Jvm.Cond.code ({ cls := "java/lang/String", name := "equals", desc := "(Ljava/lang/Object;)Z" } : Jvm.MethodName) jdk_42_method_66_code (3 : Nat) (Option.some Jvm.ClassFile.FieldType.boolean), Jvm.Cond.code ({ cls := "java/lang/StringLatin1", name := "equals", desc := "([B[B)Z" } : Jvm.MethodName) jdk_43_method_13_code (3 : Nat) (Option.some Jvm.ClassFile.FieldType.boolean)]
set_option maxRecDepth 65536 in
theorem codes_eq : words1.filter isCode = codes1 := rfl
theorem w_codes : ∀ c ∈ words1.filter isCode, c.before args0 about1 = true := by
  rw [codes_eq]
  intro c hc
  simp only [codes1, List.mem_cons, List.not_mem_nil, or_false] at hc
  rcases hc with rfl | rfl | rfl | rfl | rfl | rfl | rfl | rfl | rfl | rfl | rfl | rfl | rfl | rfl | rfl
  · exact w_c0
  · exact w_c1
  · exact w_c2
  · exact w_c3
  · exact w_c4
  · exact w_c5
  · exact w_c6
  · exact w_c7
  · exact w_c8
  · exact w_c9
  · exact w_c10
  · exact w_c11
  · exact w_c12
  · exact w_c13
  · exact w_c14
set_option maxRecDepth 65536 in
theorem w_t1 : (words1.take 24).all (fun c => isCode c || c.before args0 about1) = true := by decide +kernel
set_option maxRecDepth 65536 in
theorem w_t2 : ((words1.drop 24).take 24).all (fun c => isCode c || c.before args0 about1) = true := by decide +kernel
set_option maxRecDepth 65536 in
theorem w_t3 : (((words1.drop 24).drop 24).take 24).all (fun c => isCode c || c.before args0 about1) = true := by decide +kernel
set_option maxRecDepth 65536 in
theorem w_t4 : (((words1.drop 24).drop 24).drop 24).all (fun c => isCode c || c.before args0 about1) = true := by decide +kernel
theorem w_tables : (allAtoms (Jvm.Cond.code x code maxLocals ret :: tables_1)).before args0 about1 = true := by
  rw [allAtoms_all]
  show words1.all (fun c => c.before args0 about1) = true
  refine all_split ?_ w_codes
  rw [← List.take_append_drop 24 words1, List.all_append, w_t1, ← List.take_append_drop 24 (words1.drop 24), List.all_append, w_t2, ← List.take_append_drop 24 ((words1.drop 24).drop 24), List.all_append, w_t3, w_t4]
  rfl
set_option maxRecDepth 65536 in
theorem w_rest : rest_1_c.before args0 about1 = true := by decide +kernel
set_option maxRecDepth 65536 in
theorem w_case : (Jvm.Cond.and given_1 narrow_1).before args0 about1 = true := by decide +kernel
set_option maxRecDepth 65536 in
theorem w_consts : constsHeld consts_1 about1 := Jvm.Lit.constsHeldB_iff.mp (by decide +kernel)
theorem w_applies : (headSpec (Jvm.Cond.code x code maxLocals ret :: tables_1) room_1).applies x e0.platform about1 = true :=
  (Spec.applies_iff w_frames).mpr ⟨w_running, w_runnable, w_alone, w_named, w_hears, w_ripe, w_room, w_tables⟩
theorem atStart : AtStart classFile x code maxLocals ret World_1 tables_1 room_1 Calls_1 rest_1 Pre_1 launch0 p0 e0 about1 theMethod args0 below0 :=
  ⟨lists_1, trivial, launch0.admits_env _ _ _, launch0.least_env, fairChoices_fair.cas, fairChoices_fair.clock, w_frames, w_args, w_heap, w_applies, ⟨w_consts, trivial⟩, w_rest, w_case⟩
end start1
theorem witness_1 : WitnessClaimed_1 := ⟨start1.p0, start1.e0, start1.about1, start1.theMethod, start1.args0, start1.below0, start1.atStart⟩
end Jvm.Pilot.@@N@@
