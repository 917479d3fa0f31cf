import JvmDerived
import JvmDerived.Pilot.@@N@@Statement
import JvmDerived.Pilot.@@N@@Code
set_option linter.unusedVariables false
set_option linter.unusedSimpArgs false
/- laws to paste: Road.backV, Road.codOf (cut by pick.py; bodies as the Statement names them) -/
namespace Jvm.Pilot.@@N@@
namespace StrChars
open Jvm Sem ClassFile Op Lib Jvm.Stand Jvm.Free.XT Jvm.Free.ALB Jvm.Free.JM Jvm.Free
open Jvm.Lib.Cold (StaticIs)
/-- a char array whose places are chars -/
def Ch (a : Addr) (A : Cell) (U : State) : Prop := Arr .char a A U ∧ Typed .char A
theorem Ch.mv {a : Addr} {A : Cell} {U U' : State} (h : Ch a A U) (hal : U.vm.Alike U'.vm) (hh : U'.heap = U.heap) : Ch a A U' := ⟨h.1.mv hal hh, h.2⟩
theorem Ch.keep {a : Addr} {A : Cell} {U U' : State} (h : Ch a A U) (hal : U.vm.Alike U'.vm) (hk : U'.heap[a]? = some A) : Ch a A U' := ⟨h.1.keep hal hk, h.2⟩
/-- what place i of a char[]'s cell holds -/
def cv (A : Cell) (i : Nat) : Int32 := match A.slots[i]? with | some (.int x) => x | _ => 0
theorem Ch.get {a : Addr} {A : Cell} {U : State} (h : Ch a A U) {i : Nat} (hi : i < A.slots.size) : A.slots[i]? = some (.int (cv A i)) := by
  have e := Array.getElem?_eq_getElem hi
  have f := h.2 i _ e
  unfold cv; rw [e]
  generalize A.slots[i] = v at f
  cases v <;> simp [fits] at f ⊢
/-- the byte that i2b leaves of a char -/
def lo8 (x : Int32) : Int32 := x.toInt8.toInt32
theorem fits_lo8 (y : Int32) : fits .byte (.int (lo8 y)) = true := by
  have h1 := y.toInt8.le_toInt
  have h2 := y.toInt8.toInt_lt
  simp only [lo8, fits, Bool.and_eq_true, decide_eq_true_eq, Int32.le_iff_toInt_le, Int8.toInt_toInt32, show (-128 : Int32).toInt = -128 from by decide, show (127 : Int32).toInt = 127 from by decide]
  omega
/-- A' is A but that each place j of lo .. hi - 1 holds f j -/
def Laid (A A' : Cell) (lo hi : Nat) (f : Nat → Value) : Prop := A'.cls = A.cls ∧ A'.vm = A.vm ∧ A'.slots.size = A.slots.size ∧ ∀ i, A'.slots[i]? = if lo ≤ i ∧ i < hi then some (f i) else A.slots[i]?
theorem Laid.zero (A : Cell) (lo : Nat) (f : Nat → Value) : Laid A A lo (lo + 0) f := ⟨rfl, rfl, rfl, fun i => by rw [if_neg (by omega)]⟩
theorem Laid.step {A Ak : Cell} {lo k : Nat} {f : Nat → Value} {v : Value} (h : Laid A Ak lo k f) (hlo : lo ≤ k) (hk : k < Ak.slots.size) (hv : v = f k) : Laid A (Ak.setSlot k v) lo (k + 1) f := by
  refine ⟨h.1, h.2.1, by simpa [Cell.setSlot] using h.2.2.1, fun i => ?_⟩
  by_cases e : k = i
  · subst e; rw [Cell.slots_setSlot_self v hk, if_pos (by omega), hv]
  · rw [Cell.slots_setSlot_ne v e, h.2.2.2 i]
    by_cases q : lo ≤ i ∧ i < k
    · rw [if_pos q, if_pos (by omega)]
    · rw [if_neg q, if_neg (by omega)]
def U16 : String := "java/lang/StringUTF16"
namespace Cmp5
def yN : MethodName := ⟨"java/lang/StringUTF16", "compress", "([CI[BII)I"⟩
abbrev yB : ByteArray := jdk_52_method_21_code
theorem d0 : decode yB 0 = .ok (.iconst 0, 1) := by decide +kernel
theorem d1 : decode yB 1 = .ok (.istore 5, 2) := by decide +kernel
theorem d3 : decode yB 3 = .ok (.iload 5, 2) := by decide +kernel
theorem d5 : decode yB 5 = .ok (.iload 4, 2) := by decide +kernel
theorem d7 : decode yB 7 = .ok (.if_icmp (.ge) 37, 3) := by decide +kernel
theorem d10 : decode yB 10 = .ok (.aload_n 0, 1) := by decide +kernel
theorem d11 : decode yB 11 = .ok (.iload_n 1, 1) := by decide +kernel
theorem d12 : decode yB 12 = .ok (.caload, 1) := by decide +kernel
theorem d13 : decode yB 13 = .ok (.istore 6, 2) := by decide +kernel
theorem d15 : decode yB 15 = .ok (.iload 6, 2) := by decide +kernel
theorem d17 : decode yB 17 = .ok (.sipush 255, 3) := by decide +kernel
theorem d20 : decode yB 20 = .ok (.if_icmp (.le) 6, 3) := by decide +kernel
theorem d26 : decode yB 26 = .ok (.aload_n 2, 1) := by decide +kernel
theorem d27 : decode yB 27 = .ok (.iload_n 3, 1) := by decide +kernel
theorem d28 : decode yB 28 = .ok (.iload 6, 2) := by decide +kernel
theorem d30 : decode yB 30 = .ok (.i2b, 1) := by decide +kernel
theorem d31 : decode yB 31 = .ok (.bastore, 1) := by decide +kernel
theorem d32 : decode yB 32 = .ok (.iinc 1 1, 3) := by decide +kernel
theorem d35 : decode yB 35 = .ok (.iinc 3 1, 3) := by decide +kernel
theorem d38 : decode yB 38 = .ok (.iinc 5 1, 3) := by decide +kernel
theorem d41 : decode yB 41 = .ok (.goto (-38), 3) := by decide +kernel
theorem d44 : decode yB 44 = .ok (.iload 4, 2) := by decide +kernel
theorem d46 : decode yB 46 = .ok (.ireturn, 1) := by decide +kernel
def site : List Cond := []
def tab : Cond := tabOf yN yB 7 (some .int) site
def P (b : Addr) (A : Cell) (d : Addr) (B : Cell) (o q len : Nat) (args : Array Value) (s : State) : Prop := args = #[.ref b, .int (Int32.ofNat o), .ref d, .int (Int32.ofNat q), .int (Int32.ofNat len)] ∧ Ch b A s ∧ Arr .byte d B s ∧ b ≠ d ∧ o + len ≤ A.slots.size ∧ q + len ≤ B.slots.size ∧ ∀ i, i < len → ¬ 255 < cv A (o + i)
def E (b : Addr) (A : Cell) (d : Addr) (B : Cell) (o q len : Nat) (r : Option Value) (s u : State) : Prop := r = some (.int (Int32.ofNat len)) ∧ ∃ B', Put d B' s u ∧ Laid B B' q (q + len) (fun j => Value.int (lo8 (cv A (o + (j - q)))))
/-- no char of the range above 255: len; the places written hold each char's low byte -/
theorem law (l : Launch) (b : Addr) (A : Cell) (d : Addr) (B : Cell) (o q len : Nat) : Law l yN 5 5 0 0 yB 7 (some .int) site (P b A d B o q len) (E b A d B o q len) (copyLocs d q len) 0 0 := by
  refine Law.of_walk (plainFor_of_name (by decide +kernel)) (by decide +kernel) (by decide +kernel) (by decide) (fun _ _ h => by rw [h.1]; rfl) (fun _ U U' hal hh h => ⟨h.1, h.2.1.mv hal hh, h.2.2.1.mv hal hh, h.2.2.2⟩) (fun r U U' V V' h1 hal h2 h => ⟨h.1, h.2.elim fun B' q => ⟨B', q.1.mv h1 h2, q.2⟩⟩) ?_
  intro p e s m args below meth c s₁ X0 hexec hbytes hml hret hlk hnm hown hh0 W hP
  obtain ⟨rfl, hA, hB, hne, l1, l2, hp⟩ := hP
  have c1 : Steps p.tables e below (s₁.setTop (entryFrame m #[.ref b, .int (Int32.ofNat o), .ref d, .int (Int32.ofNat q), .int (Int32.ofNat len)] 7)) (s₁.setTop (mkF m 0 #[.val (.ref b), .val (.int (Int32.ofNat o)), .val (.ref d), .val (.int (Int32.ofNat q)), .val (.int (Int32.ofNat len)), .unset, .unset] [])) := entry rfl
  have hA0 := hA.1.mv X0.warmed.alike hh0
  have hB0 := hB.mv X0.warmed.alike hh0
  have a31 := hA.1.2.2.2
  have c2 : Steps p.tables e below (s₁.setTop (entryFrame m #[.ref b, .int (Int32.ofNat o), .ref d, .int (Int32.ofNat q), .int (Int32.ofNat len)] 7)) (s₁.setTop (mkF m 3 #[.val (.ref b), .val (.int (Int32.ofNat o)), .val (.ref d), .val (.int (Int32.ofNat q)), .val (.int (Int32.ofNat len)), .val (.int 0), .unset] [])) := c1.trans (by
    refine iconstV X0.here hexec rfl 0 (hb hbytes d0) (by decide) ?_
    refine XS.istore X0.here hexec rfl (hb hbytes d1) rfl rfl ?_
    exact Steps.refl _)
  have loop : ∀ (r i : Nat), i + r = len → ∀ (z : Slot), (z = .unset ∨ ∃ w, z = .val w ∧ w.category = 1) → ∀ (Tl : State) (Bk : Cell), Stand p l e { frames := 0, locals := 0, cells := 0, slots := 0 } s m #[.ref b, .int (Int32.ofNat o), .ref d, .int (Int32.ofNat q), .int (Int32.ofNat len)] below meth c Tl ([] ++ copyLocs d q i) 0 0 → Put d Bk s₁ Tl → Laid B Bk q (q + i) (fun j => Value.int (lo8 (cv A (o + (j - q))))) →
      Steps p.tables e below (s₁.setTop (entryFrame m #[.ref b, .int (Int32.ofNat o), .ref d, .int (Int32.ofNat q), .int (Int32.ofNat len)] 7)) (Tl.setTop (mkF m 3 #[.val (.ref b), .val (.int (Int32.ofNat (o + i))), .val (.ref d), .val (.int (Int32.ofNat (q + i))), .val (.int (Int32.ofNat len)), .val (.int (Int32.ofNat i)), z] [])) → ∃ (T' : State) (B' : Cell) (z' : Slot), Stand p l e { frames := 0, locals := 0, cells := 0, slots := 0 } s m #[.ref b, .int (Int32.ofNat o), .ref d, .int (Int32.ofNat q), .int (Int32.ofNat len)] below meth c T' ([] ++ copyLocs d q len) 0 0 ∧ Put d B' s₁ T' ∧ Laid B B' q (q + len) (fun j => Value.int (lo8 (cv A (o + (j - q))))) ∧
      Steps p.tables e below (s₁.setTop (entryFrame m #[.ref b, .int (Int32.ofNat o), .ref d, .int (Int32.ofNat q), .int (Int32.ofNat len)] 7)) (T'.setTop (mkF m 3 #[.val (.ref b), .val (.int (Int32.ofNat (o + len))), .val (.ref d), .val (.int (Int32.ofNat (q + len))), .val (.int (Int32.ofNat len)), .val (.int (Int32.ofNat len)), z'] [])) := by
    intro r
    induction r with
    | zero =>
      intro i hi z hz Tl Bk Xl pl fl cl
      have hil : i = len := by omega
      rw [hil] at Xl fl cl
      exact ⟨Tl, Bk, z, Xl, pl, fl, cl⟩
    | succ r ih =>
      intro i hi z hz Tl Bk Xl pl fl cl
      have all := X0.warmed.alike.symm.trans Xl.warmed.alike
      have hAl := hA0.keep all (pl.other hne hA0.1)
      have hBk := hB0.like all pl.1 fl.1 fl.2.1 fl.2.2.1
      have hlt : q + i < Bk.slots.size := by rw [fl.2.2.1]; omega
      have c3 : Steps p.tables e below (s₁.setTop (entryFrame m #[.ref b, .int (Int32.ofNat o), .ref d, .int (Int32.ofNat q), .int (Int32.ofNat len)] 7)) (Tl.setTop (mkF m 12 #[.val (.ref b), .val (.int (Int32.ofNat (o + i))), .val (.ref d), .val (.int (Int32.ofNat (q + i))), .val (.int (Int32.ofNat len)), .val (.int (Int32.ofNat i)), z] [.int (Int32.ofNat (o + i)), .ref b])) := cl.trans (by
        refine XS.iload Xl.here hexec rfl (hb hbytes d3) rfl ?_
        refine XS.iload Xl.here hexec rfl (hb hbytes d5) rfl ?_
        refine XS.icmpNo Xl.here hexec rfl (hb hbytes d7) rfl (ii_ge_f (lt32 (by omega) (by omega))) ?_
        refine XS.aloadN Xl.here hexec rfl (hb hbytes d10) rfl rfl ?_
        refine XS.iloadN Xl.here hexec rfl (hb hbytes d11) rfl ?_
        exact Steps.refl _)
      have c4 : Steps p.tables e below (s₁.setTop (entryFrame m #[.ref b, .int (Int32.ofNat o), .ref d, .int (Int32.ofNat q), .int (Int32.ofNat len)] 7)) (Tl.setTop (mkF m 13 #[.val (.ref b), .val (.int (Int32.ofNat (o + i))), .val (.ref d), .val (.int (Int32.ofNat (q + i))), .val (.int (Int32.ofNat len)), .val (.int (Int32.ofNat i)), z] [.int (cv A (o + i))])) := c3.trans (by
        refine Xl.aget hexec hAl rfl (hA.get (i := o + i) (by omega)) rfl rfl (hb hbytes d12) ?_
        exact Steps.refl _)
      have c5 : Steps p.tables e below (s₁.setTop (entryFrame m #[.ref b, .int (Int32.ofNat o), .ref d, .int (Int32.ofNat q), .int (Int32.ofNat len)] 7)) (Tl.setTop (mkF m 15 #[.val (.ref b), .val (.int (Int32.ofNat (o + i))), .val (.ref d), .val (.int (Int32.ofNat (q + i))), .val (.int (Int32.ofNat len)), .val (.int (Int32.ofNat i)), .val (.int (cv A (o + i)))] [])) := c4.trans (by
        refine XS.istoreS Xl.here hexec rfl (hb hbytes d13) rfl rfl hz ?_
        exact Steps.refl _)
      have c6 : Steps p.tables e below (s₁.setTop (entryFrame m #[.ref b, .int (Int32.ofNat o), .ref d, .int (Int32.ofNat q), .int (Int32.ofNat len)] 7)) (Tl.setTop (mkF m 31 #[.val (.ref b), .val (.int (Int32.ofNat (o + i))), .val (.ref d), .val (.int (Int32.ofNat (q + i))), .val (.int (Int32.ofNat len)), .val (.int (Int32.ofNat i)), .val (.int (cv A (o + i)))] [.int (lo8 (cv A (o + i))), .int (Int32.ofNat (q + i)), .ref d])) := c5.trans (by
        refine XS.iload Xl.here hexec rfl (hb hbytes d15) rfl ?_
        refine sipushV Xl.here hexec rfl 255 (hb hbytes d17) (by decide) ?_
        refine XS.icmpYes Xl.here hexec rfl (pc0 := 20) rfl (hb hbytes d20) rfl (ii_le_t (hp i (by omega))) (by decide) rfl ?_
        refine XS.aloadN Xl.here hexec rfl (hb hbytes d26) rfl rfl ?_
        refine XS.iloadN Xl.here hexec rfl (hb hbytes d27) rfl ?_
        refine XS.iload Xl.here hexec rfl (hb hbytes d28) rfl ?_
        refine i2b Xl.here hexec rfl (hb hbytes d30) rfl ?_
        exact Steps.refl _)
      obtain ⟨T7, X7, p7, st7⟩ := Xl.aput hexec hBk rfl hlt rfl (fits_lo8 (cv A (o + i))) (g := (mkF m 31 #[.val (.ref b), .val (.int (Int32.ofNat (o + i))), .val (.ref d), .val (.int (Int32.ofNat (q + i))), .val (.int (Int32.ofNat len)), .val (.int (Int32.ofNat i)), .val (.int (cv A (o + i)))] [.int (lo8 (cv A (o + i))), .int (Int32.ofNat (q + i)), .ref d])) rfl (rest := []) rfl (hb hbytes d31)
      have c8 : Steps p.tables e below (s₁.setTop (entryFrame m #[.ref b, .int (Int32.ofNat o), .ref d, .int (Int32.ofNat q), .int (Int32.ofNat len)] 7)) (T7.setTop (mkF m 32 #[.val (.ref b), .val (.int (Int32.ofNat (o + i))), .val (.ref d), .val (.int (Int32.ofNat (q + i))), .val (.int (Int32.ofNat len)), .val (.int (Int32.ofNat i)), .val (.int (cv A (o + i)))] [])) := c6.trans (st7 _ (Steps.refl _))
      have c9 : Steps p.tables e below (s₁.setTop (entryFrame m #[.ref b, .int (Int32.ofNat o), .ref d, .int (Int32.ofNat q), .int (Int32.ofNat len)] 7)) (T7.setTop (mkF m 3 #[.val (.ref b), .val (.int (Int32.ofNat (o + i) + 1)), .val (.ref d), .val (.int (Int32.ofNat (q + i) + 1)), .val (.int (Int32.ofNat len)), .val (.int (Int32.ofNat i + 1)), .val (.int (cv A (o + i)))] [])) := c8.trans (by
        refine iincV X7.here hexec rfl 1 (hb hbytes d32) (by decide) rfl rfl ?_
        refine iincV X7.here hexec rfl 1 (hb hbytes d35) (by decide) rfl rfl ?_
        refine iincV X7.here hexec rfl 1 (hb hbytes d38) (by decide) rfl rfl ?_
        refine XS.goto X7.here hexec rfl (pc0 := 41) rfl (hb hbytes d41) (by decide) rfl ?_
        exact Steps.refl _)
      have c10 : Steps p.tables e below (s₁.setTop (entryFrame m #[.ref b, .int (Int32.ofNat o), .ref d, .int (Int32.ofNat q), .int (Int32.ofNat len)] 7)) (T7.setTop (mkF m 3 #[.val (.ref b), .val (.int (Int32.ofNat (o + (i + 1)))), .val (.ref d), .val (.int (Int32.ofNat (q + (i + 1)))), .val (.int (Int32.ofNat len)), .val (.int (Int32.ofNat (i + 1))), .val (.int (cv A (o + i)))] [])) := by
        have := c9
        rw [succ32, succ32, succ32] at this
        exact this
      exact ih (i + 1) (by omega) _ (Or.inr ⟨_, rfl, rfl⟩) T7 _ (by rw [copyLocs_step, ← List.append_assoc]; exact X7) (pl.trans p7) (fl.step (by omega) hlt (by simp)) c10
  obtain ⟨T9, B9, z9, X9, p9, f9, g9⟩ := loop len 0 (by omega) .unset (Or.inl rfl) s₁ B (by simpa [copyLocs] using X0) ⟨hB0.1, fun _ _ => rfl, rfl⟩ (Laid.zero _ _ _) c2
  have c11 : Steps p.tables e below (s₁.setTop (entryFrame m #[.ref b, .int (Int32.ofNat o), .ref d, .int (Int32.ofNat q), .int (Int32.ofNat len)] 7)) (T9.setTop (mkF m 46 #[.val (.ref b), .val (.int (Int32.ofNat (o + len))), .val (.ref d), .val (.int (Int32.ofNat (q + len))), .val (.int (Int32.ofNat len)), .val (.int (Int32.ofNat len)), z9] [.int (Int32.ofNat len)])) := g9.trans (by
    refine XS.iload X9.here hexec rfl (hb hbytes d3) rfl ?_
    refine XS.iload X9.here hexec rfl (hb hbytes d5) rfl ?_
    refine XS.icmpYes X9.here hexec rfl (pc0 := 7) rfl (hb hbytes d7) rfl (ii_ge_t (nlt32 (by omega) (Nat.le_refl _))) (by decide) rfl ?_
    refine XS.iload X9.here hexec rfl (hb hbytes d44) rfl ?_
    exact Steps.refl _)
  exact ⟨T9, some (.int (Int32.ofNat len)), _, _, _, X9, by simp, rfl, rfl, (fun h => by cases h), ⟨rfl, B9, p9.from hh0, f9⟩, fun fs hl => c11.trans (X9.ireturnOut hexec hret rfl (Or.inl rfl) (hb hbytes d46) hl)⟩
end Cmp5
namespace Cmp3
def yN : MethodName := ⟨"java/lang/StringUTF16", "compress", "([CII)[B"⟩
abbrev yB : ByteArray := jdk_52_method_16_code
theorem d0 : decode yB 0 = .ok (.iload_n 2, 1) := by decide +kernel
theorem d1 : decode yB 1 = .ok (.newarray .byte, 2) := by decide +kernel
theorem d3 : decode yB 3 = .ok (.astore_n 3, 1) := by decide +kernel
theorem d4 : decode yB 4 = .ok (.aload_n 0, 1) := by decide +kernel
theorem d5 : decode yB 5 = .ok (.iload_n 1, 1) := by decide +kernel
theorem d6 : decode yB 6 = .ok (.aload_n 3, 1) := by decide +kernel
theorem d7 : decode yB 7 = .ok (.iconst 0, 1) := by decide +kernel
theorem d8 : decode yB 8 = .ok (.iload_n 2, 1) := by decide +kernel
theorem d9 : decode yB 9 = .ok (.invokestatic 115, 3) := by decide +kernel
theorem d12 : decode yB 12 = .ok (.istore 4, 2) := by decide +kernel
theorem d14 : decode yB 14 = .ok (.iload 4, 2) := by decide +kernel
theorem d16 : decode yB 16 = .ok (.iload_n 2, 1) := by decide +kernel
theorem d17 : decode yB 17 = .ok (.if_icmp (.eq) 40, 3) := by decide +kernel
theorem d57 : decode yB 57 = .ok (.aload_n 3, 1) := by decide +kernel
theorem d58 : decode yB 58 = .ok (.areturn, 1) := by decide +kernel
def site : List Cond := [.arrayClass .byte, Cmp5.tab] ++ staticW U16 115 Cmp5.yN
def tab : Cond := tabOf yN yB 6 (some (.array .byte)) site
def P (b : Addr) (A : Cell) (o len : Nat) (args : Array Value) (s : State) : Prop := args = #[.ref b, .int (Int32.ofNat o), .int (Int32.ofNat len)] ∧ Ch b A s ∧ o + len ≤ A.slots.size ∧ len ≤ 536870912 ∧ ∀ i, i < len → ¬ 255 < cv A (o + i)
def E (b : Addr) (A : Cell) (o len : Nat) (r : Option Value) (s u : State) : Prop := NewArr .byte "[B" len (fun j => .int (lo8 (cv A (o + j)))) r s u ∧ u.heap.size = s.heap.size + 1
/-- no char of the range above 255: a new byte[] of their low bytes -/
theorem law (l : Launch) (b : Addr) (A : Cell) (o len : Nat) : Law l yN 3 3 1 18 yB 6 (some (.array .byte)) site (P b A o len) (E b A o len) [] 1 len := by
  refine Law.of_walk (plainFor_of_name (by decide +kernel)) (by decide +kernel) (by decide +kernel) (by decide) (fun _ _ h => by rw [h.1]; rfl) (fun _ U U' hal hh h => ⟨h.1, h.2.1.mv hal hh, h.2.2⟩) (fun r U U' V V' h1 hal h2 h => ⟨NewArr.mv r U U' V V' h1 hal h2 h.1, by rw [h1, h2]; exact h.2⟩) ?_
  intro p e s m args below meth c s₁ X0 hexec hbytes hml hret hlk hnm hown hh0 W hP
  obtain ⟨rfl, hA, l1, l2, hp⟩ := hP
  have a31 := hA.1.2.2.2
  have c1 : Steps p.tables e below (s₁.setTop (entryFrame m #[.ref b, .int (Int32.ofNat o), .int (Int32.ofNat len)] 6)) (s₁.setTop (mkF m 0 #[.val (.ref b), .val (.int (Int32.ofNat o)), .val (.int (Int32.ofNat len)), .unset, .unset, .unset] [])) := entry rfl
  have c2 : Steps p.tables e below (s₁.setTop (entryFrame m #[.ref b, .int (Int32.ofNat o), .int (Int32.ofNat len)] 6)) (s₁.setTop (mkF m 1 #[.val (.ref b), .val (.int (Int32.ofNat o)), .val (.int (Int32.ofNat len)), .unset, .unset, .unset] [.int (Int32.ofNat len)])) := c1.trans (by
    refine XS.iloadN X0.here hexec rfl (hb hbytes d0) rfl ?_
    exact Steps.refl _)
  obtain ⟨T3, B3, X3, ba3, bs3, bv3, bh3, bf3, st3⟩ := X0.anew hexec (atype := .byte) (wk W (.arrayClass .byte)) rfl (by show len * 1 ≤ _; omega) (by omega) (g := (mkF m 1 #[.val (.ref b), .val (.int (Int32.ofNat o)), .val (.int (Int32.ofNat len)), .unset, .unset, .unset] [.int (Int32.ofNat len)])) rfl (hb hbytes d1) (rest := []) rfl (Nat.le_refl _) (by show 0 + len ≤ len; omega)
  rw [hh0] at ba3 st3
  have kp3 : XT.Kept s T3 := (XT.Kept.of_eq hh0).push bh3
  have hA3 := hA.keep X3.warmed.alike (kp3 _ _ hA.1.1)
  have hne : b ≠ s.heap.size := hA.1.ne
  have c4 : Steps p.tables e below (s₁.setTop (entryFrame m #[.ref b, .int (Int32.ofNat o), .int (Int32.ofNat len)] 6)) (T3.setTop (mkF m 3 #[.val (.ref b), .val (.int (Int32.ofNat o)), .val (.int (Int32.ofNat len)), .unset, .unset, .unset] [.ref s.heap.size])) := c2.trans (st3 _ (Steps.refl _))
  have c5 : Steps p.tables e below (s₁.setTop (entryFrame m #[.ref b, .int (Int32.ofNat o), .int (Int32.ofNat len)] 6)) (T3.setTop (mkF m 9 #[.val (.ref b), .val (.int (Int32.ofNat o)), .val (.int (Int32.ofNat len)), .val (.ref s.heap.size), .unset, .unset] [.int (Int32.ofNat len), .int 0, .ref s.heap.size, .int (Int32.ofNat o), .ref b])) := c4.trans (by
    refine XS.astoreN X3.here hexec rfl (hb hbytes d3) rfl rfl rfl ?_
    refine XS.aloadN X3.here hexec rfl (hb hbytes d4) rfl rfl ?_
    refine XS.iloadN X3.here hexec rfl (hb hbytes d5) rfl ?_
    refine XS.aloadN X3.here hexec rfl (hb hbytes d6) rfl rfl ?_
    refine iconstV X3.here hexec rfl 0 (hb hbytes d7) (by decide) ?_
    refine XS.iloadN X3.here hexec rfl (hb hbytes d8) rfl ?_
    exact Steps.refl _)
  obtain ⟨v6, T6, X6, E6, g6⟩ := X3.callS hexec (Cmp5.law l b A s.heap.size B3 o 0 len) hown (wks W (staticW U16 115 Cmp5.yN)) (wk W Cmp5.tab) (W := 0) (Nat.le_of_ble_eq_true rfl) (Nat.le_of_ble_eq_true rfl) (Nat.le_refl _) (by show 0 + len + 0 ≤ len; omega) (g := (mkF m 9 #[.val (.ref b), .val (.int (Int32.ofNat o)), .val (.int (Int32.ofNat len)), .val (.ref s.heap.size), .unset, .unset] [.int (Int32.ofNat len), .int (Int32.ofNat 0), .ref s.heap.size, .int (Int32.ofNat o), .ref b])) rfl (by rw [hml]; rfl) c5 (argsL := [.ref b, .int (Int32.ofNat o), .ref s.heap.size, .int (Int32.ofNat 0), .int (Int32.ofNat len)]) (rest := []) rfl rfl (by show 2 * 0 + 0 ≤ _; decide) (hb hbytes d9) (⟨rfl, hA3, ba3, hne, l1, by rw [bs3]; simp, hp⟩)
  obtain ⟨rfl, B6, p6, f6⟩ := E6
  have c7 : Steps p.tables e below (s₁.setTop (entryFrame m #[.ref b, .int (Int32.ofNat o), .int (Int32.ofNat len)] 6)) (T6.setTop (mkF m 12 #[.val (.ref b), .val (.int (Int32.ofNat o)), .val (.int (Int32.ofNat len)), .val (.ref s.heap.size), .unset, .unset] [.int (Int32.ofNat len)])) := g6
  have c8 : Steps p.tables e below (s₁.setTop (entryFrame m #[.ref b, .int (Int32.ofNat o), .int (Int32.ofNat len)] 6)) (T6.setTop (mkF m 58 #[.val (.ref b), .val (.int (Int32.ofNat o)), .val (.int (Int32.ofNat len)), .val (.ref s.heap.size), .val (.int (Int32.ofNat len)), .unset] [.ref s.heap.size])) := c7.trans (by
    refine XS.istore X6.here hexec rfl (hb hbytes d12) rfl rfl ?_
    refine XS.iload X6.here hexec rfl (hb hbytes d14) rfl ?_
    refine XS.iloadN X6.here hexec rfl (hb hbytes d16) rfl ?_
    refine XS.icmpYes X6.here hexec rfl (pc0 := 17) rfl (hb hbytes d17) rfl (ii_eq_t rfl) (by decide) rfl ?_
    refine XS.aloadN X6.here hexec rfl (hb hbytes d57) rfl rfl ?_
    exact Steps.refl _)
  have X8 := X6.wide (L' := []) (cells' := 1) (slots' := len) (fun x hx hlt => by
    simp only [List.nil_append, copyLocs, List.mem_map, List.mem_range] at hx
    obtain ⟨i, -, rfl⟩ := hx
    exact absurd hlt (Nat.lt_irrefl _)) (Nat.le_refl _) (by omega)
  exact ⟨T6, some (.ref s.heap.size), _, _, _, X8, rfl, rfl, rfl, (fun h => by cases h), ⟨⟨rfl, B6, ba3.like (X3.warmed.alike.symm.trans X6.warmed.alike) p6.1 f6.1 f6.2.1 f6.2.2.1, f6.2.1.trans bv3, by rw [X6.warmed.alike.findClass, f6.1]; exact bf3, by rw [f6.2.2.1, bs3]; simp, fun j hj => by rw [f6.2.2.2 j, if_pos (by omega)]; rfl, kp3.put p6 (Nat.le_refl _)⟩, by rw [p6.2.2, bh3, hh0]; simp⟩, fun fs hl => c8.trans (X8.areturnOut hexec rfl hret rfl (hb hbytes d58) hl)⟩
end Cmp3
namespace CodL
def yN : MethodName := ⟨"java/lang/StringUTF16", "coderFromArrayLen", "([BI)B"⟩
abbrev yB : ByteArray := jdk_52_method_15_code
theorem d0 : decode yB 0 = .ok (.iload_n 1, 1) := by decide +kernel
theorem d1 : decode yB 1 = .ok (.aload_n 0, 1) := by decide +kernel
theorem d2 : decode yB 2 = .ok (.arraylength, 1) := by decide +kernel
theorem d3 : decode yB 3 = .ok (.isub, 1) := by decide +kernel
theorem d4 : decode yB 4 = .ok (.bipush 31, 2) := by decide +kernel
theorem d6 : decode yB 6 = .ok (.iushr, 1) := by decide +kernel
theorem d7 : decode yB 7 = .ok (.i2b, 1) := by decide +kernel
theorem d8 : decode yB 8 = .ok (.ireturn, 1) := by decide +kernel
def site : List Cond := []
def tab : Cond := tabOf yN yB 2 (some .byte) site
def P (d : Addr) (B : Cell) (args : Array Value) (s : State) : Prop := args = #[.ref d, .int (Int32.ofNat B.slots.size)] ∧ Arr .byte d B s
def E (r : Option Value) (s u : State) : Prop := XT.PureE (some (.int 0)) r s u
/-- an array as long as the number of chars: LATIN1 -/
theorem law (l : Launch) (d : Addr) (B : Cell) : Law l yN 2 2 0 0 yB 2 (some .byte) site (P d B) E [] 0 0 := by
  refine Law.of_walk (plainFor_of_name (by decide +kernel)) (by decide +kernel) (by decide +kernel) (by decide) (fun _ _ h => by rw [h.1]; rfl) (fun _ U U' hal hh h => ⟨h.1, h.2.mv hal hh⟩) (fun r U U' V V' h1 hal h2 h => XT.PureE.mv r U U' V V' h1 hal h2 h) ?_
  intro p e s m args below meth c s₁ X0 hexec hbytes hml hret hlk hnm hown hh0 W hP
  obtain ⟨rfl, hB⟩ := hP
  have hB0 := hB.mv X0.warmed.alike hh0
  have c1 : Steps p.tables e below (s₁.setTop (entryFrame m #[.ref d, .int (Int32.ofNat B.slots.size)] 2)) (s₁.setTop (mkF m 0 #[.val (.ref d), .val (.int (Int32.ofNat B.slots.size))] [])) := entry rfl
  have c2 : Steps p.tables e below (s₁.setTop (entryFrame m #[.ref d, .int (Int32.ofNat B.slots.size)] 2)) (s₁.setTop (mkF m 2 #[.val (.ref d), .val (.int (Int32.ofNat B.slots.size))] [.ref d, .int (Int32.ofNat B.slots.size)])) := c1.trans (by
    refine XS.iloadN X0.here hexec rfl (hb hbytes d0) rfl ?_
    refine XS.aloadN X0.here hexec rfl (hb hbytes d1) rfl rfl ?_
    exact Steps.refl _)
  have c3 : Steps p.tables e below (s₁.setTop (entryFrame m #[.ref d, .int (Int32.ofNat B.slots.size)] 2)) (s₁.setTop (mkF m 8 #[.val (.ref d), .val (.int (Int32.ofNat B.slots.size))] [.int (lo8 (ushr (Int32.ofNat B.slots.size - Int32.ofNat B.slots.size) 31))])) := c2.trans (by
    refine X0.alen hexec hB0 rfl rfl (hb hbytes d2) ?_
    refine XS.isub X0.here hexec rfl (hb hbytes d3) rfl ?_
    refine bipushV X0.here hexec rfl 31 (hb hbytes d4) (by decide) ?_
    refine iushr X0.here hexec rfl (hb hbytes d6) rfl ?_
    refine i2b X0.here hexec rfl (hb hbytes d7) rfl ?_
    exact Steps.refl _)
  have e0 : lo8 (ushr (Int32.ofNat B.slots.size - Int32.ofNat B.slots.size) 31) = 0 := by rw [Int32.sub_self]; decide
  rw [e0] at c3
  exact ⟨s₁, some (.int 0), _, _, _, X0, rfl, rfl, rfl, (fun h => by cases h), ⟨rfl, hh0⟩, fun fs hl => c3.trans (X0.ireturnOut hexec hret rfl (Or.inr (Or.inr (Or.inl rfl))) (hb hbytes d8) hl)⟩
end CodL
/-- the String at a is Latin-1 over a new byte[] (the heap's one new cell): the low bytes of the len chars of A from o on; every cell but a is kept -/
def Got (a : Addr) (D : Cell) (fV fC : Field) (A : Cell) (o len : Nat) (r : Option Value) (s u : State) : Prop := r = none ∧ ∃ D' V : Cell, Blank "java/lang/String" a D' u ∧ Same D D' [fV.slot, fC.slot] ∧ D'.slots[fV.slot]? = some (.ref s.heap.size) ∧ D'.slots[fC.slot]? = some (.int 0) ∧ Arr .byte s.heap.size V u ∧ V.vm = .none ∧ u.vm.findClass "[B" = some V.cls ∧ V.slots.size = len ∧ (∀ j, j < len → V.slots[j]? = some (.int (lo8 (cv A (o + j))))) ∧ (∀ (y : Addr) (c : Cell), y ≠ a → s.heap[y]? = some c → u.heap[y]? = some c) ∧ u.heap.size = s.heap.size + 1
theorem Got.mv {a : Addr} {D A : Cell} {fV fC : Field} {o len : Nat} : ∀ r (U U' V V' : State), U'.heap = U.heap → V.vm.Alike V'.vm → V'.heap = V.heap → Got a D fV fC A o len r U V → Got a D fV fC A o len r U' V' :=
  fun r U U' V V' h1 hal h2 ⟨e0, D', X, a1, a2, a3, a4, a5, a6, a7, a8, a9, a10, a11⟩ => ⟨e0, D', X, a1.mv hal h2, a2, by rw [h1]; exact a3, a4, by rw [h1]; exact a5.mv hal h2, a6, by rw [hal.findClass]; exact a7, a8, a9, by rw [h1, h2]; exact a10, by rw [h1, h2]; exact a11⟩
namespace New4
def yN : MethodName := ⟨"java/lang/String", "<init>", "([CIILjava/lang/Void;)V"⟩
abbrev yB : ByteArray := jdk_42_method_149_code
theorem d0 : decode yB 0 = .ok (.aload_n 0, 1) := by decide +kernel
theorem d1 : decode yB 1 = .ok (.invokespecial 1, 3) := by decide +kernel
theorem d4 : decode yB 4 = .ok (.iload_n 3, 1) := by decide +kernel
theorem d5 : decode yB 5 = .ok (.ifCond (.ne) 22, 3) := by decide +kernel
theorem d27 : decode yB 27 = .ok (.getstatic 38, 3) := by decide +kernel
theorem d30 : decode yB 30 = .ok (.ifCond (.eq) 28, 3) := by decide +kernel
theorem d33 : decode yB 33 = .ok (.aload_n 1, 1) := by decide +kernel
theorem d34 : decode yB 34 = .ok (.iload_n 2, 1) := by decide +kernel
theorem d35 : decode yB 35 = .ok (.iload_n 3, 1) := by decide +kernel
theorem d36 : decode yB 36 = .ok (.invokestatic 177, 3) := by decide +kernel
theorem d39 : decode yB 39 = .ok (.astore 5, 2) := by decide +kernel
theorem d41 : decode yB 41 = .ok (.aload_n 0, 1) := by decide +kernel
theorem d42 : decode yB 42 = .ok (.aload 5, 2) := by decide +kernel
theorem d44 : decode yB 44 = .ok (.iload_n 3, 1) := by decide +kernel
theorem d45 : decode yB 45 = .ok (.invokestatic 47, 3) := by decide +kernel
theorem d48 : decode yB 48 = .ok (.putfield 15, 3) := by decide +kernel
theorem d51 : decode yB 51 = .ok (.aload_n 0, 1) := by decide +kernel
theorem d52 : decode yB 52 = .ok (.aload 5, 2) := by decide +kernel
theorem d54 : decode yB 54 = .ok (.putfield 9, 3) := by decide +kernel
theorem d57 : decode yB 57 = .ok (.return_, 1) := by decide +kernel
def site : List Cond := [.fieldLink "java/lang/String" 38 "java/lang/String" "COMPACT_STRINGS" "Z", Cmp3.tab, CodL.tab, .laysFinal "java/lang/String" "java/lang/String" "value" "[B", .fieldLink "java/lang/String" 9 "java/lang/String" "value" "[B", .laysFinal "java/lang/String" "java/lang/String" "coder" "B", .fieldLink "java/lang/String" 15 "java/lang/String" "coder" "B"] ++ objW "java/lang/String" 1 ++ staticW "java/lang/String" 177 Cmp3.yN ++ staticW "java/lang/String" 47 CodL.yN
def tab : Cond := tabOf yN yB 6 none site
def P (a : Addr) (D : Cell) (fV fC : Field) (b : Addr) (A : Cell) (z : Int32) (o len : Nat) (args : Array Value) (s : State) : Prop := args = #[.ref a, .ref b, .int (Int32.ofNat o), .int (Int32.ofNat len), .null] ∧ Blank "java/lang/String" a D s ∧ Found "java/lang/String" "value" "[B" fV s ∧ Found "java/lang/String" "coder" "B" fC s ∧ Ch b A s ∧ StaticIs s "java/lang/String" "COMPACT_STRINGS" "Z" (.int z) ∧ ¬ z = 0 ∧ 0 < len ∧ o + len ≤ A.slots.size ∧ len ≤ 536870912 ∧ ∀ i, i < len → ¬ 255 < cv A (o + i)
def E (a : Addr) (D : Cell) (fV fC : Field) (A : Cell) (o len : Nat) (r : Option Value) (s u : State) : Prop := Got a D fV fC A o len r s u
/-- len > 0, no char of the range above 255: a Latin-1 String of their low bytes -/
theorem law (l : Launch) (a : Addr) (D : Cell) (fV fC : Field) (b : Addr) (A : Cell) (z : Int32) (o len : Nat) : Law l yN 5 4 2 35 yB 6 none site (P a D fV fC b A z o len) (E a D fV fC A o len) [⟨a, fC.slot⟩, ⟨a, fV.slot⟩] 1 len := by
  refine Law.of_walk (plainFor_of_name (by decide +kernel)) (by decide +kernel) (by decide +kernel) (by decide) (fun _ _ h => by rw [h.1]; rfl) (fun _ U U' hal hh h => ⟨h.1, h.2.1.mv hal hh, h.2.2.1.al hal, h.2.2.2.1.al hal, h.2.2.2.2.1.mv hal hh, h.2.2.2.2.2.1.there hal hh, h.2.2.2.2.2.2⟩) (fun r U U' V V' h1 hal h2 h => Got.mv r U U' V V' h1 hal h2 h) ?_
  intro p e s m args below meth c s₁ X0 hexec hbytes hml hret hlk hnm hown hh0 W hP
  obtain ⟨rfl, hB, f1, f2, hA, s1, hz, l0, l1, l2, hp⟩ := hP
  have a31 := hA.1.2.2.2
  have c1 : Steps p.tables e below (s₁.setTop (entryFrame m #[.ref a, .ref b, .int (Int32.ofNat o), .int (Int32.ofNat len), .null] 6)) (s₁.setTop (mkF m 0 #[.val (.ref a), .val (.ref b), .val (.int (Int32.ofNat o)), .val (.int (Int32.ofNat len)), .val .null, .unset] [])) := entry rfl
  have c2 : Steps p.tables e below (s₁.setTop (entryFrame m #[.ref a, .ref b, .int (Int32.ofNat o), .int (Int32.ofNat len), .null] 6)) (s₁.setTop (mkF m 1 #[.val (.ref a), .val (.ref b), .val (.int (Int32.ofNat o)), .val (.int (Int32.ofNat len)), .val .null, .unset] [.ref a])) := c1.trans (by
    refine XS.aloadN X0.here hexec rfl (hb hbytes d0) rfl rfl ?_
    exact Steps.refl _)
  obtain ⟨T3, X3, q3, st3⟩ := X0.oinit hexec hown (wks W (objW "java/lang/String" 1)) (g := (mkF m 1 #[.val (.ref a), .val (.ref b), .val (.int (Int32.ofNat o)), .val (.int (Int32.ofNat len)), .val .null, .unset] [.ref a])) rfl (by rw [hml]; rfl) (rest := []) rfl (hb hbytes d1) (W := 0) (by show 2 * 0 + 0 ≤ _; decide) (Nat.le_of_ble_eq_true rfl) (Nat.le_of_ble_eq_true rfl)
  have hh3 := q3.trans hh0
  have c4 : Steps p.tables e below (s₁.setTop (entryFrame m #[.ref a, .ref b, .int (Int32.ofNat o), .int (Int32.ofNat len), .null] 6)) (T3.setTop (mkF m 27 #[.val (.ref a), .val (.ref b), .val (.int (Int32.ofNat o)), .val (.int (Int32.ofNat len)), .val .null, .unset] [])) := (c2.trans (st3 _ (Steps.refl _))).trans (by
    refine XS.iloadN X3.here hexec rfl (hb hbytes d4) rfl ?_
    refine XS.ifYes X3.here hexec rfl (pc0 := 5) rfl (hb hbytes d5) rfl (i0_ne_t (nz32 (by omega) l0)) (by decide) rfl ?_
    exact Steps.refl _)
  obtain ⟨T5, X5, q5, st5⟩ := X3.sget hexec hown (wk W (.fieldLink "java/lang/String" 38 "java/lang/String" "COMPACT_STRINGS" "Z")) s1 (fun _ _ h => by rw [hh3]; exact h) (g := (mkF m 27 #[.val (.ref a), .val (.ref b), .val (.int (Int32.ofNat o)), .val (.int (Int32.ofNat len)), .val .null, .unset] [])) rfl (hb hbytes d27)
  have hh5 := q5.trans hh3
  have c6 : Steps p.tables e below (s₁.setTop (entryFrame m #[.ref a, .ref b, .int (Int32.ofNat o), .int (Int32.ofNat len), .null] 6)) (T5.setTop (mkF m 30 #[.val (.ref a), .val (.ref b), .val (.int (Int32.ofNat o)), .val (.int (Int32.ofNat len)), .val .null, .unset] [.int z])) := c4.trans (st5 _ (Steps.refl _))
  have c7 : Steps p.tables e below (s₁.setTop (entryFrame m #[.ref a, .ref b, .int (Int32.ofNat o), .int (Int32.ofNat len), .null] 6)) (T5.setTop (mkF m 36 #[.val (.ref a), .val (.ref b), .val (.int (Int32.ofNat o)), .val (.int (Int32.ofNat len)), .val .null, .unset] [.int (Int32.ofNat len), .int (Int32.ofNat o), .ref b])) := c6.trans (by
    refine XS.ifNo X5.here hexec rfl (hb hbytes d30) rfl (i0_eq_f hz) ?_
    refine XS.aloadN X5.here hexec rfl (hb hbytes d33) rfl rfl ?_
    refine XS.iloadN X5.here hexec rfl (hb hbytes d34) rfl ?_
    refine XS.iloadN X5.here hexec rfl (hb hbytes d35) rfl ?_
    exact Steps.refl _)
  obtain ⟨v8, T8, X8, E8, g8⟩ := X5.callS hexec (Cmp3.law l b A o len) hown (wks W (staticW "java/lang/String" 177 Cmp3.yN)) (wk W Cmp3.tab) (W := 0) (Nat.le_of_ble_eq_true rfl) (Nat.le_of_ble_eq_true rfl) (Nat.le_refl _) (by show 0 + len ≤ len; omega) (g := (mkF m 36 #[.val (.ref a), .val (.ref b), .val (.int (Int32.ofNat o)), .val (.int (Int32.ofNat len)), .val .null, .unset] [.int (Int32.ofNat len), .int (Int32.ofNat o), .ref b])) rfl (by rw [hml]; rfl) c7 (argsL := [.ref b, .int (Int32.ofNat o), .int (Int32.ofNat len)]) (rest := []) rfl rfl (by show 2 * 0 + 0 ≤ _; decide) (hb hbytes d36) (⟨rfl, hA.mv X5.warmed.alike hh5, l1, l2, hp⟩)
  obtain ⟨e8, z8⟩ := E8
  obtain ⟨rfl, N, n1, n2, n3, n4, n5, n6⟩ := NewArr.mv _ T5 s _ _ hh5.symm (Vm.Alike.refl _) rfl e8
  rw [hh5] at z8
  have hB1 := hB.keep X8.warmed.alike (n6 _ _ hB.1)
  have hne : s.heap.size ≠ a := (Nat.ne_of_lt (Array.getElem?_eq_some_iff.mp hB.1).1).symm
  have c9 : Steps p.tables e below (s₁.setTop (entryFrame m #[.ref a, .ref b, .int (Int32.ofNat o), .int (Int32.ofNat len), .null] 6)) (T8.setTop (mkF m 39 #[.val (.ref a), .val (.ref b), .val (.int (Int32.ofNat o)), .val (.int (Int32.ofNat len)), .val .null, .unset] [.ref s.heap.size])) := g8
  have c10 : Steps p.tables e below (s₁.setTop (entryFrame m #[.ref a, .ref b, .int (Int32.ofNat o), .int (Int32.ofNat len), .null] 6)) (T8.setTop (mkF m 45 #[.val (.ref a), .val (.ref b), .val (.int (Int32.ofNat o)), .val (.int (Int32.ofNat len)), .val .null, .val (.ref s.heap.size)] [.int (Int32.ofNat N.slots.size), .ref s.heap.size, .ref a])) := by
    have hc : Steps p.tables e below (s₁.setTop (entryFrame m #[.ref a, .ref b, .int (Int32.ofNat o), .int (Int32.ofNat len), .null] 6)) (T8.setTop (mkF m 45 #[.val (.ref a), .val (.ref b), .val (.int (Int32.ofNat o)), .val (.int (Int32.ofNat len)), .val .null, .val (.ref s.heap.size)] [.int (Int32.ofNat len), .ref s.heap.size, .ref a])) := c9.trans (by
      refine XS.astore X8.here hexec rfl (hb hbytes d39) rfl rfl rfl ?_
      refine XS.aloadN X8.here hexec rfl (hb hbytes d41) rfl rfl ?_
      refine XS.aload X8.here hexec rfl (hb hbytes d42) rfl rfl ?_
      refine XS.iloadN X8.here hexec rfl (hb hbytes d44) rfl ?_
      exact Steps.refl _)
    rw [n4]; exact hc
  obtain ⟨v11, T11, X11, E11, g11⟩ := X8.callS hexec (CodL.law l s.heap.size N) hown (wks W (staticW "java/lang/String" 47 CodL.yN)) (wk W CodL.tab) (W := 1) (Nat.le_of_ble_eq_true rfl) (Nat.le_of_ble_eq_true rfl) (Nat.le_refl _) (by show 0 + len + 0 ≤ len; omega) (g := (mkF m 45 #[.val (.ref a), .val (.ref b), .val (.int (Int32.ofNat o)), .val (.int (Int32.ofNat len)), .val .null, .val (.ref s.heap.size)] [.int (Int32.ofNat N.slots.size), .ref s.heap.size, .ref a])) rfl (by rw [hml]; rfl) c10 (argsL := [.ref s.heap.size, .int (Int32.ofNat N.slots.size)]) (rest := [.ref a]) rfl rfl (by show 2 * 0 + (1 + 0) ≤ _; decide) (hb hbytes d45) (⟨rfl, n1⟩)
  obtain ⟨rfl, q11⟩ := E11
  have hB11 := hB1.mv (X8.warmed.alike.symm.trans X11.warmed.alike) q11
  have c12 : Steps p.tables e below (s₁.setTop (entryFrame m #[.ref a, .ref b, .int (Int32.ofNat o), .int (Int32.ofNat len), .null] 6)) (T11.setTop (mkF m 48 #[.val (.ref a), .val (.ref b), .val (.int (Int32.ofNat o)), .val (.int (Int32.ofNat len)), .val .null, .val (.ref s.heap.size)] [.int 0, .ref a])) := g11
  obtain ⟨T13, X13, p13, bl13, sl13, st13⟩ := X11.finit hexec hown (wk W (.fieldLink "java/lang/String" 15 "java/lang/String" "coder" "B")) (Or.inr ⟨_, (wk W (.laysFinal "java/lang/String" "java/lang/String" "coder" "B"))⟩) (Or.inl ⟨rfl, hnm⟩) f2 (Or.inl rfl) hB11 (t := .byte) (by decide +kernel) rfl (g := (mkF m 48 #[.val (.ref a), .val (.ref b), .val (.int (Int32.ofNat o)), .val (.int (Int32.ofNat len)), .val .null, .val (.ref s.heap.size)] [.int 0, .ref a])) rfl (rest := []) rfl (hb hbytes d48)
  have c14 : Steps p.tables e below (s₁.setTop (entryFrame m #[.ref a, .ref b, .int (Int32.ofNat o), .int (Int32.ofNat len), .null] 6)) (T13.setTop (mkF m 54 #[.val (.ref a), .val (.ref b), .val (.int (Int32.ofNat o)), .val (.int (Int32.ofNat len)), .val .null, .val (.ref s.heap.size)] [.ref s.heap.size, .ref a])) := (c12.trans (st13 _ (Steps.refl _))).trans (by
    refine XS.aloadN X13.here hexec rfl (hb hbytes d51) rfl rfl ?_
    refine XS.aload X13.here hexec rfl (hb hbytes d52) rfl rfl ?_
    exact Steps.refl _)
  obtain ⟨T15, X15, p15, bl15, sl15, st15⟩ := X13.finit hexec hown (wk W (.fieldLink "java/lang/String" 9 "java/lang/String" "value" "[B")) (Or.inr ⟨_, (wk W (.laysFinal "java/lang/String" "java/lang/String" "value" "[B"))⟩) (Or.inl ⟨rfl, hnm⟩) f1 (Or.inl rfl) bl13 (t := (.array .byte)) (by decide +kernel) rfl (g := (mkF m 54 #[.val (.ref a), .val (.ref b), .val (.int (Int32.ofNat o)), .val (.int (Int32.ofNat len)), .val .null, .val (.ref s.heap.size)] [.ref s.heap.size, .ref a])) rfl (rest := []) rfl (hb hbytes d54)
  have c16 : Steps p.tables e below (s₁.setTop (entryFrame m #[.ref a, .ref b, .int (Int32.ofNat o), .int (Int32.ofNat len), .null] 6)) (T15.setTop (mkF m 57 #[.val (.ref a), .val (.ref b), .val (.int (Int32.ofNat o)), .val (.int (Int32.ofNat len)), .val .null, .val (.ref s.heap.size)] [])) := c14.trans (st15 _ (Steps.refl _))
  have ap := apart (Or.inr ⟨_, (wk W (.laysFinal "java/lang/String" "java/lang/String" "value" "[B"))⟩) (Or.inr ⟨_, (wk W (.laysFinal "java/lang/String" "java/lang/String" "coder" "B"))⟩) f1 f2 (t₁ := .array .byte) (t₂ := .byte) (by decide +kernel) (by decide +kernel) (by decide)
  have al := X8.warmed.alike.symm.trans X15.warmed.alike
  have n7 : T11.heap[s.heap.size]? = some N := by rw [q11]; exact n1.1
  exact ⟨T15, none, _, _, _, X15, by simp, rfl, by omega, (fun _ => rfl), ⟨rfl, _, N, bl15, ((Same.refl D _).set _ (by simp)).set _ (by simp), sl15, (Cell.slots_setSlot_ne _ ap).trans sl13, n1.keep al (p15.other hne (p13.other hne n7)), n2, by rw [al.findClass]; exact n3, n4, n5, fun y c h1 h2 => p15.other h1 (p13.other h1 (by rw [q11]; exact n6 y c h2)), by rw [p15.2.2, p13.2.2, q11]; exact z8⟩, fun fs hl => c16.trans (X15.returnOut hexec hret (hb hbytes d57) hl)⟩
end New4
namespace New1
def yN : MethodName := ⟨"java/lang/String", "<init>", "([C)V"⟩
abbrev yB : ByteArray := jdk_42_method_3_code
theorem d0 : decode yB 0 = .ok (.aload_n 0, 1) := by decide +kernel
theorem d1 : decode yB 1 = .ok (.aload_n 1, 1) := by decide +kernel
theorem d2 : decode yB 2 = .ok (.iconst 0, 1) := by decide +kernel
theorem d3 : decode yB 3 = .ok (.aload_n 1, 1) := by decide +kernel
theorem d4 : decode yB 4 = .ok (.arraylength, 1) := by decide +kernel
theorem d5 : decode yB 5 = .ok (.aconst_null, 1) := by decide +kernel
theorem d6 : decode yB 6 = .ok (.invokespecial 27, 3) := by decide +kernel
theorem d9 : decode yB 9 = .ok (.return_, 1) := by decide +kernel
def site : List Cond := [New4.tab] ++ initW "java/lang/String" 27 New4.yN
def tab : Cond := tabOf yN yB 2 none site
def P (a : Addr) (D : Cell) (fV fC : Field) (b : Addr) (A : Cell) (z : Int32) (args : Array Value) (s : State) : Prop := args = #[.ref a, .ref b] ∧ Blank "java/lang/String" a D s ∧ Found "java/lang/String" "value" "[B" fV s ∧ Found "java/lang/String" "coder" "B" fC s ∧ Ch b A s ∧ StaticIs s "java/lang/String" "COMPACT_STRINGS" "Z" (.int z) ∧ ¬ z = 0 ∧ 0 < A.slots.size ∧ A.slots.size ≤ 536870912 ∧ ∀ i, i < A.slots.size → ¬ 255 < cv A i
def E (a : Addr) (D : Cell) (fV fC : Field) (A : Cell) (r : Option Value) (s u : State) : Prop := Got a D fV fC A 0 A.slots.size r s u
/-- new String(chars), not empty, no char above 255: a Latin-1 String of their low bytes -/
theorem law (l : Launch) (a : Addr) (D : Cell) (fV fC : Field) (b : Addr) (A : Cell) (z : Int32) : Law l yN 2 1 3 52 yB 2 none site (P a D fV fC b A z) (E a D fV fC A) [⟨a, fC.slot⟩, ⟨a, fV.slot⟩] 1 A.slots.size := by
  refine Law.of_walk (plainFor_of_name (by decide +kernel)) (by decide +kernel) (by decide +kernel) (by decide) (fun _ _ h => by rw [h.1]; rfl) (fun _ U U' hal hh h => ⟨h.1, h.2.1.mv hal hh, h.2.2.1.al hal, h.2.2.2.1.al hal, h.2.2.2.2.1.mv hal hh, h.2.2.2.2.2.1.there hal hh, h.2.2.2.2.2.2⟩) (fun r U U' V V' h1 hal h2 h => Got.mv r U U' V V' h1 hal h2 h) ?_
  intro p e s m args below meth c s₁ X0 hexec hbytes hml hret hlk hnm hown hh0 W hP
  obtain ⟨rfl, hB, f1, f2, hA, s1, hz, l0, l2, hp⟩ := hP
  have c1 : Steps p.tables e below (s₁.setTop (entryFrame m #[.ref a, .ref b] 2)) (s₁.setTop (mkF m 0 #[.val (.ref a), .val (.ref b)] [])) := entry rfl
  have c2 : Steps p.tables e below (s₁.setTop (entryFrame m #[.ref a, .ref b] 2)) (s₁.setTop (mkF m 6 #[.val (.ref a), .val (.ref b)] [.null, .int (Int32.ofNat A.slots.size), .int 0, .ref b, .ref a])) := c1.trans (by
    refine XS.aloadN X0.here hexec rfl (hb hbytes d0) rfl rfl ?_
    refine XS.aloadN X0.here hexec rfl (hb hbytes d1) rfl rfl ?_
    refine iconstV X0.here hexec rfl 0 (hb hbytes d2) (by decide) ?_
    refine XS.aloadN X0.here hexec rfl (hb hbytes d3) rfl rfl ?_
    refine X0.alen hexec (hA.1.mv X0.warmed.alike hh0) rfl rfl (hb hbytes d4) ?_
    refine XS.aconstNull X0.here hexec rfl (hb hbytes d5) ?_
    exact Steps.refl _)
  obtain ⟨v3, T3, X3, E3, g3⟩ := X0.callN hexec (New4.law l a D fV fC b A z 0 A.slots.size) rfl hown (wks W (initW "java/lang/String" 27 New4.yN)) (W New4.tab (by simp only [site, List.mem_cons, List.mem_append, true_or, or_true])) (W := 0) (Nat.le_of_ble_eq_true rfl) (Nat.le_of_ble_eq_true rfl) (Nat.le_refl _) (by show 0 + A.slots.size ≤ A.slots.size; omega) (g := (mkF m 6 #[.val (.ref a), .val (.ref b)] [.null, .int (Int32.ofNat A.slots.size), .int (Int32.ofNat 0), .ref b, .ref a])) rfl (by rw [hml]; rfl) c2 (argsL := [.ref b, .int (Int32.ofNat 0), .int (Int32.ofNat A.slots.size), .null]) (rest := []) rfl rfl (by show 2 * 0 + 0 ≤ _; decide) (hb hbytes d6) (⟨rfl, hB.mv X0.warmed.alike hh0, f1.al X0.warmed.alike, f2.al X0.warmed.alike, hA.mv X0.warmed.alike hh0, s1.there X0.warmed.alike hh0, hz, l0, by omega, l2, fun i hi => by rw [Nat.zero_add]; exact hp i hi⟩)
  have e0 := Got.mv _ s₁ s _ _ hh0.symm (Vm.Alike.refl _) rfl E3
  obtain rfl := e0.1
  have c4 : Steps p.tables e below (s₁.setTop (entryFrame m #[.ref a, .ref b] 2)) (T3.setTop (mkF m 9 #[.val (.ref a), .val (.ref b)] [])) := g3
  exact ⟨T3, none, _, _, _, X3, by simp, rfl, by omega, (fun _ => rfl), e0, fun fs hl => c4.trans (X3.returnOut hexec hret (hb hbytes d9) hl)⟩
theorem pays {l : Launch} {R : Room} {p : Program} {e : Env} {below : List Frame} {s : State} {sargs : Array Value} {len W : Nat} (a : Addr) (D : Cell) (fV fC : Field) (b : Addr) (A : Cell) (z : Int32) (htab : tab.before sargs s = true) (hfr : 4 ≤ R.frames) (hlo : W + 65 ≤ R.locals) :
    Back l R p e below s sargs yN len W (fun A₁ a₁ => A₁.cells + 1 ≤ R.cells ∧ A₁.slots + A.slots.size ≤ R.slots ∧ P a D fV fC b A z a₁ A₁.U) (fun A₁ _ v₁ B₁ => E a D fV fC A v₁ A₁.U B₁.U ∧ B₁.locs = A₁.locs ++ [⟨a, fC.slot⟩, ⟨a, fV.slot⟩] ∧ B₁.cells = A₁.cells + 1 ∧ B₁.slots = A₁.slots + A.slots.size) :=
  (law l a D fV fC b A z).pays htab hfr (by omega)
end New1
end StrChars
namespace StrChars.Road
open Jvm Sem ClassFile Op Lib Jvm.Stand Jvm.Free Jvm.Free.XT
open Jvm.Lib.Cold (StaticIs)
abbrev ST : String := "java/lang/String"
/-- every table word that New1's law asks, flat -/
abbrev words : List Jvm.Cond := [.code New1.yN New1.yB 2 none, .initialized ST, .methodLink ST 27 New4.yN, .instanceMethod New4.yN,
  .code New4.yN New4.yB 6 none, .fieldLink ST 38 ST "COMPACT_STRINGS" "Z", .laysFinal ST ST "value" "[B", .fieldLink ST 9 ST "value" "[B", .laysFinal ST ST "coder" "B", .fieldLink ST 15 ST "coder" "B",
  .methodLink ST 1 Lib.objectInit, .instanceMethod Lib.objectInit, .code Lib.objectInit ⟨#[0xb1]⟩ 1 none, .methodLink ST 177 Cmp3.yN, .static Cmp3.yN, .methodLink ST 47 CodL.yN, .static CodL.yN,
  .code Cmp3.yN Cmp3.yB 6 (some (.array .byte)), .initialized U16, .arrayClass .byte, .methodLink U16 115 Cmp5.yN, .static Cmp5.yN, .code Cmp5.yN Cmp5.yB 7 (some .int), .code CodL.yN CodL.yB 2 (some .byte)]
theorem tab_of {a : Array Value} {s : State} (h : ∀ w ∈ words, w.before a s = true) : New1.tab.before a s = true := by
  have h5 : Cmp5.tab.before a s = true := unparts (wk h (.code Cmp5.yN Cmp5.yB 7 (some .int))) (wks h (.initialized Cmp5.yN.cls :: Cmp5.site))
  have hc : CodL.tab.before a s = true := unparts (wk h (.code CodL.yN CodL.yB 2 (some .byte))) (wks h (.initialized CodL.yN.cls :: CodL.site))
  have q5 : ∀ w ∈ Cmp5.tab :: words, w.before a s = true := fun w hw => (List.mem_cons.mp hw).elim (fun e => e ▸ h5) (h w)
  have h3 : Cmp3.tab.before a s = true := unparts (wk q5 (.code Cmp3.yN Cmp3.yB 6 (some (.array .byte)))) (wks q5 (.initialized Cmp3.yN.cls :: Cmp3.site))
  have q3 : ∀ w ∈ Cmp3.tab :: CodL.tab :: words, w.before a s = true := fun w hw => (List.mem_cons.mp hw).elim (fun e => e ▸ h3) fun hw => (List.mem_cons.mp hw).elim (fun e => e ▸ hc) (h w)
  have h4 : New4.tab.before a s = true := unparts (wk q3 (.code New4.yN New4.yB 6 none)) (wks q3 (.initialized New4.yN.cls :: New4.site))
  have q4 : ∀ w ∈ New4.tab :: words, w.before a s = true := fun w hw => (List.mem_cons.mp hw).elim (fun e => e ▸ h4) (h w)
  exact unparts (wk q4 (.code New1.yN New1.yB 2 none)) (wks q4 (.initialized New1.yN.cls :: New1.site))
/-- the words ride from the start Z to the walk's own state -/
theorem moved {Z s : State} {a0 args : Array Value} (hZ : Z.Warmed39 s.vm) (hw : ∀ d ∈ words, d.before a0 Z = true) : ∀ d ∈ words, d.before args s = true := fun d hd => by
  have q := hw d hd
  have t : ∀ d ∈ words, d = .arrayClass .byte ∨ (d.onTables && d.keepsFace) = true := by decide +kernel
  rcases t d hd with rfl | t
  · exact RoadKit.mvA hZ q
  · exact RoadKit.mv hZ q t
/-- WHAT COMES BACK, over the tables of the start Z: h the heap at the call, h' behind it -/
def Q (Z : State) (x : Addr) (A : Cell) (h : Heap) (v : Option Value) (h' : Heap) (L : List Loc) : Prop := v = none ∧ (∀ y ∈ L, y.base = x) ∧ RoadKit.Keep h h' [x] ∧ h'.size = h.size + 1 ∧ RoadKit.Exa Z h' x ST ∧ RoadKit.Fld Z h' x ST "value" "[B" (.ref h.size) ∧ RoadKit.Fld Z h' x ST "coder" "B" (.int 0) ∧
  (∃ V : Cell, RoadKit.Arr Z h' h.size V .byte ∧ V.vm = .none ∧ Z.vm.findClass "[B" = some V.cls ∧ V.slots.size = A.slots.size ∧ ∀ j, j < A.slots.size → V.slots[j]? = some (.int (lo8 (cv A j)))) ∧
  ∀ (O n d : String) (w : Value), RoadKit.Fld Z h x O n d w → RoadKit.slotOf Z O n d ≠ RoadKit.slotOf Z ST "value" "[B" → RoadKit.slotOf Z O n d ≠ RoadKit.slotOf Z ST "coder" "B" → RoadKit.Fld Z h' x O n d w
/-- **new String(chars) AT A CALL, IN THE ROAD'S FORM**: for specialBack behind newO: x the fresh String, b the char[] with the cell A -/
theorem back {p : Program} {l : Launch} {e : Env} {R : Room} {s : State} {args : Array Value} {below : List Frame} {len W : Nat} {Z : State} {a0 : Array Value} {h : Heap} (hZ : Z.Warmed39 s.vm) (hw : ∀ d ∈ words, d.before a0 Z = true) {kI : Nat} (wi : (Jvm.Cond.instantiable ST kI).before a0 Z = true)
    {x b : Addr} {A : Cell} {z : Int32} {v0 c0 : Value} (E : RoadKit.Exa Z h x ST) (V : RoadKit.Fld Z h x ST "value" "[B" v0) (C : RoadKit.Fld Z h x ST "coder" "B" c0) (K : RoadKit.Arr Z h b A .char) (hty : Typed .char A) (S : RoadKit.Sta Z h ST "COMPACT_STRINGS" "Z" (.int z)) (hz : ¬ z = 0)
    (l0 : 0 < A.slots.size) (l2 : A.slots.size ≤ 536870912) (hp : ∀ i, i < A.slots.size → ¬ 255 < cv A i) (hfr : 4 ≤ R.frames) (hlo : W + 65 ≤ R.locals) :
    Back l R p e below s args New1.yN len W (fun P a => a = #[.ref x, .ref b] ∧ P.U.heap = h ∧ P.cells + 1 ≤ R.cells ∧ P.slots + A.slots.size ≤ R.slots)
      (fun P _ v B => ∃ L, Q Z x A h v B.U.heap L ∧ B.locs = P.locs ++ L ∧ B.cells = P.cells + 1 ∧ B.slots = P.slots + A.slots.size) := by
  intro m meth c P g ig mk a X hg hsize hdg hW hn hp'
  obtain ⟨rfl, rfl, r1, r2⟩ := hp'
  have al : Z.vm.Alike P.U.vm := hZ.alike.trans X.warmed.alike
  obtain ⟨D, cfV, kV, iV, fV, hD, gV, stV, knV, obV, asV, slV⟩ := id V
  obtain ⟨D', cfC, kC, iC, fC, hD', gC, stC, -, -, asC, slC⟩ := id C
  cases hD.symm.trans hD'
  obtain ⟨D2, kD, e1, e2, e3, e4, e5⟩ := id E
  cases hD.symm.trans e1
  obtain ⟨c2, k2, i1, i2, i3, -⟩ := Cond.instantiable_spec wi
  cases e2.symm.trans i1
  cases e3.symm.trans i2
  obtain ⟨kU, u1, u2⟩ := al.2.2 _ _ e3
  have hB : Blank ST x D P.U := ⟨hD, ⟨knV, fun q hq => by rw [hq] at obV; cases obV⟩, by rw [al.findClass]; exact e2, kU, u1, by rw [u2]; exact i3, by rw [u2]; exact e5 i3⟩
  have F1 : Found ST "value" "[B" fV P.U := ⟨SBG.found_only al ⟨cfV, kV, iV, gV⟩, stV⟩
  have F2 : Found ST "coder" "B" fC P.U := ⟨SBG.found_only al ⟨cfC, kC, iC, gC⟩, stC⟩
  have hA : Ch b A P.U := ⟨⟨K.1, State.isArrayOf_alike al K.2.1, K.2.2, by omega⟩, hty⟩
  have hS : StaticIs P.U ST "COMPACT_STRINGS" "Z" (.int z) := by
    obtain ⟨cfS, iS, kS, fS, st, cS, t1, t2, t3, t4, t5, t6, t7⟩ := S
    exact StaticIs.there (s := { Z with heap := P.U.heap }) ⟨cfS, iS, kS, fS, st, cS, t1, t2, t3, t4, t5, (fun q => by rw [q] at t6; cases t6), t7⟩ al rfl
  obtain ⟨v, B, X', ⟨⟨hv, E', V', q1, q2, q3, q4, q5, q6, q7, q8, q9, q10, q11⟩, hl, hc, hs⟩, st⟩ := New1.pays x D fV fC b A z (tab_of (moved hZ hw)) hfr hlo m meth c P g ig mk _ X hg hsize hdg hW hn ⟨r1, r2, rfl, hB, F1, F2, hA, hS, hz, l0, l2, hp⟩
  have al' : Z.vm.Alike B.U.vm := hZ.alike.trans X'.warmed.alike
  have hsz : E'.slots.size = D.slots.size := by
    obtain ⟨-, -, -, kB, w1, w2, w3⟩ := q1
    obtain ⟨kB', y1, y2⟩ := al'.2.2 _ _ e3
    rw [q2.2.1] at w1
    cases w1.symm.trans y1
    rw [w3, e5 i3, y2]
  refine ⟨v, B, X', ⟨_, ⟨hv, ?_, ⟨by omega, fun y cy hy hn' => q10 y cy (by simpa using hn') hy, fun y cy hy => ?_⟩, q11, ⟨E', _, q1.1, by rw [q2.2.1]; exact e2, by rw [q2.2.1]; exact e3, by rw [q2.1]; exact obV, fun _ => by rw [hsz]; exact e5 i3⟩,
    ⟨E', cfV, kV, iV, fV, q1.1, gV, stV, by rw [q2.1]; exact knV, by rw [q2.1]; exact obV, by rw [q2.2.1]; exact asV, q3⟩, ⟨E', cfC, kC, iC, fC, q1.1, gC, stC, by rw [q2.1]; exact knV, by rw [q2.1]; exact obV, by rw [q2.2.1]; exact asC, q4⟩,
    ⟨V', ⟨q5.1, State.isArrayOf_alike al'.symm q5.2.1, q5.2.2.1⟩, q6, by rw [← al'.findClass]; exact q7, q8, fun j hj => by have := q9 j hj; rwa [Nat.zero_add] at this⟩, fun O n d w F n1 n2 => ?_⟩, hl, hc, hs⟩, st⟩
  · intro y hy
    simp only [List.mem_cons, List.not_mem_nil, or_false] at hy
    rcases hy with rfl | rfl <;> rfl
  · by_cases q : y = x
    · subst q
      cases hD.symm.trans hy
      exact ⟨E', q1.1, q2.2.1, q2.1, hsz⟩
    · exact ⟨cy, q10 y cy q hy, rfl, rfl, rfl⟩
  · obtain ⟨D3, cf, k, i, f, g1, g2, g3, g4, g5, g6, g7⟩ := F
    cases hD.symm.trans g1
    simp only [RoadKit.slotOf, g2, gV, gC, Option.map_some, Option.getD_some] at n1 n2
    exact ⟨E', cf, k, i, f, q1.1, g2, g3, by rw [q2.1]; exact g4, by rw [q2.1]; exact g5, by rw [q2.2.1]; exact g6, by rw [q2.2.2 f.slot (by simp [n1, n2])]; exact g7⟩
end StrChars.Road
namespace StrChars.Road
open Jvm Sem ClassFile Op Lib Jvm.Stand Jvm.Free Jvm.Free.XT
/-- WHAT COMES BACK, the byte[] as a list of values -/
def QA (Z : State) (x : Addr) (zn : Int32) (cs : List Int32) (h : Heap) (v : Option Value) (h' : Heap) (L : List Loc) : Prop := v = none ∧ (∀ y ∈ L, y.base = x) ∧ RoadKit.Keep h h' [x] ∧ h'.size = h.size + 1 ∧ RoadKit.Exa Z h' x ST ∧ RoadKit.Fld Z h' x ST "value" "[B" (.ref h.size) ∧ RoadKit.Fld Z h' x ST "coder" "B" (.int 0) ∧
  (∃ kb, Z.vm.findClass "[B" = some kb ∧ RoadKit.Arv Z h' h.size kb .byte zn (cs.map fun c => .int (lo8 c)) (.int 0)) ∧
  ∀ (O n d : String) (w : Value), RoadKit.Fld Z h x O n d w → RoadKit.slotOf Z O n d ≠ RoadKit.slotOf Z ST "value" "[B" → RoadKit.slotOf Z O n d ≠ RoadKit.slotOf Z ST "coder" "B" → RoadKit.Fld Z h' x O n d w
/-- **new String(chars) AT A CALL, THE ARRAYS AS LISTS**: the char[] at b holds cs, not empty, no char above 255 -/
theorem backArv {p : Program} {l : Launch} {e : Env} {R : Room} {s : State} {args : Array Value} {below : List Frame} {len W : Nat} {Z : State} {a0 : Array Value} {h : Heap} (hZ : Z.Warmed39 s.vm) (hw : ∀ d ∈ words, d.before a0 Z = true) {kI : Nat} (wi : (Jvm.Cond.instantiable ST kI).before a0 Z = true)
    {x b : Addr} {k : ClassId} {zn z : Int32} {cs : List Int32} {dv v0 c0 : Value} (E : RoadKit.Exa Z h x ST) (V : RoadKit.Fld Z h x ST "value" "[B" v0) (C : RoadKit.Fld Z h x ST "coder" "B" c0) (K : RoadKit.Arv Z h b k .char zn (cs.map Value.int) dv) (S : RoadKit.Sta Z h ST "COMPACT_STRINGS" "Z" (.int z)) (hz : ¬ z = 0)
    (hlen : zn.toNatClampNeg = cs.length) (h0 : 0 < cs.length) (hbig : cs.length ≤ 536870912) (hall : ∀ c ∈ cs, ¬ 255 < c) (hfr : 4 ≤ R.frames) (hlo : W + 65 ≤ R.locals) :
    Back l R p e below s args New1.yN len W (fun P a => a = #[.ref x, .ref b] ∧ P.U.heap = h ∧ P.cells + 1 ≤ R.cells ∧ P.slots + cs.length ≤ R.slots)
      (fun P _ v B => ∃ L, QA Z x zn cs h v B.U.heap L ∧ B.locs = P.locs ++ L ∧ B.cells = P.cells + 1 ∧ B.slots = P.slots + cs.length) := by
  obtain ⟨A, K1, K2, K3, K4, K5, K6⟩ := K
  have e : A.slots.size = cs.length := K3.trans hlen
  have hat : ∀ (i : Nat) (hi : i < cs.length), A.slots[i]? = some (.int cs[i]) := fun i hi => by rw [K5 i (by omega)]; simp [List.getD_eq_getElem?_getD, hi]
  have hcv : ∀ (i : Nat) (hi : i < cs.length), cv A i = cs[i] := fun i hi => by unfold cv; rw [hat i hi]
  have hty : Typed .char A := fun i v hv => by
    have hi : i < A.slots.size := (Array.getElem?_eq_some_iff.mp hv).1
    have q := K5 i hi
    rw [hv] at q
    rw [Option.some.inj q]
    exact K6 i hi
  refine Back.mono (back hZ hw wi E V C K1 hty S hz (by omega) (by omega) (fun i hi => by rw [hcv i (by omega)]; exact hall _ (List.getElem_mem _)) hfr hlo) (fun P a hp => ⟨hp.1, hp.2.1, hp.2.2.1, by rw [e]; exact hp.2.2.2⟩) (fun P a v B hp hq => ?_)
  obtain ⟨L, ⟨q1, q2, q3, q4, q5, q6, q7, ⟨V', v1, v2, v3, v4, v5⟩, q9⟩, hl, hc, hs⟩ := hq
  refine ⟨L, ⟨q1, q2, q3, q4, q5, q6, q7, ⟨V'.cls, v3, V', v1, rfl, by rw [v4, e, hlen], K4, fun i hi => ?_, fun i hi => ?_⟩, q9⟩, hl, hc, by rw [hs, e]⟩
  · have hi' : i < cs.length := by omega
    rw [v5 i (by omega), hcv i hi']; simp [List.getD_eq_getElem?_getD, hi']
  · have hi' : i < cs.length := by omega
    simp only [List.getD_eq_getElem?_getD, List.getElem?_map, List.getElem?_eq_getElem hi', Option.map_some, Option.getD_some]
    exact fits_lo8 _
end StrChars.Road
namespace StrChars.Road
open Jvm Sem ClassFile Op Lib Jvm.Stand Jvm.Free Jvm.Free.XT
/-- WHAT COMES BACK, in the writer's own shape -/
def QV (Z : State) (x : Addr) (N : Int32) (bs : List Int32) (h : Heap) (n0 : Nat) (v : Option Value) (h' : Heap) (L : List Loc) : Prop := v = none ∧ RoadKit.Fr n0 L ∧ RoadKit.Keep h h' [x] ∧ RoadKit.Exa Z h' x ST ∧ RoadKit.Fld Z h' x ST "coder" "B" (.int 0) ∧
  ∃ (t : Addr) (kb : ClassId), n0 ≤ t ∧ h.size ≤ t ∧ ¬ t = x ∧ RoadKit.Fld Z h' x ST "value" "[B" (.ref t) ∧ RoadKit.Arv Z h' t kb .byte N (bs.map Value.int) (.int 0)
/-- **new String(chars) AT A CALL, FOR THE WRITER**: a char[] of n known ints, each 0 to 255 -/
theorem backV {p : Program} {l : Launch} {e : Env} {R : Room} {s : State} {args : Array Value} {below : List Frame} {len W : Nat} {Z : State} {a0 : Array Value} {h : Heap} (hZ : Z.Warmed39 s.vm) (hw : ∀ d ∈ words, d.before a0 Z = true) {kI : Nat} (wi : (Jvm.Cond.instantiable ST kI).before a0 Z = true)
    {x b : Addr} {kC : ClassId} {cs bs : List Int32} {d v0 c0 : Value} {z N : Int32} {n n0 : Nat} (hx0 : n0 ≤ x) (hh0 : n0 ≤ h.size) (E : RoadKit.Exa Z h x ST) (V : RoadKit.Fld Z h x ST "value" "[B" v0) (C : RoadKit.Fld Z h x ST "coder" "B" c0) (K : RoadKit.Arv Z h b kC .char N (cs.map Value.int) d) (S : RoadKit.Sta Z h ST "COMPACT_STRINGS" "Z" (.int z)) (hz : ¬ z = 0)
    (hn : cs.length = n) (hN : N = Int32.ofNat n) (l0 : 0 < n) (l2 : n ≤ 4000) (hp : ∀ c ∈ cs, ¬ c < 0 ∧ ¬ (255 : Int32) < c) (hb : bs = cs.map (fun c => c.toInt8.toInt32)) (hfr : 4 ≤ R.frames) (hlo : W + 65 ≤ R.locals) :
    Back l R p e below s args (⟨"java/lang/String", "<init>", "([C)V"⟩ : MethodName) len W (fun P a => a = #[.ref x, .ref b] ∧ P.U.heap = h ∧ P.cells + 1 ≤ R.cells ∧ P.slots + n ≤ R.slots)
      (fun P _ v B => ∃ L, QV Z x N bs h n0 v B.U.heap L ∧ B.locs = P.locs ++ L ∧ B.cells = P.cells + 1 ∧ B.slots = P.slots + n) := by
  subst hn hN hb
  refine Back.mono (backArv hZ hw wi E V C K S hz (n32 (by omega)) l0 (by omega) (fun c hc => (hp c hc).2) hfr hlo) (fun P a hp => hp) (fun P a v B hp hq => ?_)
  obtain ⟨L, ⟨q1, q2, q3, q4, q5, q6, q7, ⟨kb, v1, v2⟩, q9⟩, hl, hc, hs⟩ := hq
  exact ⟨L, ⟨q1, fun y hy => by rw [q2 y hy]; exact hx0, q3, q5, q7, h.size, kb, hh0, Nat.le_refl _, Nat.ne_of_gt E.lt, q6, by rw [List.map_map]; exact v2⟩, hl, hc, hs⟩
end StrChars.Road
namespace StrChars
open Jvm Sem ClassFile Op Lib Jvm.Stand Jvm.Free.XT Jvm.Free.ALB Jvm.Free.JM Jvm.Free
open Jvm.Lib.Cold (StaticIs)
def hi8 (x : Int32) : Int32 := lo8 (x >>> ((8 : Int32) &&& 31))
end StrChars
namespace StrChars.Road
open Jvm Sem ClassFile Op Lib Jvm.Stand Jvm.Free Jvm.Free.XT
open Jvm.Lib.Cold (StaticIs)
/-- the bytes of the chars cs, low before high -/
def wideBytes : List Int32 → List Value
  | [] => []
  | c :: cs => .int (lo8 c) :: .int (hi8 c) :: wideBytes cs
/-- an array of N2 bytes vs codes the chars cs by the coder cd -/
def CodA (cs : List Int32) (cd N2 : Int32) (vs : List Value) : Prop := (cd = 0 ∧ N2 = Int32.ofNat cs.length ∧ vs = (cs.map fun c => Value.int (lo8 c)) ∧ ∀ c ∈ cs, ¬ 255 < c) ∨ (cd = 1 ∧ N2 = Int32.ofNat (2 * cs.length) ∧ vs = wideBytes cs ∧ ∃ c ∈ cs, 255 < c)
end StrChars.Road
namespace StrChars.Road
open Jvm Sem ClassFile Op Lib Jvm.Stand Jvm.Free Jvm.Free.XT
open Jvm.Lib.Cold (StaticIs)
/-- what backV says of its String, as the contracts of this text ask it: cs's low bytes, coder 0 -/
theorem codOf {cs : List Int32} {n : Nat} (hn : cs.length = n) (hb : ∀ c ∈ cs, ¬ 255 < c) : CodA cs 0 (Int32.ofNat n) ((cs.map lo8).map Value.int) := Or.inl ⟨rfl, by rw [hn], by simp [List.map_map, Function.comp_def], hb⟩
end StrChars.Road
end Jvm.Pilot.@@N@@

namespace Jvm.Pilot.@@N@@
namespace Own
open Jvm Jvm.ClassFile Sem Op Lib Jvm.Free Jvm.Stand Jvm.LawKit Jvm.RoadKit
abbrev Gx := Bool × Launch × State × Array Value × List (String × Nat) × Nat
abbrev Gx.wd (G : Gx) : Bool := G.1
abbrev Gx.l (G : Gx) : Launch := G.2.1
abbrev Gx.Z (G : Gx) : State := G.2.2.1
abbrev Gx.a0 (G : Gx) : Array Value := G.2.2.2.1
abbrev Gx.EL (G : Gx) : List (String × Nat) := G.2.2.2.2.1
abbrev Gx.n0 (G : Gx) : Nat := G.2.2.2.2.2
abbrev Md := String × String × ByteArray × Nat × Option FieldType
abbrev Md.own (M : Md) : String := M.1
abbrev Md.nm (M : Md) : String := M.2.1
abbrev Md.code (M : Md) : ByteArray := M.2.2.1
abbrev Md.mx (M : Md) : Nat := M.2.2.2.1
abbrev Md.ret (M : Md) : Option FieldType := M.2.2.2.2
abbrev Cx := Program × Env × State × MethodId × Array Value × List Frame × Method × Code
abbrev Cx.p (X : Cx) : Program := X.1
abbrev Cx.e (X : Cx) : Env := X.2.1
abbrev Cx.s (X : Cx) : State := X.2.2.1
abbrev Cx.m (X : Cx) : MethodId := X.2.2.2.1
abbrev Cx.args (X : Cx) : Array Value := X.2.2.2.2.1
abbrev Cx.below (X : Cx) : List Frame := X.2.2.2.2.2.1
abbrev Cx.meth (X : Cx) : Method := X.2.2.2.2.2.2.1
abbrev Cx.c (X : Cx) : Code := X.2.2.2.2.2.2.2
def EndW (wd : Bool) (s : State) (o : Outcome) (t : State) (L : List Loc) (k n : Nat) : Prop := ReturnedEndW s o t L k n ∧ (wd = false → FrameEnd s o t L k n)
def Fix (G : Gx) (M : Md) (X : Cx) : Prop := X.p.tables.exec = Jvm.exec ∧ X.c.code = M.code ∧ X.c.maxLocals = M.mx ∧ X.meth.sig.returnType = M.ret ∧ X.meth.locks = false ∧ X.meth.name = M.nm ∧ EW G.Z G.a0 G.EL
def Wk (G : Gx) (M : Md) (R : Room) (X : Cx) (vm : Vm) (T : State) (h : Heap) (k n : Nat) : Prop :=
  Fix G M X ∧ ∃ (k0 : Nat) (L : List Loc), Stand X.p G.l X.e R (X.s.setVm vm) X.m X.args X.below X.meth X.c T L k n ∧ T.heap = h ∧ X.s.Since vm k0 ∧ k0 ≤ h.size ∧ G.Z.Warmed39 vm ∧ vm.findClass M.own = some X.m.cls ∧ Fr G.n0 L ∧ Old G.Z G.n0 h ∧ (G.wd = true → CHr G.Z G.EL X.s.vm X.s.heap vm h) ∧ (G.wd = false → vm = X.s.vm)
def Go (G : Gx) (R : Room) (X : Cx) (Q : Option Value → Heap → Prop) (S : State) : Prop :=
  ∃ (t : State) (o : Outcome), Steps X.p.tables X.e X.below S t ∧ t.status = .running ∧ Ended t X.below o ∧ ∃ (v : Option Value) (L : List Loc), o = .returned v ∧ (Q v t.heap ∧ Fr G.n0 L ∧ Old G.Z G.n0 t.heap) ∧ (G.wd = true → CHr G.Z G.EL X.s.vm X.s.heap t.vm t.heap) ∧ EndW G.wd X.s o t L R.cells R.slots
def Con (G : Gx) (y : MethodName) (bytes : ByteArray) (maxL : Nat) (ret : Option FieldType) (ws : List Cond) (rm : Room) (as : Array Value) (h : Heap) (Q : Option Value → Heap → Prop) : Prop :=
  MetFree G.l y (head1 (Cond.code y bytes maxL ret :: ws) rm) (fun a U => a = as ∧ G.Z.Warmed39 U.vm ∧ U.heap = h ∧ (G.wd = true → CHv G.Z G.EL U.vm h)) (fun _ _ _ _ _ => True)
    (fun _ U o U' => ∃ (v : Option Value) (L : List Loc), o = .returned v ∧ (Q v U'.heap ∧ Fr G.n0 L ∧ Old G.Z G.n0 U'.heap) ∧ (G.wd = true → CHr G.Z G.EL U.vm U.heap U'.vm U'.heap) ∧ EndW G.wd U o U' L rm.cells rm.slots)
def vQ (Q : Value → Heap → Prop) : Option Value → Heap → Prop := fun v h => ∃ x, v = some x ∧ Q x h
def nQ (Q : Heap → Prop) : Option Value → Heap → Prop := fun v h => v = none ∧ Q h
section Lay
variable {G : Gx} {M : Md} {R : Room} {X : Cx} {vm : Vm} {T : State} {h : Heap} {k n : Nat} {Q : Option Value → Heap → Prop}
theorem Go.of {S S' : State} (f : ∀ t, Steps X.p.tables X.e X.below S' t → Steps X.p.tables X.e X.below S t) (g : Go G R X Q S') : Go G R X Q S := by
  obtain ⟨t, o, h1, r⟩ := g; exact ⟨t, o, f t h1, r⟩
theorem Wk.hx (w : Wk G M R X vm T h k n) : X.p.tables.exec = Jvm.exec := w.1.1
theorem Wk.by_ (w : Wk G M R X vm T h k n) : X.c.code = M.code := w.1.2.1
theorem Wk.hml (w : Wk G M R X vm T h k n) : X.c.maxLocals = M.mx := w.1.2.2.1
theorem Wk.hret (w : Wk G M R X vm T h k n) : X.meth.sig.returnType = M.ret := w.1.2.2.2.1
theorem Wk.hlk (w : Wk G M R X vm T h k n) : X.meth.locks = false := w.1.2.2.2.2.1
theorem Wk.hnm (w : Wk G M R X vm T h k n) : X.meth.name = M.nm := w.1.2.2.2.2.2.1
theorem Wk.hEL (w : Wk G M R X vm T h k n) : EW G.Z G.a0 G.EL := w.1.2.2.2.2.2.2
theorem Wk.here (w : Wk G M R X vm T h k n) : At T X.m X.c X.below := by obtain ⟨-, k0, L, S, -⟩ := w; exact S.here
theorem Wk.heap (w : Wk G M R X vm T h k n) : T.heap = h := by obtain ⟨-, k0, L, S, e, -⟩ := w; exact e
theorem Wk.old (w : Wk G M R X vm T h k n) : Old G.Z G.n0 h := by obtain ⟨-, k0, L, -, -, -, -, -, -, -, q, -⟩ := w; exact q
theorem Wk.ch (w : Wk G M R X vm T h k n) : G.wd = true → CHr G.Z G.EL X.s.vm X.s.heap vm h := by obtain ⟨-, k0, L, -, -, -, -, -, -, -, -, q, -⟩ := w; exact q
theorem Wk.wz (w : Wk G M R X vm T h k n) : G.Z.Warmed39 vm := by obtain ⟨-, k0, L, -, -, -, -, q, -⟩ := w; exact q
theorem Wk.n0le (w : Wk G M R X vm T h k n) : G.n0 ≤ h.size := by have := w.old; rw [← this.1]; exact this.2.1
theorem Wk.sta (w : Wk G M R X vm T h k n) {C f d : String} {v : Value} (S : Sta G.Z G.Z.heap C f d v) : Sta G.Z h C f d v := S.ext w.old.2
theorem Wk.mono (w : Wk G M R X vm T h k n) {k' n' : Nat} (hk : k ≤ k') (hn : n ≤ n') : Wk G M R X vm T h k' n' := by
  obtain ⟨a, k0, L, S, r⟩ := w; exact ⟨a, k0, L, S.mono hk hn, r⟩
theorem Wk.aloadN (w : Wk G M R X vm T h k n) {pc q : Nat} {Ls : Array Slot} {st : List Value} {j : Fin 4} {v : Value} (hd : decode M.code pc = .ok (.aload_n j, 1)) (hl : Ls[j.val]? = some (.val v)) (hv : v.isRef = true) (hq : pc + 1 = q) (go : Go G R X Q (T.setTop (mkF X.m q Ls (v :: st)))) : Go G R X Q (T.setTop (mkF X.m pc Ls st)) := by
  subst hq
  exact go.of fun t r => XS.aloadN w.here w.hx rfl (hb w.by_ hd) hl hv r
theorem Wk.aload (w : Wk G M R X vm T h k n) {pc q : Nat} {Ls : Array Slot} {st : List Value} {j : Nat} {v : Value} (hd : decode M.code pc = .ok (.aload j, 2)) (hl : Ls[j]? = some (.val v)) (hv : v.isRef = true) (hq : pc + 2 = q) (go : Go G R X Q (T.setTop (mkF X.m q Ls (v :: st)))) : Go G R X Q (T.setTop (mkF X.m pc Ls st)) := by
  subst hq
  exact go.of fun t r => XS.aload w.here w.hx rfl (hb w.by_ hd) hl hv r
theorem Wk.iloadN (w : Wk G M R X vm T h k n) {pc q : Nat} {Ls : Array Slot} {st : List Value} {j : Fin 4} {v : Int32} (hd : decode M.code pc = .ok (.iload_n j, 1)) (hl : Ls[j.val]? = some (.val (.int v))) (hq : pc + 1 = q) (go : Go G R X Q (T.setTop (mkF X.m q Ls (.int v :: st)))) : Go G R X Q (T.setTop (mkF X.m pc Ls st)) := by
  subst hq
  exact go.of fun t r => XS.iloadN w.here w.hx rfl (hb w.by_ hd) hl r
theorem Wk.iload (w : Wk G M R X vm T h k n) {pc q : Nat} {Ls : Array Slot} {st : List Value} {j : Nat} {v : Int32} (hd : decode M.code pc = .ok (.iload j, 2)) (hl : Ls[j]? = some (.val (.int v))) (hq : pc + 2 = q) (go : Go G R X Q (T.setTop (mkF X.m q Ls (.int v :: st)))) : Go G R X Q (T.setTop (mkF X.m pc Ls st)) := by
  subst hq
  exact go.of fun t r => XS.iload w.here w.hx rfl (hb w.by_ hd) hl r
theorem Wk.lloadN (w : Wk G M R X vm T h k n) {pc q : Nat} {Ls : Array Slot} {st : List Value} {j : Fin 4} {v : Int64} (hd : decode M.code pc = .ok (.lload_n j, 1)) (hl : Ls[j.val]? = some (.val (.long v))) (hq : pc + 1 = q) (go : Go G R X Q (T.setTop (mkF X.m q Ls (.long v :: st)))) : Go G R X Q (T.setTop (mkF X.m pc Ls st)) := by
  subst hq
  exact go.of fun t r => XS.lloadN w.here w.hx rfl (hb w.by_ hd) hl r
theorem Wk.lload (w : Wk G M R X vm T h k n) {pc q : Nat} {Ls : Array Slot} {st : List Value} {j : Nat} {v : Int64} (hd : decode M.code pc = .ok (.lload j, 2)) (hl : Ls[j]? = some (.val (.long v))) (hq : pc + 2 = q) (go : Go G R X Q (T.setTop (mkF X.m q Ls (.long v :: st)))) : Go G R X Q (T.setTop (mkF X.m pc Ls st)) := by
  subst hq
  exact go.of fun t r => XS.lload w.here w.hx rfl (hb w.by_ hd) hl r
theorem Wk.istoreN (w : Wk G M R X vm T h k n) {pc q : Nat} {Ls : Array Slot} {st : List Value} {j : Fin 4} {x : Int32} {L2 : Array Slot} (hd : decode M.code pc = .ok (.istore_n j, 1)) (hl : storeLocals Ls j.val (.int x) = some L2) (hq : pc + 1 = q) (go : Go G R X Q (T.setTop (mkF X.m q L2 st))) : Go G R X Q (T.setTop (mkF X.m pc Ls (.int x :: st))) := by
  subst hq
  exact go.of fun t r => XS.istoreN w.here w.hx rfl (hb w.by_ hd) rfl hl r
theorem Wk.istore (w : Wk G M R X vm T h k n) {pc q : Nat} {Ls : Array Slot} {st : List Value} {j : Nat} {x : Int32} {L2 : Array Slot} (hd : decode M.code pc = .ok (.istore j, 2)) (hl : storeLocals Ls j (.int x) = some L2) (hq : pc + 2 = q) (go : Go G R X Q (T.setTop (mkF X.m q L2 st))) : Go G R X Q (T.setTop (mkF X.m pc Ls (.int x :: st))) := by
  subst hq
  exact go.of fun t r => XS.istore w.here w.hx rfl (hb w.by_ hd) rfl hl r
theorem Wk.lstoreN (w : Wk G M R X vm T h k n) {pc q : Nat} {Ls : Array Slot} {st : List Value} {j : Fin 4} {x : Int64} {L2 : Array Slot} (hd : decode M.code pc = .ok (.lstore_n j, 1)) (hl : storeLocals Ls j.val (.long x) = some L2) (hq : pc + 1 = q) (go : Go G R X Q (T.setTop (mkF X.m q L2 st))) : Go G R X Q (T.setTop (mkF X.m pc Ls (.long x :: st))) := by
  subst hq
  exact go.of fun t r => XS.lstoreN w.here w.hx rfl (hb w.by_ hd) rfl hl r
theorem Wk.lstore (w : Wk G M R X vm T h k n) {pc q : Nat} {Ls : Array Slot} {st : List Value} {j : Nat} {x : Int64} {L2 : Array Slot} (hd : decode M.code pc = .ok (.lstore j, 2)) (hl : storeLocals Ls j (.long x) = some L2) (hq : pc + 2 = q) (go : Go G R X Q (T.setTop (mkF X.m q L2 st))) : Go G R X Q (T.setTop (mkF X.m pc Ls (.long x :: st))) := by
  subst hq
  exact go.of fun t r => XS.lstore w.here w.hx rfl (hb w.by_ hd) rfl hl r
theorem Wk.astoreN (w : Wk G M R X vm T h k n) {pc q : Nat} {Ls : Array Slot} {st : List Value} {j : Fin 4} {x : Value} {L2 : Array Slot} (hd : decode M.code pc = .ok (.astore_n j, 1)) (hv : x.isRef = true) (hl : storeLocals Ls j.val x = some L2) (hq : pc + 1 = q) (go : Go G R X Q (T.setTop (mkF X.m q L2 st))) : Go G R X Q (T.setTop (mkF X.m pc Ls (x :: st))) := by
  subst hq
  exact go.of fun t r => XS.astoreN w.here w.hx rfl (hb w.by_ hd) rfl hv hl r
theorem Wk.astore (w : Wk G M R X vm T h k n) {pc q : Nat} {Ls : Array Slot} {st : List Value} {j : Nat} {x : Value} {L2 : Array Slot} (hd : decode M.code pc = .ok (.astore j, 2)) (hv : x.isRef = true) (hl : storeLocals Ls j x = some L2) (hq : pc + 2 = q) (go : Go G R X Q (T.setTop (mkF X.m q L2 st))) : Go G R X Q (T.setTop (mkF X.m pc Ls (x :: st))) := by
  subst hq
  exact go.of fun t r => XS.astore w.here w.hx rfl (hb w.by_ hd) rfl hv hl r
theorem Wk.aconst (w : Wk G M R X vm T h k n) {pc q : Nat} {Ls : Array Slot} {st : List Value} (hd : decode M.code pc = .ok (.aconst_null, 1)) (hq : pc + 1 = q) (go : Go G R X Q (T.setTop (mkF X.m q Ls (.null :: st)))) : Go G R X Q (T.setTop (mkF X.m pc Ls st)) := by
  subst hq
  exact go.of fun t r => XS.aconstNull w.here w.hx rfl (hb w.by_ hd) r
theorem Wk.iconst (w : Wk G M R X vm T h k n) {pc q : Nat} {Ls : Array Slot} {st : List Value} {i : Int} (v : Int32) (hd : decode M.code pc = .ok (.iconst i, 1)) (hv : Int32.ofInt i = v) (hq : pc + 1 = q) (go : Go G R X Q (T.setTop (mkF X.m q Ls (.int v :: st)))) : Go G R X Q (T.setTop (mkF X.m pc Ls st)) := by
  subst hq hv
  exact go.of fun t r => XS.iconst w.here w.hx rfl (hb w.by_ hd) r
theorem Wk.bipush (w : Wk G M R X vm T h k n) {pc q : Nat} {Ls : Array Slot} {st : List Value} {i : Int} (v : Int32) (hd : decode M.code pc = .ok (.bipush i, 2)) (hv : (Int8.ofInt i).toInt32 = v) (hq : pc + 2 = q) (go : Go G R X Q (T.setTop (mkF X.m q Ls (.int v :: st)))) : Go G R X Q (T.setTop (mkF X.m pc Ls st)) := by
  subst hq hv
  exact go.of fun t r => XS.bipush w.here w.hx rfl (hb w.by_ hd) r
theorem Wk.sipush (w : Wk G M R X vm T h k n) {pc q : Nat} {Ls : Array Slot} {st : List Value} {i : Int} (v : Int32) (hd : decode M.code pc = .ok (.sipush i, 3)) (hv : (Int16.ofInt i).toInt32 = v) (hq : pc + 3 = q) (go : Go G R X Q (T.setTop (mkF X.m q Ls (.int v :: st)))) : Go G R X Q (T.setTop (mkF X.m pc Ls st)) := by
  subst hq hv
  exact go.of fun t r => XS.sipush w.here w.hx rfl (hb w.by_ hd) r
theorem Wk.lconst (w : Wk G M R X vm T h k n) {pc q : Nat} {Ls : Array Slot} {st : List Value} {i : Fin 2} (v : Int64) (hd : decode M.code pc = .ok (.lconst i, 1)) (hv : Int64.ofNat i = v) (hq : pc + 1 = q) (go : Go G R X Q (T.setTop (mkF X.m q Ls (.long v :: st)))) : Go G R X Q (T.setTop (mkF X.m pc Ls st)) := by
  subst hq hv
  exact go.of fun t r => XS.lconst w.here w.hx rfl (hb w.by_ hd) r
theorem Wk.iadd (w : Wk G M R X vm T h k n) {pc q : Nat} {Ls : Array Slot} {st : List Value} {x y : Int32} (hd : decode M.code pc = .ok (.iadd, 1)) (hq : pc + 1 = q) (go : Go G R X Q (T.setTop (mkF X.m q Ls (.int (x + y) :: st)))) : Go G R X Q (T.setTop (mkF X.m pc Ls (.int y :: .int x :: st))) := by
  subst hq
  exact go.of fun t r => XS.iadd w.here w.hx rfl (hb w.by_ hd) rfl r
theorem Wk.isub (w : Wk G M R X vm T h k n) {pc q : Nat} {Ls : Array Slot} {st : List Value} {x y : Int32} (hd : decode M.code pc = .ok (.isub, 1)) (hq : pc + 1 = q) (go : Go G R X Q (T.setTop (mkF X.m q Ls (.int (x - y) :: st)))) : Go G R X Q (T.setTop (mkF X.m pc Ls (.int y :: .int x :: st))) := by
  subst hq
  exact go.of fun t r => XS.isub w.here w.hx rfl (hb w.by_ hd) rfl r
theorem Wk.imul (w : Wk G M R X vm T h k n) {pc q : Nat} {Ls : Array Slot} {st : List Value} {x y : Int32} (hd : decode M.code pc = .ok (.imul, 1)) (hq : pc + 1 = q) (go : Go G R X Q (T.setTop (mkF X.m q Ls (.int (x * y) :: st)))) : Go G R X Q (T.setTop (mkF X.m pc Ls (.int y :: .int x :: st))) := by
  subst hq
  exact go.of fun t r => XS.imul w.here w.hx rfl (hb w.by_ hd) rfl r
theorem Wk.iand (w : Wk G M R X vm T h k n) {pc q : Nat} {Ls : Array Slot} {st : List Value} {x y : Int32} (hd : decode M.code pc = .ok (.iand, 1)) (hq : pc + 1 = q) (go : Go G R X Q (T.setTop (mkF X.m q Ls (.int (x &&& y) :: st)))) : Go G R X Q (T.setTop (mkF X.m pc Ls (.int y :: .int x :: st))) := by
  subst hq
  exact go.of fun t r => XS.iand w.here w.hx rfl (hb w.by_ hd) rfl r
theorem Wk.ior (w : Wk G M R X vm T h k n) {pc q : Nat} {Ls : Array Slot} {st : List Value} {x y : Int32} (hd : decode M.code pc = .ok (.ior, 1)) (hq : pc + 1 = q) (go : Go G R X Q (T.setTop (mkF X.m q Ls (.int (x ||| y) :: st)))) : Go G R X Q (T.setTop (mkF X.m pc Ls (.int y :: .int x :: st))) := by
  subst hq
  exact go.of fun t r => XS.ior w.here w.hx rfl (hb w.by_ hd) rfl r
theorem Wk.ixor (w : Wk G M R X vm T h k n) {pc q : Nat} {Ls : Array Slot} {st : List Value} {x y : Int32} (hd : decode M.code pc = .ok (.ixor, 1)) (hq : pc + 1 = q) (go : Go G R X Q (T.setTop (mkF X.m q Ls (.int (x ^^^ y) :: st)))) : Go G R X Q (T.setTop (mkF X.m pc Ls (.int y :: .int x :: st))) := by
  subst hq
  exact go.of fun t r => XS.ixor w.here w.hx rfl (hb w.by_ hd) rfl r
theorem Wk.ishl (w : Wk G M R X vm T h k n) {pc q : Nat} {Ls : Array Slot} {st : List Value} {x y : Int32} (hd : decode M.code pc = .ok (.ishl, 1)) (hq : pc + 1 = q) (go : Go G R X Q (T.setTop (mkF X.m q Ls (.int (x <<< (y &&& 31)) :: st)))) : Go G R X Q (T.setTop (mkF X.m pc Ls (.int y :: .int x :: st))) := by
  subst hq
  exact go.of fun t r => XS.ishl w.here w.hx rfl (hb w.by_ hd) rfl r
theorem Wk.ishr (w : Wk G M R X vm T h k n) {pc q : Nat} {Ls : Array Slot} {st : List Value} {x y : Int32} (hd : decode M.code pc = .ok (.ishr, 1)) (hq : pc + 1 = q) (go : Go G R X Q (T.setTop (mkF X.m q Ls (.int (x >>> (y &&& 31)) :: st)))) : Go G R X Q (T.setTop (mkF X.m pc Ls (.int y :: .int x :: st))) := by
  subst hq
  exact go.of fun t r => XS.ishr w.here w.hx rfl (hb w.by_ hd) rfl r
theorem Wk.iushr (w : Wk G M R X vm T h k n) {pc q : Nat} {Ls : Array Slot} {st : List Value} {x y : Int32} (hd : decode M.code pc = .ok (.iushr, 1)) (hq : pc + 1 = q) (go : Go G R X Q (T.setTop (mkF X.m q Ls (.int ((x.toUInt32 >>> (y &&& 31).toUInt32).toInt32) :: st)))) : Go G R X Q (T.setTop (mkF X.m pc Ls (.int y :: .int x :: st))) := by
  subst hq
  exact go.of fun t r => XS.iushr w.here w.hx rfl (hb w.by_ hd) rfl r
theorem Wk.ladd (w : Wk G M R X vm T h k n) {pc q : Nat} {Ls : Array Slot} {st : List Value} {x y : Int64} (hd : decode M.code pc = .ok (.ladd, 1)) (hq : pc + 1 = q) (go : Go G R X Q (T.setTop (mkF X.m q Ls (.long (x + y) :: st)))) : Go G R X Q (T.setTop (mkF X.m pc Ls (.long y :: .long x :: st))) := by
  subst hq
  exact go.of fun t r => XS.ladd w.here w.hx rfl (hb w.by_ hd) rfl r
theorem Wk.lsub (w : Wk G M R X vm T h k n) {pc q : Nat} {Ls : Array Slot} {st : List Value} {x y : Int64} (hd : decode M.code pc = .ok (.lsub, 1)) (hq : pc + 1 = q) (go : Go G R X Q (T.setTop (mkF X.m q Ls (.long (x - y) :: st)))) : Go G R X Q (T.setTop (mkF X.m pc Ls (.long y :: .long x :: st))) := by
  subst hq
  exact go.of fun t r => XS.lsub w.here w.hx rfl (hb w.by_ hd) rfl r
theorem Wk.lmul (w : Wk G M R X vm T h k n) {pc q : Nat} {Ls : Array Slot} {st : List Value} {x y : Int64} (hd : decode M.code pc = .ok (.lmul, 1)) (hq : pc + 1 = q) (go : Go G R X Q (T.setTop (mkF X.m q Ls (.long (x * y) :: st)))) : Go G R X Q (T.setTop (mkF X.m pc Ls (.long y :: .long x :: st))) := by
  subst hq
  exact go.of fun t r => XS.lmul w.here w.hx rfl (hb w.by_ hd) rfl r
theorem Wk.land (w : Wk G M R X vm T h k n) {pc q : Nat} {Ls : Array Slot} {st : List Value} {x y : Int64} (hd : decode M.code pc = .ok (.land, 1)) (hq : pc + 1 = q) (go : Go G R X Q (T.setTop (mkF X.m q Ls (.long (x &&& y) :: st)))) : Go G R X Q (T.setTop (mkF X.m pc Ls (.long y :: .long x :: st))) := by
  subst hq
  exact go.of fun t r => XS.land w.here w.hx rfl (hb w.by_ hd) rfl r
theorem Wk.lor (w : Wk G M R X vm T h k n) {pc q : Nat} {Ls : Array Slot} {st : List Value} {x y : Int64} (hd : decode M.code pc = .ok (.lor, 1)) (hq : pc + 1 = q) (go : Go G R X Q (T.setTop (mkF X.m q Ls (.long (x ||| y) :: st)))) : Go G R X Q (T.setTop (mkF X.m pc Ls (.long y :: .long x :: st))) := by
  subst hq
  exact go.of fun t r => XS.lor w.here w.hx rfl (hb w.by_ hd) rfl r
theorem Wk.lxor (w : Wk G M R X vm T h k n) {pc q : Nat} {Ls : Array Slot} {st : List Value} {x y : Int64} (hd : decode M.code pc = .ok (.lxor, 1)) (hq : pc + 1 = q) (go : Go G R X Q (T.setTop (mkF X.m q Ls (.long (x ^^^ y) :: st)))) : Go G R X Q (T.setTop (mkF X.m pc Ls (.long y :: .long x :: st))) := by
  subst hq
  exact go.of fun t r => XS.lxor w.here w.hx rfl (hb w.by_ hd) rfl r
theorem Wk.lshl (w : Wk G M R X vm T h k n) {pc q : Nat} {Ls : Array Slot} {st : List Value} {x : Int64} {y : Int32} (hd : decode M.code pc = .ok (.lshl, 1)) (hq : pc + 1 = q) (go : Go G R X Q (T.setTop (mkF X.m q Ls (.long (x <<< (y &&& 0x3f).toInt64) :: st)))) : Go G R X Q (T.setTop (mkF X.m pc Ls (.int y :: .long x :: st))) := by
  subst hq
  exact go.of fun t r => XS.lshl w.here w.hx rfl (hb w.by_ hd) rfl r
theorem Wk.lshr (w : Wk G M R X vm T h k n) {pc q : Nat} {Ls : Array Slot} {st : List Value} {x : Int64} {y : Int32} (hd : decode M.code pc = .ok (.lshr, 1)) (hq : pc + 1 = q) (go : Go G R X Q (T.setTop (mkF X.m q Ls (.long (x >>> (y &&& 0x3f).toInt64) :: st)))) : Go G R X Q (T.setTop (mkF X.m pc Ls (.int y :: .long x :: st))) := by
  subst hq
  exact go.of fun t r => XS.lshr w.here w.hx rfl (hb w.by_ hd) rfl r
theorem Wk.lushr (w : Wk G M R X vm T h k n) {pc q : Nat} {Ls : Array Slot} {st : List Value} {x : Int64} {y : Int32} (hd : decode M.code pc = .ok (.lushr, 1)) (hq : pc + 1 = q) (go : Go G R X Q (T.setTop (mkF X.m q Ls (.long ((x.toUInt64 >>> (y &&& 0x3f).toInt64.toUInt64).toInt64) :: st)))) : Go G R X Q (T.setTop (mkF X.m pc Ls (.int y :: .long x :: st))) := by
  subst hq
  exact go.of fun t r => XS.lushr w.here w.hx rfl (hb w.by_ hd) rfl r
theorem Wk.lcmp (w : Wk G M R X vm T h k n) {pc q : Nat} {Ls : Array Slot} {st : List Value} {x y : Int64} (hd : decode M.code pc = .ok (.lcmp, 1)) (hq : pc + 1 = q) (go : Go G R X Q (T.setTop (mkF X.m q Ls (.int (lcmpW x y) :: st)))) : Go G R X Q (T.setTop (mkF X.m pc Ls (.long y :: .long x :: st))) := by
  subst hq
  exact go.of fun t r => XS.lcmp w.here w.hx rfl (hb w.by_ hd) rfl r
theorem Wk.idiv (w : Wk G M R X vm T h k n) {pc q : Nat} {Ls : Array Slot} {st : List Value} {x y : Int32} (hd : decode M.code pc = .ok (.idiv, 1)) (hy : y ≠ 0) (hq : pc + 1 = q) (go : Go G R X Q (T.setTop (mkF X.m q Ls (.int (x / y) :: st)))) : Go G R X Q (T.setTop (mkF X.m pc Ls (.int y :: .int x :: st))) := by
  subst hq
  exact go.of fun t r => XS.idiv w.here w.hx rfl (hb w.by_ hd) rfl hy r
theorem Wk.irem (w : Wk G M R X vm T h k n) {pc q : Nat} {Ls : Array Slot} {st : List Value} {x y : Int32} (hd : decode M.code pc = .ok (.irem, 1)) (hy : y ≠ 0) (hq : pc + 1 = q) (go : Go G R X Q (T.setTop (mkF X.m q Ls (.int (x % y) :: st)))) : Go G R X Q (T.setTop (mkF X.m pc Ls (.int y :: .int x :: st))) := by
  subst hq
  refine go.of fun t r => XS.irem w.here w.hx rfl (hb w.by_ hd) rfl hy ?_
  rw [irem_eq_mod]; exact r
theorem Wk.ineg (w : Wk G M R X vm T h k n) {pc q : Nat} {Ls : Array Slot} {st : List Value} {x : Int32} (hd : decode M.code pc = .ok (.ineg, 1)) (hq : pc + 1 = q) (go : Go G R X Q (T.setTop (mkF X.m q Ls (.int (-x) :: st)))) : Go G R X Q (T.setTop (mkF X.m pc Ls (.int x :: st))) := by
  subst hq
  exact go.of fun t r => XS.ineg w.here w.hx rfl (hb w.by_ hd) rfl r
theorem Wk.lneg (w : Wk G M R X vm T h k n) {pc q : Nat} {Ls : Array Slot} {st : List Value} {x : Int64} (hd : decode M.code pc = .ok (.lneg, 1)) (hq : pc + 1 = q) (go : Go G R X Q (T.setTop (mkF X.m q Ls (.long (-x) :: st)))) : Go G R X Q (T.setTop (mkF X.m pc Ls (.long x :: st))) := by
  subst hq
  exact go.of fun t r => XS.lneg w.here w.hx rfl (hb w.by_ hd) rfl r
theorem Wk.i2l (w : Wk G M R X vm T h k n) {pc q : Nat} {Ls : Array Slot} {st : List Value} {x : Int32} (hd : decode M.code pc = .ok (.i2l, 1)) (hq : pc + 1 = q) (go : Go G R X Q (T.setTop (mkF X.m q Ls (.long x.toInt64 :: st)))) : Go G R X Q (T.setTop (mkF X.m pc Ls (.int x :: st))) := by
  subst hq
  exact go.of fun t r => XS.i2l w.here w.hx rfl (hb w.by_ hd) rfl r
theorem Wk.i2b (w : Wk G M R X vm T h k n) {pc q : Nat} {Ls : Array Slot} {st : List Value} {x : Int32} (hd : decode M.code pc = .ok (.i2b, 1)) (hq : pc + 1 = q) (go : Go G R X Q (T.setTop (mkF X.m q Ls (.int x.toInt8.toInt32 :: st)))) : Go G R X Q (T.setTop (mkF X.m pc Ls (.int x :: st))) := by
  subst hq
  exact go.of fun t r => XS.i2b w.here w.hx rfl (hb w.by_ hd) rfl r
theorem Wk.i2c (w : Wk G M R X vm T h k n) {pc q : Nat} {Ls : Array Slot} {st : List Value} {x : Int32} (hd : decode M.code pc = .ok (.i2c, 1)) (hq : pc + 1 = q) (go : Go G R X Q (T.setTop (mkF X.m q Ls (.int x.toUInt32.toUInt16.toUInt32.toInt32 :: st)))) : Go G R X Q (T.setTop (mkF X.m pc Ls (.int x :: st))) := by
  subst hq
  exact go.of fun t r => XS.i2c w.here w.hx rfl (hb w.by_ hd) rfl r
theorem Wk.i2s (w : Wk G M R X vm T h k n) {pc q : Nat} {Ls : Array Slot} {st : List Value} {x : Int32} (hd : decode M.code pc = .ok (.i2s, 1)) (hq : pc + 1 = q) (go : Go G R X Q (T.setTop (mkF X.m q Ls (.int x.toInt16.toInt32 :: st)))) : Go G R X Q (T.setTop (mkF X.m pc Ls (.int x :: st))) := by
  subst hq
  exact go.of fun t r => XS.i2s w.here w.hx rfl (hb w.by_ hd) rfl r
theorem Wk.l2i (w : Wk G M R X vm T h k n) {pc q : Nat} {Ls : Array Slot} {st : List Value} {x : Int64} (hd : decode M.code pc = .ok (.l2i, 1)) (hq : pc + 1 = q) (go : Go G R X Q (T.setTop (mkF X.m q Ls (.int x.toInt32 :: st)))) : Go G R X Q (T.setTop (mkF X.m pc Ls (.long x :: st))) := by
  subst hq
  exact go.of fun t r => XS.l2i w.here w.hx rfl (hb w.by_ hd) rfl r
theorem Wk.dup (w : Wk G M R X vm T h k n) {pc q : Nat} {Ls : Array Slot} {st : List Value} {x : Value} (hd : decode M.code pc = .ok (.dup, 1)) (hc : x.category = 1) (hq : pc + 1 = q) (go : Go G R X Q (T.setTop (mkF X.m q Ls (x :: x :: st)))) : Go G R X Q (T.setTop (mkF X.m pc Ls (x :: st))) := by
  subst hq
  exact go.of fun t r => XS.dup w.here w.hx rfl (hb w.by_ hd) rfl hc r
theorem Wk.pop (w : Wk G M R X vm T h k n) {pc q : Nat} {Ls : Array Slot} {st : List Value} {x : Value} (hd : decode M.code pc = .ok (.pop, 1)) (hc : x.category = 1) (hq : pc + 1 = q) (go : Go G R X Q (T.setTop (mkF X.m q Ls st))) : Go G R X Q (T.setTop (mkF X.m pc Ls (x :: st))) := by
  subst hq
  exact go.of fun t r => XS.pop w.here w.hx rfl (hb w.by_ hd) rfl hc r
theorem Wk.dupX1 (w : Wk G M R X vm T h k n) {pc q : Nat} {Ls : Array Slot} {st : List Value} {x y : Value} (hd : decode M.code pc = .ok (.dup_x1, 1)) (hc : x.category = 1) (hc2 : y.category = 1) (hq : pc + 1 = q) (go : Go G R X Q (T.setTop (mkF X.m q Ls (x :: y :: x :: st)))) : Go G R X Q (T.setTop (mkF X.m pc Ls (x :: y :: st))) := by
  subst hq
  exact go.of fun t r => XS.dupX1 w.here w.hx rfl (hb w.by_ hd) rfl hc hc2 r
theorem Wk.dup2 (w : Wk G M R X vm T h k n) {pc q : Nat} {Ls : Array Slot} {st : List Value} {x y : Value} (hd : decode M.code pc = .ok (.dup2, 1)) (hc : x.category = 1) (hc2 : y.category = 1) (hq : pc + 1 = q) (go : Go G R X Q (T.setTop (mkF X.m q Ls (x :: y :: x :: y :: st)))) : Go G R X Q (T.setTop (mkF X.m pc Ls (x :: y :: st))) := by
  subst hq
  exact go.of fun t r => XT.dup2 w.here w.hx rfl (hb w.by_ hd) rfl hc hc2 r
theorem Wk.dup2L (w : Wk G M R X vm T h k n) {pc q : Nat} {Ls : Array Slot} {st : List Value} {x : Int64} (hd : decode M.code pc = .ok (.dup2, 1)) (hq : pc + 1 = q) (go : Go G R X Q (T.setTop (mkF X.m q Ls (.long x :: .long x :: st)))) : Go G R X Q (T.setTop (mkF X.m pc Ls (.long x :: st))) := by
  subst hq
  exact go.of fun t r => XT.dup2L w.here w.hx rfl (hb w.by_ hd) rfl r
theorem Wk.iinc (w : Wk G M R X vm T h k n) {pc q : Nat} {Ls L2 : Array Slot} {st : List Value} {j : Nat} {cst : Int} {x : Int32} (v : Int32) (hd : decode M.code pc = .ok (.iinc j cst, 3)) (hv : Int32.ofInt cst = v) (hl : Ls[j]? = some (.val (.int x))) (hl2 : storeLocals Ls j (.int (x + v)) = some L2) (hq : pc + 3 = q) (go : Go G R X Q (T.setTop (mkF X.m q L2 st))) : Go G R X Q (T.setTop (mkF X.m pc Ls st)) := by
  subst hq hv
  exact go.of fun t r => XS.iinc w.here w.hx rfl (hb w.by_ hd) hl hl2 r
theorem Wk.goto (w : Wk G M R X vm T h k n) {pc q : Nat} {Ls : Array Slot} {st : List Value} {o : Int} (hd : decode M.code pc = .ok (.goto o, 3)) (ho : 0 ≤ (pc : Int) + o) (hq : ((pc : Int) + o).toNat = q) (go : Go G R X Q (T.setTop (mkF X.m q Ls st))) : Go G R X Q (T.setTop (mkF X.m pc Ls st)) := by
  exact go.of fun t r => XS.goto w.here w.hx rfl (pc0 := pc) rfl (hb w.by_ hd) ho hq r
theorem Wk.ifY (w : Wk G M R X vm T h k n) {pc q : Nat} {Ls : Array Slot} {st : List Value} {cd : ClassFile.Cond} {x : Int32} {o : Int} (hd : decode M.code pc = .ok (.ifCond cd o, 3)) (hc : ifCond.holds cd x = true) (ho : 0 ≤ (pc : Int) + o) (hq : ((pc : Int) + o).toNat = q) (go : Go G R X Q (T.setTop (mkF X.m q Ls st))) : Go G R X Q (T.setTop (mkF X.m pc Ls (.int x :: st))) := by
  exact go.of fun t r => XS.ifYes w.here w.hx rfl (pc0 := pc) rfl (hb w.by_ hd) rfl hc ho hq r
theorem Wk.ifN (w : Wk G M R X vm T h k n) {pc q : Nat} {Ls : Array Slot} {st : List Value} {cd : ClassFile.Cond} {x : Int32} {o : Int} (hd : decode M.code pc = .ok (.ifCond cd o, 3)) (hc : ifCond.holds cd x = false) (hq : pc + 3 = q) (go : Go G R X Q (T.setTop (mkF X.m q Ls st))) : Go G R X Q (T.setTop (mkF X.m pc Ls (.int x :: st))) := by
  subst hq
  exact go.of fun t r => XS.ifNo w.here w.hx rfl (hb w.by_ hd) rfl hc r
theorem Wk.icY (w : Wk G M R X vm T h k n) {pc q : Nat} {Ls : Array Slot} {st : List Value} {cd : ClassFile.Cond} {x y : Int32} {o : Int} (hd : decode M.code pc = .ok (.if_icmp cd o, 3)) (hc : if_icmp.holds cd x y = true) (ho : 0 ≤ (pc : Int) + o) (hq : ((pc : Int) + o).toNat = q) (go : Go G R X Q (T.setTop (mkF X.m q Ls st))) : Go G R X Q (T.setTop (mkF X.m pc Ls (.int y :: .int x :: st))) := by
  exact go.of fun t r => XS.icmpYes w.here w.hx rfl (pc0 := pc) rfl (hb w.by_ hd) rfl hc ho hq r
theorem Wk.icN (w : Wk G M R X vm T h k n) {pc q : Nat} {Ls : Array Slot} {st : List Value} {cd : ClassFile.Cond} {x y : Int32} {o : Int} (hd : decode M.code pc = .ok (.if_icmp cd o, 3)) (hc : if_icmp.holds cd x y = false) (hq : pc + 3 = q) (go : Go G R X Q (T.setTop (mkF X.m q Ls st))) : Go G R X Q (T.setTop (mkF X.m pc Ls (.int y :: .int x :: st))) := by
  subst hq
  exact go.of fun t r => XS.icmpNo w.here w.hx rfl (hb w.by_ hd) rfl hc r
theorem Wk.nuY (w : Wk G M R X vm T h k n) {pc q : Nat} {Ls : Array Slot} {st : List Value} {o : Int} (hd : decode M.code pc = .ok (.ifnull o, 3)) (ho : 0 ≤ (pc : Int) + o) (hq : ((pc : Int) + o).toNat = q) (go : Go G R X Q (T.setTop (mkF X.m q Ls st))) : Go G R X Q (T.setTop (mkF X.m pc Ls (.null :: st))) := by
  exact go.of fun t r => XS.ifnullYes w.here w.hx rfl (pc0 := pc) rfl (hb w.by_ hd) rfl ho hq r
theorem Wk.nuN (w : Wk G M R X vm T h k n) {pc q : Nat} {Ls : Array Slot} {st : List Value} {b : Addr} {o : Int} (hd : decode M.code pc = .ok (.ifnull o, 3)) (hq : pc + 3 = q) (go : Go G R X Q (T.setTop (mkF X.m q Ls st))) : Go G R X Q (T.setTop (mkF X.m pc Ls (.ref b :: st))) := by
  subst hq
  exact go.of fun t r => XS.ifnullNo w.here w.hx rfl (hb w.by_ hd) rfl r
theorem Wk.nnY (w : Wk G M R X vm T h k n) {pc q : Nat} {Ls : Array Slot} {st : List Value} {b : Addr} {o : Int} (hd : decode M.code pc = .ok (.ifnonnull o, 3)) (ho : 0 ≤ (pc : Int) + o) (hq : ((pc : Int) + o).toNat = q) (go : Go G R X Q (T.setTop (mkF X.m q Ls st))) : Go G R X Q (T.setTop (mkF X.m pc Ls (.ref b :: st))) := by
  exact go.of fun t r => XS.ifnonnullYes w.here w.hx rfl (pc0 := pc) rfl (hb w.by_ hd) rfl ho hq r
theorem Wk.nnN (w : Wk G M R X vm T h k n) {pc q : Nat} {Ls : Array Slot} {st : List Value} {o : Int} (hd : decode M.code pc = .ok (.ifnonnull o, 3)) (hq : pc + 3 = q) (go : Go G R X Q (T.setTop (mkF X.m q Ls st))) : Go G R X Q (T.setTop (mkF X.m pc Ls (.null :: st))) := by
  subst hq
  exact go.of fun t r => XS.ifnonnullNo w.here w.hx rfl (hb w.by_ hd) rfl r
theorem Wk.acY (w : Wk G M R X vm T h k n) {pc q : Nat} {Ls : Array Slot} {st : List Value} {cd : ClassFile.ACond} {x y : Value} {o : Int} (hd : decode M.code pc = .ok (.if_acmp cd o, 3)) (hx : x.isRef = true) (hy : y.isRef = true) (hc : Jvm.Free.XT.acmp cd x y = true) (ho : 0 ≤ (pc : Int) + o) (hq : ((pc : Int) + o).toNat = q) (go : Go G R X Q (T.setTop (mkF X.m q Ls st))) : Go G R X Q (T.setTop (mkF X.m pc Ls (y :: x :: st))) := by
  exact go.of fun t r => XT.acmpYes w.here w.hx rfl (pc0 := pc) rfl (hb w.by_ hd) rfl hx hy hc ho hq r
theorem Wk.acN (w : Wk G M R X vm T h k n) {pc q : Nat} {Ls : Array Slot} {st : List Value} {cd : ClassFile.ACond} {x y : Value} {o : Int} (hd : decode M.code pc = .ok (.if_acmp cd o, 3)) (hx : x.isRef = true) (hy : y.isRef = true) (hc : Jvm.Free.XT.acmp cd x y = false) (hq : pc + 3 = q) (go : Go G R X Q (T.setTop (mkF X.m q Ls st))) : Go G R X Q (T.setTop (mkF X.m pc Ls (y :: x :: st))) := by
  subst hq
  exact go.of fun t r => XT.acmpNo w.here w.hx rfl (hb w.by_ hd) rfl hx hy hc r
theorem xrfl (h : Heap) : Ext h h := ⟨Nat.le_refl _, fun _ _ q => q⟩
theorem xtr {h h' h2 : Heap} (A : Ext h h') (B : Ext h' h2) : Ext h h2 := ⟨Nat.le_trans A.1 B.1, fun a c q => B.2 a c (A.2 a c q)⟩
theorem xkp {h0 h h' : Heap} {ws : List Addr} (E : Ext h0 h) (K : Keep h h' ws) (q : ∀ x ∈ ws, h0.size ≤ x) : Ext h0 h' := ⟨Nat.le_trans E.1 K.1, fun a c r => K.2.1 a c (E.2 a c r) fun z => absurd (Array.getElem?_eq_some_iff.mp r).1 (Nat.not_lt.mpr (q a z))⟩
theorem xkeep {h h' : Heap} (E : Ext h h') : Keep h h' [] := (Keep.refl h []).ext E
theorem sta_uniq {Z : State} {h : Heap} {C n d : String} {a b : Addr} (F : Sta Z h C n d (.ref a)) (E : Sta Z h C n d (.ref b)) : a = b := by
  obtain ⟨cf, i, k, f, st, cell, h1, h2, h3, h4, h5, h6, h7⟩ := F
  obtain ⟨cf', i', k', f', st', cell', g1, g2, g3, g4, g5, g6, g7⟩ := E
  cases h1.symm.trans g1
  cases h4.symm.trans g4
  cases h5.symm.trans g5
  cases h7.symm.trans g7
  rfl
theorem nin1 {x y : Nat} (q : x ≠ y) : x ∉ ([y] : List Addr) := fun z => q (List.mem_singleton.mp z)
theorem all1 {P : Addr → Prop} {a : Addr} (q : P a) : ∀ x ∈ [a], P x := fun x hx => by cases List.mem_singleton.mp hx; exact q
theorem Wk.sfE (w : Wk G M R X vm T h k n) {a : Addr} {C : String} (E : Exa G.Z h a C) (h1 : C ≠ "java/lang/String") (h2 : C ≠ "[B") : G.wd = true → Safe G.Z G.EL vm h a := fun _ => Safe.exa w.wz.alike E h1 h2
theorem Wk.sfA (w : Wk G M R X vm T h k n) {a : Addr} {kc : ClassId} {ty : FieldType} {N : Int32} {vs : List Value} {dv : Value} (A : Arv G.Z h a kc ty N vs dv) (ht : ty ≠ .byte) : G.wd = true → Safe G.Z G.EL vm h a := fun _ => Safe.arv w.wz.alike A ht
theorem Wk.sfN (w : Wk G M R X vm T h k n) {a : Addr} (q : h.size ≤ a) : G.wd = true → Safe G.Z G.EL vm h a := fun _ => Safe.new q
theorem blank_safe {Z : State} {EL : List (String × Nat)} {vm : Vm} {h : Heap} {x : Addr} (hal : Z.vm.Alike vm) (E : Exa Z h x "java/lang/String") (V : Fld Z h x "java/lang/String" "value" "[B" .null) : Safe Z EL vm h x := fun B => by
  obtain ⟨cell, kx, e1, e2, e3, e4, e5⟩ := E
  obtain ⟨cellV, cf, kf, i, f, v1, v2, v3, v4, v5, v6, v7⟩ := V
  cases e1.symm.trans v1
  obtain ⟨p, -, u, a, -, q, -, F, hy⟩ := B
  obtain ⟨cS, ⟨⟨s1, s2, s3, ⟨cv, kv, iv, s4, s4'⟩, -, s6, s7, s8, s9, s10, s11, -⟩, hfS, hcS⟩, -, hB, -⟩ := F
  rcases hy with rfl | rfl
  · cases e1.symm.trans (show h[q.sa]? = some q.sC from s1)
    obtain ⟨kz, z4⟩ := ff_back (U := Wst Z vm h) hal s4
    have := v2.symm.trans z4
    simp only [Option.some.injEq, Prod.mk.injEq] at this
    rw [this.2.2.2] at v7
    rw [s8] at v7
    cases v7
  · cases e1.symm.trans (show h[q.sd]? = some q.SA from s10)
    obtain ⟨-, k9, hk9, comp, hkind⟩ := s11
    have hB' : vm.findClass "[B" = some q.SA.cls := hB
    rw [hal.findClass] at hB'
    obtain ⟨k1, a1, a2⟩ := Vm.findClass_spec hB'
    obtain ⟨k2, b1, b2⟩ := Vm.findClass_spec e2
    cases a1.symm.trans b1
    rw [a2] at b2
    exact absurd b2 (by decide)
theorem Wk.sfB (w : Wk G M R X vm T h k n) {a : Addr} (E : Exa G.Z h a "java/lang/String") (V : Fld G.Z h a "java/lang/String" "value" "[B" .null) : G.wd = true → Safe G.Z G.EL vm h a := fun _ => blank_safe w.wz.alike E V
theorem Wk.newO (w : Wk G M R X vm T h k n) {pc q : Nat} {Ls : Array Slot} {st : List Value} {C : String} {index sz : Nat} (hd : decode M.code pc = .ok (.new index, 3)) (w1 : (Jvm.Cond.classLink M.own index C).before G.a0 G.Z = true) (w2 : (Jvm.Cond.instantiable C sz).before G.a0 G.Z = true) (w3 : (Jvm.Cond.initialized C).before G.a0 G.Z = true) (hc : k + 1 ≤ R.cells) (hl : n + sz ≤ R.slots) (hq : pc + 3 = q)
    (go : ∀ (T' : State) (h' : Heap) (b : Nat), b = h.size → Wk G M R X vm T' h' (k + 1) (n + sz) → Ext h h' → Exa G.Z h' b C → (∀ {O nm d : String} {ty : FieldType}, Laid G.Z G.a0 C O nm d → parseFieldDescriptor d = some ty → Fld G.Z h' b O nm d (defaultValue ty)) → Unt h' b → Go G R X Q (T'.setTop (mkF X.m q Ls (.ref b :: st)))) : Go G R X Q (T.setTop (mkF X.m pc Ls st)) := by
  subst hq
  obtain ⟨fx, k0, L, S, eh, hS, hk, hZ, hown, hF, ho, hch, hnw⟩ := w
  obtain ⟨T', h', X', e', E, A, D, U, st'⟩ := Jvm.RoadKit.newO S fx.1 hZ hown w1 w2 w3 eh (g := mkF X.m pc Ls st) rfl (hb fx.2.1 hd) hc hl
  exact (go T' h' h.size rfl ⟨fx, k0, L, X', e', hS, Nat.le_trans hk E.1, hZ, hown, hF, ho.ext E, fun b => (hch b).trans (CHr.ext E (hch b).1), hnw⟩ E A D U).of st'
theorem Wk.newP (w : Wk G M R X vm T h k n) {pc q : Nat} {Ls : Array Slot} {st : List Value} {aty : ArrayType} {N : Int32} (cap : Nat) (hd : decode M.code pc = .ok (.newarray aty, 2)) (w1 : (Jvm.Cond.arrayClass (newarray.typeOf aty)).before G.a0 G.Z = true) (hN : ¬ N < 0) (hcap : N.toNatClampNeg ≤ cap) (hb8 : cap * 8 ≤ 536870912) (hc : k + 1 ≤ R.cells) (hl : n + cap ≤ R.slots) (hq : pc + 2 = q)
    (go : ∀ (T' : State) (h' : Heap) (b : Nat) (kc : ClassId), b = h.size → Wk G M R X vm T' h' (k + 1) (n + cap) → Ext h h' → Arv G.Z h' b kc (newarray.typeOf aty) N [] (defaultValue (newarray.typeOf aty)) → Go G R X Q (T'.setTop (mkF X.m q Ls (.ref b :: st)))) : Go G R X Q (T.setTop (mkF X.m pc Ls (.int N :: st))) := by
  subst hq
  obtain ⟨fx, k0, L, S, eh, hS, hk, hZ, hown, hF, ho, hch, hnw⟩ := w
  obtain ⟨T', h', kc, X', e', E, A, st'⟩ := Jvm.RoadKit.newP S fx.1 hZ w1 eh (g := mkF X.m pc Ls (.int N :: st)) rfl (hb fx.2.1 hd) rfl hN (cap := cap) hcap hb8 hc hl
  exact (go T' h' h.size kc rfl ⟨fx, k0, L, X', e', hS, Nat.le_trans hk E.1, hZ, hown, hF, ho.ext E, fun b => (hch b).trans (CHr.ext E (hch b).1), hnw⟩ E (Arv.new A hN)).of st'
theorem Wk.newR (w : Wk G M R X vm T h k n) {pc q : Nat} {Ls : Array Slot} {st : List Value} {C : String} {index : Nat} {N : Int32} (cap : Nat) (hd : decode M.code pc = .ok (.anewarray index, 3)) (w1 : (Jvm.Cond.classLink M.own index C).before G.a0 G.Z = true) (w2 : (Jvm.Cond.arrayOver (.object C)).before G.a0 G.Z = true) (hN : ¬ N < 0) (hcap : N.toNatClampNeg ≤ cap) (hb8 : cap * 8 ≤ 536870912) (hc : k + 1 ≤ R.cells) (hl : n + cap ≤ R.slots) (hq : pc + 3 = q)
    (go : ∀ (T' : State) (h' : Heap) (b : Nat) (kc : ClassId), b = h.size → Wk G M R X vm T' h' (k + 1) (n + cap) → Ext h h' → Arv G.Z h' b kc (.object C) N [] .null → Ovr G.Z kc C → Go G R X Q (T'.setTop (mkF X.m q Ls (.ref b :: st)))) : Go G R X Q (T.setTop (mkF X.m pc Ls (.int N :: st))) := by
  subst hq
  obtain ⟨fx, k0, L, S, eh, hS, hk, hZ, hown, hF, ho, hch, hnw⟩ := w
  obtain ⟨T', h', kc, X', e', E, A, O, st'⟩ := Jvm.RoadKit.newR S fx.1 hZ hown w1 w2 eh (g := mkF X.m pc Ls (.int N :: st)) rfl (hb fx.2.1 hd) rfl hN (cap := cap) hcap hb8 hc hl
  exact (go T' h' h.size kc rfl ⟨fx, k0, L, X', e', hS, Nat.le_trans hk E.1, hZ, hown, hF, ho.ext E, fun b => (hch b).trans (CHr.ext E (hch b).1), hnw⟩ E (Arv.new A hN) O).of st'
theorem Wk.castore (w : Wk G M R X vm T h k n) {pc q : Nat} {Ls : Array Slot} {st : List Value} {b : Addr} {kc : ClassId} {N j x : Int32} {vs : List Value} {dv : Value} (i : Nat) (hd : decode M.code pc = .ok (.castore, 1)) (A : Arv G.Z h b kc .char N vs dv) (h0 : G.n0 ≤ b) (hj : ¬ j < 0 ∧ j < N) (hi : j.toNatClampNeg = i) (hlen : i < vs.length) (hq : pc + 1 = q)
    (go : ∀ (T' : State) (h' : Heap), Wk G M R X vm T' h' k n → Keep h h' [b] → Arv G.Z h' b kc .char N (vs.set i (.int (nar .char x))) dv → Go G R X Q (T'.setTop (mkF X.m q Ls st))) : Go G R X Q (T.setTop (mkF X.m pc Ls (.int x :: .int j :: .ref b :: st))) := by
  subst hq
  have sf := w.sfA A (by decide)
  obtain ⟨fx, k0, L, S, eh, hS, hk, hZ, hown, hF, ho, hch, hnw⟩ := w
  obtain ⟨cl, Ar, r1, r2, r3, H, Gf⟩ := A
  obtain ⟨T', h', X', e', W, st'⟩ := Jvm.RoadKit.stC S fx.1 hZ eh Ar (j := j) (x := x) (inb_of r2 hj) (g := mkF X.m pc Ls (.int x :: .int j :: .ref b :: st)) rfl rfl (hb fx.2.1 hd)
  have K := Keep.of_wr W
  exact (go T' h' ⟨fx, k0, _, X', e', hS, Nat.le_trans hk K.1, hZ, hown, Fr.snoc X' hF h0, ho.wr W h0, fun b' => (hch b').trans (CHr.wr W (sf b') (hch b').1), hnw⟩ K (Arv.set Ar r1 r2 r3 H Gf (fits_nar_char _) W i hi hlen)).of st'
theorem Wk.iastore (w : Wk G M R X vm T h k n) {pc q : Nat} {Ls : Array Slot} {st : List Value} {b : Addr} {kc : ClassId} {N j x : Int32} {vs : List Value} {dv : Value} (i : Nat) (hd : decode M.code pc = .ok (.iastore, 1)) (A : Arv G.Z h b kc .int N vs dv) (h0 : G.n0 ≤ b) (hj : ¬ j < 0 ∧ j < N) (hi : j.toNatClampNeg = i) (hlen : i < vs.length) (hq : pc + 1 = q)
    (go : ∀ (T' : State) (h' : Heap), Wk G M R X vm T' h' k n → Keep h h' [b] → Arv G.Z h' b kc .int N (vs.set i (.int x)) dv → Go G R X Q (T'.setTop (mkF X.m q Ls st))) : Go G R X Q (T.setTop (mkF X.m pc Ls (.int x :: .int j :: .ref b :: st))) := by
  subst hq
  have sf := w.sfA A (by decide)
  obtain ⟨fx, k0, L, S, eh, hS, hk, hZ, hown, hF, ho, hch, hnw⟩ := w
  obtain ⟨cl, Ar, r1, r2, r3, H, Gf⟩ := A
  obtain ⟨T', h', X', e', W, st'⟩ := Jvm.RoadKit.stI S fx.1 hZ eh Ar (j := j) (x := x) (inb_of r2 hj) (g := mkF X.m pc Ls (.int x :: .int j :: .ref b :: st)) rfl rfl (hb fx.2.1 hd)
  have K := Keep.of_wr W
  exact (go T' h' ⟨fx, k0, _, X', e', hS, Nat.le_trans hk K.1, hZ, hown, Fr.snoc X' hF h0, ho.wr W h0, fun b' => (hch b').trans (CHr.wr W (sf b') (hch b').1), hnw⟩ K (Arv.set Ar r1 r2 r3 H Gf rfl W i hi hlen)).of st'
theorem Wk.bastore (w : Wk G M R X vm T h k n) {pc q : Nat} {Ls : Array Slot} {st : List Value} {b : Addr} {kc : ClassId} {N j x : Int32} {vs : List Value} {dv : Value} (i : Nat) (hd : decode M.code pc = .ok (.bastore, 1)) (A : Arv G.Z h b kc .byte N vs dv) (h0 : G.n0 ≤ b) (sf : G.wd = true → Safe G.Z G.EL vm h b) (hj : ¬ j < 0 ∧ j < N) (hi : j.toNatClampNeg = i) (hlen : i < vs.length) (hq : pc + 1 = q)
    (go : ∀ (T' : State) (h' : Heap), Wk G M R X vm T' h' k n → Keep h h' [b] → (G.wd = true → Safe G.Z G.EL vm h' b) → Arv G.Z h' b kc .byte N (vs.set i (.int x.toInt8.toInt32)) dv → Go G R X Q (T'.setTop (mkF X.m q Ls st))) : Go G R X Q (T.setTop (mkF X.m pc Ls (.int x :: .int j :: .ref b :: st))) := by
  subst hq
  obtain ⟨fx, k0, L, S, eh, hS, hk, hZ, hown, hF, ho, hch, hnw⟩ := w
  obtain ⟨cl, Ar, r1, r2, r3, H, Gf⟩ := A
  obtain ⟨T', h', X', e', W, st'⟩ := Jvm.RoadKit.stB S fx.1 hZ eh Ar (j := j) (x := x) (inb_of r2 hj) (g := mkF X.m pc Ls (.int x :: .int j :: .ref b :: st)) rfl rfl (hb fx.2.1 hd)
  have K := Keep.of_wr W
  exact (go T' h' ⟨fx, k0, _, X', e', hS, Nat.le_trans hk K.1, hZ, hown, Fr.snoc X' hF h0, ho.wr W h0, fun b' => (hch b').trans (CHr.wr W (sf b') (hch b').1), hnw⟩ K (fun b' => (CHr.wr W (sf b') (hch b').1).safe Ar.lt (sf b')) (Arv.set Ar r1 r2 r3 H Gf (fits_nar_byte _) W i hi hlen)).of st'
theorem Wk.aastore (w : Wk G M R X vm T h k n) {pc q : Nat} {Ls : Array Slot} {st : List Value} {b : Addr} {kc : ClassId} {ty : FieldType} {N j : Int32} {v : Value} {vs : List Value} {dv : Value} (i : Nat) (hd : decode M.code pc = .ok (.aastore, 1)) (A : Arv G.Z h b kc ty N vs dv) (hty : ty.isReference = true) (F : Sto G.Z h b v) (hv : v.isRef = true) (h0 : G.n0 ≤ b) (hj : ¬ j < 0 ∧ j < N) (hi : j.toNatClampNeg = i) (hlen : i < vs.length) (hq : pc + 1 = q)
    (go : ∀ (T' : State) (h' : Heap), Wk G M R X vm T' h' k n → Keep h h' [b] → Arv G.Z h' b kc ty N (vs.set i v) dv → Go G R X Q (T'.setTop (mkF X.m q Ls st))) : Go G R X Q (T.setTop (mkF X.m pc Ls (v :: .int j :: .ref b :: st))) := by
  subst hq
  have hnb : ty ≠ .byte := fun e => by rw [e] at hty; cases hty
  have sf := w.sfA A hnb
  have hfit : fits ty v = true := by cases ty <;> first | (cases hty; done) | (rcases ref_cases hv with rfl | ⟨_, rfl⟩ <;> rfl)
  obtain ⟨fx, k0, L, S, eh, hS, hk, hZ, hown, hF, ho, hch, hnw⟩ := w
  obtain ⟨cl, Ar, r1, r2, r3, H, Gf⟩ := A
  obtain ⟨T', h', X', e', W, st'⟩ := Jvm.RoadKit.stR S fx.1 hZ eh Ar (j := j) (v := v) (inb_of r2 hj) hty F (g := mkF X.m pc Ls (v :: .int j :: .ref b :: st)) rfl rfl (hb fx.2.1 hd)
  have K := Keep.of_wr W
  exact (go T' h' ⟨fx, k0, _, X', e', hS, Nat.le_trans hk K.1, hZ, hown, Fr.snoc X' hF h0, ho.wr W h0, fun b' => (hch b').trans (CHr.wr W (sf b') (hch b').1), hnw⟩ K (Arv.set Ar r1 r2 r3 H Gf hfit W i hi hlen)).of st'
theorem Wk.getF (w : Wk G M R X vm T h k n) {pc q : Nat} {Ls : Array Slot} {st : List Value} {R0 O f d : String} {index : Nat} {a : Addr} {v : Value} (hd : decode M.code pc = .ok (.getfield index, 3)) (w1 : (Jvm.Cond.fieldLink M.own index R0 f d).before G.a0 G.Z = true) (via : Via G.Z R0 O f d) (F : Fld G.Z h a O f d v) (hq : pc + 3 = q)
    (go : ∀ T' : State, Wk G M R X vm T' h k n → Go G R X Q (T'.setTop (mkF X.m q Ls (v :: st)))) : Go G R X Q (T.setTop (mkF X.m pc Ls (.ref a :: st))) := by
  subst hq
  obtain ⟨fx, k0, L, S, eh, hS, hk, hZ, hown, r⟩ := w
  obtain ⟨T', X', e', st'⟩ := Jvm.RoadKit.getF (host := "") S fx.1 hZ hown (Or.inl w1) via eh F (g := mkF X.m pc Ls (.ref a :: st)) rfl rfl (hb fx.2.1 hd)
  exact (go T' ⟨fx, k0, L, X', e', hS, hk, hZ, hown, r⟩).of st'
theorem Wk.getS (w : Wk G M R X vm T h k n) {pc q : Nat} {Ls : Array Slot} {st : List Value} {R0 O f d : String} {index : Nat} {v : Value} (hd : decode M.code pc = .ok (.getstatic index, 3)) (w1 : (Jvm.Cond.fieldLink M.own index R0 f d).before G.a0 G.Z = true) (via : Via G.Z R0 O f d) (F : Sta G.Z G.Z.heap O f d v) (hq : pc + 3 = q)
    (go : ∀ T' : State, Wk G M R X vm T' h k n → Go G R X Q (T'.setTop (mkF X.m q Ls (v :: st)))) : Go G R X Q (T.setTop (mkF X.m pc Ls st)) := by
  subst hq
  have F' := w.sta F
  obtain ⟨fx, k0, L, S, eh, hS, hk, hZ, hown, r⟩ := w
  obtain ⟨T', X', e', st'⟩ := Jvm.RoadKit.getS (host := "") S fx.1 hZ hown w1 via eh F' (g := mkF X.m pc Ls st) rfl (hb fx.2.1 hd)
  exact (go T' ⟨fx, k0, L, X', e', hS, hk, hZ, hown, r⟩).of st'
theorem Wk.putF (w : Wk G M R X vm T h k n) {pc q : Nat} {Ls : Array Slot} {st : List Value} {R0 O f d C : String} {index kk : Nat} {ty : FieldType} {a : Addr} {v old : Value} (hd : decode M.code pc = .ok (.putfield index, 3)) (w1 : (Jvm.Cond.fieldLink M.own index R0 f d).before G.a0 G.Z = true) (via : Via G.Z R0 O f d) (F : Fld G.Z h a O f d old) (E : Exa G.Z h a C) (hlay : (Jvm.Cond.lays C O f d).before G.a0 G.Z = true ∨ ((Jvm.Cond.laysFinal C O f d).before G.a0 G.Z = true ∧ M.own = O ∧ M.nm = "<init>")) (wi : (Jvm.Cond.instantiable C kk).before G.a0 G.Z = true)
    (hty : parseFieldDescriptor d = some ty) (hn : narrow ty v = v) (hf : fits ty v = true) (h0 : G.n0 ≤ a) (sf : G.wd = true → Safe G.Z G.EL vm h a) (hq : pc + 3 = q)
    (go : ∀ (T' : State) (h' : Heap), Wk G M R X vm T' h' k n → Wr h h' a (Jvm.RoadKit.slotOf G.Z O f d) v → (G.wd = true → Safe G.Z G.EL vm h' a) → Go G R X Q (T'.setTop (mkF X.m q Ls st))) : Go G R X Q (T.setTop (mkF X.m pc Ls (v :: .ref a :: st))) := by
  subst hq
  have hnm := w.hnm
  obtain ⟨fx, k0, L, S, eh, hS, hk, hZ, hown, hF, ho, hch, hnw⟩ := w
  obtain ⟨T', h', X', e', W, st'⟩ := Jvm.RoadKit.putF (host := "") S fx.1 hZ hown (Or.inl w1) via eh F E (hlay.imp id fun z => ⟨z.1, z.2.1, hnm.trans z.2.2⟩) wi hty hn hf (g := mkF X.m pc Ls (v :: .ref a :: st)) rfl rfl (hb fx.2.1 hd)
  have K := Keep.of_wr W
  exact (go T' h' ⟨fx, k0, _, X', e', hS, Nat.le_trans hk K.1, hZ, hown, Fr.snoc X' hF h0, ho.wr W h0, fun b' => (hch b').trans (CHr.wr W (sf b') (hch b').1), hnw⟩ W (fun b' => (CHr.wr W (sf b') (hch b').1).safe F.lt (sf b'))).of st'
theorem Wk.castY (w : Wk G M R X vm T h k n) {pc q : Nat} {Ls : Array Slot} {st : List Value} {K : String} {index : Nat} {a : Addr} (hd : decode M.code pc = .ok (.checkcast index, 3)) (w1 : (Jvm.Cond.classLink M.own index K).before G.a0 G.Z = true) (F : Ins G.Z h a K true) (hq : pc + 3 = q)
    (go : ∀ T' : State, Wk G M R X vm T' h k n → Go G R X Q (T'.setTop (mkF X.m q Ls (.ref a :: st)))) : Go G R X Q (T.setTop (mkF X.m pc Ls (.ref a :: st))) := by
  subst hq
  obtain ⟨fx, k0, L, S, eh, hS, hk, hZ, hown, r⟩ := w
  obtain ⟨T', X', e', st'⟩ := Jvm.RoadKit.castY S fx.1 hZ hown w1 eh F (g := mkF X.m pc Ls (.ref a :: st)) rfl rfl (hb fx.2.1 hd)
  exact (go T' ⟨fx, k0, L, X', e', hS, hk, hZ, hown, r⟩).of st'
theorem Wk.instY (w : Wk G M R X vm T h k n) {pc q : Nat} {Ls : Array Slot} {st : List Value} {K : String} {index : Nat} {a : Addr} (hd : decode M.code pc = .ok (.instanceof index, 3)) (w1 : (Jvm.Cond.classLink M.own index K).before G.a0 G.Z = true) (F : Ins G.Z h a K true) (hq : pc + 3 = q)
    (go : ∀ T' : State, Wk G M R X vm T' h k n → Go G R X Q (T'.setTop (mkF X.m q Ls (.int 1 :: st)))) : Go G R X Q (T.setTop (mkF X.m pc Ls (.ref a :: st))) := by
  subst hq
  obtain ⟨fx, k0, L, S, eh, hS, hk, hZ, hown, r⟩ := w
  obtain ⟨T', X', e', st'⟩ := Jvm.RoadKit.instY S fx.1 hZ hown w1 eh F (g := mkF X.m pc Ls (.ref a :: st)) rfl rfl (hb fx.2.1 hd)
  exact (go T' ⟨fx, k0, L, X', e', hS, hk, hZ, hown, r⟩).of st'
theorem Wk.initO (w : Wk G M R X vm T h k n) {pc q : Nat} {Ls : Array Slot} {st : List Value} {index W : Nat} {a : Addr} (hd : decode M.code pc = .ok (.invokespecial index, 3)) (w1 : (Jvm.Cond.methodLink M.own index Lib.objectInit).before G.a0 G.Z = true) (w2 : (Jvm.Cond.instanceMethod Lib.objectInit).before G.a0 G.Z = true) (w3 : (Jvm.Cond.code Lib.objectInit ⟨#[0xb1]⟩ 1 none).before G.a0 G.Z = true) (hsz : Ls.size = M.mx) (hfr : 1 ≤ R.frames) (hW : (st.map fun v => v.category).sum ≤ W) (hlo : W + 12 ≤ R.locals) (hq : pc + 3 = q)
    (go : ∀ T' : State, Wk G M R X vm T' h k n → Go G R X Q (T'.setTop (mkF X.m q Ls st))) : Go G R X Q (T.setTop (mkF X.m pc Ls (.ref a :: st))) := by
  subst hq
  obtain ⟨fx, k0, L, S, eh, hS, hk, hZ, hown, r⟩ := w
  obtain ⟨T', X', e', st'⟩ := Jvm.RoadKit.initO S fx.1 hZ hown w1 w2 w3 eh (g := mkF X.m pc Ls (.ref a :: st)) rfl (hsz.trans fx.2.2.1.symm) rfl (hb fx.2.1 hd) hfr (W := W) (by show 2 * 0 + _ ≤ _; omega) hlo
  exact (go T' ⟨fx, k0, L, X', e', hS, hk, hZ, hown, r⟩).of st'
theorem Wk.ldcI (w : Wk G M R X vm T h k n) {pc q : Nat} {Ls : Array Slot} {st : List Value} {index : Nat} {v : Int32} (hd : decode M.code pc = .ok (.ldc index, 2)) (w1 : (Jvm.Cond.constant M.own index v).before G.a0 G.Z = true) (hq : pc + 2 = q) (go : Go G R X Q (T.setTop (mkF X.m q Ls (.int v :: st)))) : Go G R X Q (T.setTop (mkF X.m pc Ls st)) := by
  subst hq
  obtain ⟨fx, k0, L, S, eh, hS, hk, hZ, hown, r⟩ := w
  exact go.of fun t z => S.ldcI fx.1 hown (mv (s := X.s.setVm vm) hZ w1) (g := mkF X.m pc Ls st) rfl (hb fx.2.1 hd) z
theorem Wk.ldc2J (w : Wk G M R X vm T h k n) {pc q : Nat} {Ls : Array Slot} {st : List Value} {index : Nat} {v : Int64} (hd : decode M.code pc = .ok (.ldc2_w index, 3)) (w1 : (Jvm.Cond.constantLong M.own index v).before G.a0 G.Z = true) (hq : pc + 3 = q) (go : Go G R X Q (T.setTop (mkF X.m q Ls (.long v :: st)))) : Go G R X Q (T.setTop (mkF X.m pc Ls st)) := by
  subst hq
  obtain ⟨fx, k0, L, S, eh, hS, hk, hZ, hown, r⟩ := w
  exact go.of fun t z => S.ldc2J fx.1 hown (mv (s := X.s.setVm vm) hZ w1) (g := mkF X.m pc Ls st) rfl (hb fx.2.1 hd) z
theorem Wk.alen (w : Wk G M R X vm T h k n) {pc q : Nat} {Ls : Array Slot} {st : List Value} {b : Addr} {kc : ClassId} {ty : FieldType} {N : Int32} {vs : List Value} {dv : Value} (hd : decode M.code pc = .ok (.arraylength, 1)) (A : Arv G.Z h b kc ty N vs dv) (hq : pc + 1 = q) (go : Go G R X Q (T.setTop (mkF X.m q Ls (.int N :: st)))) : Go G R X Q (T.setTop (mkF X.m pc Ls (.ref b :: st))) := by
  subst hq
  obtain ⟨fx, k0, L, S, eh, hS, hk, hZ, hown, r⟩ := w
  obtain ⟨cl, Ar, r1, r2, r3, H, Gf⟩ := A
  refine go.of fun t z => S.arraylength fx.1 (by rw [eh]; exact Ar.1) (State.isArrayOf_alike hZ.alike Ar.2.1) (g := mkF X.m pc Ls (.ref b :: st)) rfl rfl (hb fx.2.1 hd) _ ?_
  rw [len_of r2 r3]; exact z
theorem Wk.aaload (w : Wk G M R X vm T h k n) {pc q : Nat} {Ls : Array Slot} {st : List Value} {b : Addr} {kc : ClassId} {ty : FieldType} {N j : Int32} {v : Value} {vs : List Value} {dv : Value} (hd : decode M.code pc = .ok (.aaload, 1)) (A : Arv G.Z h b kc ty N vs dv) (hty : ty.isReference = true) (hj : ¬ j < 0 ∧ j < N) (hv : vs.getD j.toNatClampNeg dv = v) (hq : pc + 1 = q) (go : Go G R X Q (T.setTop (mkF X.m q Ls (v :: st)))) : Go G R X Q (T.setTop (mkF X.m pc Ls (.int j :: .ref b :: st))) := by
  subst hq
  obtain ⟨fx, k0, L, S, eh, hS, hk, hZ, hown, r⟩ := w
  obtain ⟨cl, Ar, r1, r2, r3, H, Gf⟩ := A
  exact go.of fun t z => S.aaload fx.1 (j := j) (v := v) (by rw [eh]; exact Ar.1) (State.isArrayOf_alike hZ.alike Ar.2.1) hty Ar.2.2 (inb_of r2 hj) (H.at (inb_of r2 hj) hv) (g := mkF X.m pc Ls (.int j :: .ref b :: st)) rfl rfl (hb fx.2.1 hd) _ z
theorem Wk.caload (w : Wk G M R X vm T h k n) {pc q : Nat} {Ls : Array Slot} {st : List Value} {b : Addr} {kc : ClassId} {N j x : Int32} {vs : List Value} {dv : Value} (hd : decode M.code pc = .ok (.caload, 1)) (A : Arv G.Z h b kc .char N vs dv) (hj : ¬ j < 0 ∧ j < N) (hv : vs.getD j.toNatClampNeg dv = .int x) (hq : pc + 1 = q) (go : Go G R X Q (T.setTop (mkF X.m q Ls (.int x :: st)))) : Go G R X Q (T.setTop (mkF X.m pc Ls (.int j :: .ref b :: st))) := by
  subst hq
  obtain ⟨fx, k0, L, S, eh, hS, hk, hZ, hown, r⟩ := w
  obtain ⟨cl, Ar, r1, r2, r3, H, Gf⟩ := A
  exact go.of fun t z => S.caload fx.1 (j := j) (v := .int x) (by rw [eh]; exact Ar.1) (State.isArrayOf_alike hZ.alike Ar.2.1) Ar.2.2 (inb_of r2 hj) (H.at (inb_of r2 hj) hv) (g := mkF X.m pc Ls (.int j :: .ref b :: st)) rfl rfl (hb fx.2.1 hd) _ z
theorem Wk.baload (w : Wk G M R X vm T h k n) {pc q : Nat} {Ls : Array Slot} {st : List Value} {b : Addr} {kc : ClassId} {N j x : Int32} {vs : List Value} {dv : Value} (hd : decode M.code pc = .ok (.baload, 1)) (A : Arv G.Z h b kc .byte N vs dv) (hj : ¬ j < 0 ∧ j < N) (hv : vs.getD j.toNatClampNeg dv = .int x) (hq : pc + 1 = q) (go : Go G R X Q (T.setTop (mkF X.m q Ls (.int x :: st)))) : Go G R X Q (T.setTop (mkF X.m pc Ls (.int j :: .ref b :: st))) := by
  subst hq
  obtain ⟨fx, k0, L, S, eh, hS, hk, hZ, hown, r⟩ := w
  obtain ⟨cl, Ar, r1, r2, r3, H, Gf⟩ := A
  exact go.of fun t z => S.baloadBytes fx.1 (j := j) (v := .int x) (by rw [eh]; exact Ar.1) (State.isArrayOf_alike hZ.alike Ar.2.1) Ar.2.2 (inb_of r2 hj) (H.at (inb_of r2 hj) hv) (g := mkF X.m pc Ls (.int j :: .ref b :: st)) rfl rfl (hb fx.2.1 hd) _ z
theorem arv_sto {Z : State} {h : Heap} {b y : Addr} {kc : ClassId} {ty : FieldType} {N : Int32} {vs : List Value} {dv : Value} {C : String} (A : Arv Z h b kc ty N vs dv) (O : Ovr Z kc C) (I : Ins Z h y C true) : Sto Z h b (.ref y) := by
  obtain ⟨c, Ar, r1, -⟩ := A; exact Sto.ofV Ar r1 O I
def PayN (G : Gx) (R : Room) (X : Cx) (y : MethodName) (len W : Nat) (as : Array Value) (h : Heap) (k1 n1 : Nat) (Q1 : Option Value → Heap → Prop) (vm : Vm) : Prop :=
  Back G.l R X.p X.e X.below (X.s.setVm vm) X.args y len W (fun P a => a = as ∧ P.U.heap = h ∧ P.cells + k1 ≤ R.cells ∧ P.slots + n1 ≤ R.slots)
    (fun P _ v B => ∃ L, (Q1 v B.U.heap ∧ Fr G.n0 L ∧ Old G.Z G.n0 B.U.heap ∧ h.size ≤ B.U.heap.size ∧ (G.wd = true → CHr G.Z G.EL vm h vm B.U.heap)) ∧ B.locs = P.locs ++ L ∧ B.cells = P.cells + k1 ∧ B.slots = P.slots + n1)
def PayW (G : Gx) (R : Room) (X : Cx) (y : MethodName) (len W : Nat) (as : Array Value) (h : Heap) (k1 n1 : Nat) (Q1 : Option Value → Heap → Prop) (vm : Vm) : Prop :=
  G.wd = true ∧ BackS G.l R X.p X.e X.below (X.s.setVm vm) X.args y len W (fun P a => a = as ∧ P.U.heap = h ∧ P.cells + k1 ≤ R.cells ∧ P.slots + n1 ≤ R.slots)
    (fun P _ v B => ∃ L, (Q1 v B.U.heap ∧ Fr G.n0 L ∧ Old G.Z G.n0 B.U.heap ∧ (G.wd = true → CHr G.Z G.EL vm h B.U.vm B.U.heap)) ∧ B.locs = P.locs ++ L ∧ B.cells = P.cells + k1 ∧ B.slots = P.slots + n1)
def Pay (G : Gx) (R : Room) (X : Cx) (y : MethodName) (len W : Nat) (as : Array Value) (h : Heap) (k1 n1 : Nat) (Q1 : Option Value → Heap → Prop) (vm : Vm) : Prop := PayN G R X y len W as h k1 n1 Q1 vm ∨ PayW G R X y len W as h k1 n1 Q1 vm
theorem finN {k0 k1 n1 : Nat} {L : List Loc} {Q1 : Option Value → Heap → Prop} (fx : Fix G M X) (hS : X.s.Since vm k0) (hk : k0 ≤ h.size) (hZ : G.Z.Warmed39 vm) (hown : vm.findClass M.own = some X.m.cls) (hF : Fr G.n0 L) (hch : G.wd = true → CHr G.Z G.EL X.s.vm X.s.heap vm h) (hnw : G.wd = false → vm = X.s.vm)
    {v : Option Value} {B : Pt} (X' : Stand X.p G.l X.e R (X.s.setVm vm) X.m X.args X.below X.meth X.c B.U B.locs B.cells B.slots) (post : ∃ L', (Q1 v B.U.heap ∧ Fr G.n0 L' ∧ Old G.Z G.n0 B.U.heap ∧ h.size ≤ B.U.heap.size ∧ (G.wd = true → CHr G.Z G.EL vm h vm B.U.heap)) ∧ B.locs = L ++ L' ∧ B.cells = k + k1 ∧ B.slots = n + n1) :
    Wk G M R X vm B.U B.U.heap (k + k1) (n + n1) ∧ Q1 v B.U.heap := by
  obtain ⟨U, Lb, c, s⟩ := B
  obtain ⟨L', ⟨q1, q2, q3, q4, q5⟩, h1, h2, h3⟩ := post
  dsimp only [Pt.U, Pt.locs, Pt.cells, Pt.slots] at *
  subst h1 h2 h3
  exact ⟨⟨fx, k0, _, X', rfl, hS, Nat.le_trans hk q4, hZ, hown, Fr.app hF q2, q3, fun b => (hch b).trans (q5 b), hnw⟩, q1⟩
theorem finW {k0 k1 n1 : Nat} {L : List Loc} {Q1 : Option Value → Heap → Prop} (hwd : G.wd = true) (fx : Fix G M X) (hS : X.s.Since vm k0) (hk : k0 ≤ h.size) (hZ : G.Z.Warmed39 vm) (hown : vm.findClass M.own = some X.m.cls) (hF : Fr G.n0 L) (hch : G.wd = true → CHr G.Z G.EL X.s.vm X.s.heap vm h)
    {v : Option Value} {B : Pt} (X' : Stand X.p G.l X.e R ((X.s.setVm vm).setVm B.U.vm) X.m X.args X.below X.meth X.c B.U B.locs B.cells B.slots) (hS' : (X.s.setVm vm).Since B.U.vm B.U.heap.size) (hgr : h.size ≤ B.U.heap.size) (post : ∃ L', (Q1 v B.U.heap ∧ Fr G.n0 L' ∧ Old G.Z G.n0 B.U.heap ∧ (G.wd = true → CHr G.Z G.EL vm h B.U.vm B.U.heap)) ∧ B.locs = L ++ L' ∧ B.cells = k + k1 ∧ B.slots = n + n1) :
    Wk G M R X B.U.vm B.U B.U.heap (k + k1) (n + n1) ∧ Q1 v B.U.heap := by
  obtain ⟨U, Lb, c, s⟩ := B
  obtain ⟨L', ⟨q1, q2, q3, q5⟩, h1, h2, h3⟩ := post
  dsimp only [Pt.U, Pt.locs, Pt.cells, Pt.slots] at *
  subst h1 h2 h3
  exact ⟨⟨fx, U.heap.size, _, X', rfl, hS.trans hS' (Nat.le_trans hk hgr), Nat.le_refl _, State.Warmed39.trans (t := X.s.setVm vm) hZ hS'.1, by rw [hS'.1.alike.findClass]; exact hown, Fr.app hF q2, q3, fun b => (hch b).trans (q5 b), fun z => absurd (z.symm.trans hwd) (by decide)⟩, q1⟩
theorem Wk.callS (w : Wk G M R X vm T h k n) {pc q : Nat} {Ls : Array Slot} {st : List Value} {y : MethodName} {bytes : ByteArray} {maxL : Nat} {ret : Option FieldType} {index W k1 n1 : Nat} {argsL rest : List Value} {Q1 : Option Value → Heap → Prop} (hd : decode M.code pc = .ok (.invokestatic index, 3)) (w1 : (Jvm.Cond.methodLink M.own index y).before G.a0 G.Z = true) (w2 : (Jvm.Cond.static y).before G.a0 G.Z = true) (w3 : (Jvm.Cond.initialized y.cls).before G.a0 G.Z = true) (w4 : (Jvm.Cond.code y bytes maxL ret).before G.a0 G.Z = true) (hy : y.cls ≠ "java/lang/invoke/MethodHandle" ∧ y.cls ≠ "java/lang/invoke/VarHandle")
    (hst : st = argsL.reverse ++ rest) (hlen : ∀ sig, parseMethodDescriptor y.desc = some sig → argsL.length = sig.parameters.length) (hsz : Ls.size = M.mx) (hW : (rest.map fun v => v.category).sum ≤ W) (pay : Pay G R X y 3 W argsL.toArray h k1 n1 Q1 vm) (hc : k + k1 ≤ R.cells) (hl : n + n1 ≤ R.slots) (hq : pc + 3 = q)
    (go : ∀ (vm' : Vm) (T' : State) (h' : Heap) (v : Option Value), Wk G M R X vm' T' h' (k + k1) (n + n1) → Q1 v h' → Go G R X Q (T'.setTop (mkF X.m q Ls (v.toList ++ rest)))) : Go G R X Q (T.setTop (mkF X.m pc Ls st)) := by
  subst hst hq
  obtain ⟨fx, k0, L, S, eh, hS, hk, hZ, hown, hF, ho, hch, hnw⟩ := w
  rcases pay with pay | ⟨hwd, pay⟩
  · obtain ⟨v, vm₁, B, -, X', post, st'⟩ := Jvm.LawKit.callS S fx.1 hown (mv (s := X.s.setVm vm) hZ w1) (mv (s := X.s.setVm vm) hZ w2) (mv (s := X.s.setVm vm) hZ w3) (mv (s := X.s.setVm vm) hZ w4) hy pay (g := mkF X.m pc Ls (argsL.reverse ++ rest)) rfl (hsz.trans fx.2.2.1.symm) hlen rfl (by show 2 * 0 + _ ≤ _; omega) (hb fx.2.1 hd) (fun _ _ => ⟨rfl, eh, hc, hl⟩)
    obtain ⟨w2, q1⟩ := finN fx hS hk hZ hown hF hch hnw X' post
    exact (go _ _ _ v w2 q1).of st'
  · obtain ⟨v, vm₁, B, -, X', hS', hgr, post, st'⟩ := Jvm.RoadKit.callSS S fx.1 hown (mv (s := X.s.setVm vm) hZ w1) (mv (s := X.s.setVm vm) hZ w2) (mv (s := X.s.setVm vm) hZ w3) (mv (s := X.s.setVm vm) hZ w4) hy pay (g := mkF X.m pc Ls (argsL.reverse ++ rest)) rfl (hsz.trans fx.2.2.1.symm) hlen rfl (by show 2 * 0 + _ ≤ _; omega) (hb fx.2.1 hd) (fun _ _ => ⟨rfl, eh, hc, hl⟩)
    obtain ⟨w2, q1⟩ := finW hwd fx hS hk hZ hown hF hch X' hS' (by rw [← eh]; exact hgr) post
    exact (go _ _ _ v w2 q1).of fun t z => st'.trans z
theorem Wk.callC (w : Wk G M R X vm T h k n) {pc q : Nat} {Ls : Array Slot} {st : List Value} {y : MethodName} {bytes : ByteArray} {maxL : Nat} {index W k1 n1 : Nat} {a : Addr} {argsL rest : List Value} {Q1 : Option Value → Heap → Prop} (hd : decode M.code pc = .ok (.invokespecial index, 3)) (hy1 : y.name = "<init>") (w1 : (Jvm.Cond.methodLink M.own index y).before G.a0 G.Z = true) (w2 : (Jvm.Cond.instanceMethod y).before G.a0 G.Z = true) (w4 : (Jvm.Cond.code y bytes maxL none).before G.a0 G.Z = true) (hy : y.cls ≠ "java/lang/invoke/MethodHandle" ∧ y.cls ≠ "java/lang/invoke/VarHandle")
    (hst : st = argsL.reverse ++ .ref a :: rest) (hlen : ∀ sig, parseMethodDescriptor y.desc = some sig → argsL.length = sig.parameters.length) (hsz : Ls.size = M.mx) (hW : (rest.map fun v => v.category).sum ≤ W) (pay : Pay G R X y 3 W (.ref a :: argsL).toArray h k1 n1 Q1 vm) (hc : k + k1 ≤ R.cells) (hl : n + n1 ≤ R.slots) (hq : pc + 3 = q)
    (go : ∀ (vm' : Vm) (T' : State) (h' : Heap) (v : Option Value), Wk G M R X vm' T' h' (k + k1) (n + n1) → Q1 v h' → Go G R X Q (T'.setTop (mkF X.m q Ls (v.toList ++ rest)))) : Go G R X Q (T.setTop (mkF X.m pc Ls st)) := by
  subst hst hq
  obtain ⟨fx, k0, L, S, eh, hS, hk, hZ, hown, hF, ho, hch, hnw⟩ := w
  rcases pay with pay | ⟨hwd, pay⟩
  · obtain ⟨v, vm₁, B, -, X', post, st'⟩ := S.specialBack fx.1 hy1 hown (mv (s := X.s.setVm vm) hZ w1) (mv (s := X.s.setVm vm) hZ w2) (mv (s := X.s.setVm vm) hZ w4) hy pay (g := mkF X.m pc Ls (argsL.reverse ++ .ref a :: rest)) rfl (hsz.trans fx.2.2.1.symm) (Steps.refl _) (a := a) hlen rfl (by show 2 * 0 + _ ≤ _; omega) (hb fx.2.1 hd) (fun _ _ => ⟨rfl, eh, hc, hl⟩)
    obtain ⟨w2, q1⟩ := finN fx hS hk hZ hown hF hch hnw X' post
    exact (go _ _ _ v w2 q1).of fun t z => st'.trans z
  · obtain ⟨v, vm₁, B, -, X', hS', hgr, post, st'⟩ := S.specialBackS fx.1 hy1 hown (mv (s := X.s.setVm vm) hZ w1) (mv (s := X.s.setVm vm) hZ w2) (mv (s := X.s.setVm vm) hZ w4) hy pay (g := mkF X.m pc Ls (argsL.reverse ++ .ref a :: rest)) rfl (hsz.trans fx.2.2.1.symm) (Steps.refl _) (a := a) hlen rfl (by show 2 * 0 + _ ≤ _; omega) (hb fx.2.1 hd) (fun _ _ => ⟨rfl, eh, hc, hl⟩)
    obtain ⟨w2, q1⟩ := finW hwd fx hS hk hZ hown hF hch X' hS' (by rw [← eh]; exact hgr) post
    exact (go _ _ _ v w2 q1).of fun t z => st'.trans z
theorem Wk.callV (w : Wk G M R X vm T h k n) {pc q : Nat} {Ls : Array Slot} {st : List Value} {C : String} {y z : MethodName} {index W k1 n1 : Nat} {a : Addr} {argsL rest : List Value} {Q1 : Option Value → Heap → Prop} (hd : decode M.code pc = .ok (.invokevirtual index, 3)) (w1 : (Jvm.Cond.methodLink M.own index y).before G.a0 G.Z = true) (w2 : (Jvm.Cond.declares y).before G.a0 G.Z = true) (hnf : NotFace G.Z y) (w3 : (Jvm.Cond.selects C y z).before G.a0 G.Z = true) (w4 : (Jvm.Cond.instanceMethod z).before G.a0 G.Z = true) (hy : y.cls ≠ "java/lang/invoke/MethodHandle" ∧ y.cls ≠ "java/lang/invoke/VarHandle") (E : Exa G.Z h a C)
    (hst : st = argsL.reverse ++ .ref a :: rest) (hlen : ∀ sig, parseMethodDescriptor y.desc = some sig → argsL.length = sig.parameters.length) (hsz : Ls.size = M.mx) (hW : (rest.map fun v => v.category).sum ≤ W) (pay : Pay G R X z 3 W (.ref a :: argsL).toArray h k1 n1 Q1 vm) (hc : k + k1 ≤ R.cells) (hl : n + n1 ≤ R.slots) (hq : pc + 3 = q)
    (go : ∀ (vm' : Vm) (T' : State) (h' : Heap) (v : Option Value), Wk G M R X vm' T' h' (k + k1) (n + n1) → Q1 v h' → Go G R X Q (T'.setTop (mkF X.m q Ls (v.toList ++ rest)))) : Go G R X Q (T.setTop (mkF X.m pc Ls st)) := by
  subst hst hq
  obtain ⟨fx, k0, L, S, eh, hS, hk, hZ, hown, hF, ho, hch, hnw⟩ := w
  have hnf' : NotFace (X.s.setVm vm) y := fun r0 h0 => by
    have q0 : G.Z.methodNamed? y = some r0 := by
      have := State.methodNamed?_setVm (s := G.Z) (vm' := vm) hZ.alike (x := y)
      rw [← this]; exact h0
    obtain ⟨kr, g1, g2⟩ := hnf r0 q0
    obtain ⟨kr', g3, g4⟩ := hZ.alike.2.2 _ _ g1
    exact ⟨kr', g3, by rw [g4]; exact g2⟩
  obtain ⟨cB, kB, b1, b2, b3⟩ := isOf (s := X.s.setVm vm) hZ eh E
  rcases pay with pay | ⟨hwd, pay⟩
  · obtain ⟨v, vm₁, B, -, X', post, st'⟩ := S.virtualBack fx.1 hown (mv (s := X.s.setVm vm) hZ w1) (mv (s := X.s.setVm vm) hZ w2) hnf' (mv (s := X.s.setVm vm) hZ w3) (mv (s := X.s.setVm vm) hZ w4) hy pay b1 b3 (g := mkF X.m pc Ls (argsL.reverse ++ .ref a :: rest)) rfl (hsz.trans fx.2.2.1.symm) (Steps.refl _) hlen rfl (by show 2 * 0 + _ ≤ _; omega) (hb fx.2.1 hd) (fun _ _ => ⟨rfl, eh, hc, hl⟩)
    obtain ⟨w2, q1⟩ := finN fx hS hk hZ hown hF hch hnw X' post
    exact (go _ _ _ v w2 q1).of fun t z => st'.trans z
  · obtain ⟨v, vm₁, B, -, X', hS', hgr, post, st'⟩ := S.virtualBackS fx.1 hown (mv (s := X.s.setVm vm) hZ w1) (mv (s := X.s.setVm vm) hZ w2) hnf' (mv (s := X.s.setVm vm) hZ w3) (mv (s := X.s.setVm vm) hZ w4) hy pay b1 b3 (g := mkF X.m pc Ls (argsL.reverse ++ .ref a :: rest)) rfl (hsz.trans fx.2.2.1.symm) (Steps.refl _) hlen rfl (by show 2 * 0 + _ ≤ _; omega) (hb fx.2.1 hd) (fun _ _ => ⟨rfl, eh, hc, hl⟩)
    obtain ⟨w2, q1⟩ := finW hwd fx hS hk hZ hown hF hch X' hS' (by rw [← eh]; exact hgr) post
    exact (go _ _ _ v w2 q1).of fun t z => st'.trans z
theorem Wk.callI (w : Wk G M R X vm T h k n) {pc q : Nat} {Ls : Array Slot} {st : List Value} {C : String} {xi y : MethodName} {index count W k1 n1 : Nat} {a : Addr} {argsL rest : List Value} {Q1 : Option Value → Heap → Prop} (hd : decode M.code pc = .ok (.invokeinterface index count, 5)) (w1 : (Jvm.Cond.methodLink M.own index xi).before G.a0 G.Z = true) (w2 : (Jvm.Cond.declares xi).before G.a0 G.Z = true) (w3 : (Jvm.Cond.interfaceMethod xi.cls xi.cls xi.name xi.desc).before G.a0 G.Z = true) (w4 : (Jvm.Cond.selects C xi y).before G.a0 G.Z = true) (w5 : (Jvm.Cond.instanceMethod y).before G.a0 G.Z = true) (w6 : (Jvm.Cond.publicMethod y).before G.a0 G.Z = true) (w7 : (Jvm.Cond.unhidden C xi.name xi.desc).before G.a0 G.Z = true) (w8 : (Jvm.Cond.castable C xi.cls).before G.a0 G.Z = true) (hy : xi.cls ≠ "java/lang/invoke/MethodHandle" ∧ xi.cls ≠ "java/lang/invoke/VarHandle") (E : Exa G.Z h a C)
    (hst : st = argsL.reverse ++ .ref a :: rest) (hlen : ∀ sig, parseMethodDescriptor xi.desc = some sig → argsL.length = sig.parameters.length) (hsz : Ls.size = M.mx) (hW : (rest.map fun v => v.category).sum ≤ W) (pay : Pay G R X y 5 W (.ref a :: argsL).toArray h k1 n1 Q1 vm) (hc : k + k1 ≤ R.cells) (hl : n + n1 ≤ R.slots) (hq : pc + 5 = q)
    (go : ∀ (vm' : Vm) (T' : State) (h' : Heap) (v : Option Value), Wk G M R X vm' T' h' (k + k1) (n + n1) → Q1 v h' → Go G R X Q (T'.setTop (mkF X.m q Ls (v.toList ++ rest)))) : Go G R X Q (T.setTop (mkF X.m pc Ls st)) := by
  subst hst hq
  obtain ⟨fx, k0, L, S, eh, hS, hk, hZ, hown, hF, ho, hch, hnw⟩ := w
  obtain ⟨cB, kB, b1, b2, b3⟩ := isOf (s := X.s.setVm vm) hZ eh E
  rcases pay with pay | ⟨hwd, pay⟩
  · obtain ⟨v, vm₁, B, -, X', post, st'⟩ := S.interfaceBack fx.1 hown (mv (s := X.s.setVm vm) hZ w1) (mv (s := X.s.setVm vm) hZ w2) (mv (s := X.s.setVm vm) hZ w3 (by simp [Cond.onTables, Cond.keepsFace, Cond.keeps, Cond.steady, Cond.faceAtom]; exact hy)) (mv (s := X.s.setVm vm) hZ w4) (mv (s := X.s.setVm vm) hZ w5) (mv (s := X.s.setVm vm) hZ w6) (mv (s := X.s.setVm vm) hZ w7) (mv (s := X.s.setVm vm) hZ w8) hy pay b1 b2 b3 (g := mkF X.m pc Ls (argsL.reverse ++ .ref a :: rest)) rfl (hsz.trans fx.2.2.1.symm) (Steps.refl _) hlen rfl (by show 2 * 0 + _ ≤ _; omega) (hb fx.2.1 hd) (fun _ _ => ⟨rfl, eh, hc, hl⟩)
    obtain ⟨w2, q1⟩ := finN fx hS hk hZ hown hF hch hnw X' post
    exact (go _ _ _ v w2 q1).of fun t z => st'.trans z
  · obtain ⟨v, vm₁, B, -, X', hS', hgr, post, st'⟩ := S.interfaceBackS fx.1 hown (mv (s := X.s.setVm vm) hZ w1) (mv (s := X.s.setVm vm) hZ w2) (mv (s := X.s.setVm vm) hZ w3 (by simp [Cond.onTables, Cond.keepsFace, Cond.keeps, Cond.steady, Cond.faceAtom]; exact hy)) (mv (s := X.s.setVm vm) hZ w4) (mv (s := X.s.setVm vm) hZ w5) (mv (s := X.s.setVm vm) hZ w6) (mv (s := X.s.setVm vm) hZ w7) (mv (s := X.s.setVm vm) hZ w8) hy pay b1 b2 b3 (g := mkF X.m pc Ls (argsL.reverse ++ .ref a :: rest)) rfl (hsz.trans fx.2.2.1.symm) (Steps.refl _) hlen rfl (by show 2 * 0 + _ ≤ _; omega) (hb fx.2.1 hd) (fun _ _ => ⟨rfl, eh, hc, hl⟩)
    obtain ⟨w2, q1⟩ := finW hwd fx hS hk hZ hown hF hch X' hS' (by rw [← eh]; exact hgr) post
    exact (go _ _ _ v w2 q1).of fun t z => st'.trans z
theorem Con.pay {y : MethodName} {bytes : ByteArray} {maxL : Nat} {ret : Option FieldType} {rm : Room} {as : Array Value} {Q1 : Option Value → Heap → Prop} {len W : Nat} (H : Con G y bytes maxL ret [] rm as h Q1) (w : Wk G M R X vm T h k n) (wc : (Jvm.Cond.code y bytes maxL ret).before G.a0 G.Z = true) (wz : (Jvm.Cond.initialized y.cls).before G.a0 G.Z = true) (hf : rm.frames + 1 ≤ R.frames) (hl : W + (maxL + 11) + rm.locals ≤ R.locals) : Pay G R X y len W as h rm.cells rm.slots Q1 vm := by
  have hZ := w.wz
  have hEL := w.hEL
  have hch := w.ch
  cases hwd : G.wd with
  | false =>
    exact Or.inl (Back.of_free (bytes := bytes) (maxL := maxL) (ret := ret) (E := fun _ first o t L k n => k = rm.cells ∧ n = rm.slots ∧ first.heap.size ≤ t.heap.size ∧ ∃ v, o = .returned v ∧ (Q1 v t.heap ∧ Fr G.n0 L ∧ Old G.Z G.n0 t.heap)) H hf hl
      (fun m meth c A a Y hp => have hU : G.Z.Warmed39 A.U.vm := wtrans (s := X.s.setVm vm) hZ Y.warmed
        ⟨by show (Jvm.Cond.and _ .tt).before a A.U = true; rw [Cond.before_and, mv hU wc]; rfl, mv hU wc, mv hU wz, hp.2.2.1, hp.2.2.2⟩)
      (fun m meth c A a g mk Y hp => ⟨hp.1, wtrans (s := X.s.setVm vm) hZ Y.warmed, hp.2.1, fun b => absurd (hwd.symm.trans b) (by decide)⟩) (fun _ _ _ _ _ _ _ _ _ => trivial)
      (fun _ _ _ _ ⟨v, L, h1, h2, h3, h4⟩ => ⟨L, _, _, h4.2 hwd, rfl, rfl, (h4.1.2.2.2).2.1, v, h1, h2⟩)
      (fun m meth c A a g mk v t L k n Y hp _ _ ⟨e1, e2, e0, v', e3, e4⟩ => by
        cases e3; subst e1 e2
        refine ⟨L, ⟨e4.1, e4.2.1, e4.2.2, ?_, fun b => absurd (hwd.symm.trans b) (by decide)⟩, rfl, rfl, rfl⟩
        rw [← hp.2.1]; exact e0))
  | true =>
    refine Or.inr ⟨hwd, BackS.of_freeW (bytes := bytes) (maxL := maxL) (ret := ret) (E := fun _ first o t L k n => k = rm.cells ∧ n = rm.slots ∧ CHr G.Z G.EL first.vm first.heap t.vm t.heap ∧ ∃ v, o = .returned v ∧ (Q1 v t.heap ∧ Fr G.n0 L ∧ Old G.Z G.n0 t.heap)) H hf hl
      (fun m meth c A a Y hp => have hU : G.Z.Warmed39 A.U.vm := wtrans (s := X.s.setVm vm) hZ Y.warmed
        ⟨by show (Jvm.Cond.and _ .tt).before a A.U = true; rw [Cond.before_and, mv hU wc]; rfl, mv hU wc, mv hU wz, hp.2.2.1, hp.2.2.2⟩)
      (fun m meth c A a g mk Y hp => ⟨hp.1, wtrans (s := X.s.setVm vm) hZ Y.warmed, hp.2.1, fun b => (CHv.at Y hZ hEL (hch b).1).1⟩) (fun _ _ _ _ _ _ _ _ _ => trivial)
      (fun _ _ _ _ ⟨v, L, h1, h2, h3, h4⟩ => ⟨L, _, _, h4.1, rfl, rfl, h3 hwd, v, h1, h2⟩)
      (fun m meth c A a g mk v t L k n Y hp _ _ ⟨e1, e2, e0, v', e3, e4⟩ => by
        cases e3; subst e1 e2
        refine ⟨L, ⟨e4.1, e4.2.1, e4.2.2, fun b => (CHv.at Y hZ hEL (hch b).1).trans ?_⟩, rfl, rfl, rfl⟩
        rw [← hp.2.1]; exact e0)⟩
theorem Pay.pure {y : MethodName} {as : Array Value} {len W : Nat} {P : Option Value → Prop} (w : Wk G M R X vm T h k n) (H : Back G.l R X.p X.e X.below (X.s.setVm vm) X.args y len W (fun P a => a = as ∧ P.U.heap = h ∧ P.cells + 0 ≤ R.cells ∧ P.slots + 0 ≤ R.slots) (fun A _ v B => ∃ L, (P v ∧ L = [] ∧ B.U.heap = h) ∧ B.locs = A.locs ++ L ∧ B.cells = A.cells + 0 ∧ B.slots = A.slots + 0)) : Pay G R X y len W as h 0 0 (fun v h' => P v ∧ h = h') vm := by
  refine Or.inl (Back.mono H (fun P a hp => hp) (fun A a v B hp hq => ?_))
  obtain ⟨L, ⟨q1, rfl, q3⟩, r⟩ := hq
  exact ⟨[], ⟨⟨q1, q3.symm⟩, Fr.nil _, by rw [q3]; exact w.old, by rw [q3]; exact Nat.le_refl _, fun b => by rw [q3]; exact CHr.refl (w.ch b).1⟩, r⟩
theorem Pay.pureV {y : MethodName} {as : Array Value} {len W : Nat} {P : Value → Prop} (w : Wk G M R X vm T h k n) (H : Pay G R X y len W as h 0 0 (fun v h' => (∃ x, v = some x ∧ P x) ∧ h = h') vm) : Pay G R X y len W as h 0 0 (vQ fun x h' => P x ∧ h = h') vm := by
  have e : (vQ fun x h' => P x ∧ h = h') = (fun (v : Option Value) (h' : Heap) => (∃ x, v = some x ∧ P x) ∧ h = h') := by
    funext v h'
    apply propext
    exact ⟨fun ⟨x, a, b, c⟩ => ⟨⟨x, a, b⟩, c⟩, fun ⟨⟨x, a, b⟩, c⟩ => ⟨x, a, b, c⟩⟩
  rw [e]; exact H
theorem Con.intro {y : MethodName} {bytes : ByteArray} {maxL : Nat} {ret : Option FieldType} {ws : List Jvm.Cond} {rm : Room} {as : Array Value} {Ls : Array Slot} (hE : EW G.Z G.a0 G.EL) (ho : Old G.Z G.n0 h) (hpl : plainFor y = true) (hef : ∀ m, entryFrame m as maxL = mkF m 0 Ls [])
    (body : ∀ (X : Cx) (vm : Vm) (T : State), Wk G (y.cls, y.name, bytes, maxL, ret) rm X vm T h 0 0 → Go G rm X Q (T.setTop (mkF X.m 0 Ls []))) : Con G y bytes maxL ret ws rm as h Q := by
  refine MetFree.of_bodySF hpl hisR ?_
  intro p e s m args below meth c s₁ Bd hml0 hP hK
  obtain ⟨rfl, hZ, hh, hc⟩ := hP
  have X0 : Stand p G.l e rm s m args below meth c s₁ [] 0 0 := Stand.of_body Bd
  have e0 : s₁.heap = h := by rw [← hh, Bd.state]; rfl
  have w : Wk G (y.cls, y.name, bytes, maxL, ret) rm (p, e, s, m, args, below, meth, c) s.vm s₁ h 0 0 :=
    ⟨⟨Bd.exec, Bd.bytes, hml0, Bd.returns, Bd.notSynchronized, (name_of_methodNamed Bd.named Bd.method).1, hE⟩, 0, [], X0, e0, (State.WarmedH.refl s).since 0, Nat.zero_le _, hZ, findClass_of_methodNamed Bd.named, Fr.nil _, ho, fun b => by show CHr G.Z G.EL s.vm s.heap s.vm h; rw [hh]; exact CHr.refl (hc b), fun _ => rfl⟩
  obtain ⟨t, o, h1, h2, h3, h4⟩ := body _ _ _ w
  exact ⟨t, o, castTop (hef m) h1, h2, h3, h4⟩
theorem Wk.leave' (w : Wk G M R X vm T h k n) {v : Option Value} (hv : M.ret = none → v = none) (hk' : k ≤ R.cells) (hn' : n ≤ R.slots) (hQ : Q v h) {S0 : State} (f : ∀ fs, (∀ (f : JFrame) (acts : List Action), f.method = X.m → f.locked = none → f.entered = [] → (doReturn X.e (T.setTop f) acts v).1 = T.setFrames fs) → ∀ L, Stand X.p G.l X.e R (X.s.setVm vm) X.m X.args X.below X.meth X.c T L k n → Steps X.p.tables X.e X.below S0 (T.setFrames fs)) : Go G R X Q S0 := by
  have hEL := w.hEL
  obtain ⟨fx, k0, L, S, eh, hS, hk, hZ, hown, hF, ho, hch, hnw⟩ := w
  obtain ⟨fs, hr, hrun, hended, hW, hsame⟩ := S.leave (v := v) (fun z => hv (fx.2.2.2.1.symm.trans z)) fx.2.2.2.2.1
  obtain ⟨a, b, c⟩ := hS.ended (U := T.setFrames fs) hW (by show k0 ≤ T.heap.size; rw [eh]; exact hk) hsame
  refine ⟨T.setFrames fs, .returned v, f fs hr L S, hrun, hended, v, L, rfl, ⟨by show Q v T.heap; rw [eh]; exact hQ, hF, by show Old G.Z G.n0 T.heap; rw [eh]; exact ho⟩, fun z => ?_, ⟨⟨v, rfl⟩, a, b, c.mono hk' hn'⟩, fun z => ?_⟩
  · show CHr G.Z G.EL X.s.vm X.s.heap T.vm T.heap
    rw [eh]; exact (hch z).trans (CHv.at S hZ hEL (hch z).1)
  · have e := hnw z
    subst e
    exact ⟨⟨v, rfl⟩, hW, c.mono hk' hn'⟩
theorem Wk.retV (w : Wk G M R X vm T h k n) {pc : Nat} {Ls : Array Slot} (hd : decode M.code pc = .ok (.return_, 1)) (hret : M.ret = none) (hk' : k ≤ R.cells) (hn' : n ≤ R.slots) (hQ : Q none h) : Go G R X Q (T.setTop (mkF X.m pc Ls [])) := by
  have fx := w.1
  exact w.leave' (v := none) (fun _ => rfl) hk' hn' hQ fun fs hr L S => S.returnOut fx.1 (fx.2.2.2.1.trans hret) (hb fx.2.1 hd) hr
theorem Wk.ret (w : Wk G M R X vm T h k n) {pc : Nat} {Ls : Array Slot} {st : List Value} {v : Value} {t : FieldType} {i : Instr} (hd : decode M.code pc = .ok (i, 1)) (hret : M.ret = some t) (hn : narrow t v = v)
    (hi : (i = .ireturn ∧ (t = .int ∨ t = .boolean ∨ t = .byte ∨ t = .char ∨ t = .short) ∧ ∃ z, v = .int z) ∨ (i = .lreturn ∧ t = .long ∧ ∃ z, v = .long z) ∨ (i = .dreturn ∧ t = .double ∧ ∃ z, v = .double z) ∨ (i = .freturn ∧ t = .float ∧ ∃ z, v = .float z) ∨ (i = .areturn ∧ t.isReference = true ∧ v.isRef = true))
    (hk' : k ≤ R.cells) (hn' : n ≤ R.slots) (hQ : Q (some v) h) : Go G R X Q (T.setTop (mkF X.m pc Ls (v :: st))) := by
  have fx := w.1
  exact w.leave' (v := some v) (fun z => by rw [hret] at z; cases z) hk' hn' hQ fun fs hr L S => retOut S fx.1 (fx.2.2.2.1.trans hret) hn hi (hb fx.2.1 hd) hr
theorem Wk.retI (w : Wk G M R X vm T h k n) {pc : Nat} {Ls : Array Slot} {st : List Value} {z : Int32} (hd : decode M.code pc = .ok (.ireturn, 1)) (hret : M.ret = some .int) (hk' : k ≤ R.cells) (hn' : n ≤ R.slots) (hQ : Q (some (.int z)) h) : Go G R X Q (T.setTop (mkF X.m pc Ls (.int z :: st))) :=
  w.ret hd hret rfl (Or.inl ⟨rfl, Or.inl rfl, z, rfl⟩) hk' hn' hQ
theorem Wk.retZ (w : Wk G M R X vm T h k n) {pc : Nat} {Ls : Array Slot} {st : List Value} {z : Int32} {t : FieldType} (hd : decode M.code pc = .ok (.ireturn, 1)) (hret : M.ret = some t) (ht : t = .boolean ∨ t = .byte ∨ t = .char ∨ t = .short) (hn : narrow t (.int z) = .int z) (hk' : k ≤ R.cells) (hn' : n ≤ R.slots) (hQ : Q (some (.int z)) h) : Go G R X Q (T.setTop (mkF X.m pc Ls (.int z :: st))) :=
  w.ret hd hret hn (Or.inl ⟨rfl, Or.inr ht, z, rfl⟩) hk' hn' hQ
theorem Wk.retA (w : Wk G M R X vm T h k n) {pc : Nat} {Ls : Array Slot} {st : List Value} {v : Value} {t : FieldType} (hd : decode M.code pc = .ok (.areturn, 1)) (hret : M.ret = some t) (ht : t.isReference = true) (hv : v.isRef = true) (hk' : k ≤ R.cells) (hn' : n ≤ R.slots) (hQ : Q (some v) h) : Go G R X Q (T.setTop (mkF X.m pc Ls (v :: st))) :=
  w.ret hd hret (by cases t <;> first | (cases ht; done) | (rcases ref_cases hv with rfl | ⟨_, rfl⟩ <;> rfl)) (Or.inr (Or.inr (Or.inr (Or.inr ⟨rfl, ht, hv⟩)))) hk' hn' hQ
theorem Wk.retJ (w : Wk G M R X vm T h k n) {pc : Nat} {Ls : Array Slot} {st : List Value} {z : Int64} (hd : decode M.code pc = .ok (.lreturn, 1)) (hret : M.ret = some .long) (hk' : k ≤ R.cells) (hn' : n ≤ R.slots) (hQ : Q (some (.long z)) h) : Go G R X Q (T.setTop (mkF X.m pc Ls (.long z :: st))) :=
  w.ret hd hret rfl (Or.inr (Or.inl ⟨rfl, rfl, z, rfl⟩)) hk' hn' hQ
theorem Wk.ldcS (w : Wk G M R X vm T h k n) {pc q : Nat} {Ls : Array Slot} {st : List Value} {index sz : Nat} {text : String} {vs : List Value} {z : Int32} (hd : decode M.code pc = .ok (.ldc index, 2)) (hwd : G.wd = true) (w1 : (Jvm.Cond.stringLink M.own index text).before G.a0 G.Z = true) (wS : ∀ a ∈ Bundle.stringAtoms, a.before G.a0 G.Z = true) (hmem : (M.own, index) ∈ G.EL) (ht : (∀ c ∈ text.toList, c.toNat < 256) ∧ text.toList.map (fun c => Value.int (Jvm.Lit.byteI c.toNat.toUInt16)) = vs) (hz : ¬ z < 0) (hlz : z.toNatClampNeg = vs.length) (hn : 4 * text.toList.length ≤ sz) (hbig : sz ≤ 536870912) (hc : k + 2 ≤ R.cells) (hl : n + (sz + 4) ≤ R.slots) (hq : pc + 2 = q)
    (go : ∀ (vm' : Vm) (T' : State) (h' : Heap) (a b : Addr) (kb : ClassId), Wk G M R X vm' T' h' (k + 2) (n + (sz + 4)) → Ext h h' → CHr G.Z G.EL vm h vm' h' → Exa G.Z h' a "java/lang/String" → Fld G.Z h' a "java/lang/String" "coder" "B" (.int 0) → Fld G.Z h' a "java/lang/String" "value" "[B" (.ref b) → Arv G.Z h' b kb .byte z vs (.int 0) → Go G R X Q (T'.setTop (mkF X.m q Ls (.ref a :: st)))) : Go G R X Q (T.setTop (mkF X.m pc Ls st)) := by
  subst hq
  have hEL := w.hEL
  obtain ⟨fx, k0, L, S, eh, hS, hk, hZ, hown, hF, ho, hch, hnw⟩ := w
  obtain ⟨a, T', h', k1, b, kb, X', e', E, hS', hk', hZ', hown', A1, A2, A3, A4, -, -, hC, -, -, st'⟩ := ldcCH S fx.1 hZ hown w1 wS eh hS hk hEL hmem (hch hwd).1 ht hz hlz (g := mkF X.m pc Ls st) rfl (hb fx.2.1 hd) hn hbig hc hl
  exact (go T'.vm T' h' a b kb ⟨fx, k1, L, X', e', hS', hk', hZ', hown', hF, ho.ext E, fun z => (hch z).trans hC, fun z => absurd (z.symm.trans hwd) (by decide)⟩ E hC A1 A2 A3 A4).of st'
theorem Wk.ldcO (w : Wk G M R X vm T h k n) {pc q : Nat} {Ls : Array Slot} {st : List Value} {index sz : Nat} {text : String} (hd : decode M.code pc = .ok (.ldc index, 2)) (hwd : G.wd = true) (w1 : (Jvm.Cond.stringLink M.own index text).before G.a0 G.Z = true) (wS : ∀ a ∈ Bundle.stringAtoms, a.before G.a0 G.Z = true) (hn : 4 * text.toList.length ≤ sz) (hbig : sz ≤ 536870912) (hc : k + 2 ≤ R.cells) (hl : n + (sz + 4) ≤ R.slots) (hq : pc + 2 = q)
    (go : ∀ (vm' : Vm) (T' : State) (h' : Heap) (a : Addr), Wk G M R X vm' T' h' (k + 2) (n + (sz + 4)) → Ext h h' → CHr G.Z G.EL vm h vm' h' → Go G R X Q (T'.setTop (mkF X.m q Ls (.ref a :: st)))) : Go G R X Q (T.setTop (mkF X.m pc Ls st)) := by
  subst hq
  have hEL := w.hEL
  obtain ⟨fx, k0, L, S, eh, hS, hk, hZ, hown, hF, ho, hch, hnw⟩ := w
  obtain ⟨a, T', h', k1, X', e', E, hS', hk', hZ', hown', hC, -, st'⟩ := ldcOH S fx.1 hZ hown w1 wS eh hS hk hEL (hch hwd).1 (g := mkF X.m pc Ls st) rfl (hb fx.2.1 hd) hn hbig hc hl
  exact (go T'.vm T' h' a ⟨fx, k1, L, X', e', hS', hk', hZ', hown', hF, ho.ext E, fun z => (hch z).trans hC, fun z => absurd (z.symm.trans hwd) (by decide)⟩ E hC).of st'
end Lay
end Own
end Jvm.Pilot.@@N@@
namespace Jvm.Pilot.@@N@@
namespace Own
open Jvm Jvm.ClassFile Sem Op Lib Jvm.Free Jvm.Stand Jvm.LawKit Jvm.RoadKit
section Lay
variable {G : Gx} {M : Md} {R : Room} {X : Cx} {vm : Vm} {T : State} {h : Heap} {k n : Nat} {Q : Option Value → Heap → Prop}
theorem mvMN {Z s : State} {a0 args : Array Value} {own host : String} {y : MethodName} {index : Nat} (hZ : Z.Warmed39 s.vm) (w : (Jvm.Cond.methodLinkNest own index y host).before a0 Z = true) : (Jvm.Cond.methodLinkNest own index y host).before args s = true := (Cond.methodLinkNest_wide hZ w :)
theorem Wk.newRX (w : Wk G M R X vm T h k n) {pc q : Nat} {Ls : Array Slot} {st : List Value} {C : String} {index : Nat} {N : Int32} {ad : String} (cap : Nat) (hd : decode M.code pc = .ok (.anewarray index, 3)) (w1 : (Jvm.Cond.classLink M.own index C).before G.a0 G.Z = true) (w2 : (Jvm.Cond.arrayOver (.object C)).before G.a0 G.Z = true) (had : "[" ++ (FieldType.object C).toString = ad) (hN : ¬ N < 0) (hcap : N.toNatClampNeg ≤ cap) (hb8 : cap * 8 ≤ 536870912) (hc : k + 1 ≤ R.cells) (hl : n + cap ≤ R.slots) (hq : pc + 3 = q)
    (go : ∀ (T' : State) (h' : Heap) (b : Nat) (kc : ClassId), b = h.size → Wk G M R X vm T' h' (k + 1) (n + cap) → Ext h h' → Arv G.Z h' b kc (.object C) N [] .null → Ovr G.Z kc C → Exa G.Z h' b ad → Go G R X Q (T'.setTop (mkF X.m q Ls (.ref b :: st)))) : Go G R X Q (T.setTop (mkF X.m pc Ls (.int N :: st))) := by
  subst hq
  obtain ⟨fx, k0, L, S, eh, hS, hk, hZ, hown, hF, ho, hch, hnw⟩ := w
  obtain ⟨T', h', kc, X', e', E, A, Ea, O, st'⟩ := Jvm.RoadKit.newRE S fx.1 hZ hown w1 w2 eh (g := mkF X.m pc Ls (.int N :: st)) rfl (hb fx.2.1 hd) rfl hN (cap := cap) hcap hb8 hc hl had
  exact (go T' h' h.size kc rfl ⟨fx, k0, L, X', e', hS, Nat.le_trans hk E.1, hZ, hown, hF, ho.ext E, fun b => (hch b).trans (CHr.ext E (hch b).1), hnw⟩ E (Arv.new A hN) O Ea).of st'
theorem Wk.getSN (w : Wk G M R X vm T h k n) {pc q : Nat} {Ls : Array Slot} {st : List Value} {R0 O f d host : String} {index : Nat} {v : Value} (hd : decode M.code pc = .ok (.getstatic index, 3)) (w1 : (Jvm.Cond.fieldLinkNest M.own index R0 f d host).before G.a0 G.Z = true) (via : Via G.Z R0 O f d) (F : Sta G.Z G.Z.heap O f d v) (hq : pc + 3 = q)
    (go : ∀ T' : State, Wk G M R X vm T' h k n → Go G R X Q (T'.setTop (mkF X.m q Ls (v :: st)))) : Go G R X Q (T.setTop (mkF X.m pc Ls st)) := by
  subst hq
  have F' := w.sta F
  obtain ⟨fx, k0, L, S, eh, hS, hk, hZ, hown, r⟩ := w
  obtain ⟨T', X', e', st'⟩ := Jvm.RoadKit.getS2 (host := host) S fx.1 hZ hown (Or.inr w1) via eh F' (g := mkF X.m pc Ls st) rfl (hb fx.2.1 hd)
  exact (go T' ⟨fx, k0, L, X', e', hS, hk, hZ, hown, r⟩).of st'
theorem Wk.getFN (w : Wk G M R X vm T h k n) {pc q : Nat} {Ls : Array Slot} {st : List Value} {R0 O f d host : String} {index : Nat} {a : Addr} {v : Value} (hd : decode M.code pc = .ok (.getfield index, 3)) (w1 : (Jvm.Cond.fieldLinkNest M.own index R0 f d host).before G.a0 G.Z = true) (via : Via G.Z R0 O f d) (F : Fld G.Z h a O f d v) (hq : pc + 3 = q)
    (go : ∀ T' : State, Wk G M R X vm T' h k n → Go G R X Q (T'.setTop (mkF X.m q Ls (v :: st)))) : Go G R X Q (T.setTop (mkF X.m pc Ls (.ref a :: st))) := by
  subst hq
  obtain ⟨fx, k0, L, S, eh, hS, hk, hZ, hown, r⟩ := w
  obtain ⟨T', X', e', st'⟩ := Jvm.RoadKit.getF (host := host) S fx.1 hZ hown (Or.inr w1) via eh F (g := mkF X.m pc Ls (.ref a :: st)) rfl rfl (hb fx.2.1 hd)
  exact (go T' ⟨fx, k0, L, X', e', hS, hk, hZ, hown, r⟩).of st'
theorem Wk.callCN (w : Wk G M R X vm T h k n) {pc q : Nat} {Ls : Array Slot} {st : List Value} {y : MethodName} {host : String} {bytes : ByteArray} {maxL : Nat} {index W k1 n1 : Nat} {a : Addr} {argsL rest : List Value} {Q1 : Option Value → Heap → Prop} (hd : decode M.code pc = .ok (.invokespecial index, 3)) (hy1 : y.name = "<init>") (w1 : (Jvm.Cond.methodLinkNest M.own index y host).before G.a0 G.Z = true) (w2 : (Jvm.Cond.instanceMethod y).before G.a0 G.Z = true) (w4 : (Jvm.Cond.code y bytes maxL none).before G.a0 G.Z = true) (hy : y.cls ≠ "java/lang/invoke/MethodHandle" ∧ y.cls ≠ "java/lang/invoke/VarHandle")
    (hst : st = argsL.reverse ++ .ref a :: rest) (hlen : ∀ sig, parseMethodDescriptor y.desc = some sig → argsL.length = sig.parameters.length) (hsz : Ls.size = M.mx) (hW : (rest.map fun v => v.category).sum ≤ W) (pay : Pay G R X y 3 W (.ref a :: argsL).toArray h k1 n1 Q1 vm) (hc : k + k1 ≤ R.cells) (hl : n + n1 ≤ R.slots) (hq : pc + 3 = q)
    (go : ∀ (vm' : Vm) (T' : State) (h' : Heap) (v : Option Value), Wk G M R X vm' T' h' (k + k1) (n + n1) → Q1 v h' → Go G R X Q (T'.setTop (mkF X.m q Ls (v.toList ++ rest)))) : Go G R X Q (T.setTop (mkF X.m pc Ls st)) := by
  subst hst hq
  obtain ⟨fx, k0, L, S, eh, hS, hk, hZ, hown, hF, ho, hch, hnw⟩ := w
  rcases pay with pay | ⟨hwd, pay⟩
  · obtain ⟨v, vm₁, B, -, X', post, st'⟩ := S.specialBackNest fx.1 hy1 hown (mvMN (s := X.s.setVm vm) hZ w1) (mv (s := X.s.setVm vm) hZ w2) (mv (s := X.s.setVm vm) hZ w4) hy pay (g := mkF X.m pc Ls (argsL.reverse ++ .ref a :: rest)) rfl (hsz.trans fx.2.2.1.symm) (Steps.refl _) (a := a) hlen rfl (by show 2 * 0 + _ ≤ _; omega) (hb fx.2.1 hd) (fun _ _ => ⟨rfl, eh, hc, hl⟩)
    obtain ⟨w2, q1⟩ := finN fx hS hk hZ hown hF hch hnw X' post
    exact (go _ _ _ v w2 q1).of fun t z => st'.trans z
  · obtain ⟨v, vm₁, B, -, X', hS', hgr, post, st'⟩ := S.specialBackNestS fx.1 hy1 hown (mvMN (s := X.s.setVm vm) hZ w1) (mv (s := X.s.setVm vm) hZ w2) (mv (s := X.s.setVm vm) hZ w4) hy pay (g := mkF X.m pc Ls (argsL.reverse ++ .ref a :: rest)) rfl (hsz.trans fx.2.2.1.symm) (Steps.refl _) (a := a) hlen rfl (by show 2 * 0 + _ ≤ _; omega) (hb fx.2.1 hd) (fun _ _ => ⟨rfl, eh, hc, hl⟩)
    obtain ⟨w2, q1⟩ := finW hwd fx hS hk hZ hown hF hch X' hS' (by rw [← eh]; exact hgr) post
    exact (go _ _ _ v w2 q1).of fun t z => st'.trans z
theorem Wk.tswI (w : Wk G M R X vm T h k n) {pc q : Nat} {Ls : Array Slot} {st : List Value} {dflt low high : Int} {offs : Array Int} {len : Nat} {o : Int} {i : Int32} (hd : decode M.code pc = .ok (.tableswitch dflt low high offs, len)) (hin : ¬ (i.toInt < low ∨ i.toInt > high)) (hoff : offs[(i.toInt - low).toNat]? = some o) (ho : 0 ≤ (pc : Int) + o) (hq : ((pc : Int) + o).toNat = q) (go : Go G R X Q (T.setTop (mkF X.m q Ls st))) : Go G R X Q (T.setTop (mkF X.m pc Ls (.int i :: st))) :=
  go.of fun t r => XS.tswIn w.here w.hx rfl (pc0 := pc) rfl (hb w.by_ hd) rfl hin hoff ho hq r
theorem Wk.tswO (w : Wk G M R X vm T h k n) {pc q : Nat} {Ls : Array Slot} {st : List Value} {dflt low high : Int} {offs : Array Int} {len : Nat} {i : Int32} (hd : decode M.code pc = .ok (.tableswitch dflt low high offs, len)) (hout : i.toInt < low ∨ i.toInt > high) (ho : 0 ≤ (pc : Int) + dflt) (hq : ((pc : Int) + dflt).toNat = q) (go : Go G R X Q (T.setTop (mkF X.m q Ls st))) : Go G R X Q (T.setTop (mkF X.m pc Ls (.int i :: st))) :=
  go.of fun t r => XS.tswOut w.here w.hx rfl (pc0 := pc) rfl (hb w.by_ hd) rfl hout ho hq r
end Lay
end Own
end Jvm.Pilot.@@N@@

namespace Jvm.Pilot.@@N@@
namespace Own
open Jvm Jvm.ClassFile Sem Op Lib Jvm.Free Jvm.Stand Jvm.LawKit Jvm.RoadKit
def StrAt (Z : State) (h : Heap) (a : Addr) (cd : Int32) (cs : List Int32) : Prop := ∃ (t : Addr) (kb : ClassId) (N : Int32) (vs : List Value), Exa Z h a "java/lang/String" ∧ Fld Z h a "java/lang/String" "value" "[B" (.ref t) ∧ Fld Z h a "java/lang/String" "coder" "B" (.int cd) ∧ Arv Z h t kb .byte N vs (.int 0) ∧ StrChars.Road.CodA cs cd N vs ∧ (∀ c ∈ cs, ¬ c < 0 ∧ ¬ (65535 : Int32) < c) ∧ cs.length ≤ 4000
section
variable {Z : State} {h h' : Heap} {a : Addr} {cd : Int32} {cs : List Int32}
theorem StrAt.ext (F : StrAt Z h a cd cs) (E : Ext h h') : StrAt Z h' a cd cs := by
  obtain ⟨t, kb, N, vs, h1, h2, h3, h4, r⟩ := F; exact ⟨t, kb, N, vs, h1.ext E, h2.ext E, h3.ext E, h4.ext E, r⟩
theorem StrAt.exa (F : StrAt Z h a cd cs) : Exa Z h a "java/lang/String" := by obtain ⟨t, kb, N, vs, h1, -⟩ := F; exact h1
theorem StrAt.lt (F : StrAt Z h a cd cs) : a < h.size := F.exa.lt
theorem up_ (cs : List Int32) (h : ∀ c ∈ cs, ¬ c < 0 ∧ ¬ (255 : Int32) < c) : ∀ c ∈ cs, ¬ c < 0 ∧ ¬ (65535 : Int32) < c := fun c hc => ⟨(h c hc).1, fun q => (h c hc).2 (by rw [Int32.lt_iff_toInt_lt] at q ⊢; have e1 : (65535 : Int32).toInt = 65535 := rfl; have e2 : (255 : Int32).toInt = 255 := rfl; omega)⟩
theorem and255 (x : Int32) : ¬ nar .char ((x &&& (255 : Int32)).toUInt32.toUInt16.toUInt32.toInt32) < 0 ∧ ¬ (255 : Int32) < nar .char ((x &&& (255 : Int32)).toUInt32.toUInt16.toUInt32.toInt32) := by
  have t : ∀ k : Fin 256, ¬ nar .char ((Int32.ofNat k.val).toUInt32.toUInt16.toUInt32.toInt32) < 0 ∧ ¬ (255 : Int32) < nar .char ((Int32.ofNat k.val).toUInt32.toUInt16.toUInt32.toInt32) := by decide +kernel
  have h : (x &&& 255).toBitVec.toNat < 256 := by
    simp only [Int32.toBitVec_and, BitVec.toNat_and]
    exact Nat.lt_succ_of_le Nat.and_le_right
  have e : (x &&& 255) = Int32.ofNat (x &&& 255).toBitVec.toNat := by
    apply Int32.toBitVec_inj.mp
    show _ = BitVec.ofNat 32 _
    rw [BitVec.ofNat_toNat]; simp
  rw [e]
  exact t ⟨_, h⟩
def Lat (c : Int32) : Prop := ¬ c < 0 ∧ ¬ (255 : Int32) < c
theorem lat_mask (x : Int32) : Lat (nar .char ((x &&& (255 : Int32)).toUInt32.toUInt16.toUInt32.toInt32)) := and255 x
theorem lat0 : ∀ c ∈ ([] : List Int32), ¬ c < 0 ∧ ¬ (255 : Int32) < c := fun _ q => nomatch q
theorem latS {c : Int32} {cs : List Int32} (a : Lat c) (r : ∀ c ∈ cs, ¬ c < 0 ∧ ¬ (255 : Int32) < c) : ∀ d ∈ c :: cs, ¬ d < 0 ∧ ¬ (255 : Int32) < d := fun d hd => by
  rcases List.mem_cons.mp hd with rfl | hd
  · exact a
  · exact r d hd
end
section
variable {G : Gx} {M : Md} {R : Room} {X : Cx} {vm : Vm} {T : State} {h : Heap} {k n : Nat} {Q : Option Value → Heap → Prop}
abbrev strInit : MethodName := ⟨"java/lang/String", "<init>", "([C)V"⟩
theorem pay_newStr (w : Wk G M R X vm T h k n) (hws : ∀ d ∈ StrChars.Road.words, d.before G.a0 G.Z = true) (wi : (Jvm.Cond.instantiable "java/lang/String" 4).before G.a0 G.Z = true) (hcz : ∃ z : Int32, ¬ z = 0 ∧ Sta G.Z G.Z.heap "java/lang/String" "COMPACT_STRINGS" "Z" (.int z))
    {x b : Addr} {kC : ClassId} {cs : List Int32} {d : Value} {N : Int32} {nn W : Nat} (h0 : G.n0 ≤ x) (E : Exa G.Z h x "java/lang/String") (V : Fld G.Z h x "java/lang/String" "value" "[B" .null) (C : Fld G.Z h x "java/lang/String" "coder" "B" (.int 0)) (K : Arv G.Z h b kC .char N (cs.map Value.int) d) (hn : cs.length = nn) (hN : N = Int32.ofNat nn) (l0 : 0 < nn) (l2 : nn ≤ 4000) (hp : ∀ c ∈ cs, ¬ c < 0 ∧ ¬ (255 : Int32) < c) (hfr : 4 ≤ R.frames) (hlo : W + 65 ≤ R.locals) :
    Pay G R X strInit 3 W #[.ref x, .ref b] h 1 nn (nQ fun h' => Keep h h' [x] ∧ StrAt G.Z h' x 0 cs) vm := by
  obtain ⟨z, hz, S⟩ := hcz
  refine Or.inl (Back.mono (StrChars.Road.backV (s := X.s.setVm vm) w.wz hws wi (cs := cs) (n := nn) h0 w.n0le E V C K (w.sta S) hz hn hN l0 l2 hp rfl hfr hlo) (fun P a hp => hp) (fun P a v B _ hq => ?_))
  obtain ⟨L, ⟨q1, q2, q3, q4, q5, t, kb, u1, u2, u3, q6, q7⟩, r⟩ := hq
  exact ⟨L, ⟨⟨q1, q3, t, kb, N, _, q4, q6, q5, q7, hN ▸ StrChars.Road.codOf hn (fun c hc => (hp c hc).2), up_ cs hp, by omega⟩, q2, w.old.keep q3 (all1 h0), q3.1, fun b => CHr.keep q3 (all1 (blank_safe w.wz.alike E V)) (w.ch b).1⟩, r⟩
end

end Own
end Jvm.Pilot.@@N@@
namespace Jvm.Pilot.@@N@@
open Jvm Jvm.ClassFile Sem Op Lib Jvm.Free Jvm.Stand Jvm.LawKit Jvm.RoadKit Bundle Jvm.Pilot.@@N@@.Jvm.D Own
def Hyp (G : Gx) : Prop := (∀ d ∈ tables_1, d.before G.a0 G.Z = true) ∧ EW G.Z G.a0 G.EL ∧ (∃ z : Int32, ¬ z = 0 ∧ Sta G.Z G.Z.heap "java/lang/String" "COMPACT_STRINGS" "Z" (.int z)) ∧ (G.wd = true ∧ G.EL = consts_1) ∧ ∃ (el ea em : Nat) (ka : ClassId), Sta G.Z G.Z.heap "java/util/ImmutableCollections" "EMPTY_LIST" "Ljava/util/ImmutableCollections$ListN;" (.ref el) ∧ Exa G.Z G.Z.heap el "java/util/ImmutableCollections$ListN" ∧ Fld G.Z G.Z.heap el "java/util/ImmutableCollections$ListN" "elements" "[Ljava/lang/Object;" (.ref ea) ∧ Arv G.Z G.Z.heap ea ka (.object "java/lang/Object") (0 : Int32) [] .null ∧ Sta G.Z G.Z.heap "java/util/ImmutableCollections" "EMPTY" "Ljava/lang/Object;" (.ref em) ∧ Exa G.Z G.Z.heap em "java/lang/Object"
theorem Hyp.tw {G : Gx} (H : Hyp G) {d : Jvm.Cond} (i : Nat) (q : tables_1[i]? = some d) : d.before G.a0 G.Z = true := H.1 d (List.mem_of_getElem? q)
theorem Hyp.el {G : Gx} (H : Hyp G) : EW G.Z G.a0 G.EL := H.2.1
theorem Hyp.cz {G : Gx} (H : Hyp G) : ∃ z : Int32, ¬ z = 0 ∧ Sta G.Z G.Z.heap "java/lang/String" "COMPACT_STRINGS" "Z" (.int z) := H.2.2.1
theorem Hyp.ws {G : Gx} (H : Hyp G) : ∀ d ∈ StrChars.Road.words, d.before G.a0 G.Z = true := fun d hd => H.1 d ((by decide +kernel : ∀ d ∈ StrChars.Road.words, d ∈ tables_1) d hd)
theorem Hyp.sa {G : Gx} (H : Hyp G) : ∀ d ∈ Bundle.stringAtoms, d.before G.a0 G.Z = true := fun d hd => H.1 d ((by decide +kernel : ∀ d ∈ Bundle.stringAtoms, d ∈ tables_1) d hd)
theorem Hyp.wd {G : Gx} (H : Hyp G) : G.wd = true := H.2.2.2.1.1
theorem Hyp.mem {G : Gx} (H : Hyp G) {p : String × Nat} (q : p ∈ consts_1) : p ∈ G.EL := H.2.2.2.1.2 ▸ q
theorem Hyp.mo {G : Gx} (H : Hyp G) : ∃ (el ea em : Nat) (ka : ClassId), Sta G.Z G.Z.heap "java/util/ImmutableCollections" "EMPTY_LIST" "Ljava/util/ImmutableCollections$ListN;" (.ref el) ∧ Exa G.Z G.Z.heap el "java/util/ImmutableCollections$ListN" ∧ Fld G.Z G.Z.heap el "java/util/ImmutableCollections$ListN" "elements" "[Ljava/lang/Object;" (.ref ea) ∧ Arv G.Z G.Z.heap ea ka (.object "java/lang/Object") (0 : Int32) [] .null ∧ Sta G.Z G.Z.heap "java/util/ImmutableCollections" "EMPTY" "Ljava/lang/Object;" (.ref em) ∧ Exa G.Z G.Z.heap em "java/lang/Object" := H.2.2.2.2
theorem StrAt.lit {Z : State} {h : Heap} {a b : Addr} {kb : ClassId} {z : Int32} {vs : List Value} (cs : List Int32) (A1 : Exa Z h a "java/lang/String") (A2 : Fld Z h a "java/lang/String" "coder" "B" (.int 0)) (A3 : Fld Z h a "java/lang/String" "value" "[B" (.ref b)) (A4 : Arv Z h b kb .byte z vs (.int 0)) (e1 : z = Int32.ofNat cs.length) (e2 : vs = cs.map fun c => Value.int (StrChars.lo8 c)) (e3 : ∀ c ∈ cs, ¬ c < 0 ∧ ¬ (255 : Int32) < c) (e4 : cs.length ≤ 4000) : StrAt Z h a 0 cs :=
  ⟨b, kb, z, vs, A1, A3, A2, A4, Or.inl ⟨rfl, e1, e2, fun c hc => (e3 c hc).2⟩, up_ cs e3, e4⟩
theorem and3 (x : Int32) : x &&& 3 = 0 ∨ x &&& 3 = 1 ∨ x &&& 3 = 2 ∨ x &&& 3 = 3 := by
  have h := c_mask x 3 2 (by decide) (by decide)
  have e : ∀ n : Int32, (x &&& 3).toInt = n.toInt → x &&& 3 = n := fun n q => Int32.toInt_inj.mp q
  have e0 : (0 : Int32).toInt = 0 := rfl
  have e1 : (1 : Int32).toInt = 1 := rfl
  have e2 : (2 : Int32).toInt = 2 := rfl
  have e3 : (3 : Int32).toInt = 3 := rfl
  have : x.toInt % (2 ^ 2 : Nat) = 0 ∨ x.toInt % (2 ^ 2 : Nat) = 1 ∨ x.toInt % (2 ^ 2 : Nat) = 2 ∨ x.toInt % (2 ^ 2 : Nat) = 3 := by omega
  rcases this with q | q | q | q
  · exact Or.inl (e 0 (by rw [h, q, e0]))
  · exact Or.inr (Or.inl (e 1 (by rw [h, q, e1])))
  · exact Or.inr (Or.inr (Or.inl (e 2 (by rw [h, q, e2]))))
  · exact Or.inr (Or.inr (Or.inr (e 3 (by rw [h, q, e3]))))
theorem arv_empty {Z : State} {args : Array Value} {t : Term} {a : Addr} {cl : Cell} {ty : FieldType} {dv : Value} (hf : Fit Z) (A : Arr Z Z.heap a cl ty) (ev : t.eval args Z none [] Z = some (.ref a)) (hl : (Term.length t).eval args Z none [] Z = some (.int 0)) : Arv Z Z.heap a cl.cls ty (0 : Int32) [] dv := by
  obtain ⟨x, c2, e1, e2, e3⟩ := Term.length_spec hl
  cases ev.symm.trans e1
  have hA := Arr.fin (Vm.Alike.refl _) A
  cases hA.symm.trans e2
  have h31 := Jvm.Free.SBG.length_lt e1 e2 hl
  have hz : cl.slots.size.toInt32 = 0 := by
    have e4 := (len_f e1 e2 h31).symm.trans hl
    simpa using e4
  exact Arv.start hf A h31 hz (by decide) rfl trivial

theorem d0_0 : decode jdk_42_method_149_code 0 = .ok (.aload_n 0, 1) := by decide +kernel
theorem d0_1 : decode jdk_42_method_149_code 1 = .ok (.invokespecial 1, 3) := by decide +kernel
theorem d0_4 : decode jdk_42_method_149_code 4 = .ok (.iload_n 3, 1) := by decide +kernel
theorem d0_5 : decode jdk_42_method_149_code 5 = .ok (.ifCond .ne 22, 3) := by decide +kernel
theorem d0_8 : decode jdk_42_method_149_code 8 = .ok (.aload_n 0, 1) := by decide +kernel
theorem d0_9 : decode jdk_42_method_149_code 9 = .ok (.ldc 7, 2) := by decide +kernel
theorem d0_11 : decode jdk_42_method_149_code 11 = .ok (.getfield 9, 3) := by decide +kernel
theorem d0_14 : decode jdk_42_method_149_code 14 = .ok (.putfield 9, 3) := by decide +kernel
theorem d0_17 : decode jdk_42_method_149_code 17 = .ok (.aload_n 0, 1) := by decide +kernel
theorem d0_18 : decode jdk_42_method_149_code 18 = .ok (.ldc 7, 2) := by decide +kernel
theorem d0_20 : decode jdk_42_method_149_code 20 = .ok (.getfield 15, 3) := by decide +kernel
theorem d0_23 : decode jdk_42_method_149_code 23 = .ok (.putfield 15, 3) := by decide +kernel
theorem d0_26 : decode jdk_42_method_149_code 26 = .ok (.return_, 1) := by decide +kernel
theorem pn1 : plainName "java/lang/String" = true := by first | (simp [plainName, overriddenIn]; done) | decide +kernel
set_option maxRecDepth 65536 in
set_option maxHeartbeats 40000000 in
theorem con_init4e (G : Gx) (H : Hyp G) (x b : Nat) (h : Heap) (ho : Old G.Z G.n0 h) (E : Exa G.Z h x "java/lang/String") (V : Fld G.Z h x "java/lang/String" "value" "[B" .null) (C : Fld G.Z h x "java/lang/String" "coder" "B" (.int (0 : Int32))) (g : G.n0 ≤ x) :
    Con G (⟨"java/lang/String", "<init>", "([CIILjava/lang/Void;)V"⟩ : MethodName) jdk_42_method_149_code 6 none [] ({ frames := 1, cells := 4, slots := 8, locals := 12 } : Room) #[(.ref x), (.ref b), (.int (0 : Int32)), (.int (0 : Int32)), .null] h (nQ fun h' => Keep h h' [x] ∧ StrAt G.Z h' x 0 []) := by
  refine Con.intro H.el ho (plainFor_of_name pn1) (Ls := #[.val (.ref x), .val (.ref b), .val (.int (0 : Int32)), .val (.int (0 : Int32)), .val .null, .unset]) (fun m => by first | (simp [entryFrame, mkF, argsToLocals, Value.category]; done) | rfl) ?_
  intro X vm T w
  have ltx : x < h.size := E.lt
  refine w.aloadN (q := 1) d0_0 rfl rfl rfl ?_
  refine w.initO (q := 4) (W := 0) d0_1 (H.tw 15 rfl) (H.tw 16 rfl) (H.tw 17 rfl) rfl (by decide) (Nat.le_of_eq rfl) (by decide) rfl fun T1 w1 => ?_
  refine w1.iloadN (q := 5) d0_4 rfl rfl ?_
  refine w1.ifN (q := 8) d0_5 ((if0 _ _).trans (teq rfl).2) rfl ?_
  refine w1.aloadN (q := 9) d0_8 rfl rfl rfl ?_
  have sf0 := w1.sfB E V
  refine w1.ldcS (q := 11) (sz := 0) (vs := []) (z := 0) d0_9 H.wd (H.tw 88 rfl) H.sa (H.mem (by decide)) ⟨by decide, rfl⟩ (by decide) rfl (by decide) (by decide) (by decide) (by decide) rfl fun vm2 T2 h2 a2 bb2 kb2 w2 X2 ch2 A1_2 A2_2 A3_2 A4_2 => ?_
  have sz2 : h.size ≤ h2.size := X2.1
  have S2 : StrAt G.Z h2 a2 0 [] := StrAt.lit _ A1_2 A2_2 A3_2 A4_2 rfl rfl lat0 (by decide)
  replace E := E.ext X2
  have EX2 := E
  replace V := V.ext X2
  replace C := C.ext X2
  have sf1 : G.wd = true → Safe G.Z G.EL vm2 h2 x := fun z => ch2.safe ltx (sf0 z)
  refine w2.getF (q := 14) d0_11 (H.tw 32 rfl) Via.refl A3_2 rfl fun T3 w3 => ?_
  refine w3.putF (q := 17) d0_14 (H.tw 32 rfl) Via.refl V E (Or.inr ⟨(H.tw 33 rfl), rfl, rfl⟩) (H.tw 5 rfl) (ty := (.array .byte)) (by decide) rfl rfl g sf1 rfl fun T4 h4 w4 W4 sf4 => ?_
  have sz4 : h2.size ≤ h4.size := (Keep.of_wr W4).1
  replace E := E.wr W4
  replace C := C.other W4 (Or.inr (slot_ne (Or.inr (H.tw 31 rfl)) (Or.inr (H.tw 33 rfl)) (by decide) (t := .byte) (t' := (.array .byte)) (by decide) (by decide)))
  have V1 := V.same W4
  refine w4.aloadN (q := 18) d0_17 rfl rfl rfl ?_
  refine w4.ldcS (q := 20) (sz := 0) (vs := []) (z := 0) d0_18 H.wd (H.tw 88 rfl) H.sa (H.mem (by decide)) ⟨by decide, rfl⟩ (by decide) rfl (by decide) (by decide) (by decide) (by decide) rfl fun vm5 T5 h5 a5 bb5 kb5 w5 X5 ch5 A1_5 A2_5 A3_5 A4_5 => ?_
  have sz5 : h4.size ≤ h5.size := X5.1
  have S5 : StrAt G.Z h5 a5 0 [] := StrAt.lit _ A1_5 A2_5 A3_5 A4_5 rfl rfl lat0 (by decide)
  replace E := E.ext X5
  replace V1 := V1.ext X5
  replace C := C.ext X5
  have sf2 : G.wd = true → Safe G.Z G.EL vm5 h5 x := fun z => ch5.safe (Nat.lt_of_lt_of_le ltx (by omega)) (sf4 z)
  refine w5.getF (q := 23) d0_20 (H.tw 30 rfl) Via.refl A2_5 rfl fun T6 w6 => ?_
  refine w6.putF (q := 26) d0_23 (H.tw 30 rfl) Via.refl C E (Or.inr ⟨(H.tw 31 rfl), rfl, rfl⟩) (H.tw 5 rfl) (ty := .byte) (by decide) rfl rfl g sf2 rfl fun T7 h7 w7 W7 sf7 => ?_
  have sz7 : h5.size ≤ h7.size := (Keep.of_wr W7).1
  replace E := E.wr W7
  replace C := C.same W7
  replace V1 := V1.other W7 (Or.inr (slot_ne (Or.inr (H.tw 33 rfl)) (Or.inr (H.tw 31 rfl)) (by decide) (t := (.array .byte)) (t' := .byte) (by decide) (by decide)))
  have nx : bb2 ≠ x := fun z => Exa.neArv EX2 A4_2 (H.tw 5 rfl) z.symm
  have AA : Arv G.Z h7 bb2 kb2 .byte 0 [] (.int 0) := ((A4_2.other W4 nx).ext X5).other W7 nx
  have K1 : Keep h h7 [x] := ((((Keep.refl h [x]).ext X2).wr W4 (Or.inl (List.mem_singleton.mpr rfl))).ext X5).wr W7 (Or.inl (List.mem_singleton.mpr rfl))
  exact w7.retV d0_26 rfl (by decide) (by decide) ⟨rfl, K1, bb2, kb2, 0, [], E, V1, C, AA, Or.inl ⟨rfl, rfl, rfl, fun _ q => nomatch q⟩, (fun _ q => nomatch q), by decide⟩
theorem d2_0 : decode jdk_42_method_3_code 0 = .ok (.aload_n 0, 1) := by decide +kernel
theorem d2_1 : decode jdk_42_method_3_code 1 = .ok (.aload_n 1, 1) := by decide +kernel
theorem d2_2 : decode jdk_42_method_3_code 2 = .ok (.iconst 0, 1) := by decide +kernel
theorem d2_3 : decode jdk_42_method_3_code 3 = .ok (.aload_n 1, 1) := by decide +kernel
theorem d2_4 : decode jdk_42_method_3_code 4 = .ok (.arraylength, 1) := by decide +kernel
theorem d2_5 : decode jdk_42_method_3_code 5 = .ok (.aconst_null, 1) := by decide +kernel
theorem d2_6 : decode jdk_42_method_3_code 6 = .ok (.invokespecial 27, 3) := by decide +kernel
theorem pd3 : parseMethodDescriptor "([CIILjava/lang/Void;)V" = some ⟨[(.array .char), .int, .int, (.object "java/lang/Void")], none⟩ := by decide +kernel
theorem d2_9 : decode jdk_42_method_3_code 9 = .ok (.return_, 1) := by decide +kernel
set_option maxRecDepth 65536 in
set_option maxHeartbeats 40000000 in
theorem con_init1e (G : Gx) (H : Hyp G) (x b : Nat) (kc : ClassId) (dv : Value) (h : Heap) (ho : Old G.Z G.n0 h) (E : Exa G.Z h x "java/lang/String") (V : Fld G.Z h x "java/lang/String" "value" "[B" .null) (C : Fld G.Z h x "java/lang/String" "coder" "B" (.int (0 : Int32))) (g : G.n0 ≤ x) (A : Arv G.Z h b kc .char (0 : Int32) [] dv) :
    Con G (⟨"java/lang/String", "<init>", "([C)V"⟩ : MethodName) jdk_42_method_3_code 2 none [] ({ frames := 2, cells := 4, slots := 8, locals := 29 } : Room) #[(.ref x), (.ref b)] h (nQ fun h' => Keep h h' [x] ∧ StrAt G.Z h' x 0 []) := by
  refine Con.intro H.el ho (plainFor_of_name pn1) (Ls := #[.val (.ref x), .val (.ref b)]) (fun m => by first | (simp [entryFrame, mkF, argsToLocals, Value.category]; done) | rfl) ?_
  intro X vm T w
  refine w.aloadN (q := 1) d2_0 rfl rfl rfl ?_
  refine w.aloadN (q := 2) d2_1 rfl rfl rfl ?_
  refine w.iconst (q := 3) (0 : Int32) d2_2 rfl rfl ?_
  refine w.aloadN (q := 4) d2_3 rfl rfl rfl ?_
  refine w.alen (q := 5) d2_4 A rfl ?_
  refine w.aconst (q := 6) d2_5 rfl ?_
  refine w.callC (q := 9) d2_6 rfl (H.tw 11 rfl) (H.tw 12 rfl) (H.tw 14 rfl) (by decide) (a := x) (argsL := [(.ref b), (.int (0 : Int32)), (.int (0 : Int32)), .null]) (rest := []) rfl (lenOf pd3 rfl) rfl (W := 0) (Nat.le_of_eq rfl) ((con_init4e G H x b h w.old E V C g).pay w (H.tw 14 rfl) (H.tw 6 rfl) (by decide) (by decide)) (by decide) (by decide) rfl fun vm1 T1 h1 v1 w1 q1 => ?_
  obtain ⟨rfl, K1, S1⟩ := q1
  show Go _ _ _ _ (T1.setTop (mkF X.m 9 #[.val (.ref x), .val (.ref b)] []))
  exact w1.retV d2_9 rfl (by decide) (by decide) ⟨rfl, K1, S1⟩
theorem d4_0 : decode jdk_42_method_66_code 0 = .ok (.aload_n 0, 1) := by decide +kernel
theorem d4_1 : decode jdk_42_method_66_code 1 = .ok (.aload_n 1, 1) := by decide +kernel
theorem d4_2 : decode jdk_42_method_66_code 2 = .ok (.if_acmp .ne 5, 3) := by decide +kernel
theorem d4_5 : decode jdk_42_method_66_code 5 = .ok (.iconst 1, 1) := by decide +kernel
theorem d4_6 : decode jdk_42_method_66_code 6 = .ok (.ireturn, 1) := by decide +kernel
set_option maxRecDepth 65536 in
set_option maxHeartbeats 40000000 in
theorem con_eqsame (G : Gx) (H : Hyp G) (a : Nat) (h : Heap) (ho : Old G.Z G.n0 h)  :
    Con G (⟨"java/lang/String", "equals", "(Ljava/lang/Object;)Z"⟩ : MethodName) jdk_42_method_66_code 3 (some .boolean) [] ({ frames := 0, cells := 0, slots := 0, locals := 0 } : Room) #[(.ref a), (.ref a)] h (vQ fun v h' => v = .int 1 ∧ h = h') := by
  refine Con.intro H.el ho (plainFor_of_name pn1) (Ls := #[.val (.ref a), .val (.ref a), .unset]) (fun m => by first | (simp [entryFrame, mkF, argsToLocals, Value.category]; done) | rfl) ?_
  intro X vm T w
  refine w.aloadN (q := 1) d4_0 rfl rfl rfl ?_
  refine w.aloadN (q := 2) d4_1 rfl rfl rfl ?_
  refine w.acN (q := 5) d4_2 rfl rfl (XT.aa_ne_f rfl) rfl ?_
  refine w.iconst (q := 6) (1 : Int32) d4_5 rfl rfl ?_
  exact w.retZ d4_6 (t := .boolean) rfl (by decide) rfl (by decide) (by decide) ⟨_, rfl, ⟨rfl, rfl⟩⟩
theorem d5_0 : decode method_2_code 0 = .ok (.iload_n 0, 1) := by decide +kernel
theorem d5_1 : decode method_2_code 1 = .ok (.iconst 3, 1) := by decide +kernel
theorem d5_2 : decode method_2_code 2 = .ok (.iand, 1) := by decide +kernel
theorem d5_3 : decode method_2_code 3 = .ok (.istore_n 1, 1) := by decide +kernel
theorem d5_4 : decode method_2_code 4 = .ok (.iload_n 0, 1) := by decide +kernel
theorem d5_5 : decode method_2_code 5 = .ok (.iconst 2, 1) := by decide +kernel
theorem d5_6 : decode method_2_code 6 = .ok (.iushr, 1) := by decide +kernel
theorem d5_7 : decode method_2_code 7 = .ok (.sipush 255, 3) := by decide +kernel
theorem d5_10 : decode method_2_code 10 = .ok (.iand, 1) := by decide +kernel
theorem d5_11 : decode method_2_code 11 = .ok (.i2c, 1) := by decide +kernel
theorem d5_12 : decode method_2_code 12 = .ok (.istore_n 2, 1) := by decide +kernel
theorem d5_13 : decode method_2_code 13 = .ok (.iload_n 0, 1) := by decide +kernel
theorem d5_14 : decode method_2_code 14 = .ok (.bipush 10, 2) := by decide +kernel
theorem d5_16 : decode method_2_code 16 = .ok (.iushr, 1) := by decide +kernel
theorem d5_17 : decode method_2_code 17 = .ok (.sipush 255, 3) := by decide +kernel
theorem d5_20 : decode method_2_code 20 = .ok (.iand, 1) := by decide +kernel
theorem d5_21 : decode method_2_code 21 = .ok (.i2c, 1) := by decide +kernel
theorem d5_22 : decode method_2_code 22 = .ok (.istore_n 3, 1) := by decide +kernel
theorem d5_23 : decode method_2_code 23 = .ok (.iload_n 0, 1) := by decide +kernel
theorem d5_24 : decode method_2_code 24 = .ok (.bipush 18, 2) := by decide +kernel
theorem d5_26 : decode method_2_code 26 = .ok (.iushr, 1) := by decide +kernel
theorem d5_27 : decode method_2_code 27 = .ok (.sipush 255, 3) := by decide +kernel
theorem d5_30 : decode method_2_code 30 = .ok (.iand, 1) := by decide +kernel
theorem d5_31 : decode method_2_code 31 = .ok (.i2c, 1) := by decide +kernel
theorem d5_32 : decode method_2_code 32 = .ok (.istore 4, 2) := by decide +kernel
theorem d5_34 : decode method_2_code 34 = .ok (.iload_n 1, 1) := by decide +kernel
theorem d5_35 : decode method_2_code 35 = .ok (.ifCond .ne 14, 3) := by decide +kernel
theorem d5_38 : decode method_2_code 38 = .ok (.new 7, 3) := by decide +kernel
theorem d5_41 : decode method_2_code 41 = .ok (.dup, 1) := by decide +kernel
theorem d5_42 : decode method_2_code 42 = .ok (.iconst 0, 1) := by decide +kernel
theorem d5_43 : decode method_2_code 43 = .ok (.newarray .char, 2) := by decide +kernel
theorem d5_45 : decode method_2_code 45 = .ok (.invokespecial 9, 3) := by decide +kernel
theorem pd6 : parseMethodDescriptor "([C)V" = some ⟨[(.array .char)], none⟩ := by decide +kernel
theorem d5_48 : decode method_2_code 48 = .ok (.areturn, 1) := by decide +kernel
theorem d5_49 : decode method_2_code 49 = .ok (.iload_n 1, 1) := by decide +kernel
theorem d5_50 : decode method_2_code 50 = .ok (.iconst 1, 1) := by decide +kernel
theorem d5_51 : decode method_2_code 51 = .ok (.if_icmp .ne 18, 3) := by decide +kernel
theorem d5_54 : decode method_2_code 54 = .ok (.new 7, 3) := by decide +kernel
theorem d5_57 : decode method_2_code 57 = .ok (.dup, 1) := by decide +kernel
theorem d5_58 : decode method_2_code 58 = .ok (.iconst 1, 1) := by decide +kernel
theorem d5_59 : decode method_2_code 59 = .ok (.newarray .char, 2) := by decide +kernel
theorem d5_61 : decode method_2_code 61 = .ok (.dup, 1) := by decide +kernel
theorem d5_62 : decode method_2_code 62 = .ok (.iconst 0, 1) := by decide +kernel
theorem d5_63 : decode method_2_code 63 = .ok (.iload_n 2, 1) := by decide +kernel
theorem d5_64 : decode method_2_code 64 = .ok (.castore, 1) := by decide +kernel
theorem d5_65 : decode method_2_code 65 = .ok (.invokespecial 9, 3) := by decide +kernel
theorem d5_68 : decode method_2_code 68 = .ok (.areturn, 1) := by decide +kernel
theorem d5_69 : decode method_2_code 69 = .ok (.iload_n 1, 1) := by decide +kernel
theorem d5_70 : decode method_2_code 70 = .ok (.iconst 2, 1) := by decide +kernel
theorem d5_71 : decode method_2_code 71 = .ok (.if_icmp .ne 22, 3) := by decide +kernel
theorem d5_74 : decode method_2_code 74 = .ok (.new 7, 3) := by decide +kernel
theorem d5_77 : decode method_2_code 77 = .ok (.dup, 1) := by decide +kernel
theorem d5_78 : decode method_2_code 78 = .ok (.iconst 2, 1) := by decide +kernel
theorem d5_79 : decode method_2_code 79 = .ok (.newarray .char, 2) := by decide +kernel
theorem d5_81 : decode method_2_code 81 = .ok (.dup, 1) := by decide +kernel
theorem d5_82 : decode method_2_code 82 = .ok (.iconst 0, 1) := by decide +kernel
theorem d5_83 : decode method_2_code 83 = .ok (.iload_n 2, 1) := by decide +kernel
theorem d5_84 : decode method_2_code 84 = .ok (.castore, 1) := by decide +kernel
theorem d5_85 : decode method_2_code 85 = .ok (.dup, 1) := by decide +kernel
theorem d5_86 : decode method_2_code 86 = .ok (.iconst 1, 1) := by decide +kernel
theorem d5_87 : decode method_2_code 87 = .ok (.iload_n 3, 1) := by decide +kernel
theorem d5_88 : decode method_2_code 88 = .ok (.castore, 1) := by decide +kernel
theorem d5_89 : decode method_2_code 89 = .ok (.invokespecial 9, 3) := by decide +kernel
theorem d5_92 : decode method_2_code 92 = .ok (.areturn, 1) := by decide +kernel
theorem d5_93 : decode method_2_code 93 = .ok (.new 7, 3) := by decide +kernel
theorem d5_96 : decode method_2_code 96 = .ok (.dup, 1) := by decide +kernel
theorem d5_97 : decode method_2_code 97 = .ok (.iconst 3, 1) := by decide +kernel
theorem d5_98 : decode method_2_code 98 = .ok (.newarray .char, 2) := by decide +kernel
theorem d5_100 : decode method_2_code 100 = .ok (.dup, 1) := by decide +kernel
theorem d5_101 : decode method_2_code 101 = .ok (.iconst 0, 1) := by decide +kernel
theorem d5_102 : decode method_2_code 102 = .ok (.iload_n 2, 1) := by decide +kernel
theorem d5_103 : decode method_2_code 103 = .ok (.castore, 1) := by decide +kernel
theorem d5_104 : decode method_2_code 104 = .ok (.dup, 1) := by decide +kernel
theorem d5_105 : decode method_2_code 105 = .ok (.iconst 1, 1) := by decide +kernel
theorem d5_106 : decode method_2_code 106 = .ok (.iload_n 3, 1) := by decide +kernel
theorem d5_107 : decode method_2_code 107 = .ok (.castore, 1) := by decide +kernel
theorem d5_108 : decode method_2_code 108 = .ok (.dup, 1) := by decide +kernel
theorem d5_109 : decode method_2_code 109 = .ok (.iconst 2, 1) := by decide +kernel
theorem d5_110 : decode method_2_code 110 = .ok (.iload 4, 2) := by decide +kernel
theorem d5_112 : decode method_2_code 112 = .ok (.castore, 1) := by decide +kernel
theorem d5_113 : decode method_2_code 113 = .ok (.invokespecial 9, 3) := by decide +kernel
theorem d5_116 : decode method_2_code 116 = .ok (.areturn, 1) := by decide +kernel
theorem pn7 : plainName "com/example/scodi/scodi/FilterRouteForScopesPinLaw" = true := by first | (simp [plainName, overriddenIn]; done) | decide +kernel
set_option maxRecDepth 65536 in
set_option maxHeartbeats 40000000 in
theorem con_mk (G : Gx) (H : Hyp G) (x0 : Int32) (h : Heap) (ho : Old G.Z G.n0 h)  :
    Con G (⟨"com/example/scodi/scodi/FilterRouteForScopesPinLaw", "mk", "(I)Ljava/lang/String;"⟩ : MethodName) method_2_code 5 (some (.object "java/lang/String")) [] ({ frames := 4, cells := 6, slots := 12, locals := 66 } : Room) #[(.int x0)] h (vQ fun v h' => ∃ (r : Nat) (cs : List Int32), v = .ref r ∧ Ext h h' ∧ StrAt G.Z h' r 0 cs) := by
  refine Con.intro H.el ho (plainFor_of_name pn7) (Ls := #[.val (.int x0), .unset, .unset, .unset, .unset]) (fun m => by first | (simp [entryFrame, mkF, argsToLocals, Value.category]; done) | rfl) ?_
  intro X vm T w
  refine w.iloadN (q := 1) d5_0 rfl rfl ?_
  refine w.iconst (q := 2) (3 : Int32) d5_1 rfl rfl ?_
  refine w.iand (q := 3) d5_2 rfl ?_
  refine w.istoreN (q := 4) (L2 := #[.val (.int x0), .val (.int (x0 &&& (3 : Int32))), .unset, .unset, .unset]) d5_3 rfl rfl ?_
  refine w.iloadN (q := 5) d5_4 rfl rfl ?_
  refine w.iconst (q := 6) (2 : Int32) d5_5 rfl rfl ?_
  refine w.iushr (q := 7) d5_6 rfl ?_
  refine w.sipush (q := 10) (255 : Int32) d5_7 rfl rfl ?_
  refine w.iand (q := 11) d5_10 rfl ?_
  refine w.i2c (q := 12) d5_11 rfl ?_
  refine w.istoreN (q := 13) (L2 := #[.val (.int x0), .val (.int (x0 &&& (3 : Int32))), .val (.int (((x0.toUInt32 >>> ((2 : Int32) &&& 31).toUInt32).toInt32) &&& (255 : Int32)).toUInt32.toUInt16.toUInt32.toInt32), .unset, .unset]) d5_12 rfl rfl ?_
  refine w.iloadN (q := 14) d5_13 rfl rfl ?_
  refine w.bipush (q := 16) (10 : Int32) d5_14 rfl rfl ?_
  refine w.iushr (q := 17) d5_16 rfl ?_
  refine w.sipush (q := 20) (255 : Int32) d5_17 rfl rfl ?_
  refine w.iand (q := 21) d5_20 rfl ?_
  refine w.i2c (q := 22) d5_21 rfl ?_
  refine w.istoreN (q := 23) (L2 := #[.val (.int x0), .val (.int (x0 &&& (3 : Int32))), .val (.int (((x0.toUInt32 >>> ((2 : Int32) &&& 31).toUInt32).toInt32) &&& (255 : Int32)).toUInt32.toUInt16.toUInt32.toInt32), .val (.int (((x0.toUInt32 >>> ((10 : Int32) &&& 31).toUInt32).toInt32) &&& (255 : Int32)).toUInt32.toUInt16.toUInt32.toInt32), .unset]) d5_22 rfl rfl ?_
  refine w.iloadN (q := 24) d5_23 rfl rfl ?_
  refine w.bipush (q := 26) (18 : Int32) d5_24 rfl rfl ?_
  refine w.iushr (q := 27) d5_26 rfl ?_
  refine w.sipush (q := 30) (255 : Int32) d5_27 rfl rfl ?_
  refine w.iand (q := 31) d5_30 rfl ?_
  refine w.i2c (q := 32) d5_31 rfl ?_
  refine w.istore (q := 34) (L2 := #[.val (.int x0), .val (.int (x0 &&& (3 : Int32))), .val (.int (((x0.toUInt32 >>> ((2 : Int32) &&& 31).toUInt32).toInt32) &&& (255 : Int32)).toUInt32.toUInt16.toUInt32.toInt32), .val (.int (((x0.toUInt32 >>> ((10 : Int32) &&& 31).toUInt32).toInt32) &&& (255 : Int32)).toUInt32.toUInt16.toUInt32.toInt32), .val (.int (((x0.toUInt32 >>> ((18 : Int32) &&& 31).toUInt32).toInt32) &&& (255 : Int32)).toUInt32.toUInt16.toUInt32.toInt32)]) d5_32 rfl rfl ?_
  refine w.iloadN (q := 35) d5_34 rfl rfl ?_
  by_cases c0 : (x0 &&& (3 : Int32)) = (0 : Int32)
  ·
    refine w.ifN (q := 38) d5_35 ((if0 _ _).trans (teq c0).2) rfl ?_
    refine w.newO (q := 41) d5_38 (H.tw 4 rfl) (H.tw 5 rfl) (H.tw 6 rfl) (by decide) (by decide) rfl fun T1 h1 b1 e1 w1 E1 A1 D1 U1 => ?_
    have lt1 : b1 < h1.size := A1.lt
    have sz1 : h.size ≤ h1.size := E1.1
    have F1_value : Fld G.Z h1 b1 "java/lang/String" "value" "[B" .null := D1 (Or.inr (H.tw 33 rfl)) (ty := (.array .byte)) (by decide)
    have F1_coder : Fld G.Z h1 b1 "java/lang/String" "coder" "B" (.int (0 : Int32)) := D1 (Or.inr (H.tw 31 rfl)) (ty := .byte) (by decide)
    have g1 : G.n0 ≤ b1 := by have := ho.2.1; have := ho.1; omega
    refine w1.dup (q := 42) d5_41 rfl rfl ?_
    refine w1.iconst (q := 43) (0 : Int32) d5_42 rfl rfl ?_
    refine w1.newP (q := 45) 0 d5_43 (H.tw 7 rfl) (by decide) (by decide) (by decide) (by decide) (by decide) rfl fun T2 h2 b2 kc2 e2 w2 E2 A2 => ?_
    replace A2 : Arv G.Z h2 b2 kc2 .char (0 : Int32) [] (.int (0 : Int32)) := A2.pad (pad_rep [] (.int (0 : Int32)) 0)
    have lt2 : b2 < h2.size := A2.lt
    have sz2 : h1.size ≤ h2.size := E2.1
    replace A1 := A1.ext E2
    replace F1_value := F1_value.ext E2
    replace F1_coder := F1_coder.ext E2
    refine w2.callC (q := 48) d5_45 rfl (H.tw 8 rfl) (H.tw 9 rfl) (H.tw 10 rfl) (by decide) (a := b1) (argsL := [(.ref b2)]) (rest := [(.ref b1)]) rfl (lenOf pd6 rfl) rfl (W := 1) (Nat.le_of_eq rfl) ((con_init1e G H b1 b2 kc2 _ h2 w2.old A1 F1_value F1_coder g1 A2).pay w2 (H.tw 10 rfl) (H.tw 6 rfl) (by decide) (by decide)) (by decide) (by decide) rfl fun vm3 T3 h3 v3 w3 q3 => ?_
    obtain ⟨rfl, K3, S3⟩ := q3
    show Go _ _ _ _ (T3.setTop (mkF X.m 48 #[.val (.int x0), .val (.int (x0 &&& (3 : Int32))), .val (.int (((x0.toUInt32 >>> ((2 : Int32) &&& 31).toUInt32).toInt32) &&& (255 : Int32)).toUInt32.toUInt16.toUInt32.toInt32), .val (.int (((x0.toUInt32 >>> ((10 : Int32) &&& 31).toUInt32).toInt32) &&& (255 : Int32)).toUInt32.toUInt16.toUInt32.toInt32), .val (.int (((x0.toUInt32 >>> ((18 : Int32) &&& 31).toUInt32).toInt32) &&& (255 : Int32)).toUInt32.toUInt16.toUInt32.toInt32)] [(.ref b1)]))
    have sz3 : h2.size ≤ h3.size := K3.1
    have X3 : Ext h h3 := xkp (xtr E1 E2) K3 (all1 (by omega))
    exact w3.retA d5_48 (t := (.object "java/lang/String")) rfl rfl rfl (by decide) (by decide) ⟨_, rfl, b1, _, rfl, X3, S3⟩
  ·
    refine w.ifY (q := 49) d5_35 ((if0 _ _).trans (feq c0).2) (by decide) (by decide) ?_
    refine w.iloadN (q := 50) d5_49 rfl rfl ?_
    refine w.iconst (q := 51) (1 : Int32) d5_50 rfl rfl ?_
    by_cases c1 : (x0 &&& (3 : Int32)) = (1 : Int32)
    ·
      refine w.icN (q := 54) d5_51 ((teq c1).2) rfl ?_
      refine w.newO (q := 57) d5_54 (H.tw 4 rfl) (H.tw 5 rfl) (H.tw 6 rfl) (by decide) (by decide) rfl fun T4 h4 b4 e4 w4 E4 A4 D4 U4 => ?_
      have lt4 : b4 < h4.size := A4.lt
      have sz4 : h.size ≤ h4.size := E4.1
      have F4_value : Fld G.Z h4 b4 "java/lang/String" "value" "[B" .null := D4 (Or.inr (H.tw 33 rfl)) (ty := (.array .byte)) (by decide)
      have F4_coder : Fld G.Z h4 b4 "java/lang/String" "coder" "B" (.int (0 : Int32)) := D4 (Or.inr (H.tw 31 rfl)) (ty := .byte) (by decide)
      have g4 : G.n0 ≤ b4 := by have := ho.2.1; have := ho.1; omega
      refine w4.dup (q := 58) d5_57 rfl rfl ?_
      refine w4.iconst (q := 59) (1 : Int32) d5_58 rfl rfl ?_
      refine w4.newP (q := 61) 1 d5_59 (H.tw 7 rfl) (by decide) (by decide) (by decide) (by decide) (by decide) rfl fun T5 h5 b5 kc5 e5 w5 E5 A5 => ?_
      replace A5 : Arv G.Z h5 b5 kc5 .char (1 : Int32) [(.int (0 : Int32))] (.int (0 : Int32)) := A5.pad (pad_rep [] (.int (0 : Int32)) 1)
      have lt5 : b5 < h5.size := A5.lt
      have sz5 : h4.size ≤ h5.size := E5.1
      have g5 : G.n0 ≤ b5 := by have := ho.2.1; have := ho.1; omega
      replace A4 := A4.ext E5
      replace F4_value := F4_value.ext E5
      replace F4_coder := F4_coder.ext E5
      refine w5.dup (q := 62) d5_61 rfl rfl ?_
      refine w5.iconst (q := 63) (0 : Int32) d5_62 rfl rfl ?_
      refine w5.iloadN (q := 64) d5_63 rfl rfl ?_
      refine w5.castore (q := 65) 0 d5_64 A5 g5 ⟨by decide, by decide⟩ rfl (Nat.le_of_ble_eq_true rfl) rfl fun T6 h6 w6 K6 A6 => ?_
      have sz6 : h5.size ≤ h6.size := K6.1
      replace A4 := A4.keep K6
      replace F4_value := F4_value.keep K6 (nin1 (by omega))
      replace F4_coder := F4_coder.keep K6 (nin1 (by omega))
      refine w6.callC (q := 68) d5_65 rfl (H.tw 8 rfl) (H.tw 9 rfl) (H.tw 10 rfl) (by decide) (a := b4) (argsL := [(.ref b5)]) (rest := [(.ref b4)]) rfl (lenOf pd6 rfl) rfl (W := 1) (Nat.le_of_eq rfl) (pay_newStr w6 H.ws (H.tw 5 rfl) H.cz (nn := 1) (cs := [nar .char (((x0.toUInt32 >>> ((2 : Int32) &&& 31).toUInt32).toInt32) &&& (255 : Int32)).toUInt32.toUInt16.toUInt32.toInt32]) g4 A4 F4_value F4_coder A6 rfl rfl (by decide) (by decide) (latS (lat_mask _) lat0) (by decide) (by decide)) (by decide) (by decide) rfl fun vm7 T7 h7 v7 w7 q7 => ?_
      obtain ⟨rfl, K7, S7⟩ := q7
      show Go _ _ _ _ (T7.setTop (mkF X.m 68 #[.val (.int x0), .val (.int (x0 &&& (3 : Int32))), .val (.int (((x0.toUInt32 >>> ((2 : Int32) &&& 31).toUInt32).toInt32) &&& (255 : Int32)).toUInt32.toUInt16.toUInt32.toInt32), .val (.int (((x0.toUInt32 >>> ((10 : Int32) &&& 31).toUInt32).toInt32) &&& (255 : Int32)).toUInt32.toUInt16.toUInt32.toInt32), .val (.int (((x0.toUInt32 >>> ((18 : Int32) &&& 31).toUInt32).toInt32) &&& (255 : Int32)).toUInt32.toUInt16.toUInt32.toInt32)] [(.ref b4)]))
      have sz7 : h6.size ≤ h7.size := K7.1
      have X7 : Ext h h7 := xkp (xkp (xtr E4 E5) K6 (all1 (by omega))) K7 (all1 (by omega))
      exact w7.retA d5_68 (t := (.object "java/lang/String")) rfl rfl rfl (by decide) (by decide) ⟨_, rfl, b4, _, rfl, X7, S7⟩
    ·
      refine w.icY (q := 69) d5_51 ((feq c1).2) (by decide) (by decide) ?_
      refine w.iloadN (q := 70) d5_69 rfl rfl ?_
      refine w.iconst (q := 71) (2 : Int32) d5_70 rfl rfl ?_
      by_cases c2 : (x0 &&& (3 : Int32)) = (2 : Int32)
      ·
        refine w.icN (q := 74) d5_71 ((teq c2).2) rfl ?_
        refine w.newO (q := 77) d5_74 (H.tw 4 rfl) (H.tw 5 rfl) (H.tw 6 rfl) (by decide) (by decide) rfl fun T8 h8 b8 e8 w8 E8 A8 D8 U8 => ?_
        have lt8 : b8 < h8.size := A8.lt
        have sz8 : h.size ≤ h8.size := E8.1
        have F8_value : Fld G.Z h8 b8 "java/lang/String" "value" "[B" .null := D8 (Or.inr (H.tw 33 rfl)) (ty := (.array .byte)) (by decide)
        have F8_coder : Fld G.Z h8 b8 "java/lang/String" "coder" "B" (.int (0 : Int32)) := D8 (Or.inr (H.tw 31 rfl)) (ty := .byte) (by decide)
        have g8 : G.n0 ≤ b8 := by have := ho.2.1; have := ho.1; omega
        refine w8.dup (q := 78) d5_77 rfl rfl ?_
        refine w8.iconst (q := 79) (2 : Int32) d5_78 rfl rfl ?_
        refine w8.newP (q := 81) 2 d5_79 (H.tw 7 rfl) (by decide) (by decide) (by decide) (by decide) (by decide) rfl fun T9 h9 b9 kc9 e9 w9 E9 A9 => ?_
        replace A9 : Arv G.Z h9 b9 kc9 .char (2 : Int32) [(.int (0 : Int32)), (.int (0 : Int32))] (.int (0 : Int32)) := A9.pad (pad_rep [] (.int (0 : Int32)) 2)
        have lt9 : b9 < h9.size := A9.lt
        have sz9 : h8.size ≤ h9.size := E9.1
        have g9 : G.n0 ≤ b9 := by have := ho.2.1; have := ho.1; omega
        replace A8 := A8.ext E9
        replace F8_value := F8_value.ext E9
        replace F8_coder := F8_coder.ext E9
        refine w9.dup (q := 82) d5_81 rfl rfl ?_
        refine w9.iconst (q := 83) (0 : Int32) d5_82 rfl rfl ?_
        refine w9.iloadN (q := 84) d5_83 rfl rfl ?_
        refine w9.castore (q := 85) 0 d5_84 A9 g9 ⟨by decide, by decide⟩ rfl (Nat.le_of_ble_eq_true rfl) rfl fun T10 h10 w10 K10 A10 => ?_
        have sz10 : h9.size ≤ h10.size := K10.1
        replace A8 := A8.keep K10
        replace F8_value := F8_value.keep K10 (nin1 (by omega))
        replace F8_coder := F8_coder.keep K10 (nin1 (by omega))
        refine w10.dup (q := 86) d5_85 rfl rfl ?_
        refine w10.iconst (q := 87) (1 : Int32) d5_86 rfl rfl ?_
        refine w10.iloadN (q := 88) d5_87 rfl rfl ?_
        refine w10.castore (q := 89) 1 d5_88 A10 g9 ⟨by decide, by decide⟩ rfl (Nat.le_of_ble_eq_true rfl) rfl fun T11 h11 w11 K11 A11 => ?_
        have sz11 : h10.size ≤ h11.size := K11.1
        replace A8 := A8.keep K11
        replace F8_value := F8_value.keep K11 (nin1 (by omega))
        replace F8_coder := F8_coder.keep K11 (nin1 (by omega))
        refine w11.callC (q := 92) d5_89 rfl (H.tw 8 rfl) (H.tw 9 rfl) (H.tw 10 rfl) (by decide) (a := b8) (argsL := [(.ref b9)]) (rest := [(.ref b8)]) rfl (lenOf pd6 rfl) rfl (W := 1) (Nat.le_of_eq rfl) (pay_newStr w11 H.ws (H.tw 5 rfl) H.cz (nn := 2) (cs := [nar .char (((x0.toUInt32 >>> ((2 : Int32) &&& 31).toUInt32).toInt32) &&& (255 : Int32)).toUInt32.toUInt16.toUInt32.toInt32, nar .char (((x0.toUInt32 >>> ((10 : Int32) &&& 31).toUInt32).toInt32) &&& (255 : Int32)).toUInt32.toUInt16.toUInt32.toInt32]) g8 A8 F8_value F8_coder A11 rfl rfl (by decide) (by decide) (latS (lat_mask _) (latS (lat_mask _) lat0)) (by decide) (by decide)) (by decide) (by decide) rfl fun vm12 T12 h12 v12 w12 q12 => ?_
        obtain ⟨rfl, K12, S12⟩ := q12
        show Go _ _ _ _ (T12.setTop (mkF X.m 92 #[.val (.int x0), .val (.int (x0 &&& (3 : Int32))), .val (.int (((x0.toUInt32 >>> ((2 : Int32) &&& 31).toUInt32).toInt32) &&& (255 : Int32)).toUInt32.toUInt16.toUInt32.toInt32), .val (.int (((x0.toUInt32 >>> ((10 : Int32) &&& 31).toUInt32).toInt32) &&& (255 : Int32)).toUInt32.toUInt16.toUInt32.toInt32), .val (.int (((x0.toUInt32 >>> ((18 : Int32) &&& 31).toUInt32).toInt32) &&& (255 : Int32)).toUInt32.toUInt16.toUInt32.toInt32)] [(.ref b8)]))
        have sz12 : h11.size ≤ h12.size := K12.1
        have X12 : Ext h h12 := xkp (xkp (xkp (xtr E8 E9) K10 (all1 (by omega))) K11 (all1 (by omega))) K12 (all1 (by omega))
        exact w12.retA d5_92 (t := (.object "java/lang/String")) rfl rfl rfl (by decide) (by decide) ⟨_, rfl, b8, _, rfl, X12, S12⟩
      ·
        refine w.icY (q := 93) d5_71 ((feq c2).2) (by decide) (by decide) ?_
        refine w.newO (q := 96) d5_93 (H.tw 4 rfl) (H.tw 5 rfl) (H.tw 6 rfl) (by decide) (by decide) rfl fun T13 h13 b13 e13 w13 E13 A13 D13 U13 => ?_
        have lt13 : b13 < h13.size := A13.lt
        have sz13 : h.size ≤ h13.size := E13.1
        have F13_value : Fld G.Z h13 b13 "java/lang/String" "value" "[B" .null := D13 (Or.inr (H.tw 33 rfl)) (ty := (.array .byte)) (by decide)
        have F13_coder : Fld G.Z h13 b13 "java/lang/String" "coder" "B" (.int (0 : Int32)) := D13 (Or.inr (H.tw 31 rfl)) (ty := .byte) (by decide)
        have g13 : G.n0 ≤ b13 := by have := ho.2.1; have := ho.1; omega
        refine w13.dup (q := 97) d5_96 rfl rfl ?_
        refine w13.iconst (q := 98) (3 : Int32) d5_97 rfl rfl ?_
        refine w13.newP (q := 100) 3 d5_98 (H.tw 7 rfl) (by decide) (by decide) (by decide) (by decide) (by decide) rfl fun T14 h14 b14 kc14 e14 w14 E14 A14 => ?_
        replace A14 : Arv G.Z h14 b14 kc14 .char (3 : Int32) [(.int (0 : Int32)), (.int (0 : Int32)), (.int (0 : Int32))] (.int (0 : Int32)) := A14.pad (pad_rep [] (.int (0 : Int32)) 3)
        have lt14 : b14 < h14.size := A14.lt
        have sz14 : h13.size ≤ h14.size := E14.1
        have g14 : G.n0 ≤ b14 := by have := ho.2.1; have := ho.1; omega
        replace A13 := A13.ext E14
        replace F13_value := F13_value.ext E14
        replace F13_coder := F13_coder.ext E14
        refine w14.dup (q := 101) d5_100 rfl rfl ?_
        refine w14.iconst (q := 102) (0 : Int32) d5_101 rfl rfl ?_
        refine w14.iloadN (q := 103) d5_102 rfl rfl ?_
        refine w14.castore (q := 104) 0 d5_103 A14 g14 ⟨by decide, by decide⟩ rfl (Nat.le_of_ble_eq_true rfl) rfl fun T15 h15 w15 K15 A15 => ?_
        have sz15 : h14.size ≤ h15.size := K15.1
        replace A13 := A13.keep K15
        replace F13_value := F13_value.keep K15 (nin1 (by omega))
        replace F13_coder := F13_coder.keep K15 (nin1 (by omega))
        refine w15.dup (q := 105) d5_104 rfl rfl ?_
        refine w15.iconst (q := 106) (1 : Int32) d5_105 rfl rfl ?_
        refine w15.iloadN (q := 107) d5_106 rfl rfl ?_
        refine w15.castore (q := 108) 1 d5_107 A15 g14 ⟨by decide, by decide⟩ rfl (Nat.le_of_ble_eq_true rfl) rfl fun T16 h16 w16 K16 A16 => ?_
        have sz16 : h15.size ≤ h16.size := K16.1
        replace A13 := A13.keep K16
        replace F13_value := F13_value.keep K16 (nin1 (by omega))
        replace F13_coder := F13_coder.keep K16 (nin1 (by omega))
        refine w16.dup (q := 109) d5_108 rfl rfl ?_
        refine w16.iconst (q := 110) (2 : Int32) d5_109 rfl rfl ?_
        refine w16.iload (q := 112) d5_110 rfl rfl ?_
        refine w16.castore (q := 113) 2 d5_112 A16 g14 ⟨by decide, by decide⟩ rfl (Nat.le_of_ble_eq_true rfl) rfl fun T17 h17 w17 K17 A17 => ?_
        have sz17 : h16.size ≤ h17.size := K17.1
        replace A13 := A13.keep K17
        replace F13_value := F13_value.keep K17 (nin1 (by omega))
        replace F13_coder := F13_coder.keep K17 (nin1 (by omega))
        refine w17.callC (q := 116) d5_113 rfl (H.tw 8 rfl) (H.tw 9 rfl) (H.tw 10 rfl) (by decide) (a := b13) (argsL := [(.ref b14)]) (rest := [(.ref b13)]) rfl (lenOf pd6 rfl) rfl (W := 1) (Nat.le_of_eq rfl) (pay_newStr w17 H.ws (H.tw 5 rfl) H.cz (nn := 3) (cs := [nar .char (((x0.toUInt32 >>> ((2 : Int32) &&& 31).toUInt32).toInt32) &&& (255 : Int32)).toUInt32.toUInt16.toUInt32.toInt32, nar .char (((x0.toUInt32 >>> ((10 : Int32) &&& 31).toUInt32).toInt32) &&& (255 : Int32)).toUInt32.toUInt16.toUInt32.toInt32, nar .char (((x0.toUInt32 >>> ((18 : Int32) &&& 31).toUInt32).toInt32) &&& (255 : Int32)).toUInt32.toUInt16.toUInt32.toInt32]) g13 A13 F13_value F13_coder A17 rfl rfl (by decide) (by decide) (latS (lat_mask _) (latS (lat_mask _) (latS (lat_mask _) lat0))) (by decide) (by decide)) (by decide) (by decide) rfl fun vm18 T18 h18 v18 w18 q18 => ?_
        obtain ⟨rfl, K18, S18⟩ := q18
        show Go _ _ _ _ (T18.setTop (mkF X.m 116 #[.val (.int x0), .val (.int (x0 &&& (3 : Int32))), .val (.int (((x0.toUInt32 >>> ((2 : Int32) &&& 31).toUInt32).toInt32) &&& (255 : Int32)).toUInt32.toUInt16.toUInt32.toInt32), .val (.int (((x0.toUInt32 >>> ((10 : Int32) &&& 31).toUInt32).toInt32) &&& (255 : Int32)).toUInt32.toUInt16.toUInt32.toInt32), .val (.int (((x0.toUInt32 >>> ((18 : Int32) &&& 31).toUInt32).toInt32) &&& (255 : Int32)).toUInt32.toUInt16.toUInt32.toInt32)] [(.ref b13)]))
        have sz18 : h17.size ≤ h18.size := K18.1
        have X18 : Ext h h18 := xkp (xkp (xkp (xkp (xtr E13 E14) K15 (all1 (by omega))) K16 (all1 (by omega))) K17 (all1 (by omega))) K18 (all1 (by omega))
        exact w18.retA d5_116 (t := (.object "java/lang/String")) rfl rfl rfl (by decide) (by decide) ⟨_, rfl, b13, _, rfl, X18, S18⟩
theorem d8_0 : decode jdk_31_method_10_code 0 = .ok (.aload_n 0, 1) := by decide +kernel
theorem d8_1 : decode jdk_31_method_10_code 1 = .ok (.ifnonnull 11, 3) := by decide +kernel
theorem d8_12 : decode jdk_31_method_10_code 12 = .ok (.aload_n 0, 1) := by decide +kernel
theorem d8_13 : decode jdk_31_method_10_code 13 = .ok (.areturn, 1) := by decide +kernel
theorem pn9 : plainName "java/util/Objects" = true := by first | (simp [plainName, overriddenIn]; done) | decide +kernel
set_option maxRecDepth 65536 in
set_option maxHeartbeats 40000000 in
theorem con_rnn1 (G : Gx) (H : Hyp G) (a : Nat) (h : Heap) (ho : Old G.Z G.n0 h)  :
    Con G (⟨"java/util/Objects", "requireNonNull", "(Ljava/lang/Object;)Ljava/lang/Object;"⟩ : MethodName) jdk_31_method_10_code 1 (some (.object "java/lang/Object")) [] ({ frames := 0, cells := 0, slots := 0, locals := 0 } : Room) #[(.ref a)] h (vQ fun v h' => v = .ref a ∧ h = h') := by
  refine Con.intro H.el ho (plainFor_of_name pn9) (Ls := #[.val (.ref a)]) (fun m => by first | (simp [entryFrame, mkF, argsToLocals, Value.category]; done) | rfl) ?_
  intro X vm T w
  refine w.aloadN (q := 1) d8_0 rfl rfl rfl ?_
  refine w.nnY (q := 12) d8_1 (by decide) (by decide) ?_
  refine w.aloadN (q := 13) d8_12 rfl rfl rfl ?_
  exact w.retA d8_13 (t := (.object "java/lang/Object")) rfl rfl rfl (by decide) (by decide) ⟨_, rfl, ⟨rfl, rfl⟩⟩
theorem d10_0 : decode jdk_31_method_11_code 0 = .ok (.aload_n 0, 1) := by decide +kernel
theorem d10_1 : decode jdk_31_method_11_code 1 = .ok (.ifnonnull 12, 3) := by decide +kernel
theorem d10_13 : decode jdk_31_method_11_code 13 = .ok (.aload_n 0, 1) := by decide +kernel
theorem d10_14 : decode jdk_31_method_11_code 14 = .ok (.areturn, 1) := by decide +kernel
set_option maxRecDepth 65536 in
set_option maxHeartbeats 40000000 in
theorem con_rnn2 (G : Gx) (H : Hyp G) (a b : Nat) (h : Heap) (ho : Old G.Z G.n0 h)  :
    Con G (⟨"java/util/Objects", "requireNonNull", "(Ljava/lang/Object;Ljava/lang/String;)Ljava/lang/Object;"⟩ : MethodName) jdk_31_method_11_code 2 (some (.object "java/lang/Object")) [] ({ frames := 0, cells := 0, slots := 0, locals := 0 } : Room) #[(.ref a), (.ref b)] h (vQ fun v h' => v = .ref a ∧ h = h') := by
  refine Con.intro H.el ho (plainFor_of_name pn9) (Ls := #[.val (.ref a), .val (.ref b)]) (fun m => by first | (simp [entryFrame, mkF, argsToLocals, Value.category]; done) | rfl) ?_
  intro X vm T w
  refine w.aloadN (q := 1) d10_0 rfl rfl rfl ?_
  refine w.nnY (q := 13) d10_1 (by decide) (by decide) ?_
  refine w.aloadN (q := 14) d10_13 rfl rfl rfl ?_
  exact w.retA d10_14 (t := (.object "java/lang/Object")) rfl rfl rfl (by decide) (by decide) ⟨_, rfl, ⟨rfl, rfl⟩⟩
theorem d11_0 : decode jdk_22_method_1_code 0 = .ok (.aload_n 0, 1) := by decide +kernel
theorem d11_1 : decode jdk_22_method_1_code 1 = .ok (.invokespecial 1, 3) := by decide +kernel
theorem d11_4 : decode jdk_22_method_1_code 4 = .ok (.return_, 1) := by decide +kernel
theorem pn12 : plainName "java/util/AbstractCollection" = true := by first | (simp [plainName, overriddenIn]; done) | decide +kernel
set_option maxRecDepth 65536 in
set_option maxHeartbeats 40000000 in
theorem con_ac (G : Gx) (H : Hyp G) (a : Nat) (h : Heap) (ho : Old G.Z G.n0 h)  :
    Con G (⟨"java/util/AbstractCollection", "<init>", "()V"⟩ : MethodName) jdk_22_method_1_code 1 none [] ({ frames := 1, cells := 0, slots := 0, locals := 12 } : Room) #[(.ref a)] h (nQ fun h' => h = h') := by
  refine Con.intro H.el ho (plainFor_of_name pn12) (Ls := #[.val (.ref a)]) (fun m => by first | (simp [entryFrame, mkF, argsToLocals, Value.category]; done) | rfl) ?_
  intro X vm T w
  refine w.aloadN (q := 1) d11_0 rfl rfl rfl ?_
  refine w.initO (q := 4) (W := 0) d11_1 (H.tw 122 rfl) (H.tw 16 rfl) (H.tw 17 rfl) rfl (by decide) (Nat.le_of_eq rfl) (by decide) rfl fun T1 w1 => ?_
  exact w1.retV d11_4 rfl (by decide) (by decide) ⟨rfl, rfl⟩
theorem d13_0 : decode jdk_47_method_1_code 0 = .ok (.aload_n 0, 1) := by decide +kernel
theorem d13_1 : decode jdk_47_method_1_code 1 = .ok (.invokespecial 1, 3) := by decide +kernel
theorem pd14 : parseMethodDescriptor "()V" = some ⟨[], none⟩ := by decide +kernel
theorem d13_4 : decode jdk_47_method_1_code 4 = .ok (.return_, 1) := by decide +kernel
theorem pn15 : plainName "java/util/ImmutableCollections$AbstractImmutableCollection" = true := by first | (simp [plainName, overriddenIn]; done) | decide +kernel
set_option maxRecDepth 65536 in
set_option maxHeartbeats 40000000 in
theorem con_aic (G : Gx) (H : Hyp G) (a : Nat) (h : Heap) (ho : Old G.Z G.n0 h)  :
    Con G (⟨"java/util/ImmutableCollections$AbstractImmutableCollection", "<init>", "()V"⟩ : MethodName) jdk_47_method_1_code 1 none [] ({ frames := 2, cells := 0, slots := 0, locals := 24 } : Room) #[(.ref a)] h (nQ fun h' => h = h') := by
  refine Con.intro H.el ho (plainFor_of_name pn15) (Ls := #[.val (.ref a)]) (fun m => by first | (simp [entryFrame, mkF, argsToLocals, Value.category]; done) | rfl) ?_
  intro X vm T w
  refine w.aloadN (q := 1) d13_0 rfl rfl rfl ?_
  refine w.callC (q := 4) d13_1 rfl (H.tw 116 rfl) (H.tw 117 rfl) (H.tw 121 rfl) (by decide) (a := a) (argsL := []) (rest := []) rfl (lenOf pd14 rfl) rfl (W := 0) (Nat.le_of_eq rfl) ((con_ac G H a _ w.old).pay w (H.tw 121 rfl) (H.tw 120 rfl) (by decide) (by decide)) (by decide) (by decide) rfl fun vm1 T1 h1 v1 w1 q1 => ?_
  obtain ⟨rfl, rfl⟩ := q1
  show Go _ _ _ _ (T1.setTop (mkF X.m 4 #[.val (.ref a)] []))
  exact w1.retV d13_4 rfl (by decide) (by decide) ⟨rfl, rfl⟩
theorem d16_0 : decode jdk_46_method_1_code 0 = .ok (.aload_n 0, 1) := by decide +kernel
theorem d16_1 : decode jdk_46_method_1_code 1 = .ok (.invokespecial 1, 3) := by decide +kernel
theorem d16_4 : decode jdk_46_method_1_code 4 = .ok (.return_, 1) := by decide +kernel
theorem pn17 : plainName "java/util/ImmutableCollections$AbstractImmutableList" = true := by first | (simp [plainName, overriddenIn]; done) | decide +kernel
set_option maxRecDepth 65536 in
set_option maxHeartbeats 40000000 in
theorem con_ail (G : Gx) (H : Hyp G) (a : Nat) (h : Heap) (ho : Old G.Z G.n0 h)  :
    Con G (⟨"java/util/ImmutableCollections$AbstractImmutableList", "<init>", "()V"⟩ : MethodName) jdk_46_method_1_code 1 none [] ({ frames := 3, cells := 0, slots := 0, locals := 36 } : Room) #[(.ref a)] h (nQ fun h' => h = h') := by
  refine Con.intro H.el ho (plainFor_of_name pn17) (Ls := #[.val (.ref a)]) (fun m => by first | (simp [entryFrame, mkF, argsToLocals, Value.category]; done) | rfl) ?_
  intro X vm T w
  refine w.aloadN (q := 1) d16_0 rfl rfl rfl ?_
  refine w.callC (q := 4) d16_1 rfl (H.tw 110 rfl) (H.tw 111 rfl) (H.tw 115 rfl) (by decide) (a := a) (argsL := []) (rest := []) rfl (lenOf pd14 rfl) rfl (W := 0) (Nat.le_of_eq rfl) ((con_aic G H a _ w.old).pay w (H.tw 115 rfl) (H.tw 114 rfl) (by decide) (by decide)) (by decide) (by decide) rfl fun vm1 T1 h1 v1 w1 q1 => ?_
  obtain ⟨rfl, rfl⟩ := q1
  show Go _ _ _ _ (T1.setTop (mkF X.m 4 #[.val (.ref a)] []))
  exact w1.retV d16_4 rfl (by decide) (by decide) ⟨rfl, rfl⟩
theorem d18_0 : decode jdk_44_method_1_code 0 = .ok (.aload_n 0, 1) := by decide +kernel
theorem d18_1 : decode jdk_44_method_1_code 1 = .ok (.invokespecial 1, 3) := by decide +kernel
theorem d18_4 : decode jdk_44_method_1_code 4 = .ok (.aload_n 0, 1) := by decide +kernel
theorem d18_5 : decode jdk_44_method_1_code 5 = .ok (.aload_n 1, 1) := by decide +kernel
theorem d18_6 : decode jdk_44_method_1_code 6 = .ok (.invokestatic 7, 3) := by decide +kernel
theorem pd19 : parseMethodDescriptor "(Ljava/lang/Object;)Ljava/lang/Object;" = some ⟨[(.object "java/lang/Object")], some (.object "java/lang/Object")⟩ := by decide +kernel
theorem d18_9 : decode jdk_44_method_1_code 9 = .ok (.putfield 13, 3) := by decide +kernel
theorem d18_12 : decode jdk_44_method_1_code 12 = .ok (.aload_n 0, 1) := by decide +kernel
theorem d18_13 : decode jdk_44_method_1_code 13 = .ok (.getstatic 19, 3) := by decide +kernel
theorem d18_16 : decode jdk_44_method_1_code 16 = .ok (.putfield 24, 3) := by decide +kernel
theorem d18_19 : decode jdk_44_method_1_code 19 = .ok (.return_, 1) := by decide +kernel
theorem pn20 : plainName "java/util/ImmutableCollections$List12" = true := by first | (simp [plainName, overriddenIn]; done) | decide +kernel
set_option maxRecDepth 65536 in
set_option maxHeartbeats 40000000 in
theorem con_l1 (G : Gx) (H : Hyp G) (a x em : Nat) (Sem : Sta G.Z G.Z.heap "java/util/ImmutableCollections" "EMPTY" "Ljava/lang/Object;" (.ref em)) (h : Heap) (ho : Old G.Z G.n0 h) (E : Exa G.Z h a "java/util/ImmutableCollections$List12") (F0 : Fld G.Z h a "java/util/ImmutableCollections$List12" "e0" "Ljava/lang/Object;" .null) (F1 : Fld G.Z h a "java/util/ImmutableCollections$List12" "e1" "Ljava/lang/Object;" .null) (g : G.n0 ≤ a) :
    Con G (⟨"java/util/ImmutableCollections$List12", "<init>", "(Ljava/lang/Object;)V"⟩ : MethodName) jdk_44_method_1_code 2 none [] ({ frames := 4, cells := 0, slots := 0, locals := 48 } : Room) #[(.ref a), (.ref x)] h (nQ fun h' => Keep h h' [a] ∧ Exa G.Z h' a "java/util/ImmutableCollections$List12" ∧ Fld G.Z h' a "java/util/ImmutableCollections$List12" "e0" "Ljava/lang/Object;" (.ref x) ∧ Fld G.Z h' a "java/util/ImmutableCollections$List12" "e1" "Ljava/lang/Object;" (.ref em)) := by
  refine Con.intro H.el ho (plainFor_of_name pn20) (Ls := #[.val (.ref a), .val (.ref x)]) (fun m => by first | (simp [entryFrame, mkF, argsToLocals, Value.category]; done) | rfl) ?_
  intro X vm T w
  refine w.aloadN (q := 1) d18_0 rfl rfl rfl ?_
  refine w.callC (q := 4) d18_1 rfl (H.tw 146 rfl) (H.tw 105 rfl) (H.tw 109 rfl) (by decide) (a := a) (argsL := []) (rest := []) rfl (lenOf pd14 rfl) rfl (W := 0) (Nat.le_of_eq rfl) ((con_ail G H a h ho).pay w (H.tw 109 rfl) (H.tw 108 rfl) (by decide) (by decide)) (by decide) (by decide) rfl fun vm1 T1 h1 v1 w1 q1 => ?_
  obtain ⟨rfl, rfl⟩ := q1
  show Go _ _ _ _ (T1.setTop (mkF X.m 4 #[.val (.ref a), .val (.ref x)] []))
  refine w1.aloadN (q := 5) d18_4 rfl rfl rfl ?_
  refine w1.aloadN (q := 6) d18_5 rfl rfl rfl ?_
  refine w1.callS (q := 9) d18_6 (H.tw 150 rfl) (H.tw 95 rfl) (H.tw 44 rfl) (H.tw 96 rfl) (by decide) (argsL := [(.ref x)]) (rest := [(.ref a)]) rfl (lenOf pd19 rfl) rfl (W := 1) (Nat.le_of_eq rfl) ((con_rnn1 G H x h ho).pay w1 (H.tw 96 rfl) (H.tw 44 rfl) (by decide) (by decide)) (by decide) (by decide) rfl fun vm2 T2 h2 v2 w2 q2 => ?_
  obtain ⟨_, rfl, rfl, rfl⟩ := q2
  show Go _ _ _ _ (T2.setTop (mkF X.m 9 #[.val (.ref a), .val (.ref x)] [(.ref x), (.ref a)]))
  refine w2.putF (q := 12) d18_9 (H.tw 151 rfl) Via.refl F0 E (Or.inr ⟨(H.tw 152 rfl), rfl, rfl⟩) (H.tw 140 rfl) (ty := (.object "java/lang/Object")) (by decide) rfl rfl g (w2.sfE E (by decide) (by decide)) rfl fun T3 h3 w3 W3 sf3 => ?_
  have sz3 : h.size ≤ h3.size := (Keep.of_wr W3).1
  replace E := E.wr W3
  replace F1 := F1.other W3 (Or.inr (slot_ne (Or.inr (H.tw 154 rfl)) (Or.inr (H.tw 152 rfl)) (by decide) (t := (.object "java/lang/Object")) (t' := (.object "java/lang/Object")) (by decide) (by decide)))
  replace F0 := F0.same W3
  refine w3.aloadN (q := 13) d18_12 rfl rfl rfl ?_
  refine w3.getSN (q := 16) d18_13 (H.tw 161 rfl) Via.refl Sem rfl fun T4 w4 => ?_
  refine w4.putF (q := 19) d18_16 (H.tw 153 rfl) Via.refl F1 E (Or.inr ⟨(H.tw 154 rfl), rfl, rfl⟩) (H.tw 140 rfl) (ty := (.object "java/lang/Object")) (by decide) rfl rfl g (w4.sfE E (by decide) (by decide)) rfl fun T5 h5 w5 W5 sf5 => ?_
  have sz5 : h3.size ≤ h5.size := (Keep.of_wr W5).1
  replace E := E.wr W5
  replace F0 := F0.other W5 (Or.inr (slot_ne (Or.inr (H.tw 152 rfl)) (Or.inr (H.tw 154 rfl)) (by decide) (t := (.object "java/lang/Object")) (t' := (.object "java/lang/Object")) (by decide) (by decide)))
  replace F1 := F1.same W5
  exact w5.retV d18_19 rfl (by decide) (by decide) ⟨rfl, (Keep.of_wr W3).trans (Keep.of_wr W5) (fun x hx => Or.inl hx), E, F0, F1⟩
theorem d21_0 : decode jdk_44_method_2_code 0 = .ok (.aload_n 0, 1) := by decide +kernel
theorem d21_1 : decode jdk_44_method_2_code 1 = .ok (.invokespecial 1, 3) := by decide +kernel
theorem d21_4 : decode jdk_44_method_2_code 4 = .ok (.aload_n 0, 1) := by decide +kernel
theorem d21_5 : decode jdk_44_method_2_code 5 = .ok (.aload_n 1, 1) := by decide +kernel
theorem d21_6 : decode jdk_44_method_2_code 6 = .ok (.invokestatic 7, 3) := by decide +kernel
theorem d21_9 : decode jdk_44_method_2_code 9 = .ok (.putfield 13, 3) := by decide +kernel
theorem d21_12 : decode jdk_44_method_2_code 12 = .ok (.aload_n 0, 1) := by decide +kernel
theorem d21_13 : decode jdk_44_method_2_code 13 = .ok (.aload_n 2, 1) := by decide +kernel
theorem d21_14 : decode jdk_44_method_2_code 14 = .ok (.invokestatic 7, 3) := by decide +kernel
theorem d21_17 : decode jdk_44_method_2_code 17 = .ok (.putfield 24, 3) := by decide +kernel
theorem d21_20 : decode jdk_44_method_2_code 20 = .ok (.return_, 1) := by decide +kernel
set_option maxRecDepth 65536 in
set_option maxHeartbeats 40000000 in
theorem con_l2 (G : Gx) (H : Hyp G) (a x y : Nat) (h : Heap) (ho : Old G.Z G.n0 h) (E : Exa G.Z h a "java/util/ImmutableCollections$List12") (F0 : Fld G.Z h a "java/util/ImmutableCollections$List12" "e0" "Ljava/lang/Object;" .null) (F1 : Fld G.Z h a "java/util/ImmutableCollections$List12" "e1" "Ljava/lang/Object;" .null) (g : G.n0 ≤ a) :
    Con G (⟨"java/util/ImmutableCollections$List12", "<init>", "(Ljava/lang/Object;Ljava/lang/Object;)V"⟩ : MethodName) jdk_44_method_2_code 3 none [] ({ frames := 4, cells := 0, slots := 0, locals := 48 } : Room) #[(.ref a), (.ref x), (.ref y)] h (nQ fun h' => Keep h h' [a] ∧ Exa G.Z h' a "java/util/ImmutableCollections$List12" ∧ Fld G.Z h' a "java/util/ImmutableCollections$List12" "e0" "Ljava/lang/Object;" (.ref x) ∧ Fld G.Z h' a "java/util/ImmutableCollections$List12" "e1" "Ljava/lang/Object;" (.ref y)) := by
  refine Con.intro H.el ho (plainFor_of_name pn20) (Ls := #[.val (.ref a), .val (.ref x), .val (.ref y)]) (fun m => by first | (simp [entryFrame, mkF, argsToLocals, Value.category]; done) | rfl) ?_
  intro X vm T w
  refine w.aloadN (q := 1) d21_0 rfl rfl rfl ?_
  refine w.callC (q := 4) d21_1 rfl (H.tw 146 rfl) (H.tw 105 rfl) (H.tw 109 rfl) (by decide) (a := a) (argsL := []) (rest := []) rfl (lenOf pd14 rfl) rfl (W := 0) (Nat.le_of_eq rfl) ((con_ail G H a h ho).pay w (H.tw 109 rfl) (H.tw 108 rfl) (by decide) (by decide)) (by decide) (by decide) rfl fun vm1 T1 h1 v1 w1 q1 => ?_
  obtain ⟨rfl, rfl⟩ := q1
  show Go _ _ _ _ (T1.setTop (mkF X.m 4 #[.val (.ref a), .val (.ref x), .val (.ref y)] []))
  refine w1.aloadN (q := 5) d21_4 rfl rfl rfl ?_
  refine w1.aloadN (q := 6) d21_5 rfl rfl rfl ?_
  refine w1.callS (q := 9) d21_6 (H.tw 150 rfl) (H.tw 95 rfl) (H.tw 44 rfl) (H.tw 96 rfl) (by decide) (argsL := [(.ref x)]) (rest := [(.ref a)]) rfl (lenOf pd19 rfl) rfl (W := 1) (Nat.le_of_eq rfl) ((con_rnn1 G H x h ho).pay w1 (H.tw 96 rfl) (H.tw 44 rfl) (by decide) (by decide)) (by decide) (by decide) rfl fun vm2 T2 h2 v2 w2 q2 => ?_
  obtain ⟨_, rfl, rfl, rfl⟩ := q2
  show Go _ _ _ _ (T2.setTop (mkF X.m 9 #[.val (.ref a), .val (.ref x), .val (.ref y)] [(.ref x), (.ref a)]))
  refine w2.putF (q := 12) d21_9 (H.tw 151 rfl) Via.refl F0 E (Or.inr ⟨(H.tw 152 rfl), rfl, rfl⟩) (H.tw 140 rfl) (ty := (.object "java/lang/Object")) (by decide) rfl rfl g (w2.sfE E (by decide) (by decide)) rfl fun T3 h3 w3 W3 sf3 => ?_
  have sz3 : h.size ≤ h3.size := (Keep.of_wr W3).1
  replace E := E.wr W3
  replace F1 := F1.other W3 (Or.inr (slot_ne (Or.inr (H.tw 154 rfl)) (Or.inr (H.tw 152 rfl)) (by decide) (t := (.object "java/lang/Object")) (t' := (.object "java/lang/Object")) (by decide) (by decide)))
  replace F0 := F0.same W3
  refine w3.aloadN (q := 13) d21_12 rfl rfl rfl ?_
  refine w3.aloadN (q := 14) d21_13 rfl rfl rfl ?_
  refine w3.callS (q := 17) d21_14 (H.tw 150 rfl) (H.tw 95 rfl) (H.tw 44 rfl) (H.tw 96 rfl) (by decide) (argsL := [(.ref y)]) (rest := [(.ref a)]) rfl (lenOf pd19 rfl) rfl (W := 1) (Nat.le_of_eq rfl) ((con_rnn1 G H y h3 w3.old).pay w3 (H.tw 96 rfl) (H.tw 44 rfl) (by decide) (by decide)) (by decide) (by decide) rfl fun vm4 T4 h4 v4 w4 q4 => ?_
  obtain ⟨_, rfl, rfl, rfl⟩ := q4
  show Go _ _ _ _ (T4.setTop (mkF X.m 17 #[.val (.ref a), .val (.ref x), .val (.ref y)] [(.ref y), (.ref a)]))
  refine w4.putF (q := 20) d21_17 (H.tw 153 rfl) Via.refl F1 E (Or.inr ⟨(H.tw 154 rfl), rfl, rfl⟩) (H.tw 140 rfl) (ty := (.object "java/lang/Object")) (by decide) rfl rfl g (w4.sfE E (by decide) (by decide)) rfl fun T5 h5 w5 W5 sf5 => ?_
  have sz5 : h3.size ≤ h5.size := (Keep.of_wr W5).1
  replace E := E.wr W5
  replace F0 := F0.other W5 (Or.inr (slot_ne (Or.inr (H.tw 152 rfl)) (Or.inr (H.tw 154 rfl)) (by decide) (t := (.object "java/lang/Object")) (t' := (.object "java/lang/Object")) (by decide) (by decide)))
  replace F1 := F1.same W5
  exact w5.retV d21_20 rfl (by decide) (by decide) ⟨rfl, (Keep.of_wr W3).trans (Keep.of_wr W5) (fun x hx => Or.inl hx), E, F0, F1⟩
theorem d22_0 : decode jdk_45_method_1_code 0 = .ok (.aload_n 0, 1) := by decide +kernel
theorem d22_1 : decode jdk_45_method_1_code 1 = .ok (.invokespecial 1, 3) := by decide +kernel
theorem d22_4 : decode jdk_45_method_1_code 4 = .ok (.aload_n 0, 1) := by decide +kernel
theorem d22_5 : decode jdk_45_method_1_code 5 = .ok (.aload_n 1, 1) := by decide +kernel
theorem d22_6 : decode jdk_45_method_1_code 6 = .ok (.putfield 7, 3) := by decide +kernel
theorem d22_9 : decode jdk_45_method_1_code 9 = .ok (.aload_n 0, 1) := by decide +kernel
theorem d22_10 : decode jdk_45_method_1_code 10 = .ok (.iload_n 2, 1) := by decide +kernel
theorem d22_11 : decode jdk_45_method_1_code 11 = .ok (.putfield 13, 3) := by decide +kernel
theorem d22_14 : decode jdk_45_method_1_code 14 = .ok (.return_, 1) := by decide +kernel
theorem pn23 : plainName "java/util/ImmutableCollections$ListN" = true := by first | (simp [plainName, overriddenIn]; done) | decide +kernel
set_option maxRecDepth 65536 in
set_option maxHeartbeats 40000000 in
theorem con_ln (G : Gx) (H : Hyp G) (a : Nat) (ar : Nat) (h : Heap) (ho : Old G.Z G.n0 h) (E : Exa G.Z h a "java/util/ImmutableCollections$ListN") (F_elements : Fld G.Z h a "java/util/ImmutableCollections$ListN" "elements" "[Ljava/lang/Object;" .null) (F_allowNulls : Fld G.Z h a "java/util/ImmutableCollections$ListN" "allowNulls" "Z" (.int (0 : Int32))) (g : G.n0 ≤ a)  :
    Con G (⟨"java/util/ImmutableCollections$ListN", "<init>", "([Ljava/lang/Object;Z)V"⟩ : MethodName) jdk_45_method_1_code 3 none [] ({ frames := 4, cells := 0, slots := 0, locals := 48 } : Room) #[(.ref a), (.ref ar), (.int (0 : Int32))] h (nQ fun h' => Keep h h' [a] ∧ Exa G.Z h' a "java/util/ImmutableCollections$ListN" ∧ Fld G.Z h' a "java/util/ImmutableCollections$ListN" "elements" "[Ljava/lang/Object;" (.ref ar) ∧ Fld G.Z h' a "java/util/ImmutableCollections$ListN" "allowNulls" "Z" (.int (0 : Int32))) := by
  refine Con.intro H.el ho (plainFor_of_name pn23) (Ls := #[.val (.ref a), .val (.ref ar), .val (.int (0 : Int32))]) (fun m => by first | (simp [entryFrame, mkF, argsToLocals, Value.category]; done) | rfl) ?_
  intro X vm T w
  refine w.aloadN (q := 1) d22_0 rfl rfl rfl ?_
  refine w.callC (q := 4) d22_1 rfl (H.tw 104 rfl) (H.tw 105 rfl) (H.tw 109 rfl) (by decide) (a := a) (argsL := []) (rest := []) rfl (lenOf pd14 rfl) rfl (W := 0) (Nat.le_of_eq rfl) ((con_ail G H a h ho).pay w (H.tw 109 rfl) (H.tw 108 rfl) (by decide) (by decide)) (by decide) (by decide) rfl fun vm1 T1 h1 v1 w1 q1 => ?_
  obtain ⟨rfl, rfl⟩ := q1
  show Go _ _ _ _ (T1.setTop (mkF X.m 4 #[.val (.ref a), .val (.ref ar), .val (.int (0 : Int32))] []))
  refine w1.aloadN (q := 5) d22_4 rfl rfl rfl ?_
  refine w1.aloadN (q := 6) d22_5 rfl rfl rfl ?_
  refine w1.putF (q := 9) d22_6 (H.tw 81 rfl) Via.refl F_elements E (Or.inr ⟨(H.tw 82 rfl), rfl, rfl⟩) (H.tw 99 rfl) (ty := (.array (.object "java/lang/Object"))) (by decide) rfl rfl g (w1.sfE E (by decide) (by decide)) rfl fun T2 h2 w2 W2 sf2 => ?_
  have sz2 : h.size ≤ h2.size := (Keep.of_wr W2).1
  replace E := E.wr W2
  replace F_elements := F_elements.same W2
  replace F_allowNulls := F_allowNulls.other W2 (Or.inr (slot_ne (Or.inr (H.tw 124 rfl)) (Or.inr (H.tw 82 rfl)) (by decide) (t := .boolean) (t' := (.array (.object "java/lang/Object"))) (by decide) (by decide)))
  refine w2.aloadN (q := 10) d22_9 rfl rfl rfl ?_
  refine w2.iloadN (q := 11) d22_10 rfl rfl ?_
  refine w2.putF (q := 14) d22_11 (H.tw 123 rfl) Via.refl F_allowNulls E (Or.inr ⟨(H.tw 124 rfl), rfl, rfl⟩) (H.tw 99 rfl) (ty := .boolean) (by decide) rfl rfl g (w2.sfE E (by decide) (by decide)) rfl fun T3 h3 w3 W3 sf3 => ?_
  have sz3 : h2.size ≤ h3.size := (Keep.of_wr W3).1
  replace E := E.wr W3
  replace F_elements := F_elements.other W3 (Or.inr (slot_ne (Or.inr (H.tw 82 rfl)) (Or.inr (H.tw 124 rfl)) (by decide) (t := (.array (.object "java/lang/Object"))) (t' := .boolean) (by decide) (by decide)))
  replace F_allowNulls := F_allowNulls.same W3
  exact w3.retV d22_14 rfl (by decide) (by decide) ⟨rfl, ((Keep.of_wr W2).trans (Keep.of_wr W3) (fun x hx => Or.inl hx)), E, F_elements, F_allowNulls⟩
theorem d24_0 : decode jdk_56_method_4_code 0 = .ok (.aload_n 0, 1) := by decide +kernel
theorem d24_1 : decode jdk_56_method_4_code 1 = .ok (.arraylength, 1) := by decide +kernel
theorem d24_2 : decode jdk_56_method_4_code 2 = .ok (.anewarray 2, 3) := by decide +kernel
theorem d24_5 : decode jdk_56_method_4_code 5 = .ok (.astore_n 1, 1) := by decide +kernel
theorem d24_6 : decode jdk_56_method_4_code 6 = .ok (.iconst 0, 1) := by decide +kernel
theorem d24_7 : decode jdk_56_method_4_code 7 = .ok (.istore_n 2, 1) := by decide +kernel
theorem d24_8 : decode jdk_56_method_4_code 8 = .ok (.iload_n 2, 1) := by decide +kernel
theorem d24_9 : decode jdk_56_method_4_code 9 = .ok (.aload_n 0, 1) := by decide +kernel
theorem d24_10 : decode jdk_56_method_4_code 10 = .ok (.arraylength, 1) := by decide +kernel
theorem d24_11 : decode jdk_56_method_4_code 11 = .ok (.if_icmp .ge 18, 3) := by decide +kernel
theorem d24_14 : decode jdk_56_method_4_code 14 = .ok (.aload_n 1, 1) := by decide +kernel
theorem d24_15 : decode jdk_56_method_4_code 15 = .ok (.iload_n 2, 1) := by decide +kernel
theorem d24_16 : decode jdk_56_method_4_code 16 = .ok (.aload_n 0, 1) := by decide +kernel
theorem d24_17 : decode jdk_56_method_4_code 17 = .ok (.iload_n 2, 1) := by decide +kernel
theorem d24_18 : decode jdk_56_method_4_code 18 = .ok (.aaload, 1) := by decide +kernel
theorem d24_19 : decode jdk_56_method_4_code 19 = .ok (.invokestatic 37, 3) := by decide +kernel
theorem d24_22 : decode jdk_56_method_4_code 22 = .ok (.aastore, 1) := by decide +kernel
theorem d24_23 : decode jdk_56_method_4_code 23 = .ok (.iinc 2 1, 3) := by decide +kernel
theorem d24_26 : decode jdk_56_method_4_code 26 = .ok (.goto (-18), 3) := by decide +kernel
theorem d24_29 : decode jdk_56_method_4_code 29 = .ok (.new 12, 3) := by decide +kernel
theorem d24_32 : decode jdk_56_method_4_code 32 = .ok (.dup, 1) := by decide +kernel
theorem d24_33 : decode jdk_56_method_4_code 33 = .ok (.aload_n 1, 1) := by decide +kernel
theorem d24_34 : decode jdk_56_method_4_code 34 = .ok (.iconst 0, 1) := by decide +kernel
theorem d24_35 : decode jdk_56_method_4_code 35 = .ok (.invokespecial 43, 3) := by decide +kernel
theorem pd25 : parseMethodDescriptor "([Ljava/lang/Object;Z)V" = some ⟨[(.array (.object "java/lang/Object")), .boolean], none⟩ := by decide +kernel
theorem d24_38 : decode jdk_56_method_4_code 38 = .ok (.areturn, 1) := by decide +kernel
theorem pn26 : plainName "java/util/ImmutableCollections" = true := by first | (simp [plainName, overriddenIn]; done) | decide +kernel
set_option maxRecDepth 65536 in
set_option maxHeartbeats 40000000 in
theorem con_lfa (G : Gx) (H : Hyp G) (ar s0 s1 s2 : Nat) (kc : ClassId) (h : Heap) (ho : Old G.Z G.n0 h) (A : Arv G.Z h ar kc (.object "java/lang/String") (3 : Int32) [.ref s0, .ref s1, .ref s2] .null) (Y_0 : Exa G.Z h s0 "java/lang/String") (Y_1 : Exa G.Z h s1 "java/lang/String") (Y_2 : Exa G.Z h s2 "java/lang/String") :
    Con G (⟨"java/util/ImmutableCollections", "listFromArray", "([Ljava/lang/Object;)Ljava/util/List;"⟩ : MethodName) jdk_56_method_4_code 3 (some (.object "java/util/List")) [] ({ frames := 5, cells := 2, slots := 5, locals := 63 } : Room) #[(.ref ar)] h (vQ fun v h' => ∃ (r el : Nat) (k2 : ClassId), v = .ref r ∧ Ext h h' ∧ h.size ≤ r ∧ h.size ≤ el ∧ Exa G.Z h' r "java/util/ImmutableCollections$ListN" ∧ Fld G.Z h' r "java/util/ImmutableCollections$ListN" "elements" "[Ljava/lang/Object;" (.ref el) ∧ Arv G.Z h' el k2 (.object "java/lang/Object") (3 : Int32) [.ref s0, .ref s1, .ref s2] .null) := by
  refine Con.intro H.el ho (plainFor_of_name pn26) (Ls := #[.val (.ref ar), .unset, .unset]) (fun m => by first | (simp [entryFrame, mkF, argsToLocals, Value.category]; done) | rfl) ?_
  intro X vm T w
  refine w.aloadN (q := 1) d24_0 rfl rfl rfl ?_
  refine w.alen (q := 2) d24_1 A rfl ?_
  refine w.newRX (q := 5) (ad := "[Ljava/lang/Object;") 3 d24_2 (H.tw 92 rfl) (H.tw 93 rfl) (by decide) (by decide) (by decide) (by decide) (by decide) (by decide) rfl fun T1 h1 b1 kc1 e1 w1 E1 A1 O1 Y1 => ?_
  replace A1 : Arv G.Z h1 b1 kc1 (.object "java/lang/Object") (3 : Int32) [.null, .null, .null] .null := A1.pad (pad_rep [] .null 3)
  have lt1 : b1 < h1.size := A1.lt
  have sz1 : h.size ≤ h1.size := E1.1
  have g1 : G.n0 ≤ b1 := by have := ho.2.1; have := ho.1; omega
  have lta : ar < h.size := A.lt
  replace A := A.ext E1
  have Y0 := Y_0.ext E1
  have Y1 := Y_1.ext E1
  have Y2 := Y_2.ext E1
  refine w1.astoreN (q := 6) (L2 := #[.val (.ref ar), .val (.ref b1), .unset]) d24_5 rfl rfl rfl ?_
  refine w1.iconst (q := 7) (0 : Int32) d24_6 rfl rfl ?_
  refine w1.istoreN (q := 8) (L2 := #[.val (.ref ar), .val (.ref b1), .val (.int (0 : Int32))]) d24_7 rfl rfl ?_
  refine w1.iloadN (q := 9) d24_8 rfl rfl ?_
  refine w1.aloadN (q := 10) d24_9 rfl rfl rfl ?_
  refine w1.alen (q := 11) d24_10 A rfl ?_
  refine w1.icN (q := 14) d24_11 ((tlt (by decide)).2.1) rfl ?_
  refine w1.aloadN (q := 15) d24_14 rfl rfl rfl ?_
  refine w1.iloadN (q := 16) d24_15 rfl rfl ?_
  refine w1.aloadN (q := 17) d24_16 rfl rfl rfl ?_
  refine w1.iloadN (q := 18) d24_17 rfl rfl ?_
  refine w1.aaload (q := 19) (v := (.ref s0)) d24_18 A rfl ⟨by decide, by decide⟩ rfl rfl ?_
  refine w1.callS (q := 22) d24_19 (H.tw 94 rfl) (H.tw 95 rfl) (H.tw 44 rfl) (H.tw 96 rfl) (by decide) (argsL := [(.ref s0)]) (rest := [(.int (0 : Int32)), (.ref b1)]) rfl (lenOf pd19 rfl) rfl (W := 2) (Nat.le_of_eq rfl) ((con_rnn1 G H s0 h1 w1.old).pay w1 (H.tw 96 rfl) (H.tw 44 rfl) (by decide) (by decide)) (by decide) (by decide) rfl fun vm2 T2 h2 v2 w2 q2 => ?_
  obtain ⟨_, rfl, rfl, rfl⟩ := q2
  show Go _ _ _ _ (T2.setTop (mkF X.m 22 #[.val (.ref ar), .val (.ref b1), .val (.int (0 : Int32))] [(.ref s0), (.int (0 : Int32)), (.ref b1)]))
  refine w2.aastore (q := 23) 0 d24_22 A1 rfl (arv_sto A1 O1 (Ins.of_exa Y0 (H.tw 97 rfl))) rfl g1 ⟨by decide, by decide⟩ rfl (Nat.le_of_ble_eq_true rfl) rfl fun T3 h3 w3 K3 A3 => ?_
  have sz3 : h1.size ≤ h3.size := K3.1
  replace A := A.keep K3 (nin1 (by omega))
  replace Y0 := Y0.keep K3
  replace Y1 := Y1.keep K3
  replace Y2 := Y2.keep K3
  refine w3.iinc (q := 26) (L2 := #[.val (.ref ar), .val (.ref b1), .val (.int ((0 : Int32) + (1 : Int32)))]) (1 : Int32) d24_23 rfl rfl rfl rfl ?_
  refine w3.goto (q := 8) d24_26 (by decide) (by decide) ?_
  show Go _ _ _ _ (T3.setTop (mkF X.m 8 #[.val (.ref ar), .val (.ref b1), .val (.int (1 : Int32))] []))
  refine w3.iloadN (q := 9) d24_8 rfl rfl ?_
  refine w3.aloadN (q := 10) d24_9 rfl rfl rfl ?_
  refine w3.alen (q := 11) d24_10 A rfl ?_
  refine w3.icN (q := 14) d24_11 ((tlt (by decide)).2.1) rfl ?_
  refine w3.aloadN (q := 15) d24_14 rfl rfl rfl ?_
  refine w3.iloadN (q := 16) d24_15 rfl rfl ?_
  refine w3.aloadN (q := 17) d24_16 rfl rfl rfl ?_
  refine w3.iloadN (q := 18) d24_17 rfl rfl ?_
  refine w3.aaload (q := 19) (v := (.ref s1)) d24_18 A rfl ⟨by decide, by decide⟩ rfl rfl ?_
  refine w3.callS (q := 22) d24_19 (H.tw 94 rfl) (H.tw 95 rfl) (H.tw 44 rfl) (H.tw 96 rfl) (by decide) (argsL := [(.ref s1)]) (rest := [(.int (1 : Int32)), (.ref b1)]) rfl (lenOf pd19 rfl) rfl (W := 2) (Nat.le_of_eq rfl) ((con_rnn1 G H s1 h3 w3.old).pay w3 (H.tw 96 rfl) (H.tw 44 rfl) (by decide) (by decide)) (by decide) (by decide) rfl fun vm4 T4 h4 v4 w4 q4 => ?_
  obtain ⟨_, rfl, rfl, rfl⟩ := q4
  show Go _ _ _ _ (T4.setTop (mkF X.m 22 #[.val (.ref ar), .val (.ref b1), .val (.int (1 : Int32))] [(.ref s1), (.int (1 : Int32)), (.ref b1)]))
  refine w4.aastore (q := 23) 1 d24_22 A3 rfl (arv_sto A3 O1 (Ins.of_exa Y1 (H.tw 97 rfl))) rfl g1 ⟨by decide, by decide⟩ rfl (Nat.le_of_ble_eq_true rfl) rfl fun T5 h5 w5 K5 A5 => ?_
  have sz5 : h3.size ≤ h5.size := K5.1
  replace A := A.keep K5 (nin1 (by omega))
  replace Y0 := Y0.keep K5
  replace Y1 := Y1.keep K5
  replace Y2 := Y2.keep K5
  refine w5.iinc (q := 26) (L2 := #[.val (.ref ar), .val (.ref b1), .val (.int ((1 : Int32) + (1 : Int32)))]) (1 : Int32) d24_23 rfl rfl rfl rfl ?_
  refine w5.goto (q := 8) d24_26 (by decide) (by decide) ?_
  show Go _ _ _ _ (T5.setTop (mkF X.m 8 #[.val (.ref ar), .val (.ref b1), .val (.int (2 : Int32))] []))
  refine w5.iloadN (q := 9) d24_8 rfl rfl ?_
  refine w5.aloadN (q := 10) d24_9 rfl rfl rfl ?_
  refine w5.alen (q := 11) d24_10 A rfl ?_
  refine w5.icN (q := 14) d24_11 ((tlt (by decide)).2.1) rfl ?_
  refine w5.aloadN (q := 15) d24_14 rfl rfl rfl ?_
  refine w5.iloadN (q := 16) d24_15 rfl rfl ?_
  refine w5.aloadN (q := 17) d24_16 rfl rfl rfl ?_
  refine w5.iloadN (q := 18) d24_17 rfl rfl ?_
  refine w5.aaload (q := 19) (v := (.ref s2)) d24_18 A rfl ⟨by decide, by decide⟩ rfl rfl ?_
  refine w5.callS (q := 22) d24_19 (H.tw 94 rfl) (H.tw 95 rfl) (H.tw 44 rfl) (H.tw 96 rfl) (by decide) (argsL := [(.ref s2)]) (rest := [(.int (2 : Int32)), (.ref b1)]) rfl (lenOf pd19 rfl) rfl (W := 2) (Nat.le_of_eq rfl) ((con_rnn1 G H s2 h5 w5.old).pay w5 (H.tw 96 rfl) (H.tw 44 rfl) (by decide) (by decide)) (by decide) (by decide) rfl fun vm6 T6 h6 v6 w6 q6 => ?_
  obtain ⟨_, rfl, rfl, rfl⟩ := q6
  show Go _ _ _ _ (T6.setTop (mkF X.m 22 #[.val (.ref ar), .val (.ref b1), .val (.int (2 : Int32))] [(.ref s2), (.int (2 : Int32)), (.ref b1)]))
  refine w6.aastore (q := 23) 2 d24_22 A5 rfl (arv_sto A5 O1 (Ins.of_exa Y2 (H.tw 97 rfl))) rfl g1 ⟨by decide, by decide⟩ rfl (Nat.le_of_ble_eq_true rfl) rfl fun T7 h7 w7 K7 A7 => ?_
  have sz7 : h5.size ≤ h7.size := K7.1
  replace A := A.keep K7 (nin1 (by omega))
  replace Y0 := Y0.keep K7
  replace Y1 := Y1.keep K7
  replace Y2 := Y2.keep K7
  refine w7.iinc (q := 26) (L2 := #[.val (.ref ar), .val (.ref b1), .val (.int ((2 : Int32) + (1 : Int32)))]) (1 : Int32) d24_23 rfl rfl rfl rfl ?_
  refine w7.goto (q := 8) d24_26 (by decide) (by decide) ?_
  show Go _ _ _ _ (T7.setTop (mkF X.m 8 #[.val (.ref ar), .val (.ref b1), .val (.int (3 : Int32))] []))
  refine w7.iloadN (q := 9) d24_8 rfl rfl ?_
  refine w7.aloadN (q := 10) d24_9 rfl rfl rfl ?_
  refine w7.alen (q := 11) d24_10 A rfl ?_
  refine w7.icY (q := 29) d24_11 ((flt (by decide)).2.1) (by decide) (by decide) ?_
  refine w7.newO (q := 32) d24_29 (H.tw 98 rfl) (H.tw 99 rfl) (H.tw 79 rfl) (by decide) (by decide) rfl fun T8 h8 b8 e8 w8 E8 A8 D8 U8 => ?_
  have lt8 : b8 < h8.size := A8.lt
  have sz8 : h7.size ≤ h8.size := E8.1
  have F8_elements : Fld G.Z h8 b8 "java/util/ImmutableCollections$ListN" "elements" "[Ljava/lang/Object;" .null := D8 (Or.inr (H.tw 82 rfl)) (ty := (.array (.object "java/lang/Object"))) (by decide)
  have F8_allowNulls : Fld G.Z h8 b8 "java/util/ImmutableCollections$ListN" "allowNulls" "Z" (.int (0 : Int32)) := D8 (Or.inr (H.tw 124 rfl)) (ty := .boolean) (by decide)
  have g8 : G.n0 ≤ b8 := by omega
  replace A7 := A7.ext E8
  refine w8.dup (q := 33) d24_32 rfl rfl ?_
  refine w8.aloadN (q := 34) d24_33 rfl rfl rfl ?_
  refine w8.iconst (q := 35) (0 : Int32) d24_34 rfl rfl ?_
  refine w8.callCN (q := 38) d24_35 rfl (H.tw 100 rfl) (H.tw 101 rfl) (H.tw 103 rfl) (by decide) (a := b8) (argsL := [(.ref b1), (.int (0 : Int32))]) (rest := [(.ref b8)]) rfl (lenOf pd25 rfl) rfl (W := 1) (Nat.le_of_eq rfl) ((con_ln G H b8 b1 h8 w8.old A8 F8_elements F8_allowNulls g8).pay w8 (H.tw 103 rfl) (H.tw 79 rfl) (by decide) (by decide)) (by decide) (by decide) rfl fun vm9 T9 h9 v9 w9 q9 => ?_
  obtain ⟨rfl, K9, Y9, Fe9, -⟩ := q9
  show Go _ _ _ _ (T9.setTop (mkF X.m 38 #[.val (.ref ar), .val (.ref b1), .val (.int (3 : Int32))] [(.ref b8)]))
  replace A7 := A7.keep K9 (nin1 (by omega))
  have X9 : Ext h h9 := xkp (xtr (xkp (xkp (xkp E1 K3 (all1 (by omega))) K5 (all1 (by omega))) K7 (all1 (by omega))) E8) K9 (all1 (by omega))
  exact w9.retA d24_38 (t := (.object "java/util/List")) rfl rfl rfl (by decide) (by decide) ⟨_, rfl, b8, b1, kc1, rfl, X9, by omega, by omega, Y9, Fe9, A7⟩
theorem d27_0 : decode jdk_40_method_47_code 0 = .ok (.aload_n 0, 1) := by decide +kernel
theorem d27_1 : decode jdk_40_method_47_code 1 = .ok (.arraylength, 1) := by decide +kernel
theorem d27_2 : decode jdk_40_method_47_code 2 = .ok (.tableswitch 57 0 2 #[26, 32, 43], 26) := by decide +kernel
theorem d27_28 : decode jdk_40_method_47_code 28 = .ok (.getstatic 90, 3) := by decide +kernel
theorem d27_31 : decode jdk_40_method_47_code 31 = .ok (.astore_n 1, 1) := by decide +kernel
theorem d27_32 : decode jdk_40_method_47_code 32 = .ok (.aload_n 1, 1) := by decide +kernel
theorem d27_33 : decode jdk_40_method_47_code 33 = .ok (.areturn, 1) := by decide +kernel
theorem pn28 : plainName "java/util/List" = true := by first | (simp [plainName, overriddenIn]; done) | decide +kernel
set_option maxRecDepth 65536 in
set_option maxHeartbeats 40000000 in
theorem con_of0 (G : Gx) (H : Hyp G) (ar  : Nat) (kc : ClassId) (el0 : Nat) (Sel : Sta G.Z G.Z.heap "java/util/ImmutableCollections" "EMPTY_LIST" "Ljava/util/ImmutableCollections$ListN;" (.ref el0)) (h : Heap) (ho : Old G.Z G.n0 h) (A : Arv G.Z h ar kc (.object "java/lang/String") (0 : Int32) [] .null)  :
    Con G (⟨"java/util/List", "of", "([Ljava/lang/Object;)Ljava/util/List;"⟩ : MethodName) jdk_40_method_47_code 2 (some (.object "java/util/List")) [] ({ frames := 0, cells := 0, slots := 0, locals := 0 } : Room) #[(.ref ar)] h (vQ fun v h' => ∃ l : Nat, v = .ref l ∧ Ext h h' ∧ el0 = l) := by
  refine Con.intro H.el ho (plainFor_of_name pn28) (Ls := #[.val (.ref ar), .unset]) (fun m => by first | (simp [entryFrame, mkF, argsToLocals, Value.category]; done) | rfl) ?_
  intro X vm T w
  refine w.aloadN (q := 1) d27_0 rfl rfl rfl ?_
  refine w.alen (q := 2) d27_1 A rfl ?_
  refine w.tswI (q := 28) d27_2 (by decide) rfl (by decide) (by decide) ?_
  refine w.getS (q := 31) d27_28 (H.tw 52 rfl) Via.refl Sel rfl fun T1 w1 => ?_
  refine w1.astoreN (q := 32) (L2 := #[.val (.ref ar), .val (.ref el0)]) d27_31 rfl rfl rfl ?_
  refine w1.aloadN (q := 33) d27_32 rfl rfl rfl ?_
  exact w1.retA d27_33 (t := (.object "java/util/List")) rfl rfl rfl (by decide) (by decide) ⟨_, rfl, el0, rfl, xrfl _, rfl⟩
theorem d27_34 : decode jdk_40_method_47_code 34 = .ok (.new 96, 3) := by decide +kernel
theorem d27_37 : decode jdk_40_method_47_code 37 = .ok (.dup, 1) := by decide +kernel
theorem d27_38 : decode jdk_40_method_47_code 38 = .ok (.aload_n 0, 1) := by decide +kernel
theorem d27_39 : decode jdk_40_method_47_code 39 = .ok (.iconst 0, 1) := by decide +kernel
theorem d27_40 : decode jdk_40_method_47_code 40 = .ok (.aaload, 1) := by decide +kernel
theorem d27_41 : decode jdk_40_method_47_code 41 = .ok (.invokespecial 98, 3) := by decide +kernel
theorem pd29 : parseMethodDescriptor "(Ljava/lang/Object;)V" = some ⟨[(.object "java/lang/Object")], none⟩ := by decide +kernel
theorem d27_44 : decode jdk_40_method_47_code 44 = .ok (.areturn, 1) := by decide +kernel
set_option maxRecDepth 65536 in
set_option maxHeartbeats 40000000 in
theorem con_of1 (G : Gx) (H : Hyp G) (ar s0 : Nat) (kc : ClassId) (em0 : Nat) (Sem : Sta G.Z G.Z.heap "java/util/ImmutableCollections" "EMPTY" "Ljava/lang/Object;" (.ref em0)) (h : Heap) (ho : Old G.Z G.n0 h) (A : Arv G.Z h ar kc (.object "java/lang/String") (1 : Int32) [.ref s0] .null) (Y_0 : Exa G.Z h s0 "java/lang/String") :
    Con G (⟨"java/util/List", "of", "([Ljava/lang/Object;)Ljava/util/List;"⟩ : MethodName) jdk_40_method_47_code 2 (some (.object "java/util/List")) [] ({ frames := 5, cells := 1, slots := 2, locals := 62 } : Room) #[(.ref ar)] h (vQ fun v h' => ∃ l : Nat, v = .ref l ∧ Ext h h' ∧ h.size ≤ l ∧ Exa G.Z h' l "java/util/ImmutableCollections$List12" ∧ Fld G.Z h' l "java/util/ImmutableCollections$List12" "e0" "Ljava/lang/Object;" (.ref s0) ∧ Fld G.Z h' l "java/util/ImmutableCollections$List12" "e1" "Ljava/lang/Object;" (.ref em0)) := by
  refine Con.intro H.el ho (plainFor_of_name pn28) (Ls := #[.val (.ref ar), .unset]) (fun m => by first | (simp [entryFrame, mkF, argsToLocals, Value.category]; done) | rfl) ?_
  intro X vm T w
  refine w.aloadN (q := 1) d27_0 rfl rfl rfl ?_
  refine w.alen (q := 2) d27_1 A rfl ?_
  refine w.tswI (q := 34) d27_2 (by decide) rfl (by decide) (by decide) ?_
  refine w.newO (q := 37) d27_34 (H.tw 139 rfl) (H.tw 140 rfl) (H.tw 141 rfl) (by decide) (by decide) rfl fun T1 h1 b1 e1 w1 E1 A1 D1 U1 => ?_
  have lt1 : b1 < h1.size := A1.lt
  have sz1 : h.size ≤ h1.size := E1.1
  have F1_e0 : Fld G.Z h1 b1 "java/util/ImmutableCollections$List12" "e0" "Ljava/lang/Object;" .null := D1 (Or.inr (H.tw 152 rfl)) (ty := (.object "java/lang/Object")) (by decide)
  have F1_e1 : Fld G.Z h1 b1 "java/util/ImmutableCollections$List12" "e1" "Ljava/lang/Object;" .null := D1 (Or.inr (H.tw 154 rfl)) (ty := (.object "java/lang/Object")) (by decide)
  have g1 : G.n0 ≤ b1 := by have := ho.2.1; have := ho.1; omega
  replace A := A.ext E1
  refine w1.dup (q := 38) d27_37 rfl rfl ?_
  refine w1.aloadN (q := 39) d27_38 rfl rfl rfl ?_
  refine w1.iconst (q := 40) (0 : Int32) d27_39 rfl rfl ?_
  refine w1.aaload (q := 41) (v := (.ref s0)) d27_40 A rfl ⟨by decide, by decide⟩ rfl rfl ?_
  refine w1.callC (q := 44) d27_41 rfl (H.tw 167 rfl) (H.tw 168 rfl) (H.tw 169 rfl) (by decide) (a := b1) (argsL := [(.ref s0)]) (rest := [(.ref b1)]) rfl (lenOf pd29 rfl) rfl (W := 1) (Nat.le_of_eq rfl) ((con_l1 G H b1 s0 em0 Sem h1 w1.old A1 F1_e0 F1_e1 g1).pay w1 (H.tw 169 rfl) (H.tw 141 rfl) (by decide) (by decide)) (by decide) (by decide) rfl fun vm2 T2 h2 v2 w2 q2 => ?_
  obtain ⟨rfl, K2, Y2, P0, P1⟩ := q2
  show Go _ _ _ _ (T2.setTop (mkF X.m 44 #[.val (.ref ar), .unset] [(.ref b1)]))
  have X2 : Ext h h2 := xkp E1 K2 (all1 (by omega))
  exact w2.retA d27_44 (t := (.object "java/util/List")) rfl rfl rfl (by decide) (by decide) ⟨_, rfl, b1, rfl, X2, by omega, Y2, P0, P1⟩
theorem d27_45 : decode jdk_40_method_47_code 45 = .ok (.new 96, 3) := by decide +kernel
theorem d27_48 : decode jdk_40_method_47_code 48 = .ok (.dup, 1) := by decide +kernel
theorem d27_49 : decode jdk_40_method_47_code 49 = .ok (.aload_n 0, 1) := by decide +kernel
theorem d27_50 : decode jdk_40_method_47_code 50 = .ok (.iconst 0, 1) := by decide +kernel
theorem d27_51 : decode jdk_40_method_47_code 51 = .ok (.aaload, 1) := by decide +kernel
theorem d27_52 : decode jdk_40_method_47_code 52 = .ok (.aload_n 0, 1) := by decide +kernel
theorem d27_53 : decode jdk_40_method_47_code 53 = .ok (.iconst 1, 1) := by decide +kernel
theorem d27_54 : decode jdk_40_method_47_code 54 = .ok (.aaload, 1) := by decide +kernel
theorem d27_55 : decode jdk_40_method_47_code 55 = .ok (.invokespecial 100, 3) := by decide +kernel
theorem pd30 : parseMethodDescriptor "(Ljava/lang/Object;Ljava/lang/Object;)V" = some ⟨[(.object "java/lang/Object"), (.object "java/lang/Object")], none⟩ := by decide +kernel
theorem d27_58 : decode jdk_40_method_47_code 58 = .ok (.areturn, 1) := by decide +kernel
set_option maxRecDepth 65536 in
set_option maxHeartbeats 40000000 in
theorem con_of2 (G : Gx) (H : Hyp G) (ar s0 s1 : Nat) (kc : ClassId) (h : Heap) (ho : Old G.Z G.n0 h) (A : Arv G.Z h ar kc (.object "java/lang/String") (2 : Int32) [.ref s0, .ref s1] .null) (Y_0 : Exa G.Z h s0 "java/lang/String") (Y_1 : Exa G.Z h s1 "java/lang/String") :
    Con G (⟨"java/util/List", "of", "([Ljava/lang/Object;)Ljava/util/List;"⟩ : MethodName) jdk_40_method_47_code 2 (some (.object "java/util/List")) [] ({ frames := 5, cells := 1, slots := 2, locals := 63 } : Room) #[(.ref ar)] h (vQ fun v h' => ∃ l : Nat, v = .ref l ∧ Ext h h' ∧ h.size ≤ l ∧ Exa G.Z h' l "java/util/ImmutableCollections$List12" ∧ Fld G.Z h' l "java/util/ImmutableCollections$List12" "e0" "Ljava/lang/Object;" (.ref s0) ∧ Fld G.Z h' l "java/util/ImmutableCollections$List12" "e1" "Ljava/lang/Object;" (.ref s1)) := by
  refine Con.intro H.el ho (plainFor_of_name pn28) (Ls := #[.val (.ref ar), .unset]) (fun m => by first | (simp [entryFrame, mkF, argsToLocals, Value.category]; done) | rfl) ?_
  intro X vm T w
  refine w.aloadN (q := 1) d27_0 rfl rfl rfl ?_
  refine w.alen (q := 2) d27_1 A rfl ?_
  refine w.tswI (q := 45) d27_2 (by decide) rfl (by decide) (by decide) ?_
  refine w.newO (q := 48) d27_45 (H.tw 139 rfl) (H.tw 140 rfl) (H.tw 141 rfl) (by decide) (by decide) rfl fun T1 h1 b1 e1 w1 E1 A1 D1 U1 => ?_
  have lt1 : b1 < h1.size := A1.lt
  have sz1 : h.size ≤ h1.size := E1.1
  have F1_e0 : Fld G.Z h1 b1 "java/util/ImmutableCollections$List12" "e0" "Ljava/lang/Object;" .null := D1 (Or.inr (H.tw 152 rfl)) (ty := (.object "java/lang/Object")) (by decide)
  have F1_e1 : Fld G.Z h1 b1 "java/util/ImmutableCollections$List12" "e1" "Ljava/lang/Object;" .null := D1 (Or.inr (H.tw 154 rfl)) (ty := (.object "java/lang/Object")) (by decide)
  have g1 : G.n0 ≤ b1 := by have := ho.2.1; have := ho.1; omega
  replace A := A.ext E1
  refine w1.dup (q := 49) d27_48 rfl rfl ?_
  refine w1.aloadN (q := 50) d27_49 rfl rfl rfl ?_
  refine w1.iconst (q := 51) (0 : Int32) d27_50 rfl rfl ?_
  refine w1.aaload (q := 52) (v := (.ref s0)) d27_51 A rfl ⟨by decide, by decide⟩ rfl rfl ?_
  refine w1.aloadN (q := 53) d27_52 rfl rfl rfl ?_
  refine w1.iconst (q := 54) (1 : Int32) d27_53 rfl rfl ?_
  refine w1.aaload (q := 55) (v := (.ref s1)) d27_54 A rfl ⟨by decide, by decide⟩ rfl rfl ?_
  refine w1.callC (q := 58) d27_55 rfl (H.tw 142 rfl) (H.tw 143 rfl) (H.tw 145 rfl) (by decide) (a := b1) (argsL := [(.ref s0), (.ref s1)]) (rest := [(.ref b1)]) rfl (lenOf pd30 rfl) rfl (W := 1) (Nat.le_of_eq rfl) ((con_l2 G H b1 s0 s1 h1 w1.old A1 F1_e0 F1_e1 g1).pay w1 (H.tw 145 rfl) (H.tw 141 rfl) (by decide) (by decide)) (by decide) (by decide) rfl fun vm2 T2 h2 v2 w2 q2 => ?_
  obtain ⟨rfl, K2, Y2, P0, P1⟩ := q2
  show Go _ _ _ _ (T2.setTop (mkF X.m 58 #[.val (.ref ar), .unset] [(.ref b1)]))
  have X2 : Ext h h2 := xkp E1 K2 (all1 (by omega))
  exact w2.retA d27_58 (t := (.object "java/util/List")) rfl rfl rfl (by decide) (by decide) ⟨_, rfl, b1, rfl, X2, by omega, Y2, P0, P1⟩
theorem d27_59 : decode jdk_40_method_47_code 59 = .ok (.aload_n 0, 1) := by decide +kernel
theorem d27_60 : decode jdk_40_method_47_code 60 = .ok (.invokestatic 109, 3) := by decide +kernel
theorem pd31 : parseMethodDescriptor "([Ljava/lang/Object;)Ljava/util/List;" = some ⟨[(.array (.object "java/lang/Object"))], some (.object "java/util/List")⟩ := by decide +kernel
theorem d27_63 : decode jdk_40_method_47_code 63 = .ok (.areturn, 1) := by decide +kernel
set_option maxRecDepth 65536 in
set_option maxHeartbeats 40000000 in
theorem con_of3 (G : Gx) (H : Hyp G) (ar s0 s1 s2 : Nat) (kc : ClassId) (h : Heap) (ho : Old G.Z G.n0 h) (A : Arv G.Z h ar kc (.object "java/lang/String") (3 : Int32) [.ref s0, .ref s1, .ref s2] .null) (Y_0 : Exa G.Z h s0 "java/lang/String") (Y_1 : Exa G.Z h s1 "java/lang/String") (Y_2 : Exa G.Z h s2 "java/lang/String") :
    Con G (⟨"java/util/List", "of", "([Ljava/lang/Object;)Ljava/util/List;"⟩ : MethodName) jdk_40_method_47_code 2 (some (.object "java/util/List")) [] ({ frames := 6, cells := 2, slots := 5, locals := 77 } : Room) #[(.ref ar)] h (vQ fun v h' => ∃ l : Nat, v = .ref l ∧ Ext h h' ∧ h.size ≤ l ∧ Exa G.Z h' l "java/util/ImmutableCollections$ListN" ∧ ∃ (el : Nat) (k2 : ClassId), h.size ≤ el ∧ Fld G.Z h' l "java/util/ImmutableCollections$ListN" "elements" "[Ljava/lang/Object;" (.ref el) ∧ Arv G.Z h' el k2 (.object "java/lang/Object") (3 : Int32) [.ref s0, .ref s1, .ref s2] .null) := by
  refine Con.intro H.el ho (plainFor_of_name pn28) (Ls := #[.val (.ref ar), .unset]) (fun m => by first | (simp [entryFrame, mkF, argsToLocals, Value.category]; done) | rfl) ?_
  intro X vm T w
  refine w.aloadN (q := 1) d27_0 rfl rfl rfl ?_
  refine w.alen (q := 2) d27_1 A rfl ?_
  refine w.tswO (q := 59) d27_2 (by decide) (by decide) (by decide) ?_
  refine w.aloadN (q := 60) d27_59 rfl rfl rfl ?_
  refine w.callS (q := 63) d27_60 (H.tw 89 rfl) (H.tw 90 rfl) (H.tw 53 rfl) (H.tw 91 rfl) (by decide) (argsL := [(.ref ar)]) (rest := []) rfl (lenOf pd31 rfl) rfl (W := 0) (Nat.le_of_eq rfl) ((con_lfa G H ar s0 s1 s2 kc h ho A Y_0 Y_1 Y_2).pay w (H.tw 91 rfl) (H.tw 53 rfl) (by decide) (by decide)) (by decide) (by decide) rfl fun vm1 T1 h1 v1 w1 q1 => ?_
  obtain ⟨_, rfl, ⟨r, el, k2, rfl, X1, z1, z2, Y1, Fe, Ae⟩⟩ := q1
  show Go _ _ _ _ (T1.setTop (mkF X.m 63 #[.val (.ref ar), .unset] [(.ref r)]))
  exact w1.retA d27_63 (t := (.object "java/util/List")) rfl rfl rfl (by decide) (by decide) ⟨_, rfl, r, rfl, X1, z1, Y1, el, k2, z2, Fe, Ae⟩
theorem d32_0 : decode prog_5_method_1_code 0 = .ok (.aload_n 0, 1) := by decide +kernel
theorem d32_1 : decode prog_5_method_1_code 1 = .ok (.invokespecial 1, 3) := by decide +kernel
theorem d32_4 : decode prog_5_method_1_code 4 = .ok (.aload_n 0, 1) := by decide +kernel
theorem d32_5 : decode prog_5_method_1_code 5 = .ok (.aload_n 1, 1) := by decide +kernel
theorem d32_6 : decode prog_5_method_1_code 6 = .ok (.putfield 7, 3) := by decide +kernel
theorem d32_9 : decode prog_5_method_1_code 9 = .ok (.aload_n 0, 1) := by decide +kernel
theorem d32_10 : decode prog_5_method_1_code 10 = .ok (.iload_n 2, 1) := by decide +kernel
theorem d32_11 : decode prog_5_method_1_code 11 = .ok (.putfield 13, 3) := by decide +kernel
theorem d32_14 : decode prog_5_method_1_code 14 = .ok (.aload_n 0, 1) := by decide +kernel
theorem d32_15 : decode prog_5_method_1_code 15 = .ok (.aload_n 3, 1) := by decide +kernel
theorem d32_16 : decode prog_5_method_1_code 16 = .ok (.putfield 17, 3) := by decide +kernel
theorem d32_19 : decode prog_5_method_1_code 19 = .ok (.return_, 1) := by decide +kernel
theorem pn33 : plainName "com/example/scodi/scodi/FilterRoute" = true := by first | (simp [plainName, overriddenIn]; done) | decide +kernel
set_option maxRecDepth 65536 in
set_option maxHeartbeats 40000000 in
theorem con_fr (G : Gx) (H : Hyp G) (a : Nat) (l : Nat) (h : Heap) (ho : Old G.Z G.n0 h) (E : Exa G.Z h a "com/example/scodi/scodi/FilterRoute") (F__scopes : Fld G.Z h a "com/example/scodi/scodi/FilterRoute" "_scopes" "Ljava/util/List;" .null) (F__ranking : Fld G.Z h a "com/example/scodi/scodi/FilterRoute" "_ranking" "I" (.int (0 : Int32))) (F__pattern : Fld G.Z h a "com/example/scodi/scodi/FilterRoute" "_pattern" "Ljava/lang/String;" .null) (g : G.n0 ≤ a)  :
    Con G (⟨"com/example/scodi/scodi/FilterRoute", "<init>", "(Ljava/util/List;ILjava/lang/String;)V"⟩ : MethodName) prog_5_method_1_code 4 none [] ({ frames := 1, cells := 0, slots := 0, locals := 12 } : Room) #[(.ref a), (.ref l), (.int (0 : Int32)), .null] h (nQ fun h' => Keep h h' [a] ∧ Exa G.Z h' a "com/example/scodi/scodi/FilterRoute" ∧ Fld G.Z h' a "com/example/scodi/scodi/FilterRoute" "_scopes" "Ljava/util/List;" (.ref l) ∧ Fld G.Z h' a "com/example/scodi/scodi/FilterRoute" "_ranking" "I" (.int (0 : Int32)) ∧ Fld G.Z h' a "com/example/scodi/scodi/FilterRoute" "_pattern" "Ljava/lang/String;" .null) := by
  refine Con.intro H.el ho (plainFor_of_name pn33) (Ls := #[.val (.ref a), .val (.ref l), .val (.int (0 : Int32)), .val .null]) (fun m => by first | (simp [entryFrame, mkF, argsToLocals, Value.category]; done) | rfl) ?_
  intro X vm T w
  refine w.aloadN (q := 1) d32_0 rfl rfl rfl ?_
  refine w.initO (q := 4) (W := 0) d32_1 (H.tw 59 rfl) (H.tw 16 rfl) (H.tw 17 rfl) rfl (by decide) (Nat.le_of_eq rfl) (by decide) rfl fun T1 w1 => ?_
  refine w1.aloadN (q := 5) d32_4 rfl rfl rfl ?_
  refine w1.aloadN (q := 6) d32_5 rfl rfl rfl ?_
  refine w1.putF (q := 9) d32_6 (H.tw 60 rfl) Via.refl F__scopes E (Or.inr ⟨(H.tw 61 rfl), rfl, rfl⟩) (H.tw 55 rfl) (ty := (.object "java/util/List")) (by decide) rfl rfl g (w1.sfE E (by decide) (by decide)) rfl fun T2 h2 w2 W2 sf2 => ?_
  have sz2 : h.size ≤ h2.size := (Keep.of_wr W2).1
  replace E := E.wr W2
  replace F__scopes := F__scopes.same W2
  replace F__ranking := F__ranking.other W2 (Or.inr (slot_ne (Or.inr (H.tw 63 rfl)) (Or.inr (H.tw 61 rfl)) (by decide) (t := .int) (t' := (.object "java/util/List")) (by decide) (by decide)))
  replace F__pattern := F__pattern.other W2 (Or.inr (slot_ne (Or.inr (H.tw 65 rfl)) (Or.inr (H.tw 61 rfl)) (by decide) (t := (.object "java/lang/String")) (t' := (.object "java/util/List")) (by decide) (by decide)))
  refine w2.aloadN (q := 10) d32_9 rfl rfl rfl ?_
  refine w2.iloadN (q := 11) d32_10 rfl rfl ?_
  refine w2.putF (q := 14) d32_11 (H.tw 62 rfl) Via.refl F__ranking E (Or.inr ⟨(H.tw 63 rfl), rfl, rfl⟩) (H.tw 55 rfl) (ty := .int) (by decide) rfl rfl g (w2.sfE E (by decide) (by decide)) rfl fun T3 h3 w3 W3 sf3 => ?_
  have sz3 : h2.size ≤ h3.size := (Keep.of_wr W3).1
  replace E := E.wr W3
  replace F__scopes := F__scopes.other W3 (Or.inr (slot_ne (Or.inr (H.tw 61 rfl)) (Or.inr (H.tw 63 rfl)) (by decide) (t := (.object "java/util/List")) (t' := .int) (by decide) (by decide)))
  replace F__ranking := F__ranking.same W3
  replace F__pattern := F__pattern.other W3 (Or.inr (slot_ne (Or.inr (H.tw 65 rfl)) (Or.inr (H.tw 63 rfl)) (by decide) (t := (.object "java/lang/String")) (t' := .int) (by decide) (by decide)))
  refine w3.aloadN (q := 15) d32_14 rfl rfl rfl ?_
  refine w3.aloadN (q := 16) d32_15 rfl rfl rfl ?_
  refine w3.putF (q := 19) d32_16 (H.tw 64 rfl) Via.refl F__pattern E (Or.inr ⟨(H.tw 65 rfl), rfl, rfl⟩) (H.tw 55 rfl) (ty := (.object "java/lang/String")) (by decide) rfl rfl g (w3.sfE E (by decide) (by decide)) rfl fun T4 h4 w4 W4 sf4 => ?_
  have sz4 : h3.size ≤ h4.size := (Keep.of_wr W4).1
  replace E := E.wr W4
  replace F__scopes := F__scopes.other W4 (Or.inr (slot_ne (Or.inr (H.tw 61 rfl)) (Or.inr (H.tw 65 rfl)) (by decide) (t := (.object "java/util/List")) (t' := (.object "java/lang/String")) (by decide) (by decide)))
  replace F__ranking := F__ranking.other W4 (Or.inr (slot_ne (Or.inr (H.tw 63 rfl)) (Or.inr (H.tw 65 rfl)) (by decide) (t := .int) (t' := (.object "java/lang/String")) (by decide) (by decide)))
  replace F__pattern := F__pattern.same W4
  exact w4.retV d32_19 rfl (by decide) (by decide) ⟨rfl, (((Keep.of_wr W2).trans (Keep.of_wr W3) (fun x hx => Or.inl hx)).trans (Keep.of_wr W4) (fun x hx => Or.inl hx)), E, F__scopes, F__ranking, F__pattern⟩
theorem d34_0 : decode prog_5_method_2_code 0 = .ok (.aload_n 0, 1) := by decide +kernel
theorem d34_1 : decode prog_5_method_2_code 1 = .ok (.ldc 21, 2) := by decide +kernel
theorem d34_3 : decode prog_5_method_2_code 3 = .ok (.invokestatic 23, 3) := by decide +kernel
theorem pd35 : parseMethodDescriptor "(Ljava/lang/Object;Ljava/lang/String;)Ljava/lang/Object;" = some ⟨[(.object "java/lang/Object"), (.object "java/lang/String")], some (.object "java/lang/Object")⟩ := by decide +kernel
theorem d34_6 : decode prog_5_method_2_code 6 = .ok (.checkcast 29, 3) := by decide +kernel
theorem d34_9 : decode prog_5_method_2_code 9 = .ok (.invokestatic 31, 3) := by decide +kernel
theorem d34_12 : decode prog_5_method_2_code 12 = .ok (.astore_n 1, 1) := by decide +kernel
theorem d34_13 : decode prog_5_method_2_code 13 = .ok (.new 8, 3) := by decide +kernel
theorem d34_16 : decode prog_5_method_2_code 16 = .ok (.dup, 1) := by decide +kernel
theorem d34_17 : decode prog_5_method_2_code 17 = .ok (.aload_n 1, 1) := by decide +kernel
theorem d34_18 : decode prog_5_method_2_code 18 = .ok (.iconst 0, 1) := by decide +kernel
theorem d34_19 : decode prog_5_method_2_code 19 = .ok (.aconst_null, 1) := by decide +kernel
theorem d34_20 : decode prog_5_method_2_code 20 = .ok (.invokespecial 37, 3) := by decide +kernel
theorem pd36 : parseMethodDescriptor "(Ljava/util/List;ILjava/lang/String;)V" = some ⟨[(.object "java/util/List"), .int, (.object "java/lang/String")], none⟩ := by decide +kernel
theorem d34_23 : decode prog_5_method_2_code 23 = .ok (.areturn, 1) := by decide +kernel
set_option maxRecDepth 65536 in
set_option maxHeartbeats 40000000 in
theorem con_for0 (G : Gx) (H : Hyp G) (ar  : Nat) (kc : ClassId) (el0 : Nat) (Sel : Sta G.Z G.Z.heap "java/util/ImmutableCollections" "EMPTY_LIST" "Ljava/util/ImmutableCollections$ListN;" (.ref el0)) (h : Heap) (ho : Old G.Z G.n0 h) (A : Arv G.Z h ar kc (.object "java/lang/String") (0 : Int32) [] .null)  (Y : Exa G.Z h ar "[Ljava/lang/String;") :
    Con G (⟨"com/example/scodi/scodi/FilterRoute", "forScopes", "([Ljava/lang/String;)Lcom/example/scodi/scodi/FilterRoute;"⟩ : MethodName) prog_5_method_2_code 2 (some (.object "com/example/scodi/scodi/FilterRoute")) [] ({ frames := 2, cells := 3, slots := 31, locals := 28 } : Room) #[(.ref ar)] h (vQ fun v h' => ∃ r l : Nat, v = .ref r ∧ Ext h h' ∧ h.size ≤ r ∧ Exa G.Z h' r "com/example/scodi/scodi/FilterRoute" ∧ Fld G.Z h' r "com/example/scodi/scodi/FilterRoute" "_scopes" "Ljava/util/List;" (.ref l) ∧ Fld G.Z h' r "com/example/scodi/scodi/FilterRoute" "_ranking" "I" (.int (0 : Int32)) ∧ el0 = l) := by
  refine Con.intro H.el ho (plainFor_of_name pn33) (Ls := #[.val (.ref ar), .unset]) (fun m => by first | (simp [entryFrame, mkF, argsToLocals, Value.category]; done) | rfl) ?_
  intro X vm T w
  refine w.aloadN (q := 1) d34_0 rfl rfl rfl ?_
  refine w.ldcS (q := 3) (sz := 24) (vs := [(.int (115 : Int32)), (.int (99 : Int32)), (.int (111 : Int32)), (.int (112 : Int32)), (.int (101 : Int32)), (.int (115 : Int32))]) (z := 6) d34_1 H.wd (H.tw 39 rfl) H.sa (H.mem (by decide)) ⟨by decide, rfl⟩ (by decide) rfl (by decide) (by decide) (by decide) (by decide) rfl fun vm1 T1 h1 a1 bb1 kb1 w1 X1 ch1 A1_1 A2_1 A3_1 A4_1 => ?_
  have sz1 : h.size ≤ h1.size := X1.1
  have S1 : StrAt G.Z h1 a1 0 [115, 99, 111, 112, 101, 115] := StrAt.lit _ A1_1 A2_1 A3_1 A4_1 rfl rfl (by decide) (by decide)
  refine w1.callS (q := 6) d34_3 (H.tw 42 rfl) (H.tw 43 rfl) (H.tw 44 rfl) (H.tw 45 rfl) (by decide) (argsL := [(.ref ar), (.ref a1)]) (rest := []) rfl (lenOf pd35 rfl) rfl (W := 0) (Nat.le_of_eq rfl) ((con_rnn2 G H ar a1 h1 w1.old).pay w1 (H.tw 45 rfl) (H.tw 44 rfl) (by decide) (by decide)) (by decide) (by decide) rfl fun vm2 T2 h2 v2 w2 q2 => ?_
  obtain ⟨_, rfl, rfl, rfl⟩ := q2
  show Go _ _ _ _ (T2.setTop (mkF X.m 6 #[.val (.ref ar), .unset] [(.ref ar)]))
  refine w2.castY (q := 9) d34_6 (H.tw 46 rfl) (Ins.self (Y.ext X1)) rfl fun T3 w3 => ?_
  refine w3.callS (q := 12) d34_9 (H.tw 48 rfl) (H.tw 49 rfl) (H.tw 50 rfl) (H.tw 51 rfl) (by decide) (argsL := [(.ref ar)]) (rest := []) rfl (lenOf pd31 rfl) rfl (W := 0) (Nat.le_of_eq rfl) ((con_of0 G H ar  kc el0 Sel h1 w3.old (A.ext X1) ).pay w3 (H.tw 51 rfl) (H.tw 50 rfl) (by decide) (by decide)) (by decide) (by decide) rfl fun vm4 T4 h4 v4 w4 q4 => ?_
  obtain ⟨_, rfl, ⟨l, rfl, X4, rfl⟩⟩ := q4
  show Go _ _ _ _ (T4.setTop (mkF X.m 12 #[.val (.ref ar), .unset] [(.ref el0)]))
  have szz4 := X4.1
  refine w4.astoreN (q := 13) (L2 := #[.val (.ref ar), .val (.ref el0)]) d34_12 rfl rfl rfl ?_
  refine w4.newO (q := 16) d34_13 (H.tw 54 rfl) (H.tw 55 rfl) (H.tw 37 rfl) (by decide) (by decide) rfl fun T5 h5 b5 e5 w5 E5 A5 D5 U5 => ?_
  have lt5 : b5 < h5.size := A5.lt
  have sz5 : h4.size ≤ h5.size := E5.1
  have F5__scopes : Fld G.Z h5 b5 "com/example/scodi/scodi/FilterRoute" "_scopes" "Ljava/util/List;" .null := D5 (Or.inr (H.tw 61 rfl)) (ty := (.object "java/util/List")) (by decide)
  have F5__ranking : Fld G.Z h5 b5 "com/example/scodi/scodi/FilterRoute" "_ranking" "I" (.int (0 : Int32)) := D5 (Or.inr (H.tw 63 rfl)) (ty := .int) (by decide)
  have F5__pattern : Fld G.Z h5 b5 "com/example/scodi/scodi/FilterRoute" "_pattern" "Ljava/lang/String;" .null := D5 (Or.inr (H.tw 65 rfl)) (ty := (.object "java/lang/String")) (by decide)
  have g5 : G.n0 ≤ b5 := by have := ho.2.1; have := ho.1; omega
  refine w5.dup (q := 17) d34_16 rfl rfl ?_
  refine w5.aloadN (q := 18) d34_17 rfl rfl rfl ?_
  refine w5.iconst (q := 19) (0 : Int32) d34_18 rfl rfl ?_
  refine w5.aconst (q := 20) d34_19 rfl ?_
  refine w5.callC (q := 23) d34_20 rfl (H.tw 56 rfl) (H.tw 57 rfl) (H.tw 58 rfl) (by decide) (a := b5) (argsL := [(.ref el0), (.int (0 : Int32)), .null]) (rest := [(.ref b5)]) rfl (lenOf pd36 rfl) rfl (W := 1) (Nat.le_of_eq rfl) ((con_fr G H b5 el0 h5 w5.old A5 F5__scopes F5__ranking F5__pattern g5).pay w5 (H.tw 58 rfl) (H.tw 37 rfl) (by decide) (by decide)) (by decide) (by decide) rfl fun vm6 T6 h6 v6 w6 q6 => ?_
  obtain ⟨rfl, K6, A6, Fs6, Fr6, -⟩ := q6
  show Go _ _ _ _ (T6.setTop (mkF X.m 23 #[.val (.ref ar), .val (.ref el0)] [(.ref b5)]))
  have X6 : Ext h4 h6 := xkp E5 K6 (all1 (by omega))
  exact w6.retA d34_23 (t := (.object "com/example/scodi/scodi/FilterRoute")) rfl rfl rfl (by decide) (by decide) ⟨_, rfl, b5, el0, rfl, xtr (xtr X1 X4) X6, by omega, A6, Fs6, Fr6, rfl⟩
set_option maxRecDepth 65536 in
set_option maxHeartbeats 40000000 in
theorem con_for1 (G : Gx) (H : Hyp G) (ar s0 : Nat) (kc : ClassId) (em0 : Nat) (Sem : Sta G.Z G.Z.heap "java/util/ImmutableCollections" "EMPTY" "Ljava/lang/Object;" (.ref em0)) (h : Heap) (ho : Old G.Z G.n0 h) (A : Arv G.Z h ar kc (.object "java/lang/String") (1 : Int32) [.ref s0] .null) (Y_0 : Exa G.Z h s0 "java/lang/String") (Y : Exa G.Z h ar "[Ljava/lang/String;") :
    Con G (⟨"com/example/scodi/scodi/FilterRoute", "forScopes", "([Ljava/lang/String;)Lcom/example/scodi/scodi/FilterRoute;"⟩ : MethodName) prog_5_method_2_code 2 (some (.object "com/example/scodi/scodi/FilterRoute")) [] ({ frames := 6, cells := 4, slots := 33, locals := 75 } : Room) #[(.ref ar)] h (vQ fun v h' => ∃ r l : Nat, v = .ref r ∧ Ext h h' ∧ h.size ≤ r ∧ Exa G.Z h' r "com/example/scodi/scodi/FilterRoute" ∧ Fld G.Z h' r "com/example/scodi/scodi/FilterRoute" "_scopes" "Ljava/util/List;" (.ref l) ∧ Fld G.Z h' r "com/example/scodi/scodi/FilterRoute" "_ranking" "I" (.int (0 : Int32)) ∧ h.size ≤ l ∧ Exa G.Z h' l "java/util/ImmutableCollections$List12" ∧ Fld G.Z h' l "java/util/ImmutableCollections$List12" "e0" "Ljava/lang/Object;" (.ref s0) ∧ Fld G.Z h' l "java/util/ImmutableCollections$List12" "e1" "Ljava/lang/Object;" (.ref em0)) := by
  refine Con.intro H.el ho (plainFor_of_name pn33) (Ls := #[.val (.ref ar), .unset]) (fun m => by first | (simp [entryFrame, mkF, argsToLocals, Value.category]; done) | rfl) ?_
  intro X vm T w
  refine w.aloadN (q := 1) d34_0 rfl rfl rfl ?_
  refine w.ldcS (q := 3) (sz := 24) (vs := [(.int (115 : Int32)), (.int (99 : Int32)), (.int (111 : Int32)), (.int (112 : Int32)), (.int (101 : Int32)), (.int (115 : Int32))]) (z := 6) d34_1 H.wd (H.tw 39 rfl) H.sa (H.mem (by decide)) ⟨by decide, rfl⟩ (by decide) rfl (by decide) (by decide) (by decide) (by decide) rfl fun vm1 T1 h1 a1 bb1 kb1 w1 X1 ch1 A1_1 A2_1 A3_1 A4_1 => ?_
  have sz1 : h.size ≤ h1.size := X1.1
  have S1 : StrAt G.Z h1 a1 0 [115, 99, 111, 112, 101, 115] := StrAt.lit _ A1_1 A2_1 A3_1 A4_1 rfl rfl (by decide) (by decide)
  refine w1.callS (q := 6) d34_3 (H.tw 42 rfl) (H.tw 43 rfl) (H.tw 44 rfl) (H.tw 45 rfl) (by decide) (argsL := [(.ref ar), (.ref a1)]) (rest := []) rfl (lenOf pd35 rfl) rfl (W := 0) (Nat.le_of_eq rfl) ((con_rnn2 G H ar a1 h1 w1.old).pay w1 (H.tw 45 rfl) (H.tw 44 rfl) (by decide) (by decide)) (by decide) (by decide) rfl fun vm2 T2 h2 v2 w2 q2 => ?_
  obtain ⟨_, rfl, rfl, rfl⟩ := q2
  show Go _ _ _ _ (T2.setTop (mkF X.m 6 #[.val (.ref ar), .unset] [(.ref ar)]))
  refine w2.castY (q := 9) d34_6 (H.tw 46 rfl) (Ins.self (Y.ext X1)) rfl fun T3 w3 => ?_
  refine w3.callS (q := 12) d34_9 (H.tw 48 rfl) (H.tw 49 rfl) (H.tw 50 rfl) (H.tw 51 rfl) (by decide) (argsL := [(.ref ar)]) (rest := []) rfl (lenOf pd31 rfl) rfl (W := 0) (Nat.le_of_eq rfl) ((con_of1 G H ar s0 kc em0 Sem h1 w3.old (A.ext X1) (Y_0.ext X1)).pay w3 (H.tw 51 rfl) (H.tw 50 rfl) (by decide) (by decide)) (by decide) (by decide) rfl fun vm4 T4 h4 v4 w4 q4 => ?_
  obtain ⟨_, rfl, ⟨l, rfl, X4, z1, Y1, P0, P1⟩⟩ := q4
  show Go _ _ _ _ (T4.setTop (mkF X.m 12 #[.val (.ref ar), .unset] [(.ref l)]))
  have szz4 := X4.1
  refine w4.astoreN (q := 13) (L2 := #[.val (.ref ar), .val (.ref l)]) d34_12 rfl rfl rfl ?_
  refine w4.newO (q := 16) d34_13 (H.tw 54 rfl) (H.tw 55 rfl) (H.tw 37 rfl) (by decide) (by decide) rfl fun T5 h5 b5 e5 w5 E5 A5 D5 U5 => ?_
  have lt5 : b5 < h5.size := A5.lt
  have sz5 : h4.size ≤ h5.size := E5.1
  have F5__scopes : Fld G.Z h5 b5 "com/example/scodi/scodi/FilterRoute" "_scopes" "Ljava/util/List;" .null := D5 (Or.inr (H.tw 61 rfl)) (ty := (.object "java/util/List")) (by decide)
  have F5__ranking : Fld G.Z h5 b5 "com/example/scodi/scodi/FilterRoute" "_ranking" "I" (.int (0 : Int32)) := D5 (Or.inr (H.tw 63 rfl)) (ty := .int) (by decide)
  have F5__pattern : Fld G.Z h5 b5 "com/example/scodi/scodi/FilterRoute" "_pattern" "Ljava/lang/String;" .null := D5 (Or.inr (H.tw 65 rfl)) (ty := (.object "java/lang/String")) (by decide)
  have g5 : G.n0 ≤ b5 := by have := ho.2.1; have := ho.1; omega
  refine w5.dup (q := 17) d34_16 rfl rfl ?_
  refine w5.aloadN (q := 18) d34_17 rfl rfl rfl ?_
  refine w5.iconst (q := 19) (0 : Int32) d34_18 rfl rfl ?_
  refine w5.aconst (q := 20) d34_19 rfl ?_
  refine w5.callC (q := 23) d34_20 rfl (H.tw 56 rfl) (H.tw 57 rfl) (H.tw 58 rfl) (by decide) (a := b5) (argsL := [(.ref l), (.int (0 : Int32)), .null]) (rest := [(.ref b5)]) rfl (lenOf pd36 rfl) rfl (W := 1) (Nat.le_of_eq rfl) ((con_fr G H b5 l h5 w5.old A5 F5__scopes F5__ranking F5__pattern g5).pay w5 (H.tw 58 rfl) (H.tw 37 rfl) (by decide) (by decide)) (by decide) (by decide) rfl fun vm6 T6 h6 v6 w6 q6 => ?_
  obtain ⟨rfl, K6, A6, Fs6, Fr6, -⟩ := q6
  show Go _ _ _ _ (T6.setTop (mkF X.m 23 #[.val (.ref ar), .val (.ref l)] [(.ref b5)]))
  have X6 : Ext h4 h6 := xkp E5 K6 (all1 (by omega))
  exact w6.retA d34_23 (t := (.object "com/example/scodi/scodi/FilterRoute")) rfl rfl rfl (by decide) (by decide) ⟨_, rfl, b5, l, rfl, xtr (xtr X1 X4) X6, by omega, A6, Fs6, Fr6, by omega, Y1.ext X6, P0.ext X6, P1.ext X6⟩
set_option maxRecDepth 65536 in
set_option maxHeartbeats 40000000 in
theorem con_for2 (G : Gx) (H : Hyp G) (ar s0 s1 : Nat) (kc : ClassId) (h : Heap) (ho : Old G.Z G.n0 h) (A : Arv G.Z h ar kc (.object "java/lang/String") (2 : Int32) [.ref s0, .ref s1] .null) (Y_0 : Exa G.Z h s0 "java/lang/String") (Y_1 : Exa G.Z h s1 "java/lang/String") (Y : Exa G.Z h ar "[Ljava/lang/String;") :
    Con G (⟨"com/example/scodi/scodi/FilterRoute", "forScopes", "([Ljava/lang/String;)Lcom/example/scodi/scodi/FilterRoute;"⟩ : MethodName) prog_5_method_2_code 2 (some (.object "com/example/scodi/scodi/FilterRoute")) [] ({ frames := 6, cells := 4, slots := 33, locals := 76 } : Room) #[(.ref ar)] h (vQ fun v h' => ∃ r l : Nat, v = .ref r ∧ Ext h h' ∧ h.size ≤ r ∧ Exa G.Z h' r "com/example/scodi/scodi/FilterRoute" ∧ Fld G.Z h' r "com/example/scodi/scodi/FilterRoute" "_scopes" "Ljava/util/List;" (.ref l) ∧ Fld G.Z h' r "com/example/scodi/scodi/FilterRoute" "_ranking" "I" (.int (0 : Int32)) ∧ h.size ≤ l ∧ Exa G.Z h' l "java/util/ImmutableCollections$List12" ∧ Fld G.Z h' l "java/util/ImmutableCollections$List12" "e0" "Ljava/lang/Object;" (.ref s0) ∧ Fld G.Z h' l "java/util/ImmutableCollections$List12" "e1" "Ljava/lang/Object;" (.ref s1)) := by
  refine Con.intro H.el ho (plainFor_of_name pn33) (Ls := #[.val (.ref ar), .unset]) (fun m => by first | (simp [entryFrame, mkF, argsToLocals, Value.category]; done) | rfl) ?_
  intro X vm T w
  refine w.aloadN (q := 1) d34_0 rfl rfl rfl ?_
  refine w.ldcS (q := 3) (sz := 24) (vs := [(.int (115 : Int32)), (.int (99 : Int32)), (.int (111 : Int32)), (.int (112 : Int32)), (.int (101 : Int32)), (.int (115 : Int32))]) (z := 6) d34_1 H.wd (H.tw 39 rfl) H.sa (H.mem (by decide)) ⟨by decide, rfl⟩ (by decide) rfl (by decide) (by decide) (by decide) (by decide) rfl fun vm1 T1 h1 a1 bb1 kb1 w1 X1 ch1 A1_1 A2_1 A3_1 A4_1 => ?_
  have sz1 : h.size ≤ h1.size := X1.1
  have S1 : StrAt G.Z h1 a1 0 [115, 99, 111, 112, 101, 115] := StrAt.lit _ A1_1 A2_1 A3_1 A4_1 rfl rfl (by decide) (by decide)
  refine w1.callS (q := 6) d34_3 (H.tw 42 rfl) (H.tw 43 rfl) (H.tw 44 rfl) (H.tw 45 rfl) (by decide) (argsL := [(.ref ar), (.ref a1)]) (rest := []) rfl (lenOf pd35 rfl) rfl (W := 0) (Nat.le_of_eq rfl) ((con_rnn2 G H ar a1 h1 w1.old).pay w1 (H.tw 45 rfl) (H.tw 44 rfl) (by decide) (by decide)) (by decide) (by decide) rfl fun vm2 T2 h2 v2 w2 q2 => ?_
  obtain ⟨_, rfl, rfl, rfl⟩ := q2
  show Go _ _ _ _ (T2.setTop (mkF X.m 6 #[.val (.ref ar), .unset] [(.ref ar)]))
  refine w2.castY (q := 9) d34_6 (H.tw 46 rfl) (Ins.self (Y.ext X1)) rfl fun T3 w3 => ?_
  refine w3.callS (q := 12) d34_9 (H.tw 48 rfl) (H.tw 49 rfl) (H.tw 50 rfl) (H.tw 51 rfl) (by decide) (argsL := [(.ref ar)]) (rest := []) rfl (lenOf pd31 rfl) rfl (W := 0) (Nat.le_of_eq rfl) ((con_of2 G H ar s0 s1 kc h1 w3.old (A.ext X1) (Y_0.ext X1) (Y_1.ext X1)).pay w3 (H.tw 51 rfl) (H.tw 50 rfl) (by decide) (by decide)) (by decide) (by decide) rfl fun vm4 T4 h4 v4 w4 q4 => ?_
  obtain ⟨_, rfl, ⟨l, rfl, X4, z1, Y1, P0, P1⟩⟩ := q4
  show Go _ _ _ _ (T4.setTop (mkF X.m 12 #[.val (.ref ar), .unset] [(.ref l)]))
  have szz4 := X4.1
  refine w4.astoreN (q := 13) (L2 := #[.val (.ref ar), .val (.ref l)]) d34_12 rfl rfl rfl ?_
  refine w4.newO (q := 16) d34_13 (H.tw 54 rfl) (H.tw 55 rfl) (H.tw 37 rfl) (by decide) (by decide) rfl fun T5 h5 b5 e5 w5 E5 A5 D5 U5 => ?_
  have lt5 : b5 < h5.size := A5.lt
  have sz5 : h4.size ≤ h5.size := E5.1
  have F5__scopes : Fld G.Z h5 b5 "com/example/scodi/scodi/FilterRoute" "_scopes" "Ljava/util/List;" .null := D5 (Or.inr (H.tw 61 rfl)) (ty := (.object "java/util/List")) (by decide)
  have F5__ranking : Fld G.Z h5 b5 "com/example/scodi/scodi/FilterRoute" "_ranking" "I" (.int (0 : Int32)) := D5 (Or.inr (H.tw 63 rfl)) (ty := .int) (by decide)
  have F5__pattern : Fld G.Z h5 b5 "com/example/scodi/scodi/FilterRoute" "_pattern" "Ljava/lang/String;" .null := D5 (Or.inr (H.tw 65 rfl)) (ty := (.object "java/lang/String")) (by decide)
  have g5 : G.n0 ≤ b5 := by have := ho.2.1; have := ho.1; omega
  refine w5.dup (q := 17) d34_16 rfl rfl ?_
  refine w5.aloadN (q := 18) d34_17 rfl rfl rfl ?_
  refine w5.iconst (q := 19) (0 : Int32) d34_18 rfl rfl ?_
  refine w5.aconst (q := 20) d34_19 rfl ?_
  refine w5.callC (q := 23) d34_20 rfl (H.tw 56 rfl) (H.tw 57 rfl) (H.tw 58 rfl) (by decide) (a := b5) (argsL := [(.ref l), (.int (0 : Int32)), .null]) (rest := [(.ref b5)]) rfl (lenOf pd36 rfl) rfl (W := 1) (Nat.le_of_eq rfl) ((con_fr G H b5 l h5 w5.old A5 F5__scopes F5__ranking F5__pattern g5).pay w5 (H.tw 58 rfl) (H.tw 37 rfl) (by decide) (by decide)) (by decide) (by decide) rfl fun vm6 T6 h6 v6 w6 q6 => ?_
  obtain ⟨rfl, K6, A6, Fs6, Fr6, -⟩ := q6
  show Go _ _ _ _ (T6.setTop (mkF X.m 23 #[.val (.ref ar), .val (.ref l)] [(.ref b5)]))
  have X6 : Ext h4 h6 := xkp E5 K6 (all1 (by omega))
  exact w6.retA d34_23 (t := (.object "com/example/scodi/scodi/FilterRoute")) rfl rfl rfl (by decide) (by decide) ⟨_, rfl, b5, l, rfl, xtr (xtr X1 X4) X6, by omega, A6, Fs6, Fr6, by omega, Y1.ext X6, P0.ext X6, P1.ext X6⟩
set_option maxRecDepth 65536 in
set_option maxHeartbeats 40000000 in
theorem con_for3 (G : Gx) (H : Hyp G) (ar s0 s1 s2 : Nat) (kc : ClassId) (h : Heap) (ho : Old G.Z G.n0 h) (A : Arv G.Z h ar kc (.object "java/lang/String") (3 : Int32) [.ref s0, .ref s1, .ref s2] .null) (Y_0 : Exa G.Z h s0 "java/lang/String") (Y_1 : Exa G.Z h s1 "java/lang/String") (Y_2 : Exa G.Z h s2 "java/lang/String") (Y : Exa G.Z h ar "[Ljava/lang/String;") :
    Con G (⟨"com/example/scodi/scodi/FilterRoute", "forScopes", "([Ljava/lang/String;)Lcom/example/scodi/scodi/FilterRoute;"⟩ : MethodName) prog_5_method_2_code 2 (some (.object "com/example/scodi/scodi/FilterRoute")) [] ({ frames := 7, cells := 5, slots := 36, locals := 90 } : Room) #[(.ref ar)] h (vQ fun v h' => ∃ r l : Nat, v = .ref r ∧ Ext h h' ∧ h.size ≤ r ∧ Exa G.Z h' r "com/example/scodi/scodi/FilterRoute" ∧ Fld G.Z h' r "com/example/scodi/scodi/FilterRoute" "_scopes" "Ljava/util/List;" (.ref l) ∧ Fld G.Z h' r "com/example/scodi/scodi/FilterRoute" "_ranking" "I" (.int (0 : Int32)) ∧ h.size ≤ l ∧ Exa G.Z h' l "java/util/ImmutableCollections$ListN" ∧ ∃ (el : Nat) (k2 : ClassId), h.size ≤ el ∧ Fld G.Z h' l "java/util/ImmutableCollections$ListN" "elements" "[Ljava/lang/Object;" (.ref el) ∧ Arv G.Z h' el k2 (.object "java/lang/Object") (3 : Int32) [.ref s0, .ref s1, .ref s2] .null) := by
  refine Con.intro H.el ho (plainFor_of_name pn33) (Ls := #[.val (.ref ar), .unset]) (fun m => by first | (simp [entryFrame, mkF, argsToLocals, Value.category]; done) | rfl) ?_
  intro X vm T w
  refine w.aloadN (q := 1) d34_0 rfl rfl rfl ?_
  refine w.ldcS (q := 3) (sz := 24) (vs := [(.int (115 : Int32)), (.int (99 : Int32)), (.int (111 : Int32)), (.int (112 : Int32)), (.int (101 : Int32)), (.int (115 : Int32))]) (z := 6) d34_1 H.wd (H.tw 39 rfl) H.sa (H.mem (by decide)) ⟨by decide, rfl⟩ (by decide) rfl (by decide) (by decide) (by decide) (by decide) rfl fun vm1 T1 h1 a1 bb1 kb1 w1 X1 ch1 A1_1 A2_1 A3_1 A4_1 => ?_
  have sz1 : h.size ≤ h1.size := X1.1
  have S1 : StrAt G.Z h1 a1 0 [115, 99, 111, 112, 101, 115] := StrAt.lit _ A1_1 A2_1 A3_1 A4_1 rfl rfl (by decide) (by decide)
  refine w1.callS (q := 6) d34_3 (H.tw 42 rfl) (H.tw 43 rfl) (H.tw 44 rfl) (H.tw 45 rfl) (by decide) (argsL := [(.ref ar), (.ref a1)]) (rest := []) rfl (lenOf pd35 rfl) rfl (W := 0) (Nat.le_of_eq rfl) ((con_rnn2 G H ar a1 h1 w1.old).pay w1 (H.tw 45 rfl) (H.tw 44 rfl) (by decide) (by decide)) (by decide) (by decide) rfl fun vm2 T2 h2 v2 w2 q2 => ?_
  obtain ⟨_, rfl, rfl, rfl⟩ := q2
  show Go _ _ _ _ (T2.setTop (mkF X.m 6 #[.val (.ref ar), .unset] [(.ref ar)]))
  refine w2.castY (q := 9) d34_6 (H.tw 46 rfl) (Ins.self (Y.ext X1)) rfl fun T3 w3 => ?_
  refine w3.callS (q := 12) d34_9 (H.tw 48 rfl) (H.tw 49 rfl) (H.tw 50 rfl) (H.tw 51 rfl) (by decide) (argsL := [(.ref ar)]) (rest := []) rfl (lenOf pd31 rfl) rfl (W := 0) (Nat.le_of_eq rfl) ((con_of3 G H ar s0 s1 s2 kc h1 w3.old (A.ext X1) (Y_0.ext X1) (Y_1.ext X1) (Y_2.ext X1)).pay w3 (H.tw 51 rfl) (H.tw 50 rfl) (by decide) (by decide)) (by decide) (by decide) rfl fun vm4 T4 h4 v4 w4 q4 => ?_
  obtain ⟨_, rfl, ⟨l, rfl, X4, z1, Y1, el, k2, z2, Fe, Ae⟩⟩ := q4
  show Go _ _ _ _ (T4.setTop (mkF X.m 12 #[.val (.ref ar), .unset] [(.ref l)]))
  have szz4 := X4.1
  refine w4.astoreN (q := 13) (L2 := #[.val (.ref ar), .val (.ref l)]) d34_12 rfl rfl rfl ?_
  refine w4.newO (q := 16) d34_13 (H.tw 54 rfl) (H.tw 55 rfl) (H.tw 37 rfl) (by decide) (by decide) rfl fun T5 h5 b5 e5 w5 E5 A5 D5 U5 => ?_
  have lt5 : b5 < h5.size := A5.lt
  have sz5 : h4.size ≤ h5.size := E5.1
  have F5__scopes : Fld G.Z h5 b5 "com/example/scodi/scodi/FilterRoute" "_scopes" "Ljava/util/List;" .null := D5 (Or.inr (H.tw 61 rfl)) (ty := (.object "java/util/List")) (by decide)
  have F5__ranking : Fld G.Z h5 b5 "com/example/scodi/scodi/FilterRoute" "_ranking" "I" (.int (0 : Int32)) := D5 (Or.inr (H.tw 63 rfl)) (ty := .int) (by decide)
  have F5__pattern : Fld G.Z h5 b5 "com/example/scodi/scodi/FilterRoute" "_pattern" "Ljava/lang/String;" .null := D5 (Or.inr (H.tw 65 rfl)) (ty := (.object "java/lang/String")) (by decide)
  have g5 : G.n0 ≤ b5 := by have := ho.2.1; have := ho.1; omega
  refine w5.dup (q := 17) d34_16 rfl rfl ?_
  refine w5.aloadN (q := 18) d34_17 rfl rfl rfl ?_
  refine w5.iconst (q := 19) (0 : Int32) d34_18 rfl rfl ?_
  refine w5.aconst (q := 20) d34_19 rfl ?_
  refine w5.callC (q := 23) d34_20 rfl (H.tw 56 rfl) (H.tw 57 rfl) (H.tw 58 rfl) (by decide) (a := b5) (argsL := [(.ref l), (.int (0 : Int32)), .null]) (rest := [(.ref b5)]) rfl (lenOf pd36 rfl) rfl (W := 1) (Nat.le_of_eq rfl) ((con_fr G H b5 l h5 w5.old A5 F5__scopes F5__ranking F5__pattern g5).pay w5 (H.tw 58 rfl) (H.tw 37 rfl) (by decide) (by decide)) (by decide) (by decide) rfl fun vm6 T6 h6 v6 w6 q6 => ?_
  obtain ⟨rfl, K6, A6, Fs6, Fr6, -⟩ := q6
  show Go _ _ _ _ (T6.setTop (mkF X.m 23 #[.val (.ref ar), .val (.ref l)] [(.ref b5)]))
  have X6 : Ext h4 h6 := xkp E5 K6 (all1 (by omega))
  exact w6.retA d34_23 (t := (.object "com/example/scodi/scodi/FilterRoute")) rfl rfl rfl (by decide) (by decide) ⟨_, rfl, b5, l, rfl, xtr (xtr X1 X4) X6, by omega, A6, Fs6, Fr6, by omega, Y1.ext X6, el, k2, by omega, Fe.ext X6, Ae.ext X6⟩
theorem d37_0 : decode prog_5_method_5_code 0 = .ok (.aload_n 0, 1) := by decide +kernel
theorem d37_1 : decode prog_5_method_5_code 1 = .ok (.getfield 7, 3) := by decide +kernel
theorem d37_4 : decode prog_5_method_5_code 4 = .ok (.areturn, 1) := by decide +kernel
set_option maxRecDepth 65536 in
set_option maxHeartbeats 40000000 in
theorem con_gs (G : Gx) (H : Hyp G) (a : Nat) (v : Value) (hv : v.isRef = true) (h : Heap) (ho : Old G.Z G.n0 h) (F : Fld G.Z h a "com/example/scodi/scodi/FilterRoute" "_scopes" "Ljava/util/List;" v) :
    Con G (⟨"com/example/scodi/scodi/FilterRoute", "getScopes", "()Ljava/util/List;"⟩ : MethodName) prog_5_method_5_code 1 (some (.object "java/util/List")) [] ({ frames := 0, cells := 0, slots := 0, locals := 0 } : Room) #[(.ref a)] h (vQ fun v' h' => v' = v ∧ h = h') := by
  refine Con.intro H.el ho (plainFor_of_name pn33) (Ls := #[.val (.ref a)]) (fun m => by first | (simp [entryFrame, mkF, argsToLocals, Value.category]; done) | rfl) ?_
  intro X vm T w
  refine w.aloadN (q := 1) d37_0 rfl rfl rfl ?_
  refine w.getF (q := 4) d37_1 (H.tw 60 rfl) Via.refl F rfl fun T1 w1 => ?_
  exact w1.retA d37_4 (t := (.object "java/util/List")) rfl rfl hv (by decide) (by decide) ⟨_, rfl, ⟨rfl, rfl⟩⟩
theorem d38_0 : decode prog_5_method_6_code 0 = .ok (.aload_n 0, 1) := by decide +kernel
theorem d38_1 : decode prog_5_method_6_code 1 = .ok (.getfield 13, 3) := by decide +kernel
theorem d38_4 : decode prog_5_method_6_code 4 = .ok (.ireturn, 1) := by decide +kernel
set_option maxRecDepth 65536 in
set_option maxHeartbeats 40000000 in
theorem con_gr (G : Gx) (H : Hyp G) (a : Nat) (x : Int32) (h : Heap) (ho : Old G.Z G.n0 h) (F : Fld G.Z h a "com/example/scodi/scodi/FilterRoute" "_ranking" "I" (.int x)) :
    Con G (⟨"com/example/scodi/scodi/FilterRoute", "getRanking", "()I"⟩ : MethodName) prog_5_method_6_code 1 (some .int) [] ({ frames := 0, cells := 0, slots := 0, locals := 0 } : Room) #[(.ref a)] h (vQ fun v' h' => v' = (.int x) ∧ h = h') := by
  refine Con.intro H.el ho (plainFor_of_name pn33) (Ls := #[.val (.ref a)]) (fun m => by first | (simp [entryFrame, mkF, argsToLocals, Value.category]; done) | rfl) ?_
  intro X vm T w
  refine w.aloadN (q := 1) d38_0 rfl rfl rfl ?_
  refine w.getF (q := 4) d38_1 (H.tw 62 rfl) Via.refl F rfl fun T1 w1 => ?_
  exact w1.retI d38_4 rfl (by decide) (by decide) ⟨_, rfl, ⟨rfl, rfl⟩⟩
theorem d39_0 : decode jdk_45_method_3_code 0 = .ok (.aload_n 0, 1) := by decide +kernel
theorem d39_1 : decode jdk_45_method_3_code 1 = .ok (.getfield 7, 3) := by decide +kernel
theorem d39_4 : decode jdk_45_method_3_code 4 = .ok (.arraylength, 1) := by decide +kernel
theorem d39_5 : decode jdk_45_method_3_code 5 = .ok (.ireturn, 1) := by decide +kernel
set_option maxRecDepth 65536 in
set_option maxHeartbeats 40000000 in
theorem con_lnsize (G : Gx) (H : Hyp G) (a el : Nat) (k2 : ClassId) (N : Int32) (vs : List Value) (h : Heap) (ho : Old G.Z G.n0 h) (F : Fld G.Z h a "java/util/ImmutableCollections$ListN" "elements" "[Ljava/lang/Object;" (.ref el)) (A : Arv G.Z h el k2 (.object "java/lang/Object") N vs .null) :
    Con G (⟨"java/util/ImmutableCollections$ListN", "size", "()I"⟩ : MethodName) jdk_45_method_3_code 1 (some .int) [] ({ frames := 0, cells := 0, slots := 0, locals := 0 } : Room) #[(.ref a)] h (vQ fun v h' => v = .int N ∧ h = h') := by
  refine Con.intro H.el ho (plainFor_of_name pn23) (Ls := #[.val (.ref a)]) (fun m => by first | (simp [entryFrame, mkF, argsToLocals, Value.category]; done) | rfl) ?_
  intro X vm T w
  refine w.aloadN (q := 1) d39_0 rfl rfl rfl ?_
  refine w.getF (q := 4) d39_1 (H.tw 81 rfl) Via.refl F rfl fun T1 w1 => ?_
  refine w1.alen (q := 5) d39_4 A rfl ?_
  exact w1.retI d39_5 rfl (by decide) (by decide) ⟨_, rfl, ⟨rfl, rfl⟩⟩
theorem d40_0 : decode jdk_45_method_4_code 0 = .ok (.aload_n 0, 1) := by decide +kernel
theorem d40_1 : decode jdk_45_method_4_code 1 = .ok (.getfield 7, 3) := by decide +kernel
theorem d40_4 : decode jdk_45_method_4_code 4 = .ok (.iload_n 1, 1) := by decide +kernel
theorem d40_5 : decode jdk_45_method_4_code 5 = .ok (.aaload, 1) := by decide +kernel
theorem d40_6 : decode jdk_45_method_4_code 6 = .ok (.areturn, 1) := by decide +kernel
set_option maxRecDepth 65536 in
set_option maxHeartbeats 40000000 in
theorem con_lnget (G : Gx) (H : Hyp G) (a el s : Nat) (k2 : ClassId) (N j : Int32) (vs : List Value) (h : Heap) (ho : Old G.Z G.n0 h) (F : Fld G.Z h a "java/util/ImmutableCollections$ListN" "elements" "[Ljava/lang/Object;" (.ref el)) (A : Arv G.Z h el k2 (.object "java/lang/Object") N vs .null) (hj : ¬ j < 0 ∧ j < N) (hv : vs.getD j.toNatClampNeg .null = .ref s) :
    Con G (⟨"java/util/ImmutableCollections$ListN", "get", "(I)Ljava/lang/Object;"⟩ : MethodName) jdk_45_method_4_code 2 (some (.object "java/lang/Object")) [] ({ frames := 0, cells := 0, slots := 0, locals := 0 } : Room) #[(.ref a), (.int j)] h (vQ fun v h' => v = .ref s ∧ h = h') := by
  refine Con.intro H.el ho (plainFor_of_name pn23) (Ls := #[.val (.ref a), .val (.int j)]) (fun m => by first | (simp [entryFrame, mkF, argsToLocals, Value.category]; done) | rfl) ?_
  intro X vm T w
  refine w.aloadN (q := 1) d40_0 rfl rfl rfl ?_
  refine w.getF (q := 4) d40_1 (H.tw 81 rfl) Via.refl F rfl fun T1 w1 => ?_
  refine w1.iloadN (q := 5) d40_4 rfl rfl ?_
  refine w1.aaload (q := 6) (v := (.ref s)) d40_5 A rfl hj hv rfl ?_
  exact w1.retA d40_6 (t := (.object "java/lang/Object")) rfl rfl rfl (by decide) (by decide) ⟨_, rfl, ⟨rfl, rfl⟩⟩
theorem d41_0 : decode jdk_44_method_3_code 0 = .ok (.aload_n 0, 1) := by decide +kernel
theorem d41_1 : decode jdk_44_method_3_code 1 = .ok (.getfield 24, 3) := by decide +kernel
theorem d41_4 : decode jdk_44_method_3_code 4 = .ok (.getstatic 19, 3) := by decide +kernel
theorem d41_7 : decode jdk_44_method_3_code 7 = .ok (.if_acmp .eq 7, 3) := by decide +kernel
theorem d41_14 : decode jdk_44_method_3_code 14 = .ok (.iconst 1, 1) := by decide +kernel
theorem d41_15 : decode jdk_44_method_3_code 15 = .ok (.ireturn, 1) := by decide +kernel
set_option maxRecDepth 65536 in
set_option maxHeartbeats 40000000 in
theorem con_l1size (G : Gx) (H : Hyp G) (a x : Nat) (em0 : Nat) (Sem : Sta G.Z G.Z.heap "java/util/ImmutableCollections" "EMPTY" "Ljava/lang/Object;" (.ref em0)) (h : Heap) (ho : Old G.Z G.n0 h) (F : Fld G.Z h a "java/util/ImmutableCollections$List12" "e1" "Ljava/lang/Object;" (.ref x)) (hx : x = em0) :
    Con G (⟨"java/util/ImmutableCollections$List12", "size", "()I"⟩ : MethodName) jdk_44_method_3_code 1 (some .int) [] ({ frames := 0, cells := 0, slots := 0, locals := 0 } : Room) #[(.ref a)] h (vQ fun v h' => v = .int (1 : Int32) ∧ h = h') := by
  refine Con.intro H.el ho (plainFor_of_name pn20) (Ls := #[.val (.ref a)]) (fun m => by first | (simp [entryFrame, mkF, argsToLocals, Value.category]; done) | rfl) ?_
  intro X vm T w
  refine w.aloadN (q := 1) d41_0 rfl rfl rfl ?_
  refine w.getF (q := 4) d41_1 (H.tw 153 rfl) Via.refl F rfl fun T1 w1 => ?_
  refine w1.getSN (q := 7) d41_4 (H.tw 161 rfl) Via.refl Sem rfl fun T2 w2 => ?_
  refine w2.acY (q := 14) d41_7 rfl rfl (XT.aa_eq_t (by rw [hx])) (by decide) (by decide) ?_
  refine w2.iconst (q := 15) (1 : Int32) d41_14 rfl rfl ?_
  exact w2.retI d41_15 rfl (by decide) (by decide) ⟨_, rfl, ⟨rfl, rfl⟩⟩
theorem d41_10 : decode jdk_44_method_3_code 10 = .ok (.iconst 2, 1) := by decide +kernel
theorem d41_11 : decode jdk_44_method_3_code 11 = .ok (.goto 4, 3) := by decide +kernel
set_option maxRecDepth 65536 in
set_option maxHeartbeats 40000000 in
theorem con_l2size (G : Gx) (H : Hyp G) (a x : Nat) (em0 : Nat) (Sem : Sta G.Z G.Z.heap "java/util/ImmutableCollections" "EMPTY" "Ljava/lang/Object;" (.ref em0)) (h : Heap) (ho : Old G.Z G.n0 h) (F : Fld G.Z h a "java/util/ImmutableCollections$List12" "e1" "Ljava/lang/Object;" (.ref x)) (hx : ¬ x = em0) :
    Con G (⟨"java/util/ImmutableCollections$List12", "size", "()I"⟩ : MethodName) jdk_44_method_3_code 1 (some .int) [] ({ frames := 0, cells := 0, slots := 0, locals := 0 } : Room) #[(.ref a)] h (vQ fun v h' => v = .int (2 : Int32) ∧ h = h') := by
  refine Con.intro H.el ho (plainFor_of_name pn20) (Ls := #[.val (.ref a)]) (fun m => by first | (simp [entryFrame, mkF, argsToLocals, Value.category]; done) | rfl) ?_
  intro X vm T w
  refine w.aloadN (q := 1) d41_0 rfl rfl rfl ?_
  refine w.getF (q := 4) d41_1 (H.tw 153 rfl) Via.refl F rfl fun T1 w1 => ?_
  refine w1.getSN (q := 7) d41_4 (H.tw 161 rfl) Via.refl Sem rfl fun T2 w2 => ?_
  refine w2.acN (q := 10) d41_7 rfl rfl (XT.aa_eq_f (fun z => hx (Value.ref.inj z))) rfl ?_
  refine w2.iconst (q := 11) (2 : Int32) d41_10 rfl rfl ?_
  refine w2.goto (q := 15) d41_11 (by decide) (by decide) ?_
  exact w2.retI d41_15 rfl (by decide) (by decide) ⟨_, rfl, ⟨rfl, rfl⟩⟩
theorem d42_0 : decode jdk_44_method_5_code 0 = .ok (.iload_n 1, 1) := by decide +kernel
theorem d42_1 : decode jdk_44_method_5_code 1 = .ok (.ifCond .ne 8, 3) := by decide +kernel
theorem d42_4 : decode jdk_44_method_5_code 4 = .ok (.aload_n 0, 1) := by decide +kernel
theorem d42_5 : decode jdk_44_method_5_code 5 = .ok (.getfield 13, 3) := by decide +kernel
theorem d42_8 : decode jdk_44_method_5_code 8 = .ok (.areturn, 1) := by decide +kernel
set_option maxRecDepth 65536 in
set_option maxHeartbeats 40000000 in
theorem con_l2get0 (G : Gx) (H : Hyp G) (a x : Nat) (h : Heap) (ho : Old G.Z G.n0 h) (F : Fld G.Z h a "java/util/ImmutableCollections$List12" "e0" "Ljava/lang/Object;" (.ref x)) :
    Con G (⟨"java/util/ImmutableCollections$List12", "get", "(I)Ljava/lang/Object;"⟩ : MethodName) jdk_44_method_5_code 2 (some (.object "java/lang/Object")) [] ({ frames := 0, cells := 0, slots := 0, locals := 0 } : Room) #[(.ref a), (.int (0 : Int32))] h (vQ fun v h' => v = .ref x ∧ h = h') := by
  refine Con.intro H.el ho (plainFor_of_name pn20) (Ls := #[.val (.ref a), .val (.int (0 : Int32))]) (fun m => by first | (simp [entryFrame, mkF, argsToLocals, Value.category]; done) | rfl) ?_
  intro X vm T w
  refine w.iloadN (q := 1) d42_0 rfl rfl ?_
  refine w.ifN (q := 4) d42_1 ((if0 _ _).trans (teq rfl).2) rfl ?_
  refine w.aloadN (q := 5) d42_4 rfl rfl rfl ?_
  refine w.getF (q := 8) d42_5 (H.tw 151 rfl) Via.refl F rfl fun T1 w1 => ?_
  exact w1.retA d42_8 (t := (.object "java/lang/Object")) rfl rfl rfl (by decide) (by decide) ⟨_, rfl, ⟨rfl, rfl⟩⟩
theorem d42_9 : decode jdk_44_method_5_code 9 = .ok (.iload_n 1, 1) := by decide +kernel
theorem d42_10 : decode jdk_44_method_5_code 10 = .ok (.iconst 1, 1) := by decide +kernel
theorem d42_11 : decode jdk_44_method_5_code 11 = .ok (.if_icmp .ne 18, 3) := by decide +kernel
theorem d42_14 : decode jdk_44_method_5_code 14 = .ok (.aload_n 0, 1) := by decide +kernel
theorem d42_15 : decode jdk_44_method_5_code 15 = .ok (.getfield 24, 3) := by decide +kernel
theorem d42_18 : decode jdk_44_method_5_code 18 = .ok (.getstatic 19, 3) := by decide +kernel
theorem d42_21 : decode jdk_44_method_5_code 21 = .ok (.if_acmp .eq 8, 3) := by decide +kernel
theorem d42_24 : decode jdk_44_method_5_code 24 = .ok (.aload_n 0, 1) := by decide +kernel
theorem d42_25 : decode jdk_44_method_5_code 25 = .ok (.getfield 24, 3) := by decide +kernel
theorem d42_28 : decode jdk_44_method_5_code 28 = .ok (.areturn, 1) := by decide +kernel
set_option maxRecDepth 65536 in
set_option maxHeartbeats 40000000 in
theorem con_l2get1 (G : Gx) (H : Hyp G) (a x : Nat) (em0 : Nat) (Sem : Sta G.Z G.Z.heap "java/util/ImmutableCollections" "EMPTY" "Ljava/lang/Object;" (.ref em0)) (h : Heap) (ho : Old G.Z G.n0 h) (F : Fld G.Z h a "java/util/ImmutableCollections$List12" "e1" "Ljava/lang/Object;" (.ref x)) (hx : ¬ x = em0) :
    Con G (⟨"java/util/ImmutableCollections$List12", "get", "(I)Ljava/lang/Object;"⟩ : MethodName) jdk_44_method_5_code 2 (some (.object "java/lang/Object")) [] ({ frames := 0, cells := 0, slots := 0, locals := 0 } : Room) #[(.ref a), (.int (1 : Int32))] h (vQ fun v h' => v = .ref x ∧ h = h') := by
  refine Con.intro H.el ho (plainFor_of_name pn20) (Ls := #[.val (.ref a), .val (.int (1 : Int32))]) (fun m => by first | (simp [entryFrame, mkF, argsToLocals, Value.category]; done) | rfl) ?_
  intro X vm T w
  refine w.iloadN (q := 1) d42_0 rfl rfl ?_
  refine w.ifY (q := 9) d42_1 ((if0 _ _).trans (feq (by decide)).2) (by decide) (by decide) ?_
  refine w.iloadN (q := 10) d42_9 rfl rfl ?_
  refine w.iconst (q := 11) (1 : Int32) d42_10 rfl rfl ?_
  refine w.icN (q := 14) d42_11 ((teq rfl).2) rfl ?_
  refine w.aloadN (q := 15) d42_14 rfl rfl rfl ?_
  refine w.getF (q := 18) d42_15 (H.tw 153 rfl) Via.refl F rfl fun T1 w1 => ?_
  refine w1.getSN (q := 21) d42_18 (H.tw 161 rfl) Via.refl Sem rfl fun T2 w2 => ?_
  refine w2.acN (q := 24) d42_21 rfl rfl (XT.aa_eq_f (fun z => hx (Value.ref.inj z))) rfl ?_
  refine w2.aloadN (q := 25) d42_24 rfl rfl rfl ?_
  refine w2.getF (q := 28) d42_25 (H.tw 153 rfl) Via.refl F rfl fun T3 w3 => ?_
  exact w3.retA d42_28 (t := (.object "java/lang/Object")) rfl rfl rfl (by decide) (by decide) ⟨_, rfl, ⟨rfl, rfl⟩⟩
theorem pd43 : parseMethodDescriptor "(I)Ljava/lang/String;" = some ⟨[.int], some (.object "java/lang/String")⟩ := by decide +kernel
theorem pd44 : parseMethodDescriptor "([Ljava/lang/String;)Lcom/example/scodi/scodi/FilterRoute;" = some ⟨[(.array (.object "java/lang/String"))], some (.object "com/example/scodi/scodi/FilterRoute")⟩ := by decide +kernel
theorem pd45 : parseMethodDescriptor "()Ljava/util/List;" = some ⟨[], some (.object "java/util/List")⟩ := by decide +kernel
theorem pd46 : parseMethodDescriptor "()I" = some ⟨[], some .int⟩ := by decide +kernel
theorem pd47 : parseMethodDescriptor "(I)Ljava/lang/Object;" = some ⟨[.int], some (.object "java/lang/Object")⟩ := by decide +kernel
theorem pd48 : parseMethodDescriptor "(Ljava/lang/Object;)Z" = some ⟨[(.object "java/lang/Object")], some .boolean⟩ := by decide +kernel
set_option maxRecDepth 65536 in
set_option maxHeartbeats 40000000 in
theorem con_law (G : Gx) (H : Hyp G) (x0 x1 x2 x3 : Int32) (h : Heap) (ho : Old G.Z G.n0 h)  :
    Con G x code maxLocals ret tables_1 room_1 #[(.int x0), (.int x1), (.int x2), (.int x3)] h (vQ fun v _ => v = .int 1) := by
  refine Con.intro H.el ho (plainFor_of_name pn7) (Ls := #[.val (.int x0), .val (.int x1), .val (.int x2), .val (.int x3), .unset, .unset, .unset, .unset, .unset, .unset, .unset]) (fun m => by first | (simp [entryFrame, mkF, argsToLocals, Value.category, maxLocals]; done) | rfl) ?_
  intro X vm T w
  obtain ⟨el, ea, em, ka, Sel, Eel, Fel, Ael, Sem, Eem⟩ := H.mo
  refine w.iloadN (q := 1) at_0 rfl rfl ?_
  refine w.iconst (q := 2) (3 : Int32) at_1 rfl rfl ?_
  refine w.iand (q := 3) at_2 rfl ?_
  have hn3 := and3 x0
  obtain ⟨nn, e_nn⟩ : ∃ z, z = (x0 &&& (3 : Int32)) := ⟨_, rfl⟩
  rw [← e_nn] at hn3 ⊢
  refine w.istore (q := 5) (L2 := #[.val (.int x0), .val (.int x1), .val (.int x2), .val (.int x3), .val (.int nn), .unset, .unset, .unset, .unset, .unset, .unset]) at_3 rfl rfl ?_
  refine w.iloadN (q := 6) at_5 rfl rfl ?_
  refine w.callS (q := 9) at_6 (H.tw 0 rfl) (H.tw 1 rfl) (H.tw 2 rfl) (H.tw 3 rfl) (by decide) (argsL := [(.int x1)]) (rest := []) rfl (lenOf pd43 rfl) rfl (W := 0) (Nat.le_of_eq rfl) ((con_mk G H x1 h ho).pay w (H.tw 3 rfl) (H.tw 2 rfl) (by decide) (by decide)) (by decide) (by decide) rfl fun vm1 T1 h1 v1 w1 q1 => ?_
  obtain ⟨_, rfl, ⟨s0, cs0, rfl, X1, P0⟩⟩ := q1
  show Go _ _ _ _ (T1.setTop (mkF X.m 9 #[.val (.int x0), .val (.int x1), .val (.int x2), .val (.int x3), .val (.int nn), .unset, .unset, .unset, .unset, .unset, .unset] [(.ref s0)]))
  have szm0 := X1.1
  refine w1.astore (q := 11) (L2 := #[.val (.int x0), .val (.int x1), .val (.int x2), .val (.int x3), .val (.int nn), .val (.ref s0), .unset, .unset, .unset, .unset, .unset]) at_9 rfl rfl rfl ?_
  refine w1.iloadN (q := 12) at_11 rfl rfl ?_
  refine w1.callS (q := 15) at_12 (H.tw 0 rfl) (H.tw 1 rfl) (H.tw 2 rfl) (H.tw 3 rfl) (by decide) (argsL := [(.int x2)]) (rest := []) rfl (lenOf pd43 rfl) rfl (W := 0) (Nat.le_of_eq rfl) ((con_mk G H x2 h1 w1.old).pay w1 (H.tw 3 rfl) (H.tw 2 rfl) (by decide) (by decide)) (by decide) (by decide) rfl fun vm2 T2 h2 v2 w2 q2 => ?_
  obtain ⟨_, rfl, ⟨s1, cs1, rfl, X2, P1⟩⟩ := q2
  show Go _ _ _ _ (T2.setTop (mkF X.m 15 #[.val (.int x0), .val (.int x1), .val (.int x2), .val (.int x3), .val (.int nn), .val (.ref s0), .unset, .unset, .unset, .unset, .unset] [(.ref s1)]))
  have szm1 := X2.1
  replace P0 := P0.ext X2
  refine w2.astore (q := 17) (L2 := #[.val (.int x0), .val (.int x1), .val (.int x2), .val (.int x3), .val (.int nn), .val (.ref s0), .val (.ref s1), .unset, .unset, .unset, .unset]) at_15 rfl rfl rfl ?_
  refine w2.iloadN (q := 18) at_17 rfl rfl ?_
  refine w2.callS (q := 21) at_18 (H.tw 0 rfl) (H.tw 1 rfl) (H.tw 2 rfl) (H.tw 3 rfl) (by decide) (argsL := [(.int x3)]) (rest := []) rfl (lenOf pd43 rfl) rfl (W := 0) (Nat.le_of_eq rfl) ((con_mk G H x3 h2 w2.old).pay w2 (H.tw 3 rfl) (H.tw 2 rfl) (by decide) (by decide)) (by decide) (by decide) rfl fun vm3 T3 h3 v3 w3 q3 => ?_
  obtain ⟨_, rfl, ⟨s2, cs2, rfl, X3, P2⟩⟩ := q3
  show Go _ _ _ _ (T3.setTop (mkF X.m 21 #[.val (.int x0), .val (.int x1), .val (.int x2), .val (.int x3), .val (.int nn), .val (.ref s0), .val (.ref s1), .unset, .unset, .unset, .unset] [(.ref s2)]))
  have szm2 := X3.1
  replace P0 := P0.ext X3
  replace P1 := P1.ext X3
  refine w3.astore (q := 23) (L2 := #[.val (.int x0), .val (.int x1), .val (.int x2), .val (.int x3), .val (.int nn), .val (.ref s0), .val (.ref s1), .val (.ref s2), .unset, .unset, .unset]) at_21 rfl rfl rfl ?_
  refine w3.iload (q := 25) at_23 rfl rfl ?_
  by_cases c0 : nn = (0 : Int32)
  ·
    refine w3.ifN (q := 28) at_25 ((if0 _ _).trans (teq c0).2) rfl ?_
    subst c0
    refine w3.iconst (q := 29) (0 : Int32) at_28 rfl rfl ?_
    refine w3.newRX (q := 32) (ad := "[Ljava/lang/String;") 0 at_29 (H.tw 4 rfl) (H.tw 34 rfl) (by decide) (by decide) (by decide) (by decide) (by decide) (by decide) rfl fun T4 h4 b4 kc4 e4 w4 E4 A4 O4 Y4 => ?_
    replace A4 : Arv G.Z h4 b4 kc4 (.object "java/lang/String") (0 : Int32) [] .null := A4.pad (pad_rep [] .null 0)
    have lt4 : b4 < h4.size := A4.lt
    have sz4 : h3.size ≤ h4.size := E4.1
    have g4 : G.n0 ≤ b4 := by have := ho.2.1; have := ho.1; omega
    have V0 := P0.ext E4
    have V1 := P1.ext E4
    have V2 := P2.ext E4
    have XA : Ext h3 h4 := E4
    replace A4 : Arv G.Z h4 b4 kc4 (.object "java/lang/String") (0 : Int32) [] .null := A4
    refine w4.astore (q := 34) (L2 := #[.val (.int x0), .val (.int x1), .val (.int x2), .val (.int x3), .val (.int (0 : Int32)), .val (.ref s0), .val (.ref s1), .val (.ref s2), .val (.ref b4), .unset, .unset]) at_32 rfl rfl rfl ?_
    refine w4.goto (q := 103) at_34 (by decide) (by decide) ?_
    refine w4.aload (q := 105) at_103 rfl rfl rfl ?_
    refine w4.callS (q := 108) at_105 (H.tw 35 rfl) (H.tw 36 rfl) (H.tw 37 rfl) (H.tw 38 rfl) (by decide) (argsL := [(.ref b4)]) (rest := []) rfl (lenOf pd44 rfl) rfl (W := 0) (Nat.le_of_eq rfl) ((con_for0 G H b4  kc4 el Sel h4 w4.old A4  Y4).pay w4 (H.tw 38 rfl) (H.tw 37 rfl) (by decide) (by decide)) (by decide) (by decide) rfl fun vm5 T5 h5 v5 w5 q5 => ?_
    obtain ⟨_, rfl, ⟨r, l, rfl, X5, z0, Ar, Fs, Fr_, rfl⟩⟩ := q5
    show Go _ _ _ _ (T5.setTop (mkF X.m 108 #[.val (.int x0), .val (.int x1), .val (.int x2), .val (.int x3), .val (.int (0 : Int32)), .val (.ref s0), .val (.ref s1), .val (.ref s2), .val (.ref b4), .unset, .unset] [(.ref r)]))
    have szf := X5.1
    have R0 := (P0.ext XA).ext X5
    have R1 := (P1.ext XA).ext X5
    have R2 := (P2.ext XA).ext X5
    refine w5.astore (q := 110) (L2 := #[.val (.int x0), .val (.int x1), .val (.int x2), .val (.int x3), .val (.int (0 : Int32)), .val (.ref s0), .val (.ref s1), .val (.ref s2), .val (.ref b4), .val (.ref r), .unset]) at_108 rfl rfl rfl ?_
    refine w5.iload (q := 112) at_110 rfl rfl ?_
    refine w5.ifY (q := 121) at_112 ((if0 _ _).trans (flt (by decide)).2.2.2) (by decide) (by decide) ?_
    refine w5.aload (q := 123) at_121 rfl rfl rfl ?_
    have U0 := R0.exa
    have U1 := R1.exa
    have U2 := R2.exa
    have Y1 := Eel.ext w5.old.2
    have Fe := Fel.ext w5.old.2
    have Ae := Ael.ext w5.old.2
    refine w5.callV (q := 126) at_123 (H.tw 66 rfl) (H.tw 67 rfl) (notFace_of_selects (C := "com/example/scodi/scodi/FilterRoute") (args := G.a0) (H.tw 69 rfl)) (H.tw 69 rfl) (H.tw 68 rfl) (by decide) Ar (argsL := []) (rest := []) rfl (lenOf pd45 rfl) rfl (W := 0) (Nat.le_of_eq rfl) ((con_gs G H r (.ref el) rfl h5 w5.old Fs).pay w5 (H.tw 70 rfl) (H.tw 37 rfl) (by decide) (by decide)) (by decide) (by decide) rfl fun vm6 T6 h6 v6 w6 q6 => ?_
    obtain ⟨_, rfl, rfl, rfl⟩ := q6
    show Go _ _ _ _ (T6.setTop (mkF X.m 126 #[.val (.int x0), .val (.int x1), .val (.int x2), .val (.int x3), .val (.int (0 : Int32)), .val (.ref s0), .val (.ref s1), .val (.ref s2), .val (.ref b4), .val (.ref r), .unset] [(.ref el)]))
    refine w6.astore (q := 128) (L2 := #[.val (.int x0), .val (.int x1), .val (.int x2), .val (.int x3), .val (.int (0 : Int32)), .val (.ref s0), .val (.ref s1), .val (.ref s2), .val (.ref b4), .val (.ref r), .val (.ref el)]) at_126 rfl rfl rfl ?_
    refine w6.aload (q := 130) at_128 rfl rfl rfl ?_
    refine w6.callI (q := 135) at_130 (H.tw 71 rfl) (H.tw 72 rfl) (H.tw 73 rfl) (H.tw 74 rfl) (H.tw 75 rfl) (H.tw 76 rfl) (H.tw 77 rfl) (H.tw 78 rfl) (by decide) Y1 (argsL := []) (rest := []) rfl (lenOf pd46 rfl) rfl (W := 0) (Nat.le_of_eq rfl) ((con_lnsize G H el ea ka (0 : Int32) _ h5 w6.old Fe Ae).pay w6 (H.tw 80 rfl) (H.tw 79 rfl) (by decide) (by decide)) (by decide) (by decide) rfl fun vm7 T7 h7 v7 w7 q7 => ?_
    obtain ⟨_, rfl, rfl, rfl⟩ := q7
    show Go _ _ _ _ (T7.setTop (mkF X.m 135 #[.val (.int x0), .val (.int x1), .val (.int x2), .val (.int x3), .val (.int (0 : Int32)), .val (.ref s0), .val (.ref s1), .val (.ref s2), .val (.ref b4), .val (.ref r), .val (.ref el)] [(.int (0 : Int32))]))
    refine w7.iload (q := 137) at_135 rfl rfl ?_
    refine w7.icY (q := 142) at_137 ((teq rfl).1) (by decide) (by decide) ?_
    refine w7.aload (q := 144) at_142 rfl rfl rfl ?_
    refine w7.callV (q := 147) at_144 (H.tw 83 rfl) (H.tw 84 rfl) (notFace_of_selects (C := "com/example/scodi/scodi/FilterRoute") (args := G.a0) (H.tw 86 rfl)) (H.tw 86 rfl) (H.tw 85 rfl) (by decide) Ar (argsL := []) (rest := []) rfl (lenOf pd46 rfl) rfl (W := 0) (Nat.le_of_eq rfl) ((con_gr G H r (0 : Int32) h5 w7.old Fr_).pay w7 (H.tw 87 rfl) (H.tw 37 rfl) (by decide) (by decide)) (by decide) (by decide) rfl fun vm8 T8 h8 v8 w8 q8 => ?_
    obtain ⟨_, rfl, rfl, rfl⟩ := q8
    show Go _ _ _ _ (T8.setTop (mkF X.m 147 #[.val (.int x0), .val (.int x1), .val (.int x2), .val (.int x3), .val (.int (0 : Int32)), .val (.ref s0), .val (.ref s1), .val (.ref s2), .val (.ref b4), .val (.ref r), .val (.ref el)] [(.int (0 : Int32))]))
    refine w8.ifY (q := 152) at_147 ((if0 _ _).trans (teq rfl).1) (by decide) (by decide) ?_
    refine w8.iload (q := 154) at_152 rfl rfl ?_
    refine w8.iconst (q := 155) (1 : Int32) at_154 rfl rfl ?_
    refine w8.icY (q := 179) at_155 ((tlt (by decide)).1) (by decide) (by decide) ?_
    refine w8.iload (q := 181) at_179 rfl rfl ?_
    refine w8.iconst (q := 182) (2 : Int32) at_181 rfl rfl ?_
    refine w8.icY (q := 206) at_182 ((tlt (by decide)).1) (by decide) (by decide) ?_
    refine w8.iload (q := 208) at_206 rfl rfl ?_
    refine w8.iconst (q := 209) (3 : Int32) at_208 rfl rfl ?_
    refine w8.icY (q := 233) at_209 ((tlt (by decide)).1) (by decide) (by decide) ?_
    refine w8.iconst (q := 234) (1 : Int32) at_233 rfl rfl ?_
    exact w8.retZ at_234 (t := .boolean) rfl (by decide) rfl (by decide) (by decide) ⟨_, rfl, rfl⟩
  ·
    refine w3.ifY (q := 37) at_25 ((if0 _ _).trans (feq c0).2) (by decide) (by decide) ?_
    refine w3.iload (q := 39) at_37 rfl rfl ?_
    refine w3.iconst (q := 40) (1 : Int32) at_39 rfl rfl ?_
    by_cases c1 : nn = (1 : Int32)
    ·
      refine w3.icN (q := 43) at_40 ((teq c1).2) rfl ?_
      subst c1
      refine w3.iconst (q := 44) (1 : Int32) at_43 rfl rfl ?_
      refine w3.newRX (q := 47) (ad := "[Ljava/lang/String;") 1 at_44 (H.tw 4 rfl) (H.tw 34 rfl) (by decide) (by decide) (by decide) (by decide) (by decide) (by decide) rfl fun T9 h9 b9 kc9 e9 w9 E9 A9 O9 Y9 => ?_
      replace A9 : Arv G.Z h9 b9 kc9 (.object "java/lang/String") (1 : Int32) [.null] .null := A9.pad (pad_rep [] .null 1)
      have lt9 : b9 < h9.size := A9.lt
      have sz9 : h3.size ≤ h9.size := E9.1
      have g9 : G.n0 ≤ b9 := by have := ho.2.1; have := ho.1; omega
      have V0 := P0.ext E9
      have V1 := P1.ext E9
      have V2 := P2.ext E9
      refine w9.dup (q := 48) at_47 rfl rfl ?_
      refine w9.iconst (q := 49) (0 : Int32) at_48 rfl rfl ?_
      refine w9.aload (q := 51) at_49 rfl rfl rfl ?_
      refine w9.aastore (q := 52) 0 at_51 A9 rfl (arv_sto A9 O9 (Ins.self V0.exa)) rfl g9 ⟨by decide, by decide⟩ rfl (Nat.le_of_ble_eq_true rfl) rfl fun T10 h10 w10 K10 A10 => ?_
      have sz10 : h9.size ≤ h10.size := K10.1
      have Q0_10 := (P0.ext (xkp E9 K10 (all1 (by omega)))).exa
      have Q1_10 := (P1.ext (xkp E9 K10 (all1 (by omega)))).exa
      have Q2_10 := (P2.ext (xkp E9 K10 (all1 (by omega)))).exa
      have Y9_10 := Y9.keep K10
      have XA : Ext h3 h10 := (xkp E9 K10 (all1 (by omega)))
      replace A10 : Arv G.Z h10 b9 kc9 (.object "java/lang/String") (1 : Int32) [.ref s0] .null := A10
      refine w10.astore (q := 54) (L2 := #[.val (.int x0), .val (.int x1), .val (.int x2), .val (.int x3), .val (.int (1 : Int32)), .val (.ref s0), .val (.ref s1), .val (.ref s2), .val (.ref b9), .unset, .unset]) at_52 rfl rfl rfl ?_
      refine w10.goto (q := 103) at_54 (by decide) (by decide) ?_
      refine w10.aload (q := 105) at_103 rfl rfl rfl ?_
      refine w10.callS (q := 108) at_105 (H.tw 35 rfl) (H.tw 36 rfl) (H.tw 37 rfl) (H.tw 38 rfl) (by decide) (argsL := [(.ref b9)]) (rest := []) rfl (lenOf pd44 rfl) rfl (W := 0) (Nat.le_of_eq rfl) ((con_for1 G H b9 s0 kc9 em Sem h10 w10.old A10 (P0.ext XA).exa Y9_10).pay w10 (H.tw 38 rfl) (H.tw 37 rfl) (by decide) (by decide)) (by decide) (by decide) rfl fun vm11 T11 h11 v11 w11 q11 => ?_
      obtain ⟨_, rfl, ⟨r, l, rfl, X11, z0, Ar, Fs, Fr_, z1, Y1, P0_, P1_⟩⟩ := q11
      show Go _ _ _ _ (T11.setTop (mkF X.m 108 #[.val (.int x0), .val (.int x1), .val (.int x2), .val (.int x3), .val (.int (1 : Int32)), .val (.ref s0), .val (.ref s1), .val (.ref s2), .val (.ref b9), .unset, .unset] [(.ref r)]))
      have szf := X11.1
      have R0 := (P0.ext XA).ext X11
      have R1 := (P1.ext XA).ext X11
      have R2 := (P2.ext XA).ext X11
      refine w11.astore (q := 110) (L2 := #[.val (.int x0), .val (.int x1), .val (.int x2), .val (.int x3), .val (.int (1 : Int32)), .val (.ref s0), .val (.ref s1), .val (.ref s2), .val (.ref b9), .val (.ref r), .unset]) at_108 rfl rfl rfl ?_
      refine w11.iload (q := 112) at_110 rfl rfl ?_
      refine w11.ifN (q := 115) at_112 ((if0 _ _).trans (tlt (by decide)).2.2.2) rfl ?_
      refine w11.aload (q := 117) at_115 rfl rfl rfl ?_
      refine w11.iconst (q := 118) (0 : Int32) at_117 rfl rfl ?_
      have AA := A10.ext X11
      refine w11.ldcS (q := 120) (sz := 16) (vs := [(.int (90 : Int32)), (.int (90 : Int32)), (.int (90 : Int32)), (.int (90 : Int32))]) (z := 4) at_118 H.wd (H.tw 125 rfl) H.sa (H.mem (by decide)) ⟨by decide, rfl⟩ (by decide) rfl (by decide) (by decide) (by decide) (by decide) rfl fun vm12 T12 h12 a12 bb12 kb12 w12 X12 ch12 A1_12 A2_12 A3_12 A4_12 => ?_
      have sz12 : h11.size ≤ h12.size := X12.1
      have S12 : StrAt G.Z h12 a12 0 [90, 90, 90, 90] := StrAt.lit _ A1_12 A2_12 A3_12 A4_12 rfl rfl (by decide) (by decide)
      have AB := AA.ext X12
      refine w12.aastore (q := 121) 0 at_120 AB rfl (arv_sto AB O9 (Ins.self S12.exa)) rfl g9 ⟨by decide, by decide⟩ rfl (Nat.le_of_ble_eq_true rfl) rfl fun T13 h13 w13 K13 A13 => ?_
      have sz13 : h12.size ≤ h13.size := K13.1
      replace Fs := (Fs.ext X12).keep K13 (nin1 (by omega))
      replace Fr_ := (Fr_.ext X12).keep K13 (nin1 (by omega))
      replace P0_ := (P0_.ext X12).keep K13 (nin1 (by omega))
      replace P1_ := (P1_.ext X12).keep K13 (nin1 (by omega))
      replace Ar := (Ar.ext X12).keep K13
      replace Y1 := (Y1.ext X12).keep K13
      have U0 := (R0.ext X12).exa.keep K13
      have U1 := (R1.ext X12).exa.keep K13
      have U2 := (R2.ext X12).exa.keep K13
      refine w13.aload (q := 123) at_121 rfl rfl rfl ?_
      refine w13.callV (q := 126) at_123 (H.tw 66 rfl) (H.tw 67 rfl) (notFace_of_selects (C := "com/example/scodi/scodi/FilterRoute") (args := G.a0) (H.tw 69 rfl)) (H.tw 69 rfl) (H.tw 68 rfl) (by decide) Ar (argsL := []) (rest := []) rfl (lenOf pd45 rfl) rfl (W := 0) (Nat.le_of_eq rfl) ((con_gs G H r (.ref l) rfl h13 w13.old Fs).pay w13 (H.tw 70 rfl) (H.tw 37 rfl) (by decide) (by decide)) (by decide) (by decide) rfl fun vm14 T14 h14 v14 w14 q14 => ?_
      obtain ⟨_, rfl, rfl, rfl⟩ := q14
      show Go _ _ _ _ (T14.setTop (mkF X.m 126 #[.val (.int x0), .val (.int x1), .val (.int x2), .val (.int x3), .val (.int (1 : Int32)), .val (.ref s0), .val (.ref s1), .val (.ref s2), .val (.ref b9), .val (.ref r), .unset] [(.ref l)]))
      refine w14.astore (q := 128) (L2 := #[.val (.int x0), .val (.int x1), .val (.int x2), .val (.int x3), .val (.int (1 : Int32)), .val (.ref s0), .val (.ref s1), .val (.ref s2), .val (.ref b9), .val (.ref r), .val (.ref l)]) at_126 rfl rfl rfl ?_
      refine w14.aload (q := 130) at_128 rfl rfl rfl ?_
      refine w14.callI (q := 135) at_130 (H.tw 71 rfl) (H.tw 72 rfl) (H.tw 73 rfl) (H.tw 155 rfl) (H.tw 156 rfl) (H.tw 157 rfl) (H.tw 158 rfl) (H.tw 159 rfl) (by decide) Y1 (argsL := []) (rest := []) rfl (lenOf pd46 rfl) rfl (W := 0) (Nat.le_of_eq rfl) ((con_l1size G H l em em Sem h13 w14.old P1_ rfl).pay w14 (H.tw 160 rfl) (H.tw 141 rfl) (by decide) (by decide)) (by decide) (by decide) rfl fun vm15 T15 h15 v15 w15 q15 => ?_
      obtain ⟨_, rfl, rfl, rfl⟩ := q15
      show Go _ _ _ _ (T15.setTop (mkF X.m 135 #[.val (.int x0), .val (.int x1), .val (.int x2), .val (.int x3), .val (.int (1 : Int32)), .val (.ref s0), .val (.ref s1), .val (.ref s2), .val (.ref b9), .val (.ref r), .val (.ref l)] [(.int (1 : Int32))]))
      refine w15.iload (q := 137) at_135 rfl rfl ?_
      refine w15.icY (q := 142) at_137 ((teq rfl).1) (by decide) (by decide) ?_
      refine w15.aload (q := 144) at_142 rfl rfl rfl ?_
      refine w15.callV (q := 147) at_144 (H.tw 83 rfl) (H.tw 84 rfl) (notFace_of_selects (C := "com/example/scodi/scodi/FilterRoute") (args := G.a0) (H.tw 86 rfl)) (H.tw 86 rfl) (H.tw 85 rfl) (by decide) Ar (argsL := []) (rest := []) rfl (lenOf pd46 rfl) rfl (W := 0) (Nat.le_of_eq rfl) ((con_gr G H r (0 : Int32) h13 w15.old Fr_).pay w15 (H.tw 87 rfl) (H.tw 37 rfl) (by decide) (by decide)) (by decide) (by decide) rfl fun vm16 T16 h16 v16 w16 q16 => ?_
      obtain ⟨_, rfl, rfl, rfl⟩ := q16
      show Go _ _ _ _ (T16.setTop (mkF X.m 147 #[.val (.int x0), .val (.int x1), .val (.int x2), .val (.int x3), .val (.int (1 : Int32)), .val (.ref s0), .val (.ref s1), .val (.ref s2), .val (.ref b9), .val (.ref r), .val (.ref l)] [(.int (0 : Int32))]))
      refine w16.ifY (q := 152) at_147 ((if0 _ _).trans (teq rfl).1) (by decide) (by decide) ?_
      refine w16.iload (q := 154) at_152 rfl rfl ?_
      refine w16.iconst (q := 155) (1 : Int32) at_154 rfl rfl ?_
      refine w16.icN (q := 158) at_155 ((flt (by decide)).1) rfl ?_
      refine w16.aload (q := 160) at_158 rfl rfl rfl ?_
      refine w16.iconst (q := 161) (0 : Int32) at_160 rfl rfl ?_
      refine w16.callI (q := 166) at_161 (H.tw 126 rfl) (H.tw 127 rfl) (H.tw 128 rfl) (H.tw 162 rfl) (H.tw 163 rfl) (H.tw 164 rfl) (H.tw 165 rfl) (H.tw 159 rfl) (by decide) Y1 (argsL := [(.int (0 : Int32))]) (rest := []) rfl (lenOf pd47 rfl) rfl (W := 0) (Nat.le_of_eq rfl) ((con_l2get0 G H l s0 h13 w16.old P0_).pay w16 (H.tw 166 rfl) (H.tw 141 rfl) (by decide) (by decide)) (by decide) (by decide) rfl fun vm17 T17 h17 v17 w17 q17 => ?_
      obtain ⟨_, rfl, rfl, rfl⟩ := q17
      show Go _ _ _ _ (T17.setTop (mkF X.m 166 #[.val (.int x0), .val (.int x1), .val (.int x2), .val (.int x3), .val (.int (1 : Int32)), .val (.ref s0), .val (.ref s1), .val (.ref s2), .val (.ref b9), .val (.ref r), .val (.ref l)] [(.ref s0)]))
      refine w17.castY (q := 169) at_166 (H.tw 4 rfl) (Ins.self U0) rfl fun T18 w18 => ?_
      refine w18.aload (q := 171) at_169 rfl rfl rfl ?_
      refine w18.callV (q := 174) at_171 (H.tw 134 rfl) (H.tw 135 rfl) (notFace_of_selects (C := "java/lang/String") (args := G.a0) (H.tw 137 rfl)) (H.tw 137 rfl) (H.tw 136 rfl) (by decide) U0 (argsL := [(.ref s0)]) (rest := []) rfl (lenOf pd48 rfl) rfl (W := 0) (Nat.le_of_eq rfl) ((con_eqsame G H s0 h13 w18.old).pay w18 (H.tw 138 rfl) (H.tw 6 rfl) (by decide) (by decide)) (by decide) (by decide) rfl fun vm19 T19 h19 v19 w19 q19 => ?_
      obtain ⟨_, rfl, rfl, rfl⟩ := q19
      show Go _ _ _ _ (T19.setTop (mkF X.m 174 #[.val (.int x0), .val (.int x1), .val (.int x2), .val (.int x3), .val (.int (1 : Int32)), .val (.ref s0), .val (.ref s1), .val (.ref s2), .val (.ref b9), .val (.ref r), .val (.ref l)] [(.int (1 : Int32))]))
      refine w19.ifY (q := 179) at_174 ((if0 _ _).trans (feq (by decide)).2) (by decide) (by decide) ?_
      refine w19.iload (q := 181) at_179 rfl rfl ?_
      refine w19.iconst (q := 182) (2 : Int32) at_181 rfl rfl ?_
      refine w19.icY (q := 206) at_182 ((tlt (by decide)).1) (by decide) (by decide) ?_
      refine w19.iload (q := 208) at_206 rfl rfl ?_
      refine w19.iconst (q := 209) (3 : Int32) at_208 rfl rfl ?_
      refine w19.icY (q := 233) at_209 ((tlt (by decide)).1) (by decide) (by decide) ?_
      refine w19.iconst (q := 234) (1 : Int32) at_233 rfl rfl ?_
      exact w19.retZ at_234 (t := .boolean) rfl (by decide) rfl (by decide) (by decide) ⟨_, rfl, rfl⟩
    ·
      refine w3.icY (q := 57) at_40 ((feq c1).2) (by decide) (by decide) ?_
      refine w3.iload (q := 59) at_57 rfl rfl ?_
      refine w3.iconst (q := 60) (2 : Int32) at_59 rfl rfl ?_
      by_cases c2 : nn = (2 : Int32)
      ·
        refine w3.icN (q := 63) at_60 ((teq c2).2) rfl ?_
        subst c2
        refine w3.iconst (q := 64) (2 : Int32) at_63 rfl rfl ?_
        refine w3.newRX (q := 67) (ad := "[Ljava/lang/String;") 2 at_64 (H.tw 4 rfl) (H.tw 34 rfl) (by decide) (by decide) (by decide) (by decide) (by decide) (by decide) rfl fun T20 h20 b20 kc20 e20 w20 E20 A20 O20 Y20 => ?_
        replace A20 : Arv G.Z h20 b20 kc20 (.object "java/lang/String") (2 : Int32) [.null, .null] .null := A20.pad (pad_rep [] .null 2)
        have lt20 : b20 < h20.size := A20.lt
        have sz20 : h3.size ≤ h20.size := E20.1
        have g20 : G.n0 ≤ b20 := by have := ho.2.1; have := ho.1; omega
        have V0 := P0.ext E20
        have V1 := P1.ext E20
        have V2 := P2.ext E20
        refine w20.dup (q := 68) at_67 rfl rfl ?_
        refine w20.iconst (q := 69) (0 : Int32) at_68 rfl rfl ?_
        refine w20.aload (q := 71) at_69 rfl rfl rfl ?_
        refine w20.aastore (q := 72) 0 at_71 A20 rfl (arv_sto A20 O20 (Ins.self V0.exa)) rfl g20 ⟨by decide, by decide⟩ rfl (Nat.le_of_ble_eq_true rfl) rfl fun T21 h21 w21 K21 A21 => ?_
        have sz21 : h20.size ≤ h21.size := K21.1
        have Q0_21 := (P0.ext (xkp E20 K21 (all1 (by omega)))).exa
        have Q1_21 := (P1.ext (xkp E20 K21 (all1 (by omega)))).exa
        have Q2_21 := (P2.ext (xkp E20 K21 (all1 (by omega)))).exa
        have Y20_21 := Y20.keep K21
        refine w21.dup (q := 73) at_72 rfl rfl ?_
        refine w21.iconst (q := 74) (1 : Int32) at_73 rfl rfl ?_
        refine w21.aload (q := 76) at_74 rfl rfl rfl ?_
        refine w21.aastore (q := 77) 1 at_76 A21 rfl (arv_sto A21 O20 (Ins.self Q1_21)) rfl g20 ⟨by decide, by decide⟩ rfl (Nat.le_of_ble_eq_true rfl) rfl fun T22 h22 w22 K22 A22 => ?_
        have sz22 : h21.size ≤ h22.size := K22.1
        have Q0_22 := (P0.ext (xkp (xkp E20 K21 (all1 (by omega))) K22 (all1 (by omega)))).exa
        have Q1_22 := (P1.ext (xkp (xkp E20 K21 (all1 (by omega))) K22 (all1 (by omega)))).exa
        have Q2_22 := (P2.ext (xkp (xkp E20 K21 (all1 (by omega))) K22 (all1 (by omega)))).exa
        have Y20_22 := Y20_21.keep K22
        have XA : Ext h3 h22 := (xkp (xkp E20 K21 (all1 (by omega))) K22 (all1 (by omega)))
        replace A22 : Arv G.Z h22 b20 kc20 (.object "java/lang/String") (2 : Int32) [.ref s0, .ref s1] .null := A22
        refine w22.astore (q := 79) (L2 := #[.val (.int x0), .val (.int x1), .val (.int x2), .val (.int x3), .val (.int (2 : Int32)), .val (.ref s0), .val (.ref s1), .val (.ref s2), .val (.ref b20), .unset, .unset]) at_77 rfl rfl rfl ?_
        refine w22.goto (q := 103) at_79 (by decide) (by decide) ?_
        refine w22.aload (q := 105) at_103 rfl rfl rfl ?_
        refine w22.callS (q := 108) at_105 (H.tw 35 rfl) (H.tw 36 rfl) (H.tw 37 rfl) (H.tw 38 rfl) (by decide) (argsL := [(.ref b20)]) (rest := []) rfl (lenOf pd44 rfl) rfl (W := 0) (Nat.le_of_eq rfl) ((con_for2 G H b20 s0 s1 kc20 h22 w22.old A22 (P0.ext XA).exa (P1.ext XA).exa Y20_22).pay w22 (H.tw 38 rfl) (H.tw 37 rfl) (by decide) (by decide)) (by decide) (by decide) rfl fun vm23 T23 h23 v23 w23 q23 => ?_
        obtain ⟨_, rfl, ⟨r, l, rfl, X23, z0, Ar, Fs, Fr_, z1, Y1, P0_, P1_⟩⟩ := q23
        show Go _ _ _ _ (T23.setTop (mkF X.m 108 #[.val (.int x0), .val (.int x1), .val (.int x2), .val (.int x3), .val (.int (2 : Int32)), .val (.ref s0), .val (.ref s1), .val (.ref s2), .val (.ref b20), .unset, .unset] [(.ref r)]))
        have szf := X23.1
        have R0 := (P0.ext XA).ext X23
        have R1 := (P1.ext XA).ext X23
        have R2 := (P2.ext XA).ext X23
        refine w23.astore (q := 110) (L2 := #[.val (.int x0), .val (.int x1), .val (.int x2), .val (.int x3), .val (.int (2 : Int32)), .val (.ref s0), .val (.ref s1), .val (.ref s2), .val (.ref b20), .val (.ref r), .unset]) at_108 rfl rfl rfl ?_
        refine w23.iload (q := 112) at_110 rfl rfl ?_
        refine w23.ifN (q := 115) at_112 ((if0 _ _).trans (tlt (by decide)).2.2.2) rfl ?_
        refine w23.aload (q := 117) at_115 rfl rfl rfl ?_
        refine w23.iconst (q := 118) (0 : Int32) at_117 rfl rfl ?_
        have AA := A22.ext X23
        refine w23.ldcS (q := 120) (sz := 16) (vs := [(.int (90 : Int32)), (.int (90 : Int32)), (.int (90 : Int32)), (.int (90 : Int32))]) (z := 4) at_118 H.wd (H.tw 125 rfl) H.sa (H.mem (by decide)) ⟨by decide, rfl⟩ (by decide) rfl (by decide) (by decide) (by decide) (by decide) rfl fun vm24 T24 h24 a24 bb24 kb24 w24 X24 ch24 A1_24 A2_24 A3_24 A4_24 => ?_
        have sz24 : h23.size ≤ h24.size := X24.1
        have S24 : StrAt G.Z h24 a24 0 [90, 90, 90, 90] := StrAt.lit _ A1_24 A2_24 A3_24 A4_24 rfl rfl (by decide) (by decide)
        have AB := AA.ext X24
        refine w24.aastore (q := 121) 0 at_120 AB rfl (arv_sto AB O20 (Ins.self S24.exa)) rfl g20 ⟨by decide, by decide⟩ rfl (Nat.le_of_ble_eq_true rfl) rfl fun T25 h25 w25 K25 A25 => ?_
        have sz25 : h24.size ≤ h25.size := K25.1
        replace Fs := (Fs.ext X24).keep K25 (nin1 (by omega))
        replace Fr_ := (Fr_.ext X24).keep K25 (nin1 (by omega))
        replace P0_ := (P0_.ext X24).keep K25 (nin1 (by omega))
        replace P1_ := (P1_.ext X24).keep K25 (nin1 (by omega))
        replace Ar := (Ar.ext X24).keep K25
        replace Y1 := (Y1.ext X24).keep K25
        have U0 := (R0.ext X24).exa.keep K25
        have U1 := (R1.ext X24).exa.keep K25
        have U2 := (R2.ext X24).exa.keep K25
        refine w25.aload (q := 123) at_121 rfl rfl rfl ?_
        refine w25.callV (q := 126) at_123 (H.tw 66 rfl) (H.tw 67 rfl) (notFace_of_selects (C := "com/example/scodi/scodi/FilterRoute") (args := G.a0) (H.tw 69 rfl)) (H.tw 69 rfl) (H.tw 68 rfl) (by decide) Ar (argsL := []) (rest := []) rfl (lenOf pd45 rfl) rfl (W := 0) (Nat.le_of_eq rfl) ((con_gs G H r (.ref l) rfl h25 w25.old Fs).pay w25 (H.tw 70 rfl) (H.tw 37 rfl) (by decide) (by decide)) (by decide) (by decide) rfl fun vm26 T26 h26 v26 w26 q26 => ?_
        obtain ⟨_, rfl, rfl, rfl⟩ := q26
        show Go _ _ _ _ (T26.setTop (mkF X.m 126 #[.val (.int x0), .val (.int x1), .val (.int x2), .val (.int x3), .val (.int (2 : Int32)), .val (.ref s0), .val (.ref s1), .val (.ref s2), .val (.ref b20), .val (.ref r), .unset] [(.ref l)]))
        refine w26.astore (q := 128) (L2 := #[.val (.int x0), .val (.int x1), .val (.int x2), .val (.int x3), .val (.int (2 : Int32)), .val (.ref s0), .val (.ref s1), .val (.ref s2), .val (.ref b20), .val (.ref r), .val (.ref l)]) at_126 rfl rfl rfl ?_
        refine w26.aload (q := 130) at_128 rfl rfl rfl ?_
        have ns1 : ¬ s1 = em := Exa.ne U1 (Eem.ext w26.old.2) (by decide)
        refine w26.callI (q := 135) at_130 (H.tw 71 rfl) (H.tw 72 rfl) (H.tw 73 rfl) (H.tw 155 rfl) (H.tw 156 rfl) (H.tw 157 rfl) (H.tw 158 rfl) (H.tw 159 rfl) (by decide) Y1 (argsL := []) (rest := []) rfl (lenOf pd46 rfl) rfl (W := 0) (Nat.le_of_eq rfl) ((con_l2size G H l s1 em Sem h25 w26.old P1_ ns1).pay w26 (H.tw 160 rfl) (H.tw 141 rfl) (by decide) (by decide)) (by decide) (by decide) rfl fun vm27 T27 h27 v27 w27 q27 => ?_
        obtain ⟨_, rfl, rfl, rfl⟩ := q27
        show Go _ _ _ _ (T27.setTop (mkF X.m 135 #[.val (.int x0), .val (.int x1), .val (.int x2), .val (.int x3), .val (.int (2 : Int32)), .val (.ref s0), .val (.ref s1), .val (.ref s2), .val (.ref b20), .val (.ref r), .val (.ref l)] [(.int (2 : Int32))]))
        refine w27.iload (q := 137) at_135 rfl rfl ?_
        refine w27.icY (q := 142) at_137 ((teq rfl).1) (by decide) (by decide) ?_
        refine w27.aload (q := 144) at_142 rfl rfl rfl ?_
        refine w27.callV (q := 147) at_144 (H.tw 83 rfl) (H.tw 84 rfl) (notFace_of_selects (C := "com/example/scodi/scodi/FilterRoute") (args := G.a0) (H.tw 86 rfl)) (H.tw 86 rfl) (H.tw 85 rfl) (by decide) Ar (argsL := []) (rest := []) rfl (lenOf pd46 rfl) rfl (W := 0) (Nat.le_of_eq rfl) ((con_gr G H r (0 : Int32) h25 w27.old Fr_).pay w27 (H.tw 87 rfl) (H.tw 37 rfl) (by decide) (by decide)) (by decide) (by decide) rfl fun vm28 T28 h28 v28 w28 q28 => ?_
        obtain ⟨_, rfl, rfl, rfl⟩ := q28
        show Go _ _ _ _ (T28.setTop (mkF X.m 147 #[.val (.int x0), .val (.int x1), .val (.int x2), .val (.int x3), .val (.int (2 : Int32)), .val (.ref s0), .val (.ref s1), .val (.ref s2), .val (.ref b20), .val (.ref r), .val (.ref l)] [(.int (0 : Int32))]))
        refine w28.ifY (q := 152) at_147 ((if0 _ _).trans (teq rfl).1) (by decide) (by decide) ?_
        refine w28.iload (q := 154) at_152 rfl rfl ?_
        refine w28.iconst (q := 155) (1 : Int32) at_154 rfl rfl ?_
        refine w28.icN (q := 158) at_155 ((flt (by decide)).1) rfl ?_
        refine w28.aload (q := 160) at_158 rfl rfl rfl ?_
        refine w28.iconst (q := 161) (0 : Int32) at_160 rfl rfl ?_
        refine w28.callI (q := 166) at_161 (H.tw 126 rfl) (H.tw 127 rfl) (H.tw 128 rfl) (H.tw 162 rfl) (H.tw 163 rfl) (H.tw 164 rfl) (H.tw 165 rfl) (H.tw 159 rfl) (by decide) Y1 (argsL := [(.int (0 : Int32))]) (rest := []) rfl (lenOf pd47 rfl) rfl (W := 0) (Nat.le_of_eq rfl) ((con_l2get0 G H l s0 h25 w28.old P0_).pay w28 (H.tw 166 rfl) (H.tw 141 rfl) (by decide) (by decide)) (by decide) (by decide) rfl fun vm29 T29 h29 v29 w29 q29 => ?_
        obtain ⟨_, rfl, rfl, rfl⟩ := q29
        show Go _ _ _ _ (T29.setTop (mkF X.m 166 #[.val (.int x0), .val (.int x1), .val (.int x2), .val (.int x3), .val (.int (2 : Int32)), .val (.ref s0), .val (.ref s1), .val (.ref s2), .val (.ref b20), .val (.ref r), .val (.ref l)] [(.ref s0)]))
        refine w29.castY (q := 169) at_166 (H.tw 4 rfl) (Ins.self U0) rfl fun T30 w30 => ?_
        refine w30.aload (q := 171) at_169 rfl rfl rfl ?_
        refine w30.callV (q := 174) at_171 (H.tw 134 rfl) (H.tw 135 rfl) (notFace_of_selects (C := "java/lang/String") (args := G.a0) (H.tw 137 rfl)) (H.tw 137 rfl) (H.tw 136 rfl) (by decide) U0 (argsL := [(.ref s0)]) (rest := []) rfl (lenOf pd48 rfl) rfl (W := 0) (Nat.le_of_eq rfl) ((con_eqsame G H s0 h25 w30.old).pay w30 (H.tw 138 rfl) (H.tw 6 rfl) (by decide) (by decide)) (by decide) (by decide) rfl fun vm31 T31 h31 v31 w31 q31 => ?_
        obtain ⟨_, rfl, rfl, rfl⟩ := q31
        show Go _ _ _ _ (T31.setTop (mkF X.m 174 #[.val (.int x0), .val (.int x1), .val (.int x2), .val (.int x3), .val (.int (2 : Int32)), .val (.ref s0), .val (.ref s1), .val (.ref s2), .val (.ref b20), .val (.ref r), .val (.ref l)] [(.int (1 : Int32))]))
        refine w31.ifY (q := 179) at_174 ((if0 _ _).trans (feq (by decide)).2) (by decide) (by decide) ?_
        refine w31.iload (q := 181) at_179 rfl rfl ?_
        refine w31.iconst (q := 182) (2 : Int32) at_181 rfl rfl ?_
        refine w31.icN (q := 185) at_182 ((flt (by decide)).1) rfl ?_
        refine w31.aload (q := 187) at_185 rfl rfl rfl ?_
        refine w31.iconst (q := 188) (1 : Int32) at_187 rfl rfl ?_
        refine w31.callI (q := 193) at_188 (H.tw 126 rfl) (H.tw 127 rfl) (H.tw 128 rfl) (H.tw 162 rfl) (H.tw 163 rfl) (H.tw 164 rfl) (H.tw 165 rfl) (H.tw 159 rfl) (by decide) Y1 (argsL := [(.int (1 : Int32))]) (rest := []) rfl (lenOf pd47 rfl) rfl (W := 0) (Nat.le_of_eq rfl) ((con_l2get1 G H l s1 em Sem h25 w31.old P1_ ns1).pay w31 (H.tw 166 rfl) (H.tw 141 rfl) (by decide) (by decide)) (by decide) (by decide) rfl fun vm32 T32 h32 v32 w32 q32 => ?_
        obtain ⟨_, rfl, rfl, rfl⟩ := q32
        show Go _ _ _ _ (T32.setTop (mkF X.m 193 #[.val (.int x0), .val (.int x1), .val (.int x2), .val (.int x3), .val (.int (2 : Int32)), .val (.ref s0), .val (.ref s1), .val (.ref s2), .val (.ref b20), .val (.ref r), .val (.ref l)] [(.ref s1)]))
        refine w32.castY (q := 196) at_193 (H.tw 4 rfl) (Ins.self U1) rfl fun T33 w33 => ?_
        refine w33.aload (q := 198) at_196 rfl rfl rfl ?_
        refine w33.callV (q := 201) at_198 (H.tw 134 rfl) (H.tw 135 rfl) (notFace_of_selects (C := "java/lang/String") (args := G.a0) (H.tw 137 rfl)) (H.tw 137 rfl) (H.tw 136 rfl) (by decide) U1 (argsL := [(.ref s1)]) (rest := []) rfl (lenOf pd48 rfl) rfl (W := 0) (Nat.le_of_eq rfl) ((con_eqsame G H s1 h25 w33.old).pay w33 (H.tw 138 rfl) (H.tw 6 rfl) (by decide) (by decide)) (by decide) (by decide) rfl fun vm34 T34 h34 v34 w34 q34 => ?_
        obtain ⟨_, rfl, rfl, rfl⟩ := q34
        show Go _ _ _ _ (T34.setTop (mkF X.m 201 #[.val (.int x0), .val (.int x1), .val (.int x2), .val (.int x3), .val (.int (2 : Int32)), .val (.ref s0), .val (.ref s1), .val (.ref s2), .val (.ref b20), .val (.ref r), .val (.ref l)] [(.int (1 : Int32))]))
        refine w34.ifY (q := 206) at_201 ((if0 _ _).trans (feq (by decide)).2) (by decide) (by decide) ?_
        refine w34.iload (q := 208) at_206 rfl rfl ?_
        refine w34.iconst (q := 209) (3 : Int32) at_208 rfl rfl ?_
        refine w34.icY (q := 233) at_209 ((tlt (by decide)).1) (by decide) (by decide) ?_
        refine w34.iconst (q := 234) (1 : Int32) at_233 rfl rfl ?_
        exact w34.retZ at_234 (t := .boolean) rfl (by decide) rfl (by decide) (by decide) ⟨_, rfl, rfl⟩
      ·
        refine w3.icY (q := 82) at_60 ((feq c2).2) (by decide) (by decide) ?_
        have c3 : nn = 3 := by rcases hn3 with q | q | q | q; exact absurd q c0; exact absurd q c1; exact absurd q c2; exact q
        subst c3
        refine w3.iconst (q := 83) (3 : Int32) at_82 rfl rfl ?_
        refine w3.newRX (q := 86) (ad := "[Ljava/lang/String;") 3 at_83 (H.tw 4 rfl) (H.tw 34 rfl) (by decide) (by decide) (by decide) (by decide) (by decide) (by decide) rfl fun T35 h35 b35 kc35 e35 w35 E35 A35 O35 Y35 => ?_
        replace A35 : Arv G.Z h35 b35 kc35 (.object "java/lang/String") (3 : Int32) [.null, .null, .null] .null := A35.pad (pad_rep [] .null 3)
        have lt35 : b35 < h35.size := A35.lt
        have sz35 : h3.size ≤ h35.size := E35.1
        have g35 : G.n0 ≤ b35 := by have := ho.2.1; have := ho.1; omega
        have V0 := P0.ext E35
        have V1 := P1.ext E35
        have V2 := P2.ext E35
        refine w35.dup (q := 87) at_86 rfl rfl ?_
        refine w35.iconst (q := 88) (0 : Int32) at_87 rfl rfl ?_
        refine w35.aload (q := 90) at_88 rfl rfl rfl ?_
        refine w35.aastore (q := 91) 0 at_90 A35 rfl (arv_sto A35 O35 (Ins.self V0.exa)) rfl g35 ⟨by decide, by decide⟩ rfl (Nat.le_of_ble_eq_true rfl) rfl fun T36 h36 w36 K36 A36 => ?_
        have sz36 : h35.size ≤ h36.size := K36.1
        have Q0_36 := (P0.ext (xkp E35 K36 (all1 (by omega)))).exa
        have Q1_36 := (P1.ext (xkp E35 K36 (all1 (by omega)))).exa
        have Q2_36 := (P2.ext (xkp E35 K36 (all1 (by omega)))).exa
        have Y35_36 := Y35.keep K36
        refine w36.dup (q := 92) at_91 rfl rfl ?_
        refine w36.iconst (q := 93) (1 : Int32) at_92 rfl rfl ?_
        refine w36.aload (q := 95) at_93 rfl rfl rfl ?_
        refine w36.aastore (q := 96) 1 at_95 A36 rfl (arv_sto A36 O35 (Ins.self Q1_36)) rfl g35 ⟨by decide, by decide⟩ rfl (Nat.le_of_ble_eq_true rfl) rfl fun T37 h37 w37 K37 A37 => ?_
        have sz37 : h36.size ≤ h37.size := K37.1
        have Q0_37 := (P0.ext (xkp (xkp E35 K36 (all1 (by omega))) K37 (all1 (by omega)))).exa
        have Q1_37 := (P1.ext (xkp (xkp E35 K36 (all1 (by omega))) K37 (all1 (by omega)))).exa
        have Q2_37 := (P2.ext (xkp (xkp E35 K36 (all1 (by omega))) K37 (all1 (by omega)))).exa
        have Y35_37 := Y35_36.keep K37
        refine w37.dup (q := 97) at_96 rfl rfl ?_
        refine w37.iconst (q := 98) (2 : Int32) at_97 rfl rfl ?_
        refine w37.aload (q := 100) at_98 rfl rfl rfl ?_
        refine w37.aastore (q := 101) 2 at_100 A37 rfl (arv_sto A37 O35 (Ins.self Q2_37)) rfl g35 ⟨by decide, by decide⟩ rfl (Nat.le_of_ble_eq_true rfl) rfl fun T38 h38 w38 K38 A38 => ?_
        have sz38 : h37.size ≤ h38.size := K38.1
        have Q0_38 := (P0.ext (xkp (xkp (xkp E35 K36 (all1 (by omega))) K37 (all1 (by omega))) K38 (all1 (by omega)))).exa
        have Q1_38 := (P1.ext (xkp (xkp (xkp E35 K36 (all1 (by omega))) K37 (all1 (by omega))) K38 (all1 (by omega)))).exa
        have Q2_38 := (P2.ext (xkp (xkp (xkp E35 K36 (all1 (by omega))) K37 (all1 (by omega))) K38 (all1 (by omega)))).exa
        have Y35_38 := Y35_37.keep K38
        have XA : Ext h3 h38 := (xkp (xkp (xkp E35 K36 (all1 (by omega))) K37 (all1 (by omega))) K38 (all1 (by omega)))
        replace A38 : Arv G.Z h38 b35 kc35 (.object "java/lang/String") (3 : Int32) [.ref s0, .ref s1, .ref s2] .null := A38
        refine w38.astore (q := 103) (L2 := #[.val (.int x0), .val (.int x1), .val (.int x2), .val (.int x3), .val (.int (3 : Int32)), .val (.ref s0), .val (.ref s1), .val (.ref s2), .val (.ref b35), .unset, .unset]) at_101 rfl rfl rfl ?_
        refine w38.aload (q := 105) at_103 rfl rfl rfl ?_
        refine w38.callS (q := 108) at_105 (H.tw 35 rfl) (H.tw 36 rfl) (H.tw 37 rfl) (H.tw 38 rfl) (by decide) (argsL := [(.ref b35)]) (rest := []) rfl (lenOf pd44 rfl) rfl (W := 0) (Nat.le_of_eq rfl) ((con_for3 G H b35 s0 s1 s2 kc35 h38 w38.old A38 (P0.ext XA).exa (P1.ext XA).exa (P2.ext XA).exa Y35_38).pay w38 (H.tw 38 rfl) (H.tw 37 rfl) (by decide) (by decide)) (by decide) (by decide) rfl fun vm39 T39 h39 v39 w39 q39 => ?_
        obtain ⟨_, rfl, ⟨r, l, rfl, X39, z0, Ar, Fs, Fr_, z1, Y1, el3, k2, z2, Fe, Ae⟩⟩ := q39
        show Go _ _ _ _ (T39.setTop (mkF X.m 108 #[.val (.int x0), .val (.int x1), .val (.int x2), .val (.int x3), .val (.int (3 : Int32)), .val (.ref s0), .val (.ref s1), .val (.ref s2), .val (.ref b35), .unset, .unset] [(.ref r)]))
        have szf := X39.1
        have R0 := (P0.ext XA).ext X39
        have R1 := (P1.ext XA).ext X39
        have R2 := (P2.ext XA).ext X39
        refine w39.astore (q := 110) (L2 := #[.val (.int x0), .val (.int x1), .val (.int x2), .val (.int x3), .val (.int (3 : Int32)), .val (.ref s0), .val (.ref s1), .val (.ref s2), .val (.ref b35), .val (.ref r), .unset]) at_108 rfl rfl rfl ?_
        refine w39.iload (q := 112) at_110 rfl rfl ?_
        refine w39.ifN (q := 115) at_112 ((if0 _ _).trans (tlt (by decide)).2.2.2) rfl ?_
        refine w39.aload (q := 117) at_115 rfl rfl rfl ?_
        refine w39.iconst (q := 118) (0 : Int32) at_117 rfl rfl ?_
        have AA := A38.ext X39
        refine w39.ldcS (q := 120) (sz := 16) (vs := [(.int (90 : Int32)), (.int (90 : Int32)), (.int (90 : Int32)), (.int (90 : Int32))]) (z := 4) at_118 H.wd (H.tw 125 rfl) H.sa (H.mem (by decide)) ⟨by decide, rfl⟩ (by decide) rfl (by decide) (by decide) (by decide) (by decide) rfl fun vm40 T40 h40 a40 bb40 kb40 w40 X40 ch40 A1_40 A2_40 A3_40 A4_40 => ?_
        have sz40 : h39.size ≤ h40.size := X40.1
        have S40 : StrAt G.Z h40 a40 0 [90, 90, 90, 90] := StrAt.lit _ A1_40 A2_40 A3_40 A4_40 rfl rfl (by decide) (by decide)
        have AB := AA.ext X40
        refine w40.aastore (q := 121) 0 at_120 AB rfl (arv_sto AB O35 (Ins.self S40.exa)) rfl g35 ⟨by decide, by decide⟩ rfl (Nat.le_of_ble_eq_true rfl) rfl fun T41 h41 w41 K41 A41 => ?_
        have sz41 : h40.size ≤ h41.size := K41.1
        replace Fs := (Fs.ext X40).keep K41 (nin1 (by omega))
        replace Fr_ := (Fr_.ext X40).keep K41 (nin1 (by omega))
        replace Fe := (Fe.ext X40).keep K41 (nin1 (by omega))
        replace Ae := (Ae.ext X40).keep K41 (nin1 (by omega))
        replace Ar := (Ar.ext X40).keep K41
        replace Y1 := (Y1.ext X40).keep K41
        have U0 := (R0.ext X40).exa.keep K41
        have U1 := (R1.ext X40).exa.keep K41
        have U2 := (R2.ext X40).exa.keep K41
        refine w41.aload (q := 123) at_121 rfl rfl rfl ?_
        refine w41.callV (q := 126) at_123 (H.tw 66 rfl) (H.tw 67 rfl) (notFace_of_selects (C := "com/example/scodi/scodi/FilterRoute") (args := G.a0) (H.tw 69 rfl)) (H.tw 69 rfl) (H.tw 68 rfl) (by decide) Ar (argsL := []) (rest := []) rfl (lenOf pd45 rfl) rfl (W := 0) (Nat.le_of_eq rfl) ((con_gs G H r (.ref l) rfl h41 w41.old Fs).pay w41 (H.tw 70 rfl) (H.tw 37 rfl) (by decide) (by decide)) (by decide) (by decide) rfl fun vm42 T42 h42 v42 w42 q42 => ?_
        obtain ⟨_, rfl, rfl, rfl⟩ := q42
        show Go _ _ _ _ (T42.setTop (mkF X.m 126 #[.val (.int x0), .val (.int x1), .val (.int x2), .val (.int x3), .val (.int (3 : Int32)), .val (.ref s0), .val (.ref s1), .val (.ref s2), .val (.ref b35), .val (.ref r), .unset] [(.ref l)]))
        refine w42.astore (q := 128) (L2 := #[.val (.int x0), .val (.int x1), .val (.int x2), .val (.int x3), .val (.int (3 : Int32)), .val (.ref s0), .val (.ref s1), .val (.ref s2), .val (.ref b35), .val (.ref r), .val (.ref l)]) at_126 rfl rfl rfl ?_
        refine w42.aload (q := 130) at_128 rfl rfl rfl ?_
        refine w42.callI (q := 135) at_130 (H.tw 71 rfl) (H.tw 72 rfl) (H.tw 73 rfl) (H.tw 74 rfl) (H.tw 75 rfl) (H.tw 76 rfl) (H.tw 77 rfl) (H.tw 78 rfl) (by decide) Y1 (argsL := []) (rest := []) rfl (lenOf pd46 rfl) rfl (W := 0) (Nat.le_of_eq rfl) ((con_lnsize G H l el3 k2 (3 : Int32) _ h41 w42.old Fe Ae).pay w42 (H.tw 80 rfl) (H.tw 79 rfl) (by decide) (by decide)) (by decide) (by decide) rfl fun vm43 T43 h43 v43 w43 q43 => ?_
        obtain ⟨_, rfl, rfl, rfl⟩ := q43
        show Go _ _ _ _ (T43.setTop (mkF X.m 135 #[.val (.int x0), .val (.int x1), .val (.int x2), .val (.int x3), .val (.int (3 : Int32)), .val (.ref s0), .val (.ref s1), .val (.ref s2), .val (.ref b35), .val (.ref r), .val (.ref l)] [(.int (3 : Int32))]))
        refine w43.iload (q := 137) at_135 rfl rfl ?_
        refine w43.icY (q := 142) at_137 ((teq rfl).1) (by decide) (by decide) ?_
        refine w43.aload (q := 144) at_142 rfl rfl rfl ?_
        refine w43.callV (q := 147) at_144 (H.tw 83 rfl) (H.tw 84 rfl) (notFace_of_selects (C := "com/example/scodi/scodi/FilterRoute") (args := G.a0) (H.tw 86 rfl)) (H.tw 86 rfl) (H.tw 85 rfl) (by decide) Ar (argsL := []) (rest := []) rfl (lenOf pd46 rfl) rfl (W := 0) (Nat.le_of_eq rfl) ((con_gr G H r (0 : Int32) h41 w43.old Fr_).pay w43 (H.tw 87 rfl) (H.tw 37 rfl) (by decide) (by decide)) (by decide) (by decide) rfl fun vm44 T44 h44 v44 w44 q44 => ?_
        obtain ⟨_, rfl, rfl, rfl⟩ := q44
        show Go _ _ _ _ (T44.setTop (mkF X.m 147 #[.val (.int x0), .val (.int x1), .val (.int x2), .val (.int x3), .val (.int (3 : Int32)), .val (.ref s0), .val (.ref s1), .val (.ref s2), .val (.ref b35), .val (.ref r), .val (.ref l)] [(.int (0 : Int32))]))
        refine w44.ifY (q := 152) at_147 ((if0 _ _).trans (teq rfl).1) (by decide) (by decide) ?_
        refine w44.iload (q := 154) at_152 rfl rfl ?_
        refine w44.iconst (q := 155) (1 : Int32) at_154 rfl rfl ?_
        refine w44.icN (q := 158) at_155 ((flt (by decide)).1) rfl ?_
        refine w44.aload (q := 160) at_158 rfl rfl rfl ?_
        refine w44.iconst (q := 161) (0 : Int32) at_160 rfl rfl ?_
        refine w44.callI (q := 166) at_161 (H.tw 126 rfl) (H.tw 127 rfl) (H.tw 128 rfl) (H.tw 129 rfl) (H.tw 130 rfl) (H.tw 131 rfl) (H.tw 132 rfl) (H.tw 78 rfl) (by decide) Y1 (argsL := [(.int (0 : Int32))]) (rest := []) rfl (lenOf pd47 rfl) rfl (W := 0) (Nat.le_of_eq rfl) ((con_lnget G H l el3 s0 k2 (3 : Int32) (0 : Int32) _ h41 w44.old Fe Ae ⟨by decide, by decide⟩ rfl).pay w44 (H.tw 133 rfl) (H.tw 79 rfl) (by decide) (by decide)) (by decide) (by decide) rfl fun vm45 T45 h45 v45 w45 q45 => ?_
        obtain ⟨_, rfl, rfl, rfl⟩ := q45
        show Go _ _ _ _ (T45.setTop (mkF X.m 166 #[.val (.int x0), .val (.int x1), .val (.int x2), .val (.int x3), .val (.int (3 : Int32)), .val (.ref s0), .val (.ref s1), .val (.ref s2), .val (.ref b35), .val (.ref r), .val (.ref l)] [(.ref s0)]))
        refine w45.castY (q := 169) at_166 (H.tw 4 rfl) (Ins.self U0) rfl fun T46 w46 => ?_
        refine w46.aload (q := 171) at_169 rfl rfl rfl ?_
        refine w46.callV (q := 174) at_171 (H.tw 134 rfl) (H.tw 135 rfl) (notFace_of_selects (C := "java/lang/String") (args := G.a0) (H.tw 137 rfl)) (H.tw 137 rfl) (H.tw 136 rfl) (by decide) U0 (argsL := [(.ref s0)]) (rest := []) rfl (lenOf pd48 rfl) rfl (W := 0) (Nat.le_of_eq rfl) ((con_eqsame G H s0 h41 w46.old).pay w46 (H.tw 138 rfl) (H.tw 6 rfl) (by decide) (by decide)) (by decide) (by decide) rfl fun vm47 T47 h47 v47 w47 q47 => ?_
        obtain ⟨_, rfl, rfl, rfl⟩ := q47
        show Go _ _ _ _ (T47.setTop (mkF X.m 174 #[.val (.int x0), .val (.int x1), .val (.int x2), .val (.int x3), .val (.int (3 : Int32)), .val (.ref s0), .val (.ref s1), .val (.ref s2), .val (.ref b35), .val (.ref r), .val (.ref l)] [(.int (1 : Int32))]))
        refine w47.ifY (q := 179) at_174 ((if0 _ _).trans (feq (by decide)).2) (by decide) (by decide) ?_
        refine w47.iload (q := 181) at_179 rfl rfl ?_
        refine w47.iconst (q := 182) (2 : Int32) at_181 rfl rfl ?_
        refine w47.icN (q := 185) at_182 ((flt (by decide)).1) rfl ?_
        refine w47.aload (q := 187) at_185 rfl rfl rfl ?_
        refine w47.iconst (q := 188) (1 : Int32) at_187 rfl rfl ?_
        refine w47.callI (q := 193) at_188 (H.tw 126 rfl) (H.tw 127 rfl) (H.tw 128 rfl) (H.tw 129 rfl) (H.tw 130 rfl) (H.tw 131 rfl) (H.tw 132 rfl) (H.tw 78 rfl) (by decide) Y1 (argsL := [(.int (1 : Int32))]) (rest := []) rfl (lenOf pd47 rfl) rfl (W := 0) (Nat.le_of_eq rfl) ((con_lnget G H l el3 s1 k2 (3 : Int32) (1 : Int32) _ h41 w47.old Fe Ae ⟨by decide, by decide⟩ rfl).pay w47 (H.tw 133 rfl) (H.tw 79 rfl) (by decide) (by decide)) (by decide) (by decide) rfl fun vm48 T48 h48 v48 w48 q48 => ?_
        obtain ⟨_, rfl, rfl, rfl⟩ := q48
        show Go _ _ _ _ (T48.setTop (mkF X.m 193 #[.val (.int x0), .val (.int x1), .val (.int x2), .val (.int x3), .val (.int (3 : Int32)), .val (.ref s0), .val (.ref s1), .val (.ref s2), .val (.ref b35), .val (.ref r), .val (.ref l)] [(.ref s1)]))
        refine w48.castY (q := 196) at_193 (H.tw 4 rfl) (Ins.self U1) rfl fun T49 w49 => ?_
        refine w49.aload (q := 198) at_196 rfl rfl rfl ?_
        refine w49.callV (q := 201) at_198 (H.tw 134 rfl) (H.tw 135 rfl) (notFace_of_selects (C := "java/lang/String") (args := G.a0) (H.tw 137 rfl)) (H.tw 137 rfl) (H.tw 136 rfl) (by decide) U1 (argsL := [(.ref s1)]) (rest := []) rfl (lenOf pd48 rfl) rfl (W := 0) (Nat.le_of_eq rfl) ((con_eqsame G H s1 h41 w49.old).pay w49 (H.tw 138 rfl) (H.tw 6 rfl) (by decide) (by decide)) (by decide) (by decide) rfl fun vm50 T50 h50 v50 w50 q50 => ?_
        obtain ⟨_, rfl, rfl, rfl⟩ := q50
        show Go _ _ _ _ (T50.setTop (mkF X.m 201 #[.val (.int x0), .val (.int x1), .val (.int x2), .val (.int x3), .val (.int (3 : Int32)), .val (.ref s0), .val (.ref s1), .val (.ref s2), .val (.ref b35), .val (.ref r), .val (.ref l)] [(.int (1 : Int32))]))
        refine w50.ifY (q := 206) at_201 ((if0 _ _).trans (feq (by decide)).2) (by decide) (by decide) ?_
        refine w50.iload (q := 208) at_206 rfl rfl ?_
        refine w50.iconst (q := 209) (3 : Int32) at_208 rfl rfl ?_
        refine w50.icN (q := 212) at_209 ((flt (by decide)).1) rfl ?_
        refine w50.aload (q := 214) at_212 rfl rfl rfl ?_
        refine w50.iconst (q := 215) (2 : Int32) at_214 rfl rfl ?_
        refine w50.callI (q := 220) at_215 (H.tw 126 rfl) (H.tw 127 rfl) (H.tw 128 rfl) (H.tw 129 rfl) (H.tw 130 rfl) (H.tw 131 rfl) (H.tw 132 rfl) (H.tw 78 rfl) (by decide) Y1 (argsL := [(.int (2 : Int32))]) (rest := []) rfl (lenOf pd47 rfl) rfl (W := 0) (Nat.le_of_eq rfl) ((con_lnget G H l el3 s2 k2 (3 : Int32) (2 : Int32) _ h41 w50.old Fe Ae ⟨by decide, by decide⟩ rfl).pay w50 (H.tw 133 rfl) (H.tw 79 rfl) (by decide) (by decide)) (by decide) (by decide) rfl fun vm51 T51 h51 v51 w51 q51 => ?_
        obtain ⟨_, rfl, rfl, rfl⟩ := q51
        show Go _ _ _ _ (T51.setTop (mkF X.m 220 #[.val (.int x0), .val (.int x1), .val (.int x2), .val (.int x3), .val (.int (3 : Int32)), .val (.ref s0), .val (.ref s1), .val (.ref s2), .val (.ref b35), .val (.ref r), .val (.ref l)] [(.ref s2)]))
        refine w51.castY (q := 223) at_220 (H.tw 4 rfl) (Ins.self U2) rfl fun T52 w52 => ?_
        refine w52.aload (q := 225) at_223 rfl rfl rfl ?_
        refine w52.callV (q := 228) at_225 (H.tw 134 rfl) (H.tw 135 rfl) (notFace_of_selects (C := "java/lang/String") (args := G.a0) (H.tw 137 rfl)) (H.tw 137 rfl) (H.tw 136 rfl) (by decide) U2 (argsL := [(.ref s2)]) (rest := []) rfl (lenOf pd48 rfl) rfl (W := 0) (Nat.le_of_eq rfl) ((con_eqsame G H s2 h41 w52.old).pay w52 (H.tw 138 rfl) (H.tw 6 rfl) (by decide) (by decide)) (by decide) (by decide) rfl fun vm53 T53 h53 v53 w53 q53 => ?_
        obtain ⟨_, rfl, rfl, rfl⟩ := q53
        show Go _ _ _ _ (T53.setTop (mkF X.m 228 #[.val (.int x0), .val (.int x1), .val (.int x2), .val (.int x3), .val (.int (3 : Int32)), .val (.ref s0), .val (.ref s1), .val (.ref s2), .val (.ref b35), .val (.ref r), .val (.ref l)] [(.int (1 : Int32))]))
        refine w53.ifY (q := 233) at_228 ((if0 _ _).trans (feq (by decide)).2) (by decide) (by decide) ?_
        refine w53.iconst (q := 234) (1 : Int32) at_233 rfl rfl ?_
        exact w53.retZ at_234 (t := .boolean) rfl (by decide) rfl (by decide) (by decide) ⟨_, rfl, rfl⟩
set_option maxRecDepth 65536 in
set_option maxHeartbeats 40000000 in
theorem comes_1 {Post : Tables → Env → Array Value → State → Outcome → State → Prop} (hpost : ∀ tb e args s v u, (limb_1_1.after args s (.returned v) u = true ∧ limb_1_2.after args s (.returned v) u = true ∧ True) → ReturnedEndW s (.returned v) u (Jvm.fieldLocs frame_1_writes args s ++ Jvm.arrayLocs frame_1_arrays args s ++ Jvm.staticLocs frame_1_statics s) 40 3264 → Post tb e args s (.returned v) u) :
    ArmFor flags0 classFile x code maxLocals ret World_1 tables_1 room_1 Calls_1 rest_1 Pre_1 Post := by
  intro l hfl _ _ p e ha hc hk s m args below hf hA hF happ hP
  obtain ⟨hcalls, hrest, hpre⟩ := hP
  obtain ⟨-, -, -, hnamed, -, -, -, hat⟩ := (Spec.applies_iff hf).mp happ
  obtain ⟨hg, hn⟩ := and_e (Cond.before_iff.mp (show (Jvm.Cond.and given_1 narrow_1).before args s = true from hpre))
  obtain ⟨h1, g0⟩ := and_e hg
  obtain ⟨w0, w1, w2, w3, rfl⟩ : ∃ w0 w1 w2 w3 : Value, args = #[w0, w1, w2, w3] := by
    have hs : args.size = 4 := by simpa [Cond.value, given_1] using h1
    obtain ⟨L⟩ := args
    match L, hs with
    | [w0, w1, w2, w3], _ => exact ⟨w0, w1, w2, w3, rfl⟩
  have hw := fun d (hd : d ∈ tables_1) => atoms_spec (ws := Jvm.Cond.code x code maxLocals ret :: tables_1) hat d (List.mem_cons_of_mem _ hd)
  obtain ⟨hsets, hown0⟩ := atoms_of _ (rest_1_c_eq ▸ (show rest_1_c.before _ s = true from hrest))
  have hfit : Fit s := fun {y c} hc i hi => by
    obtain ⟨ha, rfl⟩ := Array.getElem?_eq_some_iff.mp hc
    have q := List.all_eq_true.mp ((Array.all_eq_true_iff_forall_mem.mp hF) _ (Array.getElem_mem ha)) i (List.mem_range.mpr hi)
    simpa [Array.getElem?_eq_getElem hi] using q
  obtain ⟨q0, g1⟩ := and_e g0
  obtain ⟨x0, e0⟩ := is_v q0
  obtain rfl : w0 = (.int x0) := Option.some.inj e0
  obtain ⟨q1, g2⟩ := and_e g1
  obtain ⟨x1, e1⟩ := is_v q1
  obtain rfl : w1 = (.int x1) := Option.some.inj e1
  obtain ⟨q2, g3⟩ := and_e g2
  obtain ⟨x2, e2⟩ := is_v q2
  obtain rfl : w2 = (.int x2) := Option.some.inj e2
  obtain ⟨x3, e3⟩ := is_v g3
  obtain rfl : w3 = (.int x3) := Option.some.inj e3
  obtain ⟨cz, ez⟩ := is_v (Cond.before_iff.mp (hsets _ (List.mem_of_getElem? (i := 1) rfl)))
  have Sz : Sta s s.heap "java/lang/String" "COMPACT_STRINGS" "Z" (.int cz) := Sta.start ez (Or.inl (hsets _ (List.mem_of_getElem? (i := 0) rfl)))
  have nz : ¬ (cz = (0 : Int32)) := gotF (Cond.eq_ints ez (Term.int_eval (0))) (not_v (Cond.before_iff.mp (hsets _ (List.mem_of_getElem? (i := 2) rfl))))
  obtain ⟨vf, ef, rf⟩ := isR_v (Cond.before_iff.mp (hsets _ (List.mem_of_getElem? (i := 8) rfl)))
  have Sf : Sta s s.heap "jdk/internal/util/Preconditions" "SIOOBE_FORMATTER" "Ljava/util/function/BiFunction;" vf := Sta.start ef (Or.inl (hsets _ (List.mem_of_getElem? (i := 7) rfl)))
  have hEL : EW s _ consts_1 := (EW.cons (hw _ (List.mem_of_getElem? (i := 39) rfl)) (by decide) (EW.cons (hw _ (List.mem_of_getElem? (i := 125) rfl)) (by decide) (EW.cons (hw _ (List.mem_of_getElem? (i := 88) rfl)) (by decide) EW.nil)))
  have hCH : CHv s consts_1 s.vm s.heap := CHv.start hEL (fun p hp => hcalls.1 p hp) (hsets _ (List.mem_of_getElem? (i := 2) rfl)) (hw _ (List.mem_of_getElem? (i := 23) rfl)) (hw _ (List.mem_of_getElem? (i := 5) rfl))
  obtain ⟨el, eve⟩ := exa_v (Cond.before_iff.mp (hsets _ (List.mem_of_getElem? (i := 11) rfl)))
  have Sel : Sta s s.heap "java/util/ImmutableCollections" "EMPTY_LIST" "Ljava/util/ImmutableCollections$ListN;" (.ref el) := Sta.start eve (Or.inl (hsets _ (List.mem_of_getElem? (i := 10) rfl)))
  have Eel : Exa s s.heap el "java/util/ImmutableCollections$ListN" := Exa.start eve (Cond.before_iff.mp (hsets _ (List.mem_of_getElem? (i := 11) rfl)))
  have hao := Cond.before_iff.mp (hsets _ (List.mem_of_getElem? (i := 12) rfl))
  obtain ⟨ea, eva⟩ := arr_v hao
  have Fel : Fld s s.heap el "java/util/ImmutableCollections$ListN" "elements" "[Ljava/lang/Object;" (.ref ea) := Fld.start ((fld_at eve).symm.trans eva)
  obtain ⟨ca, Aca⟩ := Arr.start eva hao
  have hle := eqv_i (Term.int_eval (0)) (Cond.before_iff.mp (hsets _ (List.mem_of_getElem? (i := 14) rfl)))
  have Ael : Arv s s.heap ea ca.cls (.object "java/lang/Object") (0 : Int32) [] .null := arv_empty hfit Aca eva hle
  obtain ⟨em, evm⟩ := exa_v (Cond.before_iff.mp (hsets _ (List.mem_of_getElem? (i := 18) rfl)))
  have Sem : Sta s s.heap "java/util/ImmutableCollections" "EMPTY" "Ljava/lang/Object;" (.ref em) := Sta.start evm (Or.inl (hsets _ (List.mem_of_getElem? (i := 17) rfl)))
  have Eem : Exa s s.heap em "java/lang/Object" := Exa.start evm (Cond.before_iff.mp (hsets _ (List.mem_of_getElem? (i := 18) rfl)))
  let G : Gx := (true, l, s, #[(.int x0), (.int x1), (.int x2), (.int x3)], consts_1, s.heap.size)
  have H : Hyp G := ⟨hw, hEL, ⟨cz, nz, Sz⟩, ⟨rfl, rfl⟩, ⟨el, ea, em, ca.cls, Sel, Eel, Fel, Ael, Sem, Eem⟩⟩
  obtain ⟨n, o, h1, h2, h3, _, L, rfl, ⟨⟨_, rfl, rfl⟩, N, -⟩, -, hq⟩ := con_law G H x0 x1 x2 x3 s.heap (Old.start s) p e ha hc hk s m _ below hf ((Spec.applies_iff_loose hf).mp happ).1 ⟨rfl, State.Warmed39.refl s, rfl, fun _ => hCH⟩ trivial
  refine ⟨n, _, h1, h2, h3, hpost _ _ _ _ _ _ ⟨Cond.after_iff.mpr rfl, Cond.after_iff.mpr (eq_i res_at (Term.int_eval (1)) rfl), trivial⟩ ⟨hq.1.1, hq.1.2.1, hq.1.2.2.1, (hq.1.2.2.2.sift fun y hy => Or.inr (N y hy)).mono (by decide) (by decide)⟩⟩
theorem main_1_1 : Claimed_1_1 := comes_1 fun _ _ _ _ _ _ h hF => ⟨h.1, hF⟩
theorem main_1_2 : Claimed_1_2 := comes_1 fun _ _ _ _ _ _ h hF => ⟨h.2.1, hF⟩
end Jvm.Pilot.@@N@@
namespace Jvm.Pilot.@@N@@
open Jvm Jvm.ClassFile Sem Op Lib Jvm.Free Jvm.Stand Jvm.Pilot.@@N@@.Jvm.D
/-! MADE BY PROGRAM (witnessworld.py) out of the Statement's table words and the real class files: 34 classes; the members and pool entries that the words name. The judged class is class 1, her method 2. -/
namespace start1
open Jvm.ClassFile
def u (s : String) : CpInfo := .utf8 (stringToUtf16 s)
/-- a pool by its gaps: so many unusable entries, then the entry; so many at the end -/
def gap : Nat → List CpInfo → List CpInfo
  | 0, r => r
  | n + 1, r => .unusable :: gap n r
def poolList (es : List (Nat × CpInfo)) (last : Nat) : List CpInfo := es.foldr (fun e r => gap e.1 (e.2 :: r)) (gap last [])
def pool (es : List (Nat × CpInfo)) (last : Nat) : Array CpInfo := ⟨poolList es last⟩
def fileOf (pool : Array CpInfo) (this : Nat) (attrs : Array Attribute := #[]) (ms : Array MethodInfo := #[]) (fl : Nat := 33) (sup : Nat := 0) (ifs : Array Nat := #[]) (fds : Array FieldInfo := #[]) : ClassFile where
  minorVersion := 0
  majorVersion := 65
  constantPool := pool
  accessFlags := fl
  thisClass := this
  superClass := sup
  interfaces := ifs
  fields := fds
  methods := ms
  attributes := attrs
def plain (name : String) (sup : Option ClassId) : Class where
  name := name
  kind := .ordinary
  loader := none
  accessFlags := 33
  super := sup
  interfaces := #[]
  cf := none
  fields := #[]
  methods := #[]
  instanceTypes := #[]
  staticTypes := #[]
  resolved := #[]
  callSites := []
  init := .initialized
  statics := none
  mirror := none

def pool0 : Array CpInfo := pool [(5, u "<init>"), (0, u "()V"), (1, .class_ 10), (1, u "java/lang/Object")] 113

def k0c0 : Code := { maxStack := 0, maxLocals := 1, code := object_method_1_code, exceptionTable := #[], attributes := #[] }
def k0m0 : Method := { name := "<init>", desc := "()V", sig := { parameters := [], returnType := none }, accessFlags := 1, code := some k0c0 }
/-- java/lang/Object -/
def k0 : Class := { plain "java/lang/Object" none with
  accessFlags := 33
  interfaces := #[]
  cf := some (fileOf pool0 8 #[] #[{ accessFlags := 1, nameIndex := 5, descriptorIndex := 6, attributes := #[] }] 33 0 #[] #[])
  fields := #[]
  methods := #[k0m0]
  instanceTypes := #[]
  staticTypes := #[]
  resolved := Array.replicate 124 none
  statics := none }

def pool1 : Array CpInfo := pool [(2, .class_ 4), (1, u "java/lang/Object"), (0, u "<init>"), (0, u "()V"), (0, .class_ 8), (0, u "java/lang/String"), (0, .methodref 7 10), (0, .nameAndType 5 11), (0, u "([C)V"), (0, .methodref 13 14), (0, .class_ 15), (0, .nameAndType 16 17), (0, u "com/example/scodi/scodi/FilterRouteForScopesPinLaw"), (0, u "mk"), (0, u "(I)Ljava/lang/String;"), (0, .methodref 19 20), (0, .class_ 21), (0, .nameAndType 22 23), (0, u "com/example/scodi/scodi/FilterRoute"), (0, u "forScopes"), (0, u "([Ljava/lang/String;)Lcom/example/scodi/scodi/FilterRoute;"), (0, .string 25), (0, u "ZZZZ"), (0, .methodref 19 27), (0, .nameAndType 28 29), (0, u "getScopes"), (0, u "()Ljava/util/List;"), (0, .interfaceMethodref 31 32), (0, .class_ 33), (0, .nameAndType 34 35), (0, u "java/util/List"), (0, u "size"), (0, u "()I"), (0, .methodref 19 37), (0, .nameAndType 38 35), (0, u "getRanking"), (0, .interfaceMethodref 31 40), (0, .nameAndType 41 42), (0, u "get"), (0, u "(I)Ljava/lang/Object;"), (0, .methodref 7 44), (0, .nameAndType 45 46), (0, u "equals"), (0, u "(Ljava/lang/Object;)Z"), (3, u "law"), (0, u "(IIII)Z")] 4

def k1m0 : Method := { name := "<init>", desc := "()V", sig := { parameters := [], returnType := none }, accessFlags := 1, code := none }
def k1c1 : Code := { maxStack := 6, maxLocals := 5, code := method_2_code, exceptionTable := #[], attributes := #[] }
def k1m1 : Method := { name := "mk", desc := "(I)Ljava/lang/String;", sig := { parameters := [.int], returnType := some (.object "java/lang/String") }, accessFlags := 10, code := some k1c1 }
def k1c2 : Code := { maxStack := 4, maxLocals := 11, code := code, exceptionTable := #[], attributes := #[] }
def k1m2 : Method := { name := "law", desc := "(IIII)Z", sig := { parameters := [.int, .int, .int, .int], returnType := some .boolean }, accessFlags := 9, code := some k1c2 }
/-- com/example/scodi/scodi/FilterRouteForScopesPinLaw -/
def k1 : Class := { plain "com/example/scodi/scodi/FilterRouteForScopesPinLaw" (some 0) with
  accessFlags := 49
  interfaces := #[]
  cf := some (fileOf pool1 13 #[] #[{ accessFlags := 1, nameIndex := 5, descriptorIndex := 6, attributes := #[] }, { accessFlags := 10, nameIndex := 16, descriptorIndex := 17, attributes := #[] }, { accessFlags := 9, nameIndex := 50, descriptorIndex := 51, attributes := #[] }] 49 2 #[] #[])
  fields := #[]
  methods := #[k1m0, k1m1, k1m2]
  instanceTypes := #[]
  staticTypes := #[]
  resolved := Array.replicate 56 none
  statics := none }

def pool2 : Array CpInfo := pool [(1, .class_ 2), (0, u "java/io/Serializable"), (0, .class_ 4), (0, u "java/lang/Object")] 2

/-- java/io/Serializable -/
def k2 : Class := { plain "java/io/Serializable" (some 0) with
  accessFlags := 1537
  interfaces := #[]
  cf := some (fileOf pool2 1 #[] #[] 1537 3 #[] #[])
  fields := #[]
  methods := #[]
  instanceTypes := #[]
  staticTypes := #[]
  resolved := Array.replicate 7 none
  statics := none }

def pool3 : Array CpInfo := pool [(1, .class_ 2), (0, u "java/lang/Comparable"), (0, .class_ 4), (0, u "java/lang/Object")] 7

/-- java/lang/Comparable -/
def k3 : Class := { plain "java/lang/Comparable" (some 0) with
  accessFlags := 1537
  interfaces := #[]
  cf := some (fileOf pool3 1 #[] #[] 1537 3 #[] #[])
  fields := #[]
  methods := #[]
  instanceTypes := #[]
  staticTypes := #[]
  resolved := Array.replicate 12 none
  statics := none }

def pool4 : Array CpInfo := pool [(2, .class_ 4), (1, u "java/lang/CharSequence"), (42, .class_ 48), (0, u "java/lang/CharSequence$1CodePointIterator"), (10, .class_ 60), (0, u "java/lang/CharSequence$1CharIterator"), (5, .class_ 67), (0, u "java/lang/Object")] 63

/-- java/lang/CharSequence -/
def k4 : Class := { plain "java/lang/CharSequence" (some 0) with
  accessFlags := 1537
  interfaces := #[]
  cf := some (fileOf pool4 2 #[.nestMembers #[47, 59]] #[] 1537 66 #[] #[])
  fields := #[]
  methods := #[]
  instanceTypes := #[]
  staticTypes := #[]
  resolved := Array.replicate 131 none
  statics := none }

def pool5 : Array CpInfo := pool [(1, .class_ 2), (0, u "java/lang/constant/Constable"), (0, .class_ 4), (0, u "java/lang/Object")] 6

/-- java/lang/constant/Constable -/
def k5 : Class := { plain "java/lang/constant/Constable" (some 0) with
  accessFlags := 1537
  interfaces := #[]
  cf := some (fileOf pool5 1 #[] #[] 1537 3 #[] #[])
  fields := #[]
  methods := #[]
  instanceTypes := #[]
  staticTypes := #[]
  resolved := Array.replicate 11 none
  statics := none }

def pool6 : Array CpInfo := pool [(1, .class_ 2), (0, u "java/lang/constant/ConstantDesc"), (0, .class_ 4), (0, u "java/lang/Object")] 32

/-- java/lang/constant/ConstantDesc -/
def k6 : Class := { plain "java/lang/constant/ConstantDesc" (some 0) with
  accessFlags := 1537
  interfaces := #[]
  cf := some (fileOf pool6 1 #[] #[] 1537 3 #[] #[])
  fields := #[]
  methods := #[]
  instanceTypes := #[]
  staticTypes := #[]
  resolved := Array.replicate 37 none
  statics := none }

def pool7 : Array CpInfo := pool [(1, .methodref 2 3), (0, .class_ 4), (0, .nameAndType 5 6), (0, u "java/lang/Object"), (0, u "<init>"), (0, u "()V"), (0, .string 8), (0, u ""), (0, .fieldref 10 11), (0, .class_ 12), (0, .nameAndType 13 14), (0, u "java/lang/String"), (0, u "value"), (0, u "[B"), (0, .fieldref 10 16), (0, .nameAndType 17 18), (0, u "coder"), (0, u "B"), (2, u "hash"), (0, u "I"), (2, u "hashIsZero"), (0, u "Z"), (0, .methodref 10 28), (0, .nameAndType 5 29), (0, u "([CIILjava/lang/Void;)V"), (8, .fieldref 10 39), (0, .nameAndType 40 26), (0, u "COMPACT_STRINGS"), (1, .class_ 44), (1, u "java/lang/StringUTF16"), (0, u "compress"), (1, .methodref 42 48), (0, .nameAndType 49 50), (0, u "coderFromArrayLen"), (0, u "([BI)B"), (126, .methodref 42 178), (0, .nameAndType 45 179), (0, u "([CII)[B"), (363, u "equals"), (29, u "(Ljava/lang/Object;)Z"), (1, .class_ 576), (0, u "java/lang/CharSequence"), (22, u "CASE_INSENSITIVE_ORDER"), (0, u "Ljava/util/Comparator;"), (409, u "([C)V"), (90, u "serialPersistentFields"), (0, u "[Ljava/io/ObjectStreamField;"), (0, .class_ 1104), (0, u "java/lang/String$CaseInsensitiveComparator"), (1, .class_ 1107), (0, u "java/io/Serializable"), (0, .class_ 1109), (0, u "java/lang/Comparable"), (0, .class_ 1111), (0, u "java/lang/constant/Constable"), (0, .class_ 1113), (0, u "java/lang/constant/ConstantDesc"), (2, u "serialVersionUID"), (0, u "J"), (3, u "REPL"), (0, u "C"), (2, u "LATIN1"), (1, u "UTF16")] 323

def k7m0 : Method := { name := "<init>", desc := "()V", sig := { parameters := [], returnType := none }, accessFlags := 1, code := none }
def k7c1 : Code := { maxStack := 5, maxLocals := 2, code := jdk_42_method_3_code, exceptionTable := #[], attributes := #[] }
def k7m1 : Method := { name := "<init>", desc := "([C)V", sig := { parameters := [(.array .char)], returnType := none }, accessFlags := 1, code := some k7c1 }
def k7c2 : Code := { maxStack := 2, maxLocals := 3, code := jdk_42_method_66_code, exceptionTable := #[], attributes := #[] }
def k7m2 : Method := { name := "equals", desc := "(Ljava/lang/Object;)Z", sig := { parameters := [(.object "java/lang/Object")], returnType := some .boolean }, accessFlags := 1, code := some k7c2 }
def k7c3 : Code := { maxStack := 4, maxLocals := 6, code := jdk_42_method_149_code, exceptionTable := #[], attributes := #[] }
def k7m3 : Method := { name := "<init>", desc := "([CIILjava/lang/Void;)V", sig := { parameters := [(.array .char), .int, .int, (.object "java/lang/Void")], returnType := none }, accessFlags := 2, code := some k7c3 }
/-- java/lang/String -/
def k7 : Class := { plain "java/lang/String" (some 0) with
  accessFlags := 49
  interfaces := #[2, 3, 4, 5, 6]
  cf := some (fileOf pool7 10 #[.nestMembers #[1103]] #[{ accessFlags := 1, nameIndex := 5, descriptorIndex := 6, attributes := #[] }, { accessFlags := 1, nameIndex := 5, descriptorIndex := 1010, attributes := #[] }, { accessFlags := 1, nameIndex := 543, descriptorIndex := 573, attributes := #[] }, { accessFlags := 2, nameIndex := 5, descriptorIndex := 29, attributes := #[] }] 49 2 #[1106, 1108, 575, 1110, 1112] #[{ accessFlags := 18, nameIndex := 13, descriptorIndex := 14, attributes := #[] }, { accessFlags := 18, nameIndex := 17, descriptorIndex := 18, attributes := #[] }, { accessFlags := 2, nameIndex := 21, descriptorIndex := 22, attributes := #[] }, { accessFlags := 2, nameIndex := 25, descriptorIndex := 26, attributes := #[] }, { accessFlags := 26, nameIndex := 1116, descriptorIndex := 1117, attributes := #[] }, { accessFlags := 24, nameIndex := 40, descriptorIndex := 26, attributes := #[] }, { accessFlags := 26, nameIndex := 1101, descriptorIndex := 1102, attributes := #[] }, { accessFlags := 26, nameIndex := 1121, descriptorIndex := 1122, attributes := #[] }, { accessFlags := 25, nameIndex := 599, descriptorIndex := 600, attributes := #[] }, { accessFlags := 24, nameIndex := 1125, descriptorIndex := 18, attributes := #[] }, { accessFlags := 24, nameIndex := 1127, descriptorIndex := 18, attributes := #[] }])
  fields := #[{ name := "value", type := (.array .byte), accessFlags := 18, slot := 0, constantValue := 0 }, { name := "coder", type := .byte, accessFlags := 18, slot := 1, constantValue := 0 }, { name := "hash", type := .int, accessFlags := 2, slot := 2, constantValue := 0 }, { name := "hashIsZero", type := .boolean, accessFlags := 2, slot := 3, constantValue := 0 }, { name := "serialVersionUID", type := .long, accessFlags := 26, slot := 0, constantValue := 0 }, { name := "COMPACT_STRINGS", type := .boolean, accessFlags := 24, slot := 1, constantValue := 0 }, { name := "serialPersistentFields", type := (.array (.object "java/io/ObjectStreamField")), accessFlags := 26, slot := 2, constantValue := 0 }, { name := "REPL", type := .char, accessFlags := 26, slot := 3, constantValue := 0 }, { name := "CASE_INSENSITIVE_ORDER", type := (.object "java/util/Comparator"), accessFlags := 25, slot := 4, constantValue := 0 }, { name := "LATIN1", type := .byte, accessFlags := 24, slot := 5, constantValue := 0 }, { name := "UTF16", type := .byte, accessFlags := 24, slot := 6, constantValue := 0 }]
  methods := #[k7m0, k7m1, k7m2, k7m3]
  instanceTypes := #[(.array .byte), .byte, .int, .boolean]
  staticTypes := #[.long, .boolean, (.array (.object "java/io/ObjectStreamField")), .char, (.object "java/util/Comparator"), .byte, .byte]
  resolved := Array.replicate 1451 none
  statics := some 0 }

def pool8 : Array CpInfo := pool [(6, .class_ 8), (1, u "java/lang/Object"), (0, u "<init>"), (0, u "()V"), (1, .class_ 14), (1, u "java/lang/StringUTF16"), (31, u "$assertionsDisabled"), (0, u "Z"), (13, u "HI_BYTE_SHIFT"), (0, u "I"), (2, u "LO_BYTE_SHIFT"), (49, .methodref 12 116), (0, .nameAndType 117 118), (0, u "compress"), (0, u "([CI[BII)I"), (3, u "([CII)[B"), (138, u "coderFromArrayLen"), (0, u "([BI)B"), (106, .class_ 371), (1, u "java/lang/StringUTF16$LinesSpliterator"), (58, u "MAX_LENGTH"), (196, .class_ 628), (0, u "java/lang/StringUTF16$CodePointsSpliterator"), (0, .class_ 630), (0, u "java/lang/StringUTF16$CharsSpliterator")] 4

def k8m0 : Method := { name := "<init>", desc := "()V", sig := { parameters := [], returnType := none }, accessFlags := 0, code := none }
def k8c1 : Code := { maxStack := 2, maxLocals := 2, code := jdk_52_method_15_code, exceptionTable := #[], attributes := #[] }
def k8m1 : Method := { name := "coderFromArrayLen", desc := "([BI)B", sig := { parameters := [(.array .byte), .int], returnType := some .byte }, accessFlags := 8, code := some k8c1 }
def k8c2 : Code := { maxStack := 5, maxLocals := 6, code := jdk_52_method_16_code, exceptionTable := #[], attributes := #[] }
def k8m2 : Method := { name := "compress", desc := "([CII)[B", sig := { parameters := [(.array .char), .int, .int], returnType := some (.array .byte) }, accessFlags := 9, code := some k8c2 }
def k8c3 : Code := { maxStack := 3, maxLocals := 7, code := jdk_52_method_21_code, exceptionTable := #[], attributes := #[] }
def k8m3 : Method := { name := "compress", desc := "([CI[BII)I", sig := { parameters := [(.array .char), .int, (.array .byte), .int, .int], returnType := some .int }, accessFlags := 9, code := some k8c3 }
/-- java/lang/StringUTF16 -/
def k8 : Class := { plain "java/lang/StringUTF16" (some 0) with
  accessFlags := 48
  interfaces := #[]
  cf := some (fileOf pool8 12 #[.nestMembers #[627, 629, 369]] #[{ accessFlags := 0, nameIndex := 9, descriptorIndex := 10, attributes := #[] }, { accessFlags := 8, nameIndex := 261, descriptorIndex := 262, attributes := #[] }, { accessFlags := 9, nameIndex := 117, descriptorIndex := 122, attributes := #[] }, { accessFlags := 9, nameIndex := 117, descriptorIndex := 118, attributes := #[] }] 48 6 #[] #[{ accessFlags := 26, nameIndex := 61, descriptorIndex := 62, attributes := #[] }, { accessFlags := 26, nameIndex := 65, descriptorIndex := 62, attributes := #[] }, { accessFlags := 24, nameIndex := 430, descriptorIndex := 62, attributes := #[] }, { accessFlags := 4120, nameIndex := 46, descriptorIndex := 47, attributes := #[] }])
  fields := #[{ name := "HI_BYTE_SHIFT", type := .int, accessFlags := 26, slot := 0, constantValue := 0 }, { name := "LO_BYTE_SHIFT", type := .int, accessFlags := 26, slot := 1, constantValue := 0 }, { name := "MAX_LENGTH", type := .int, accessFlags := 24, slot := 2, constantValue := 0 }, { name := "$assertionsDisabled", type := .boolean, accessFlags := 4120, slot := 3, constantValue := 0 }]
  methods := #[k8m0, k8m1, k8m2, k8m3]
  instanceTypes := #[]
  staticTypes := #[.int, .int, .int, .boolean]
  resolved := Array.replicate 635 none
  statics := none }

def pool9 : Array CpInfo := pool [(1, .methodref 2 3), (0, .class_ 4), (0, .nameAndType 5 6), (0, u "java/lang/Object"), (0, u "<init>"), (0, u "()V"), (0, .fieldref 8 9), (0, .class_ 10), (0, .nameAndType 11 12), (0, u "com/example/scodi/scodi/FilterRoute"), (0, u "_scopes"), (0, u "Ljava/util/List;"), (0, .fieldref 8 14), (0, .nameAndType 15 16), (0, u "_ranking"), (0, u "I"), (0, .fieldref 8 18), (0, .nameAndType 19 20), (0, u "_pattern"), (0, u "Ljava/lang/String;"), (0, .string 22), (0, u "scopes"), (0, .methodref 24 25), (0, .class_ 26), (0, .nameAndType 27 28), (0, u "java/util/Objects"), (0, u "requireNonNull"), (0, u "(Ljava/lang/Object;Ljava/lang/String;)Ljava/lang/Object;"), (0, .class_ 30), (0, u "[Ljava/lang/String;"), (0, .interfaceMethodref 32 33), (0, .class_ 34), (0, .nameAndType 35 36), (0, u "java/util/List"), (0, u "of"), (0, u "([Ljava/lang/Object;)Ljava/util/List;"), (0, .methodref 8 38), (0, .nameAndType 5 39), (0, u "(Ljava/util/List;ILjava/lang/String;)V"), (15, u "forScopes"), (0, u "([Ljava/lang/String;)Lcom/example/scodi/scodi/FilterRoute;"), (4, u "getScopes"), (0, u "()Ljava/util/List;"), (1, u "getRanking"), (0, u "()I")] 5

def k9c0 : Code := { maxStack := 2, maxLocals := 4, code := prog_5_method_1_code, exceptionTable := #[], attributes := #[] }
def k9m0 : Method := { name := "<init>", desc := "(Ljava/util/List;ILjava/lang/String;)V", sig := { parameters := [(.object "java/util/List"), .int, (.object "java/lang/String")], returnType := none }, accessFlags := 2, code := some k9c0 }
def k9c1 : Code := { maxStack := 5, maxLocals := 2, code := prog_5_method_2_code, exceptionTable := #[], attributes := #[] }
def k9m1 : Method := { name := "forScopes", desc := "([Ljava/lang/String;)Lcom/example/scodi/scodi/FilterRoute;", sig := { parameters := [(.array (.object "java/lang/String"))], returnType := some (.object "com/example/scodi/scodi/FilterRoute") }, accessFlags := 137, code := some k9c1 }
def k9c2 : Code := { maxStack := 1, maxLocals := 1, code := prog_5_method_5_code, exceptionTable := #[], attributes := #[] }
def k9m2 : Method := { name := "getScopes", desc := "()Ljava/util/List;", sig := { parameters := [], returnType := some (.object "java/util/List") }, accessFlags := 1, code := some k9c2 }
def k9c3 : Code := { maxStack := 1, maxLocals := 1, code := prog_5_method_6_code, exceptionTable := #[], attributes := #[] }
def k9m3 : Method := { name := "getRanking", desc := "()I", sig := { parameters := [], returnType := some .int }, accessFlags := 1, code := some k9c3 }
/-- com/example/scodi/scodi/FilterRoute -/
def k9 : Class := { plain "com/example/scodi/scodi/FilterRoute" (some 0) with
  accessFlags := 33
  interfaces := #[]
  cf := some (fileOf pool9 8 #[] #[{ accessFlags := 2, nameIndex := 5, descriptorIndex := 39, attributes := #[] }, { accessFlags := 137, nameIndex := 55, descriptorIndex := 56, attributes := #[] }, { accessFlags := 1, nameIndex := 61, descriptorIndex := 62, attributes := #[] }, { accessFlags := 1, nameIndex := 64, descriptorIndex := 65, attributes := #[] }] 33 2 #[] #[{ accessFlags := 18, nameIndex := 11, descriptorIndex := 12, attributes := #[] }, { accessFlags := 18, nameIndex := 15, descriptorIndex := 16, attributes := #[] }, { accessFlags := 18, nameIndex := 19, descriptorIndex := 20, attributes := #[] }])
  fields := #[{ name := "_scopes", type := (.object "java/util/List"), accessFlags := 18, slot := 0, constantValue := 0 }, { name := "_ranking", type := .int, accessFlags := 18, slot := 1, constantValue := 0 }, { name := "_pattern", type := (.object "java/lang/String"), accessFlags := 18, slot := 2, constantValue := 0 }]
  methods := #[k9m0, k9m1, k9m2, k9m3]
  instanceTypes := #[(.object "java/util/List"), .int, (.object "java/lang/String")]
  staticTypes := #[]
  resolved := Array.replicate 71 none
  statics := none }

def pool10 : Array CpInfo := pool [(2, .class_ 4), (1, u "java/lang/Object"), (0, u "<init>"), (0, u "()V"), (35, .class_ 44), (1, u "java/util/Objects"), (0, u "requireNonNull"), (0, u "(Ljava/lang/Object;)Ljava/lang/Object;"), (47, u "(Ljava/lang/Object;Ljava/lang/String;)Ljava/lang/Object;")] 89

def k10m0 : Method := { name := "<init>", desc := "()V", sig := { parameters := [], returnType := none }, accessFlags := 2, code := none }
def k10c1 : Code := { maxStack := 2, maxLocals := 1, code := jdk_31_method_10_code, exceptionTable := #[], attributes := #[] }
def k10m1 : Method := { name := "requireNonNull", desc := "(Ljava/lang/Object;)Ljava/lang/Object;", sig := { parameters := [(.object "java/lang/Object")], returnType := some (.object "java/lang/Object") }, accessFlags := 9, code := some k10c1 }
def k10c2 : Code := { maxStack := 3, maxLocals := 2, code := jdk_31_method_11_code, exceptionTable := #[], attributes := #[] }
def k10m2 : Method := { name := "requireNonNull", desc := "(Ljava/lang/Object;Ljava/lang/String;)Ljava/lang/Object;", sig := { parameters := [(.object "java/lang/Object"), (.object "java/lang/String")], returnType := some (.object "java/lang/Object") }, accessFlags := 9, code := some k10c2 }
/-- java/util/Objects -/
def k10 : Class := { plain "java/util/Objects" (some 0) with
  accessFlags := 49
  interfaces := #[]
  cf := some (fileOf pool10 42 #[] #[{ accessFlags := 2, nameIndex := 5, descriptorIndex := 6, attributes := #[] }, { accessFlags := 9, nameIndex := 45, descriptorIndex := 46, attributes := #[] }, { accessFlags := 9, nameIndex := 45, descriptorIndex := 94, attributes := #[] }] 49 2 #[] #[])
  fields := #[]
  methods := #[k10m0, k10m1, k10m2]
  instanceTypes := #[]
  staticTypes := #[]
  resolved := Array.replicate 184 none
  statics := none }

def pool11 : Array CpInfo := pool [(8, .class_ 10), (1, u "java/lang/Iterable"), (24, .class_ 36), (0, u "java/lang/Object")] 25

/-- java/lang/Iterable -/
def k11 : Class := { plain "java/lang/Iterable" (some 0) with
  accessFlags := 1537
  interfaces := #[]
  cf := some (fileOf pool11 8 #[] #[] 1537 35 #[] #[])
  fields := #[]
  methods := #[]
  instanceTypes := #[]
  staticTypes := #[]
  resolved := Array.replicate 62 none
  statics := none }

def pool12 : Array CpInfo := pool [(10, .class_ 12), (1, u "java/util/Collection"), (47, .class_ 61), (0, u "java/lang/Object"), (0, .class_ 63), (0, u "java/lang/Iterable")] 51

/-- java/util/Collection -/
def k12 : Class := { plain "java/util/Collection" (some 0) with
  accessFlags := 1537
  interfaces := #[11]
  cf := some (fileOf pool12 10 #[] #[] 1537 60 #[62] #[])
  fields := #[]
  methods := #[]
  instanceTypes := #[]
  staticTypes := #[]
  resolved := Array.replicate 115 none
  statics := none }

def pool13 : Array CpInfo := pool [(8, .class_ 10), (1, u "java/util/SequencedCollection"), (15, .class_ 27), (0, u "java/lang/Object"), (0, .class_ 29), (0, u "java/util/Collection")] 27

/-- java/util/SequencedCollection -/
def k13 : Class := { plain "java/util/SequencedCollection" (some 0) with
  accessFlags := 1537
  interfaces := #[12]
  cf := some (fileOf pool13 8 #[] #[] 1537 26 #[28] #[])
  fields := #[]
  methods := #[]
  instanceTypes := #[]
  staticTypes := #[]
  resolved := Array.replicate 57 none
  statics := none }

def pool14 : Array CpInfo := pool [(8, .class_ 10), (1, u "java/util/List"), (20, u "(Ljava/lang/Object;)V"), (16, u "<init>"), (26, u "get"), (0, u "(I)Ljava/lang/Object;"), (2, u "size"), (0, u "()I"), (7, u "of"), (1, .fieldref 91 92), (0, .class_ 93), (0, .nameAndType 94 95), (0, u "java/util/ImmutableCollections"), (0, u "EMPTY_LIST"), (0, u "Ljava/util/ImmutableCollections$ListN;"), (0, .class_ 97), (0, u "java/util/ImmutableCollections$List12"), (0, .methodref 96 99), (0, .nameAndType 48 31), (0, .methodref 96 101), (0, .nameAndType 48 102), (0, u "(Ljava/lang/Object;Ljava/lang/Object;)V"), (0, .class_ 104), (0, u "java/lang/Object"), (3, u "([Ljava/lang/Object;)Ljava/util/List;"), (0, .methodref 91 110), (0, .nameAndType 111 108), (0, u "listFromArray"), (8, .class_ 121), (0, u "java/util/SequencedCollection")] 129

def k14m0 : Method := { name := "size", desc := "()I", sig := { parameters := [], returnType := some .int }, accessFlags := 1025, code := none }
def k14m1 : Method := { name := "get", desc := "(I)Ljava/lang/Object;", sig := { parameters := [.int], returnType := some (.object "java/lang/Object") }, accessFlags := 1025, code := none }
def k14c2 : Code := { maxStack := 5, maxLocals := 2, code := jdk_40_method_47_code, exceptionTable := #[], attributes := #[] }
def k14m2 : Method := { name := "of", desc := "([Ljava/lang/Object;)Ljava/util/List;", sig := { parameters := [(.array (.object "java/lang/Object"))], returnType := some (.object "java/util/List") }, accessFlags := 137, code := some k14c2 }
/-- java/util/List -/
def k14 : Class := { plain "java/util/List" (some 0) with
  accessFlags := 1537
  interfaces := #[13]
  cf := some (fileOf pool14 8 #[] #[{ accessFlags := 1025, nameIndex := 79, descriptorIndex := 80, attributes := #[] }, { accessFlags := 1025, nameIndex := 75, descriptorIndex := 76, attributes := #[] }, { accessFlags := 137, nameIndex := 88, descriptorIndex := 108, attributes := #[] }] 1537 103 #[120] #[])
  fields := #[]
  methods := #[k14m0, k14m1, k14m2]
  instanceTypes := #[]
  staticTypes := #[]
  resolved := Array.replicate 251 none
  statics := none }

def pool15 : Array CpInfo := pool [(2, .class_ 4), (1, u "java/lang/Object"), (0, u "<init>"), (0, u "()V"), (3, .class_ 11), (0, u "java/util/ImmutableCollections$List12"), (0, .class_ 13), (0, u "java/util/ImmutableCollections$ListN"), (3, u "Z"), (18, u "([Ljava/lang/Object;)Ljava/util/List;"), (0, .methodref 38 39), (0, .class_ 40), (0, .nameAndType 41 42), (0, u "java/util/Objects"), (0, u "requireNonNull"), (0, u "(Ljava/lang/Object;)Ljava/lang/Object;"), (0, .methodref 12 44), (0, .nameAndType 5 45), (0, u "([Ljava/lang/Object;Z)V"), (1, .class_ 49), (1, u "java/util/ImmutableCollections"), (0, u "$assertionsDisabled"), (5, u "[Ljava/lang/Object;"), (5, u "EMPTY_LIST"), (0, u "Ljava/util/ImmutableCollections$ListN;"), (8, u "EMPTY_LIST_NULLS"), (22, u "SALT32L"), (0, u "J"), (2, u "REVERSE"), (6, u "archivedObjects"), (2, u "EMPTY"), (0, u "Ljava/lang/Object;"), (0, .class_ 112), (0, u "java/util/ImmutableCollections$SetN"), (5, u "EMPTY_SET"), (0, u "Ljava/util/ImmutableCollections$SetN;"), (0, .class_ 121), (0, u "java/util/ImmutableCollections$MapN"), (3, u "EMPTY_MAP"), (0, u "Ljava/util/ImmutableCollections$MapN;"), (4, u "EXPAND_FACTOR"), (0, u "I"), (18, u "listFromArray"), (17, .class_ 170), (0, u "java/util/ImmutableCollections$MapN$MapNIterator"), (0, .class_ 172), (0, u "java/util/ImmutableCollections$MapN$1"), (0, .class_ 174), (0, u "java/util/ImmutableCollections$Map1"), (0, .class_ 176), (0, u "java/util/ImmutableCollections$AbstractImmutableMap"), (0, .class_ 178), (0, u "java/util/ImmutableCollections$SetN$SetNIterator"), (0, .class_ 180), (0, u "java/util/ImmutableCollections$Set12"), (0, .class_ 182), (0, u "java/util/ImmutableCollections$Set12$1"), (0, .class_ 184), (0, u "java/util/ImmutableCollections$AbstractImmutableSet"), (0, .class_ 186), (0, u "java/util/ImmutableCollections$SubList"), (0, .class_ 188), (0, u "java/util/ImmutableCollections$ListItr"), (0, .class_ 190), (0, u "java/util/ImmutableCollections$AbstractImmutableList"), (0, .class_ 192), (0, u "java/util/ImmutableCollections$AbstractImmutableCollection"), (0, .class_ 194), (0, u "java/util/ImmutableCollections$Access"), (0, .class_ 196), (0, u "java/util/ImmutableCollections$Access$1")] 16

def k15m0 : Method := { name := "<init>", desc := "()V", sig := { parameters := [], returnType := none }, accessFlags := 2, code := none }
def k15c1 : Code := { maxStack := 4, maxLocals := 3, code := jdk_56_method_4_code, exceptionTable := #[], attributes := #[] }
def k15m1 : Method := { name := "listFromArray", desc := "([Ljava/lang/Object;)Ljava/util/List;", sig := { parameters := [(.array (.object "java/lang/Object"))], returnType := some (.object "java/util/List") }, accessFlags := 136, code := some k15c1 }
/-- java/util/ImmutableCollections -/
def k15 : Class := { plain "java/util/ImmutableCollections" (some 0) with
  accessFlags := 32
  interfaces := #[]
  cf := some (fileOf pool15 47 #[.nestMembers #[120, 169, 171, 173, 175, 111, 177, 179, 181, 183, 12, 10, 185, 187, 189, 191, 193, 195]] #[{ accessFlags := 2, nameIndex := 5, descriptorIndex := 6, attributes := #[] }, { accessFlags := 136, nameIndex := 151, descriptorIndex := 36, attributes := #[] }] 32 2 #[] #[{ accessFlags := 26, nameIndex := 95, descriptorIndex := 96, attributes := #[] }, { accessFlags := 26, nameIndex := 99, descriptorIndex := 17, attributes := #[] }, { accessFlags := 10, nameIndex := 106, descriptorIndex := 56, attributes := #[] }, { accessFlags := 26, nameIndex := 109, descriptorIndex := 110, attributes := #[] }, { accessFlags := 24, nameIndex := 62, descriptorIndex := 63, attributes := #[] }, { accessFlags := 24, nameIndex := 72, descriptorIndex := 63, attributes := #[] }, { accessFlags := 24, nameIndex := 118, descriptorIndex := 119, attributes := #[] }, { accessFlags := 24, nameIndex := 125, descriptorIndex := 126, attributes := #[] }, { accessFlags := 24, nameIndex := 131, descriptorIndex := 132, attributes := #[] }, { accessFlags := 4120, nameIndex := 50, descriptorIndex := 17, attributes := #[] }])
  fields := #[{ name := "SALT32L", type := .long, accessFlags := 26, slot := 0, constantValue := 0 }, { name := "REVERSE", type := .boolean, accessFlags := 26, slot := 1, constantValue := 0 }, { name := "archivedObjects", type := (.array (.object "java/lang/Object")), accessFlags := 10, slot := 2, constantValue := 0 }, { name := "EMPTY", type := (.object "java/lang/Object"), accessFlags := 26, slot := 3, constantValue := 0 }, { name := "EMPTY_LIST", type := (.object "java/util/ImmutableCollections$ListN"), accessFlags := 24, slot := 4, constantValue := 0 }, { name := "EMPTY_LIST_NULLS", type := (.object "java/util/ImmutableCollections$ListN"), accessFlags := 24, slot := 5, constantValue := 0 }, { name := "EMPTY_SET", type := (.object "java/util/ImmutableCollections$SetN"), accessFlags := 24, slot := 6, constantValue := 0 }, { name := "EMPTY_MAP", type := (.object "java/util/ImmutableCollections$MapN"), accessFlags := 24, slot := 7, constantValue := 0 }, { name := "EXPAND_FACTOR", type := .int, accessFlags := 24, slot := 8, constantValue := 0 }, { name := "$assertionsDisabled", type := .boolean, accessFlags := 4120, slot := 9, constantValue := 0 }]
  methods := #[k15m0, k15m1]
  instanceTypes := #[]
  staticTypes := #[.long, .boolean, (.array (.object "java/lang/Object")), (.object "java/lang/Object"), (.object "java/util/ImmutableCollections$ListN"), (.object "java/util/ImmutableCollections$ListN"), (.object "java/util/ImmutableCollections$SetN"), (.object "java/util/ImmutableCollections$MapN"), .int, .boolean]
  resolved := Array.replicate 213 none
  statics := some 1 }

def pool16 : Array CpInfo := pool [(1, .methodref 2 3), (0, .class_ 4), (0, .nameAndType 5 6), (0, u "java/lang/Object"), (0, u "<init>"), (0, u "()V"), (1, .class_ 10), (1, u "java/util/AbstractCollection"), (66, .class_ 78), (0, u "java/util/Collection")] 81

def k16c0 : Code := { maxStack := 1, maxLocals := 1, code := jdk_22_method_1_code, exceptionTable := #[], attributes := #[] }
def k16m0 : Method := { name := "<init>", desc := "()V", sig := { parameters := [], returnType := none }, accessFlags := 4, code := some k16c0 }
/-- java/util/AbstractCollection -/
def k16 : Class := { plain "java/util/AbstractCollection" (some 0) with
  accessFlags := 1057
  interfaces := #[12]
  cf := some (fileOf pool16 8 #[] #[{ accessFlags := 4, nameIndex := 5, descriptorIndex := 6, attributes := #[] }] 1057 2 #[77] #[])
  fields := #[]
  methods := #[k16m0]
  instanceTypes := #[]
  staticTypes := #[]
  resolved := Array.replicate 160 none
  statics := none }

def pool17 : Array CpInfo := pool [(1, .methodref 2 3), (0, .class_ 4), (0, .nameAndType 5 6), (0, u "java/util/AbstractCollection"), (0, u "<init>"), (0, u "()V"), (1, .class_ 10), (1, u "java/util/ImmutableCollections"), (2, .class_ 14), (0, u "java/util/ImmutableCollections$AbstractImmutableCollection")] 41

def k17c0 : Code := { maxStack := 1, maxLocals := 1, code := jdk_47_method_1_code, exceptionTable := #[], attributes := #[] }
def k17m0 : Method := { name := "<init>", desc := "()V", sig := { parameters := [], returnType := none }, accessFlags := 0, code := some k17c0 }
/-- java/util/ImmutableCollections$AbstractImmutableCollection -/
def k17 : Class := { plain "java/util/ImmutableCollections$AbstractImmutableCollection" (some 16) with
  accessFlags := 1056
  interfaces := #[]
  cf := some (fileOf pool17 13 #[.nestHost 8] #[{ accessFlags := 0, nameIndex := 5, descriptorIndex := 6, attributes := #[] }] 1056 2 #[] #[])
  fields := #[]
  methods := #[k17m0]
  instanceTypes := #[]
  staticTypes := #[]
  resolved := Array.replicate 56 none
  statics := none }

def pool18 : Array CpInfo := pool [(1, .class_ 2), (0, u "java/util/RandomAccess"), (0, .class_ 4), (0, u "java/lang/Object")] 2

/-- java/util/RandomAccess -/
def k18 : Class := { plain "java/util/RandomAccess" (some 0) with
  accessFlags := 1537
  interfaces := #[]
  cf := some (fileOf pool18 1 #[] #[] 1537 3 #[] #[])
  fields := #[]
  methods := #[]
  instanceTypes := #[]
  staticTypes := #[]
  resolved := Array.replicate 7 none
  statics := none }

def pool19 : Array CpInfo := pool [(1, .methodref 2 3), (0, .class_ 4), (0, .nameAndType 5 6), (0, u "java/util/ImmutableCollections$AbstractImmutableCollection"), (0, u "<init>"), (0, u "()V"), (1, .class_ 10), (1, u "java/util/ImmutableCollections"), (3, .class_ 16), (1, u "java/util/ImmutableCollections$AbstractImmutableList"), (60, .class_ 78), (0, u "java/util/List"), (45, .class_ 125), (0, u "java/util/RandomAccess")] 70

def k19c0 : Code := { maxStack := 1, maxLocals := 1, code := jdk_46_method_1_code, exceptionTable := #[], attributes := #[] }
def k19m0 : Method := { name := "<init>", desc := "()V", sig := { parameters := [], returnType := none }, accessFlags := 0, code := some k19c0 }
/-- java/util/ImmutableCollections$AbstractImmutableList -/
def k19 : Class := { plain "java/util/ImmutableCollections$AbstractImmutableList" (some 17) with
  accessFlags := 1056
  interfaces := #[14, 18]
  cf := some (fileOf pool19 14 #[.nestHost 8] #[{ accessFlags := 0, nameIndex := 5, descriptorIndex := 6, attributes := #[] }] 1056 2 #[77, 124] #[])
  fields := #[]
  methods := #[k19m0]
  instanceTypes := #[]
  staticTypes := #[]
  resolved := Array.replicate 196 none
  statics := none }

def pool20 : Array CpInfo := pool [(1, .methodref 2 3), (0, .class_ 4), (0, .nameAndType 5 6), (0, u "java/util/ImmutableCollections$AbstractImmutableList"), (0, u "<init>"), (0, u "()V"), (0, .fieldref 8 9), (0, .class_ 10), (0, .nameAndType 11 12), (0, u "java/util/ImmutableCollections$ListN"), (0, u "elements"), (0, u "[Ljava/lang/Object;"), (0, .fieldref 8 14), (0, .nameAndType 15 16), (0, u "allowNulls"), (0, u "Z"), (42, .class_ 60), (0, u "java/io/Serializable"), (4, u "([Ljava/lang/Object;Z)V"), (11, u "size"), (0, u "()I"), (0, u "get"), (0, u "(I)Ljava/lang/Object;"), (33, .class_ 115), (0, u "java/util/ImmutableCollections")] 3

def k20c0 : Code := { maxStack := 2, maxLocals := 3, code := jdk_45_method_1_code, exceptionTable := #[], attributes := #[] }
def k20m0 : Method := { name := "<init>", desc := "([Ljava/lang/Object;Z)V", sig := { parameters := [(.array (.object "java/lang/Object")), .boolean], returnType := none }, accessFlags := 2, code := some k20c0 }
def k20c1 : Code := { maxStack := 1, maxLocals := 1, code := jdk_45_method_3_code, exceptionTable := #[], attributes := #[] }
def k20m1 : Method := { name := "size", desc := "()I", sig := { parameters := [], returnType := some .int }, accessFlags := 1, code := some k20c1 }
def k20c2 : Code := { maxStack := 2, maxLocals := 2, code := jdk_45_method_4_code, exceptionTable := #[], attributes := #[] }
def k20m2 : Method := { name := "get", desc := "(I)Ljava/lang/Object;", sig := { parameters := [.int], returnType := some (.object "java/lang/Object") }, accessFlags := 1, code := some k20c2 }
/-- java/util/ImmutableCollections$ListN -/
def k20 : Class := { plain "java/util/ImmutableCollections$ListN" (some 19) with
  accessFlags := 48
  interfaces := #[2]
  cf := some (fileOf pool20 8 #[.nestHost 114] #[{ accessFlags := 2, nameIndex := 5, descriptorIndex := 65, attributes := #[] }, { accessFlags := 1, nameIndex := 77, descriptorIndex := 78, attributes := #[] }, { accessFlags := 1, nameIndex := 79, descriptorIndex := 80, attributes := #[] }] 48 2 #[59] #[{ accessFlags := 18, nameIndex := 11, descriptorIndex := 12, attributes := #[] }, { accessFlags := 18, nameIndex := 15, descriptorIndex := 16, attributes := #[] }])
  fields := #[{ name := "elements", type := (.array (.object "java/lang/Object")), accessFlags := 18, slot := 0, constantValue := 0 }, { name := "allowNulls", type := .boolean, accessFlags := 18, slot := 1, constantValue := 0 }]
  methods := #[k20m0, k20m1, k20m2]
  instanceTypes := #[(.array (.object "java/lang/Object")), .boolean]
  staticTypes := #[]
  resolved := Array.replicate 119 none
  statics := none }

def pool21 : Array CpInfo := pool [(1, .methodref 2 3), (0, .class_ 4), (0, .nameAndType 5 6), (0, u "java/util/ImmutableCollections$AbstractImmutableList"), (0, u "<init>"), (0, u "()V"), (0, .methodref 8 9), (0, .class_ 10), (0, .nameAndType 11 12), (0, u "java/util/Objects"), (0, u "requireNonNull"), (0, u "(Ljava/lang/Object;)Ljava/lang/Object;"), (0, .fieldref 14 15), (0, .class_ 16), (0, .nameAndType 17 18), (0, u "java/util/ImmutableCollections$List12"), (0, u "e0"), (0, u "Ljava/lang/Object;"), (0, .fieldref 20 21), (0, .class_ 22), (0, .nameAndType 23 18), (0, u "java/util/ImmutableCollections"), (0, u "EMPTY"), (0, .fieldref 14 25), (0, .nameAndType 26 18), (0, u "e1"), (24, u "size"), (0, u "()I"), (17, .class_ 71), (0, u "java/io/Serializable"), (4, u "(Ljava/lang/Object;)V"), (8, u "(Ljava/lang/Object;Ljava/lang/Object;)V"), (4, u "get"), (0, u "(I)Ljava/lang/Object;")] 33

def k21c0 : Code := { maxStack := 2, maxLocals := 2, code := jdk_44_method_1_code, exceptionTable := #[], attributes := #[] }
def k21m0 : Method := { name := "<init>", desc := "(Ljava/lang/Object;)V", sig := { parameters := [(.object "java/lang/Object")], returnType := none }, accessFlags := 0, code := some k21c0 }
def k21c1 : Code := { maxStack := 2, maxLocals := 3, code := jdk_44_method_2_code, exceptionTable := #[], attributes := #[] }
def k21m1 : Method := { name := "<init>", desc := "(Ljava/lang/Object;Ljava/lang/Object;)V", sig := { parameters := [(.object "java/lang/Object"), (.object "java/lang/Object")], returnType := none }, accessFlags := 0, code := some k21c1 }
def k21c2 : Code := { maxStack := 2, maxLocals := 1, code := jdk_44_method_3_code, exceptionTable := #[], attributes := #[] }
def k21m2 : Method := { name := "size", desc := "()I", sig := { parameters := [], returnType := some .int }, accessFlags := 1, code := some k21c2 }
def k21c3 : Code := { maxStack := 2, maxLocals := 2, code := jdk_44_method_5_code, exceptionTable := #[], attributes := #[] }
def k21m3 : Method := { name := "get", desc := "(I)Ljava/lang/Object;", sig := { parameters := [.int], returnType := some (.object "java/lang/Object") }, accessFlags := 1, code := some k21c3 }
/-- java/util/ImmutableCollections$List12 -/
def k21 : Class := { plain "java/util/ImmutableCollections$List12" (some 19) with
  accessFlags := 48
  interfaces := #[2]
  cf := some (fileOf pool21 14 #[.nestHost 20] #[{ accessFlags := 0, nameIndex := 5, descriptorIndex := 76, attributes := #[] }, { accessFlags := 0, nameIndex := 5, descriptorIndex := 85, attributes := #[] }, { accessFlags := 1, nameIndex := 51, descriptorIndex := 52, attributes := #[] }, { accessFlags := 1, nameIndex := 90, descriptorIndex := 91, attributes := #[] }] 48 2 #[70] #[{ accessFlags := 18, nameIndex := 17, descriptorIndex := 18, attributes := #[] }, { accessFlags := 18, nameIndex := 26, descriptorIndex := 18, attributes := #[] }])
  fields := #[{ name := "e0", type := (.object "java/lang/Object"), accessFlags := 18, slot := 0, constantValue := 0 }, { name := "e1", type := (.object "java/lang/Object"), accessFlags := 18, slot := 1, constantValue := 0 }]
  methods := #[k21m0, k21m1, k21m2, k21m3]
  instanceTypes := #[(.object "java/lang/Object"), (.object "java/lang/Object")]
  staticTypes := #[]
  resolved := Array.replicate 125 none
  statics := none }

def pool22 : Array CpInfo := pool [(4, .class_ 6), (1, u "java/lang/Object"), (0, u "<init>"), (0, u "()V"), (5, .class_ 16), (1, u "java/lang/StringLatin1"), (104, u "$assertionsDisabled"), (0, u "Z"), (98, .class_ 223), (1, u "java/lang/StringLatin1$LinesSpliterator"), (166, .class_ 391), (0, u "java/lang/StringLatin1$CharsSpliterator")] 3

def k22m0 : Method := { name := "<init>", desc := "()V", sig := { parameters := [], returnType := none }, accessFlags := 0, code := none }
/-- java/lang/StringLatin1 -/
def k22 : Class := { plain "java/lang/StringLatin1" (some 0) with
  accessFlags := 48
  interfaces := #[]
  cf := some (fileOf pool22 14 #[.nestMembers #[390, 221]] #[{ accessFlags := 0, nameIndex := 7, descriptorIndex := 8, attributes := #[] }] 48 4 #[] #[{ accessFlags := 4120, nameIndex := 121, descriptorIndex := 122, attributes := #[] }])
  fields := #[{ name := "$assertionsDisabled", type := .boolean, accessFlags := 4120, slot := 0, constantValue := 0 }]
  methods := #[k22m0]
  instanceTypes := #[]
  staticTypes := #[.boolean]
  resolved := Array.replicate 395 none
  statics := none }

def pool23 : Array CpInfo := pool [(2, .class_ 4), (1, u "java/lang/Object"), (0, u "<init>"), (0, u "()V"), (17, .class_ 26), (1, u "jdk/internal/util/Preconditions"), (28, .class_ 56), (0, u "jdk/internal/util/Preconditions$4"), (57, .class_ 115), (0, u "jdk/internal/util/Preconditions$1"), (7, u "SIOOBE_FORMATTER"), (0, u "Ljava/util/function/BiFunction;"), (0, .class_ 126), (0, u "jdk/internal/util/Preconditions$2"), (3, u "AIOOBE_FORMATTER"), (0, .class_ 132), (0, u "jdk/internal/util/Preconditions$3"), (3, u "IOOBE_FORMATTER")] 57

def k23m0 : Method := { name := "<init>", desc := "()V", sig := { parameters := [], returnType := none }, accessFlags := 1, code := none }
/-- jdk/internal/util/Preconditions -/
def k23 : Class := { plain "jdk/internal/util/Preconditions" (some 0) with
  accessFlags := 33
  interfaces := #[]
  cf := some (fileOf pool23 24 #[.nestMembers #[55, 131, 125, 114]] #[{ accessFlags := 1, nameIndex := 5, descriptorIndex := 6, attributes := #[] }] 33 2 #[] #[{ accessFlags := 25, nameIndex := 123, descriptorIndex := 124, attributes := #[] }, { accessFlags := 25, nameIndex := 130, descriptorIndex := 124, attributes := #[] }, { accessFlags := 25, nameIndex := 136, descriptorIndex := 124, attributes := #[] }])
  fields := #[{ name := "SIOOBE_FORMATTER", type := (.object "java/util/function/BiFunction"), accessFlags := 25, slot := 0, constantValue := 0 }, { name := "AIOOBE_FORMATTER", type := (.object "java/util/function/BiFunction"), accessFlags := 25, slot := 1, constantValue := 0 }, { name := "IOOBE_FORMATTER", type := (.object "java/util/function/BiFunction"), accessFlags := 25, slot := 2, constantValue := 0 }]
  methods := #[k23m0]
  instanceTypes := #[]
  staticTypes := #[(.object "java/util/function/BiFunction"), (.object "java/util/function/BiFunction"), (.object "java/util/function/BiFunction")]
  resolved := Array.replicate 194 none
  statics := some 2 }

def pool24 : Array CpInfo := pool [(9, u "<init>"), (6, .class_ 18), (1, u "java/lang/Object"), (0, u "()V"), (1, .class_ 23), (1, u "jdk/internal/util/ArraysSupport"), (0, u "LOG2_ARRAY_LONG_INDEX_SCALE"), (0, u "I"), (2, u "U"), (0, u "Ljdk/internal/misc/Unsafe;"), (8, u "BIG_ENDIAN"), (0, u "Z"), (8, u "LOG2_BYTE_BIT_SIZE"), (4, u "LOG2_ARRAY_INT_INDEX_SCALE"), (54, u "JLA"), (0, u "Ljdk/internal/access/JavaLangAccess;"), (11, u "LOG2_ARRAY_BOOLEAN_INDEX_SCALE"), (9, u "LOG2_ARRAY_BYTE_INDEX_SCALE"), (5, u "LOG2_ARRAY_CHAR_INDEX_SCALE"), (5, u "LOG2_ARRAY_SHORT_INDEX_SCALE"), (18, u "LOG2_ARRAY_FLOAT_INDEX_SCALE"), (24, u "LOG2_ARRAY_DOUBLE_INDEX_SCALE"), (89, u "T_BOOLEAN"), (2, u "T_CHAR"), (1, u "T_FLOAT"), (1, u "T_DOUBLE"), (1, u "T_BYTE"), (1, u "T_SHORT"), (1, u "T_INT"), (1, u "T_LONG"), (1, u "SOFT_MAX_ARRAY_LENGTH")] 83

def k24m0 : Method := { name := "<init>", desc := "()V", sig := { parameters := [], returnType := none }, accessFlags := 2, code := none }
/-- jdk/internal/util/ArraysSupport -/
def k24 : Class := { plain "jdk/internal/util/ArraysSupport" (some 0) with
  accessFlags := 33
  interfaces := #[]
  cf := some (fileOf pool24 21 #[] #[{ accessFlags := 2, nameIndex := 9, descriptorIndex := 19, attributes := #[] }] 33 16 #[] #[{ accessFlags := 24, nameIndex := 28, descriptorIndex := 29, attributes := #[] }, { accessFlags := 26, nameIndex := 38, descriptorIndex := 39, attributes := #[] }, { accessFlags := 25, nameIndex := 121, descriptorIndex := 25, attributes := #[] }, { accessFlags := 25, nameIndex := 131, descriptorIndex := 25, attributes := #[] }, { accessFlags := 25, nameIndex := 137, descriptorIndex := 25, attributes := #[] }, { accessFlags := 25, nameIndex := 143, descriptorIndex := 25, attributes := #[] }, { accessFlags := 25, nameIndex := 53, descriptorIndex := 25, attributes := #[] }, { accessFlags := 25, nameIndex := 24, descriptorIndex := 25, attributes := #[] }, { accessFlags := 25, nameIndex := 162, descriptorIndex := 25, attributes := #[] }, { accessFlags := 25, nameIndex := 187, descriptorIndex := 25, attributes := #[] }, { accessFlags := 26, nameIndex := 48, descriptorIndex := 25, attributes := #[] }, { accessFlags := 25, nameIndex := 277, descriptorIndex := 25, attributes := #[] }, { accessFlags := 25, nameIndex := 280, descriptorIndex := 25, attributes := #[] }, { accessFlags := 25, nameIndex := 282, descriptorIndex := 25, attributes := #[] }, { accessFlags := 25, nameIndex := 284, descriptorIndex := 25, attributes := #[] }, { accessFlags := 25, nameIndex := 286, descriptorIndex := 25, attributes := #[] }, { accessFlags := 25, nameIndex := 288, descriptorIndex := 25, attributes := #[] }, { accessFlags := 25, nameIndex := 290, descriptorIndex := 25, attributes := #[] }, { accessFlags := 25, nameIndex := 292, descriptorIndex := 25, attributes := #[] }, { accessFlags := 26, nameIndex := 108, descriptorIndex := 109, attributes := #[] }, { accessFlags := 25, nameIndex := 294, descriptorIndex := 25, attributes := #[] }])
  fields := #[{ name := "U", type := (.object "jdk/internal/misc/Unsafe"), accessFlags := 24, slot := 0, constantValue := 0 }, { name := "BIG_ENDIAN", type := .boolean, accessFlags := 26, slot := 1, constantValue := 0 }, { name := "LOG2_ARRAY_BOOLEAN_INDEX_SCALE", type := .int, accessFlags := 25, slot := 2, constantValue := 0 }, { name := "LOG2_ARRAY_BYTE_INDEX_SCALE", type := .int, accessFlags := 25, slot := 3, constantValue := 0 }, { name := "LOG2_ARRAY_CHAR_INDEX_SCALE", type := .int, accessFlags := 25, slot := 4, constantValue := 0 }, { name := "LOG2_ARRAY_SHORT_INDEX_SCALE", type := .int, accessFlags := 25, slot := 5, constantValue := 0 }, { name := "LOG2_ARRAY_INT_INDEX_SCALE", type := .int, accessFlags := 25, slot := 6, constantValue := 0 }, { name := "LOG2_ARRAY_LONG_INDEX_SCALE", type := .int, accessFlags := 25, slot := 7, constantValue := 0 }, { name := "LOG2_ARRAY_FLOAT_INDEX_SCALE", type := .int, accessFlags := 25, slot := 8, constantValue := 0 }, { name := "LOG2_ARRAY_DOUBLE_INDEX_SCALE", type := .int, accessFlags := 25, slot := 9, constantValue := 0 }, { name := "LOG2_BYTE_BIT_SIZE", type := .int, accessFlags := 26, slot := 10, constantValue := 0 }, { name := "T_BOOLEAN", type := .int, accessFlags := 25, slot := 11, constantValue := 0 }, { name := "T_CHAR", type := .int, accessFlags := 25, slot := 12, constantValue := 0 }, { name := "T_FLOAT", type := .int, accessFlags := 25, slot := 13, constantValue := 0 }, { name := "T_DOUBLE", type := .int, accessFlags := 25, slot := 14, constantValue := 0 }, { name := "T_BYTE", type := .int, accessFlags := 25, slot := 15, constantValue := 0 }, { name := "T_SHORT", type := .int, accessFlags := 25, slot := 16, constantValue := 0 }, { name := "T_INT", type := .int, accessFlags := 25, slot := 17, constantValue := 0 }, { name := "T_LONG", type := .int, accessFlags := 25, slot := 18, constantValue := 0 }, { name := "JLA", type := (.object "jdk/internal/access/JavaLangAccess"), accessFlags := 26, slot := 19, constantValue := 0 }, { name := "SOFT_MAX_ARRAY_LENGTH", type := .int, accessFlags := 25, slot := 20, constantValue := 0 }]
  methods := #[k24m0]
  instanceTypes := #[]
  staticTypes := #[(.object "jdk/internal/misc/Unsafe"), .boolean, .int, .int, .int, .int, .int, .int, .int, .int, .int, .int, .int, .int, .int, .int, .int, .int, .int, (.object "jdk/internal/access/JavaLangAccess"), .int]
  resolved := Array.replicate 378 none
  statics := none }

def pool25 : Array CpInfo := pool [(1, u "java/lang/Cloneable"), (0, .class_ 1), (0, u "java/lang/Object"), (0, .class_ 3)] 3

/-- java/lang/Cloneable -/
def k25 : Class := { plain "java/lang/Cloneable" (some 0) with
  accessFlags := 1537
  interfaces := #[]
  cf := some (fileOf pool25 2 #[] #[] 1537 4 #[] #[])
  fields := #[]
  methods := #[]
  instanceTypes := #[]
  staticTypes := #[]
  resolved := Array.replicate 8 none
  statics := none }

/-- the primitive byte -/
def k26 : Class := { plain "byte" none with kind := .primitive 'B', accessFlags := 0x411 }
/-- [B -/
def k27 : Class := { plain "[B" (some 0) with kind := .array 26 .byte, interfaces := #[25, 2], accessFlags := 1041 }

/-- the primitive char -/
def k28 : Class := { plain "char" none with kind := .primitive 'C', accessFlags := 0x411 }
/-- [C -/
def k29 : Class := { plain "[C" (some 0) with kind := .array 28 .char, interfaces := #[25, 2], accessFlags := 1041 }

/-- the primitive int -/
def k30 : Class := { plain "int" none with kind := .primitive 'I', accessFlags := 0x411 }
/-- [I -/
def k31 : Class := { plain "[I" (some 0) with kind := .array 30 .int, interfaces := #[25, 2], accessFlags := 1041 }

/-- [Ljava/lang/Object; -/
def k32 : Class := { plain "[Ljava/lang/Object;" (some 0) with kind := .array 0 (.object "java/lang/Object"), interfaces := #[25, 2], accessFlags := 1041 }

/-- [Ljava/lang/String; -/
def k33 : Class := { plain "[Ljava/lang/String;" (some 0) with kind := .array 7 (.object "java/lang/String"), interfaces := #[25, 2], accessFlags := 1041 }

def heap : Heap := #[{ cls := 7, slots := #[.long 0, .int 1, .null, .int 0, .null, .int 0, .int 0], vm := .statics 7 },
  { cls := 15, slots := #[.long 0, .int 0, .null, .ref 5, .ref 4, .null, .null, .null, .int 0, .int 1], vm := .statics 15 },
  { cls := 23, slots := #[.null, .null, .null], vm := .statics 23 },
  { cls := 32, slots := #[], vm := .none },
  { cls := 20, slots := #[.ref 3, .int 0], vm := .none },
  { cls := 0, slots := #[], vm := .none }]
def classes : Array Class := #[k0, k1, k2, k3, k4, k5, k6, k7, k8, k9, k10, k11, k12, k13, k14, k15, k16, k17, k18, k19, k20, k21, k22, k23, k24, k25, k26, k27, k28, k29, k30, k31, k32, k33]
def interned : List (Array UInt16 × Addr) := []
def slotsUsed : Nat := 22
def theMethod : MethodId := ⟨1, 2⟩
def args0 : Array Value := #[.int 5, .int 6, .int 7, .int 8]
def aboutOver (below : List Frame) : State where
  vm := { classes := classes, interned := interned.toArray }
  heap := heap
  slotsUsed := slotsUsed
  threads := #[{ frames := .invoking theMethod args0 :: below }]
def below0 : List Frame := [.native { method := ⟨0, 0⟩, args := #[] }]
def about1 : State := aboutOver below0
def p0 : Program := .bare "" "" ""
def e0 : Env := launch0.env 0 0 0
theorem w_frames : about1.frames = Frame.invoking theMethod args0 :: below0 := rfl
set_option maxRecDepth 65536 in
theorem w_args : argsFit about1.vm theMethod args0 = true := by decide +kernel
set_option maxRecDepth 65536 in
theorem w_heap : heapFits about1 = true := by decide +kernel
set_option maxRecDepth 65536 in
theorem w_runnable : about1.curStatus? = some .runnable := by decide +kernel
set_option maxRecDepth 65536 in
theorem w_alone : about1.alone = true := by decide +kernel
set_option maxRecDepth 65536 in
theorem w_named : about1.methodNamed? x = some theMethod := by decide +kernel
set_option maxRecDepth 65536 in
theorem w_hears : about1.hears theMethod below0 = true := by decide +kernel
set_option maxRecDepth 65536 in
theorem w_ripe : about1.ripe theMethod args0 below0 = true := by decide +kernel
theorem w_running : about1.status = .running := rfl
set_option maxRecDepth 65536 in
theorem w_room : about1.hasRoom e0.platform room_1 = true :=
  launch0.hasRoom_least _ room_1 (by decide +kernel) (by decide +kernel) (by decide +kernel) (by decide +kernel) (by decide +kernel) (by decide +kernel)
theorem allAtoms_all (ts : List Jvm.Cond) (a : Array Jvm.Value) (st : Jvm.State) : (allAtoms ts).before a st = ts.all (fun c => c.before a st) := by
  induction ts with
  | nil => rfl
  | cons c t ih =>
    show (Jvm.Cond.and c (allAtoms t)).before a st = _
    rw [Jvm.Cond.before_and, ih, List.all_cons]
def words1 : List Jvm.Cond := Jvm.Cond.code x code maxLocals ret :: tables_1
/-- a 'code' word, met by the world's own term for the bytes: nothing is compared byte by byte -/
theorem code_word {y : MethodName} {bytes : ByteArray} {mx : Nat} {rt : Option FieldType} {a : Array Value} {s : State} {m : MethodId} {meth : Method} {c : Code} (h1 : s.methodNamed? y = some m) (h2 : s.vm.method? m = some meth) (h3 : meth.code = some c) (h4 : c.code = bytes)
    (h5 : (c.maxLocals == mx && c.exceptionTable.isEmpty && decide (c.maxStack ≤ mostOperands) && decide (meth.sig.returnType = rt) && !meth.locks && decide (parseMethodDescriptor y.desc = some meth.sig)) = true) : (Jvm.Cond.code y bytes mx rt).before a s = true := by
  simp only [Bool.and_eq_true, beq_iff_eq, Bool.not_eq_true', decide_eq_true_eq] at h5
  obtain ⟨⟨⟨⟨⟨g1, g2⟩, g3⟩, g4⟩, g5⟩, g6⟩ := h5
  simp [Cond.before, Cond.holds, Cond.value, h1, h2, h3, h4, g1, g2, g3, g4, g5, g6]
def isCode : Jvm.Cond → Bool
  | .code _ _ _ _ => true
  | _ => false
theorem all_split {L : List Jvm.Cond} {P : Jvm.Cond → Bool} (h1 : L.all (fun c => isCode c || P c) = true) (h2 : ∀ c ∈ L.filter isCode, P c = true) : L.all P = true := by
  refine List.all_eq_true.mpr fun c hc => ?_
  have h := List.all_eq_true.mp h1 c hc
  rcases Bool.eq_false_or_eq_true (isCode c) with hi | hi
  · exact h2 c (List.mem_filter.mpr ⟨hc, hi⟩)
  · simpa [hi] using h
set_option maxRecDepth 65536 in
theorem w_c0 : (Jvm.Cond.code x code maxLocals ret).before args0 about1 = true := code_word (m := ⟨1, 2⟩) (meth := k1m2) (c := k1c2) (by decide +kernel) rfl rfl rfl (by decide +kernel)
set_option maxRecDepth 65536 in
theorem w_c1 : (Jvm.Cond.code ({ cls := "com/example/scodi/scodi/FilterRouteForScopesPinLaw", name := "mk", desc := "(I)Ljava/lang/String;" } : Jvm.MethodName) method_2_code (5 : Nat) (Option.some (Jvm.ClassFile.FieldType.object "java/lang/String"))).before args0 about1 = true := code_word (m := ⟨1, 1⟩) (meth := k1m1) (c := k1c1) (by decide +kernel) rfl rfl rfl (by decide +kernel)
set_option maxRecDepth 65536 in
theorem w_c2 : (Jvm.Cond.code ({ cls := "java/lang/String", name := "<init>", desc := "([C)V" } : Jvm.MethodName) jdk_42_method_3_code (2 : Nat) (Option.none : Option Jvm.ClassFile.FieldType)).before args0 about1 = true := code_word (m := ⟨7, 1⟩) (meth := k7m1) (c := k7c1) (by decide +kernel) rfl rfl rfl (by decide +kernel)
set_option maxRecDepth 65536 in
theorem w_c3 : (Jvm.Cond.code ({ cls := "java/lang/String", name := "<init>", desc := "([CIILjava/lang/Void;)V" } : Jvm.MethodName) jdk_42_method_149_code (6 : Nat) (Option.none : Option Jvm.ClassFile.FieldType)).before args0 about1 = true := code_word (m := ⟨7, 3⟩) (meth := k7m3) (c := k7c3) (by decide +kernel) rfl rfl rfl (by decide +kernel)
set_option maxRecDepth 65536 in
theorem w_c4 : (Jvm.Cond.code ({ cls := "java/lang/Object", name := "<init>", desc := "()V" } : Jvm.MethodName) object_method_1_code (1 : Nat) (Option.none : Option Jvm.ClassFile.FieldType)).before args0 about1 = true := code_word (m := ⟨0, 0⟩) (meth := k0m0) (c := k0c0) (by decide +kernel) rfl rfl rfl (by decide +kernel)
set_option maxRecDepth 65536 in
theorem w_c5 : (Jvm.Cond.code ({ cls := "java/lang/StringUTF16", name := "compress", desc := "([CII)[B" } : Jvm.MethodName) jdk_52_method_16_code (6 : Nat) (Option.some (Jvm.ClassFile.FieldType.array Jvm.ClassFile.FieldType.byte))).before args0 about1 = true := code_word (m := ⟨8, 2⟩) (meth := k8m2) (c := k8c2) (by decide +kernel) rfl rfl rfl (by decide +kernel)
set_option maxRecDepth 65536 in
theorem w_c6 : (Jvm.Cond.code ({ cls := "java/lang/StringUTF16", name := "compress", desc := "([CI[BII)I" } : Jvm.MethodName) jdk_52_method_21_code (7 : Nat) (Option.some Jvm.ClassFile.FieldType.int)).before args0 about1 = true := code_word (m := ⟨8, 3⟩) (meth := k8m3) (c := k8c3) (by decide +kernel) rfl rfl rfl (by decide +kernel)
set_option maxRecDepth 65536 in
theorem w_c7 : (Jvm.Cond.code ({ cls := "java/lang/StringUTF16", name := "coderFromArrayLen", desc := "([BI)B" } : Jvm.MethodName) jdk_52_method_15_code (2 : Nat) (Option.some Jvm.ClassFile.FieldType.byte)).before args0 about1 = true := code_word (m := ⟨8, 1⟩) (meth := k8m1) (c := k8c1) (by decide +kernel) rfl rfl rfl (by decide +kernel)
set_option maxRecDepth 65536 in
theorem w_c8 : (Jvm.Cond.code ({ cls := "com/example/scodi/scodi/FilterRoute", name := "forScopes", desc := "([Ljava/lang/String;)Lcom/example/scodi/scodi/FilterRoute;" } : Jvm.MethodName) prog_5_method_2_code (2 : Nat) (Option.some (Jvm.ClassFile.FieldType.object "com/example/scodi/scodi/FilterRoute"))).before args0 about1 = true := code_word (m := ⟨9, 1⟩) (meth := k9m1) (c := k9c1) (by decide +kernel) rfl rfl rfl (by decide +kernel)
set_option maxRecDepth 65536 in
theorem w_c9 : (Jvm.Cond.code ({ cls := "java/util/Objects", name := "requireNonNull", desc := "(Ljava/lang/Object;Ljava/lang/String;)Ljava/lang/Object;" } : Jvm.MethodName) jdk_31_method_11_code (2 : Nat) (Option.some (Jvm.ClassFile.FieldType.object "java/lang/Object"))).before args0 about1 = true := code_word (m := ⟨10, 2⟩) (meth := k10m2) (c := k10c2) (by decide +kernel) rfl rfl rfl (by decide +kernel)
set_option maxRecDepth 65536 in
theorem w_c10 : (Jvm.Cond.code ({ cls := "java/util/List", name := "of", desc := "([Ljava/lang/Object;)Ljava/util/List;" } : Jvm.MethodName) jdk_40_method_47_code (2 : Nat) (Option.some (Jvm.ClassFile.FieldType.object "java/util/List"))).before args0 about1 = true := code_word (m := ⟨14, 2⟩) (meth := k14m2) (c := k14c2) (by decide +kernel) rfl rfl rfl (by decide +kernel)
set_option maxRecDepth 65536 in
theorem w_c11 : (Jvm.Cond.code ({ cls := "com/example/scodi/scodi/FilterRoute", name := "<init>", desc := "(Ljava/util/List;ILjava/lang/String;)V" } : Jvm.MethodName) prog_5_method_1_code (4 : Nat) (Option.none : Option Jvm.ClassFile.FieldType)).before args0 about1 = true := code_word (m := ⟨9, 0⟩) (meth := k9m0) (c := k9c0) (by decide +kernel) rfl rfl rfl (by decide +kernel)
set_option maxRecDepth 65536 in
theorem w_c12 : (Jvm.Cond.code ({ cls := "com/example/scodi/scodi/FilterRoute", name := "getScopes", desc := "()Ljava/util/List;" } : Jvm.MethodName) prog_5_method_5_code (1 : Nat) (Option.some (Jvm.ClassFile.FieldType.object "java/util/List"))).before args0 about1 = true := code_word (m := ⟨9, 2⟩) (meth := k9m2) (c := k9c2) (by decide +kernel) rfl rfl rfl (by decide +kernel)
set_option maxRecDepth 65536 in
theorem w_c13 : (Jvm.Cond.code ({ cls := "java/util/ImmutableCollections$ListN", name := "size", desc := "()I" } : Jvm.MethodName) jdk_45_method_3_code (1 : Nat) (Option.some Jvm.ClassFile.FieldType.int)).before args0 about1 = true := code_word (m := ⟨20, 1⟩) (meth := k20m1) (c := k20c1) (by decide +kernel) rfl rfl rfl (by decide +kernel)
set_option maxRecDepth 65536 in
theorem w_c14 : (Jvm.Cond.code ({ cls := "com/example/scodi/scodi/FilterRoute", name := "getRanking", desc := "()I" } : Jvm.MethodName) prog_5_method_6_code (1 : Nat) (Option.some Jvm.ClassFile.FieldType.int)).before args0 about1 = true := code_word (m := ⟨9, 3⟩) (meth := k9m3) (c := k9c3) (by decide +kernel) rfl rfl rfl (by decide +kernel)
set_option maxRecDepth 65536 in
theorem w_c15 : (Jvm.Cond.code ({ cls := "java/util/ImmutableCollections", name := "listFromArray", desc := "([Ljava/lang/Object;)Ljava/util/List;" } : Jvm.MethodName) jdk_56_method_4_code (3 : Nat) (Option.some (Jvm.ClassFile.FieldType.object "java/util/List"))).before args0 about1 = true := code_word (m := ⟨15, 1⟩) (meth := k15m1) (c := k15c1) (by decide +kernel) rfl rfl rfl (by decide +kernel)
set_option maxRecDepth 65536 in
theorem w_c16 : (Jvm.Cond.code ({ cls := "java/util/Objects", name := "requireNonNull", desc := "(Ljava/lang/Object;)Ljava/lang/Object;" } : Jvm.MethodName) jdk_31_method_10_code (1 : Nat) (Option.some (Jvm.ClassFile.FieldType.object "java/lang/Object"))).before args0 about1 = true := code_word (m := ⟨10, 1⟩) (meth := k10m1) (c := k10c1) (by decide +kernel) rfl rfl rfl (by decide +kernel)
set_option maxRecDepth 65536 in
theorem w_c17 : (Jvm.Cond.code ({ cls := "java/util/ImmutableCollections$ListN", name := "<init>", desc := "([Ljava/lang/Object;Z)V" } : Jvm.MethodName) jdk_45_method_1_code (3 : Nat) (Option.none : Option Jvm.ClassFile.FieldType)).before args0 about1 = true := code_word (m := ⟨20, 0⟩) (meth := k20m0) (c := k20c0) (by decide +kernel) rfl rfl rfl (by decide +kernel)
set_option maxRecDepth 65536 in
theorem w_c18 : (Jvm.Cond.code ({ cls := "java/util/ImmutableCollections$AbstractImmutableList", name := "<init>", desc := "()V" } : Jvm.MethodName) jdk_46_method_1_code (1 : Nat) (Option.none : Option Jvm.ClassFile.FieldType)).before args0 about1 = true := code_word (m := ⟨19, 0⟩) (meth := k19m0) (c := k19c0) (by decide +kernel) rfl rfl rfl (by decide +kernel)
set_option maxRecDepth 65536 in
theorem w_c19 : (Jvm.Cond.code ({ cls := "java/util/ImmutableCollections$AbstractImmutableCollection", name := "<init>", desc := "()V" } : Jvm.MethodName) jdk_47_method_1_code (1 : Nat) (Option.none : Option Jvm.ClassFile.FieldType)).before args0 about1 = true := code_word (m := ⟨17, 0⟩) (meth := k17m0) (c := k17c0) (by decide +kernel) rfl rfl rfl (by decide +kernel)
set_option maxRecDepth 65536 in
theorem w_c20 : (Jvm.Cond.code ({ cls := "java/util/AbstractCollection", name := "<init>", desc := "()V" } : Jvm.MethodName) jdk_22_method_1_code (1 : Nat) (Option.none : Option Jvm.ClassFile.FieldType)).before args0 about1 = true := code_word (m := ⟨16, 0⟩) (meth := k16m0) (c := k16c0) (by decide +kernel) rfl rfl rfl (by decide +kernel)
set_option maxRecDepth 65536 in
theorem w_c21 : (Jvm.Cond.code ({ cls := "java/util/ImmutableCollections$ListN", name := "get", desc := "(I)Ljava/lang/Object;" } : Jvm.MethodName) jdk_45_method_4_code (2 : Nat) (Option.some (Jvm.ClassFile.FieldType.object "java/lang/Object"))).before args0 about1 = true := code_word (m := ⟨20, 2⟩) (meth := k20m2) (c := k20c2) (by decide +kernel) rfl rfl rfl (by decide +kernel)
set_option maxRecDepth 65536 in
theorem w_c22 : (Jvm.Cond.code ({ cls := "java/lang/String", name := "equals", desc := "(Ljava/lang/Object;)Z" } : Jvm.MethodName) jdk_42_method_66_code (3 : Nat) (Option.some Jvm.ClassFile.FieldType.boolean)).before args0 about1 = true := code_word (m := ⟨7, 2⟩) (meth := k7m2) (c := k7c2) (by decide +kernel) rfl rfl rfl (by decide +kernel)
set_option maxRecDepth 65536 in
theorem w_c23 : (Jvm.Cond.code ({ cls := "java/util/ImmutableCollections$List12", name := "<init>", desc := "(Ljava/lang/Object;Ljava/lang/Object;)V" } : Jvm.MethodName) jdk_44_method_2_code (3 : Nat) (Option.none : Option Jvm.ClassFile.FieldType)).before args0 about1 = true := code_word (m := ⟨21, 1⟩) (meth := k21m1) (c := k21c1) (by decide +kernel) rfl rfl rfl (by decide +kernel)
set_option maxRecDepth 65536 in
theorem w_c24 : (Jvm.Cond.code ({ cls := "java/util/ImmutableCollections$List12", name := "size", desc := "()I" } : Jvm.MethodName) jdk_44_method_3_code (1 : Nat) (Option.some Jvm.ClassFile.FieldType.int)).before args0 about1 = true := code_word (m := ⟨21, 2⟩) (meth := k21m2) (c := k21c2) (by decide +kernel) rfl rfl rfl (by decide +kernel)
set_option maxRecDepth 65536 in
theorem w_c25 : (Jvm.Cond.code ({ cls := "java/util/ImmutableCollections$List12", name := "get", desc := "(I)Ljava/lang/Object;" } : Jvm.MethodName) jdk_44_method_5_code (2 : Nat) (Option.some (Jvm.ClassFile.FieldType.object "java/lang/Object"))).before args0 about1 = true := code_word (m := ⟨21, 3⟩) (meth := k21m3) (c := k21c3) (by decide +kernel) rfl rfl rfl (by decide +kernel)
set_option maxRecDepth 65536 in
theorem w_c26 : (Jvm.Cond.code ({ cls := "java/util/ImmutableCollections$List12", name := "<init>", desc := "(Ljava/lang/Object;)V" } : Jvm.MethodName) jdk_44_method_1_code (2 : Nat) (Option.none : Option Jvm.ClassFile.FieldType)).before args0 about1 = true := code_word (m := ⟨21, 0⟩) (meth := k21m0) (c := k21c0) (by decide +kernel) rfl rfl rfl (by decide +kernel)
def codes1 : List Jvm.Cond := [Jvm.Cond.code x code maxLocals ret, Jvm.Cond.code ({ cls := "com/example/scodi/scodi/FilterRouteForScopesPinLaw", name := "mk", desc := "(I)Ljava/lang/String;" } : Jvm.MethodName) method_2_code (5 : Nat) (Option.some (Jvm.ClassFile.FieldType.object "java/lang/String")), Jvm.Cond.code ({ cls := "java/lang/String", name := "<init>", desc := "([C)V" } : Jvm.MethodName) jdk_42_method_3_code (2 : Nat) (Option.none : Option Jvm.ClassFile.FieldType), Jvm.Cond.code ({ cls := "java/lang/String", name := "<init>", desc := "([CIILjava/lang/Void;)V" } : Jvm.MethodName) jdk_42_method_149_code (6 : Nat) (Option.none : Option Jvm.ClassFile.FieldType), Jvm.Cond.code ({ cls := "java/lang/Object", name := "<init>", desc := "()V" } : Jvm.MethodName) object_method_1_code (1 : Nat) (Option.none : Option Jvm.ClassFile.FieldType), Jvm.Cond.code ({ cls := "java/lang/StringUTF16", name := "compress", desc := "([CII)[B" } : Jvm.MethodName) jdk_52_method_16_code (6 : Nat) (Option.some (Jvm.ClassFile.FieldType.array Jvm.ClassFile.FieldType.byte)), Jvm.Cond.code ({ cls := "java/lang/StringUTF16", name := "compress", desc := "([CI[BII)I" } : Jvm.MethodName) jdk_52_method_21_code (7 : Nat) (Option.some Jvm.ClassFile.FieldType.int), Jvm.Cond.code ({ cls := "java/lang/StringUTF16", name := "coderFromArrayLen", desc := "([BI)B" } : Jvm.MethodName) jdk_52_method_15_code (2 : Nat) (Option.some Jvm.ClassFile.FieldType.byte), Jvm.Cond.code ({ cls := "com/example/scodi/scodi/FilterRoute", name := "forScopes", desc := "([Ljava/lang/String;)Lcom/example/scodi/scodi/FilterRoute;" } : Jvm.MethodName) prog_5_method_2_code (2 : Nat) (Option.some (Jvm.ClassFile.FieldType.object "com/example/scodi/scodi/FilterRoute")), Jvm.Cond.code ({ cls := "java/util/Objects", name := "requireNonNull", desc := "(Ljava/lang/Object;Ljava/lang/String;)Ljava/lang/Object;" } : Jvm.MethodName) jdk_31_method_11_code (2 : Nat) (Option.some (Jvm.ClassFile.FieldType.object "java/lang/Object")), Jvm.Cond.code ({ cls := "java/util/List", name := "of", desc := "([Ljava/lang/Object;)Ljava/util/List;" } : Jvm.MethodName) jdk_40_method_47_code (2 : Nat) (Option.some (Jvm.ClassFile.FieldType.object "java/util/List")), Jvm.Cond.code ({ cls := "com/example/scodi/scodi/FilterRoute", name := "<init>", desc := "(Ljava/util/List;ILjava/lang/String;)V" } : Jvm.MethodName) prog_5_method_1_code (4 : Nat) (Option.none : Option Jvm.ClassFile.FieldType), Jvm.Cond.code ({ cls := "com/example/scodi/scodi/FilterRoute", name := "getScopes", desc := "()Ljava/util/List;" } : Jvm.MethodName) prog_5_method_5_code (1 : Nat) (Option.some (Jvm.ClassFile.FieldType.object "java/util/List")), Jvm.Cond.code ({ cls := "java/util/ImmutableCollections$ListN", name := "size", desc := "()I" } : Jvm.MethodName) jdk_45_method_3_code (1 : Nat) (Option.some Jvm.ClassFile.FieldType.int), Jvm.Cond.code ({ cls := "com/example/scodi/scodi/FilterRoute", name := "getRanking", desc := "()I" } : Jvm.MethodName) prog_5_method_6_code (1 : Nat) (Option.some Jvm.ClassFile.FieldType.int), Jvm.Cond.code ({ cls := "java/util/ImmutableCollections", name := "listFromArray", desc := "([Ljava/lang/Object;)Ljava/util/List;" } : Jvm.MethodName) jdk_56_method_4_code (3 : Nat) (Option.some (Jvm.ClassFile.FieldType.object "java/util/List")), Jvm.Cond.code ({ cls := "java/util/Objects", name := "requireNonNull", desc := "(Ljava/lang/Object;)Ljava/lang/Object;" } : Jvm.MethodName) jdk_31_method_10_code (1 : Nat) (Option.some (Jvm.ClassFile.FieldType.object "java/lang/Object")), Jvm.Cond.code ({ cls := "java/util/ImmutableCollections$ListN", name := "<init>", desc := "([Ljava/lang/Object;Z)V" } : Jvm.MethodName) jdk_45_method_1_code (3 : Nat) (Option.none : Option Jvm.ClassFile.FieldType), Jvm.Cond.code ({ cls := "java/util/ImmutableCollections$AbstractImmutableList", name := "<init>", desc := "()V" } : Jvm.MethodName) jdk_46_method_1_code (1 : Nat) (Option.none : Option Jvm.ClassFile.FieldType), Jvm.Cond.code ({ cls := "java/util/ImmutableCollections$AbstractImmutableCollection", name := "<init>", desc := "()V" } : Jvm.MethodName) jdk_47_method_1_code (1 : Nat) (Option.none : Option Jvm.ClassFile.FieldType), Jvm.Cond.code ({ cls := "java/util/AbstractCollection", name := "<init>", desc := "()V" } : Jvm.MethodName) jdk_22_method_1_code (1 : Nat) (Option.none : Option Jvm.ClassFile.FieldType), Jvm.Cond.code ({ cls := "java/util/ImmutableCollections$ListN", name := "get", desc := "(I)Ljava/lang/Object;" } : Jvm.MethodName) jdk_45_method_4_code (2 : Nat) (Option.some (Jvm.ClassFile.FieldType.object "java/lang/Object")), Jvm.Cond.code ({ cls := "java/lang/String", name := "equals", desc := "(Ljava/lang/Object;)Z" } : Jvm.MethodName) jdk_42_method_66_code (3 : Nat) (Option.some Jvm.ClassFile.FieldType.boolean), Jvm.Cond.code ({ cls := "java/util/ImmutableCollections$List12", name := "<init>", desc := "(Ljava/lang/Object;Ljava/lang/Object;)V" } : Jvm.MethodName) jdk_44_method_2_code (3 : Nat) (Option.none : Option Jvm.ClassFile.FieldType), Jvm.Cond.code ({ cls := "java/util/ImmutableCollections$List12", name := "size", desc := "()I" } : Jvm.MethodName) jdk_44_method_3_code (1 : Nat) (Option.some Jvm.ClassFile.FieldType.int), Jvm.Cond.code ({ cls := "java/util/ImmutableCollections$List12", name := "get", desc := "(I)Ljava/lang/Object;" } : Jvm.MethodName) jdk_44_method_5_code (2 : Nat) (Option.some (Jvm.ClassFile.FieldType.object "java/lang/Object")), Jvm.Cond.code ({ cls := "java/util/ImmutableCollections$List12", name := "<init>", desc := "(Ljava/lang/Object;)V" } : Jvm.MethodName) jdk_44_method_1_code (2 : Nat) (Option.none : Option Jvm.ClassFile.FieldType)]
set_option maxRecDepth 65536 in
theorem codes_eq : words1.filter isCode = codes1 := rfl
theorem w_codes : ∀ c ∈ words1.filter isCode, c.before args0 about1 = true := by
  rw [codes_eq]
  intro c hc
  simp only [codes1, List.mem_cons, List.not_mem_nil, or_false] at hc
  rcases hc with rfl | rfl | rfl | rfl | rfl | rfl | rfl | rfl | rfl | rfl | rfl | rfl | rfl | rfl | rfl | rfl | rfl | rfl | rfl | rfl | rfl | rfl | rfl | rfl | rfl | rfl | rfl
  · exact w_c0
  · exact w_c1
  · exact w_c2
  · exact w_c3
  · exact w_c4
  · exact w_c5
  · exact w_c6
  · exact w_c7
  · exact w_c8
  · exact w_c9
  · exact w_c10
  · exact w_c11
  · exact w_c12
  · exact w_c13
  · exact w_c14
  · exact w_c15
  · exact w_c16
  · exact w_c17
  · exact w_c18
  · exact w_c19
  · exact w_c20
  · exact w_c21
  · exact w_c22
  · exact w_c23
  · exact w_c24
  · exact w_c25
  · exact w_c26
set_option maxRecDepth 65536 in
theorem w_t1 : (words1.take 24).all (fun c => isCode c || c.before args0 about1) = true := by decide +kernel
set_option maxRecDepth 65536 in
theorem w_t2 : ((words1.drop 24).take 24).all (fun c => isCode c || c.before args0 about1) = true := by decide +kernel
set_option maxRecDepth 65536 in
theorem w_t3 : (((words1.drop 24).drop 24).take 24).all (fun c => isCode c || c.before args0 about1) = true := by decide +kernel
set_option maxRecDepth 65536 in
theorem w_t4 : ((((words1.drop 24).drop 24).drop 24).take 24).all (fun c => isCode c || c.before args0 about1) = true := by decide +kernel
set_option maxRecDepth 65536 in
theorem w_t5 : (((((words1.drop 24).drop 24).drop 24).drop 24).take 24).all (fun c => isCode c || c.before args0 about1) = true := by decide +kernel
set_option maxRecDepth 65536 in
theorem w_t6 : ((((((words1.drop 24).drop 24).drop 24).drop 24).drop 24).take 24).all (fun c => isCode c || c.before args0 about1) = true := by decide +kernel
set_option maxRecDepth 65536 in
theorem w_t7 : (((((((words1.drop 24).drop 24).drop 24).drop 24).drop 24).drop 24).take 24).all (fun c => isCode c || c.before args0 about1) = true := by decide +kernel
set_option maxRecDepth 65536 in
theorem w_t8 : (((((((words1.drop 24).drop 24).drop 24).drop 24).drop 24).drop 24).drop 24).all (fun c => isCode c || c.before args0 about1) = true := by decide +kernel
theorem w_tables : (allAtoms (Jvm.Cond.code x code maxLocals ret :: tables_1)).before args0 about1 = true := by
  rw [allAtoms_all]
  show words1.all (fun c => c.before args0 about1) = true
  refine all_split ?_ w_codes
  rw [← List.take_append_drop 24 words1, List.all_append, w_t1, ← List.take_append_drop 24 (words1.drop 24), List.all_append, w_t2, ← List.take_append_drop 24 ((words1.drop 24).drop 24), List.all_append, w_t3, ← List.take_append_drop 24 (((words1.drop 24).drop 24).drop 24), List.all_append, w_t4, ← List.take_append_drop 24 ((((words1.drop 24).drop 24).drop 24).drop 24), List.all_append, w_t5, ← List.take_append_drop 24 (((((words1.drop 24).drop 24).drop 24).drop 24).drop 24), List.all_append, w_t6, ← List.take_append_drop 24 ((((((words1.drop 24).drop 24).drop 24).drop 24).drop 24).drop 24), List.all_append, w_t7, w_t8]
  rfl
set_option maxRecDepth 65536 in
theorem w_rest : rest_1_c.before args0 about1 = true := by decide +kernel
set_option maxRecDepth 65536 in
theorem w_case : (Jvm.Cond.and given_1 narrow_1).before args0 about1 = true := by decide +kernel
set_option maxRecDepth 65536 in
theorem w_consts : constsHeld consts_1 about1 := Jvm.Lit.constsHeldB_iff.mp (by decide +kernel)
theorem w_applies : (headSpec (Jvm.Cond.code x code maxLocals ret :: tables_1) room_1).applies x e0.platform about1 = true :=
  (Spec.applies_iff w_frames).mpr ⟨w_running, w_runnable, w_alone, w_named, w_hears, w_ripe, w_room, w_tables⟩
theorem atStart : AtStart classFile x code maxLocals ret World_1 tables_1 room_1 Calls_1 rest_1 Pre_1 launch0 p0 e0 about1 theMethod args0 below0 :=
  ⟨lists_1, trivial, launch0.admits_env _ _ _, launch0.least_env, fairChoices_fair.cas, fairChoices_fair.clock, w_frames, w_args, w_heap, w_applies, ⟨w_consts, trivial⟩, w_rest, w_case⟩
end start1
theorem witness_1 : WitnessClaimed_1 := ⟨start1.p0, start1.e0, start1.about1, start1.theMethod, start1.args0, start1.below0, start1.atStart⟩
end Jvm.Pilot.@@N@@
