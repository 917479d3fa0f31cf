import JvmDerived
import JvmDerived.Pilot.@@N@@Statement
import JvmDerived.Pilot.@@N@@Code
set_option linter.unusedVariables false
set_option linter.unusedSimpArgs false
/- laws to paste: Road.backV, Road.codOf, Road.lenW, Road.empW, Road.chN (cut by pick.py; bodies as the Statement names them) -/
namespace Jvm.Pilot.@@N@@
namespace StrChars
open Jvm Sem ClassFile Op Lib Jvm.Stand Jvm.Free.XT Jvm.Free.ALB Jvm.Free.JM Jvm.Free
open Jvm.Lib.Cold (StaticIs)
/-- a char array whose places are chars -/
def Ch (a : Addr) (A : Cell) (U : State) : Prop := Arr .char a A U ∧ Typed .char A
theorem Ch.mv {a : Addr} {A : Cell} {U U' : State} (h : Ch a A U) (hal : U.vm.Alike U'.vm) (hh : U'.heap = U.heap) : Ch a A U' := ⟨h.1.mv hal hh, h.2⟩
theorem Ch.keep {a : Addr} {A : Cell} {U U' : State} (h : Ch a A U) (hal : U.vm.Alike U'.vm) (hk : U'.heap[a]? = some A) : Ch a A U' := ⟨h.1.keep hal hk, h.2⟩
/-- what place i of a char[]'s cell holds -/
def cv (A : Cell) (i : Nat) : Int32 := match A.slots[i]? with | some (.int x) => x | _ => 0
theorem Ch.get {a : Addr} {A : Cell} {U : State} (h : Ch a A U) {i : Nat} (hi : i < A.slots.size) : A.slots[i]? = some (.int (cv A i)) := by
  have e := Array.getElem?_eq_getElem hi
  have f := h.2 i _ e
  unfold cv; rw [e]
  generalize A.slots[i] = v at f
  cases v <;> simp [fits] at f ⊢
/-- the byte that i2b leaves of a char -/
def lo8 (x : Int32) : Int32 := x.toInt8.toInt32
theorem fits_lo8 (y : Int32) : fits .byte (.int (lo8 y)) = true := by
  have h1 := y.toInt8.le_toInt
  have h2 := y.toInt8.toInt_lt
  simp only [lo8, fits, Bool.and_eq_true, decide_eq_true_eq, Int32.le_iff_toInt_le, Int8.toInt_toInt32, show (-128 : Int32).toInt = -128 from by decide, show (127 : Int32).toInt = 127 from by decide]
  omega
/-- A' is A but that each place j of lo .. hi - 1 holds f j -/
def Laid (A A' : Cell) (lo hi : Nat) (f : Nat → Value) : Prop := A'.cls = A.cls ∧ A'.vm = A.vm ∧ A'.slots.size = A.slots.size ∧ ∀ i, A'.slots[i]? = if lo ≤ i ∧ i < hi then some (f i) else A.slots[i]?
theorem Laid.zero (A : Cell) (lo : Nat) (f : Nat → Value) : Laid A A lo (lo + 0) f := ⟨rfl, rfl, rfl, fun i => by rw [if_neg (by omega)]⟩
theorem Laid.step {A Ak : Cell} {lo k : Nat} {f : Nat → Value} {v : Value} (h : Laid A Ak lo k f) (hlo : lo ≤ k) (hk : k < Ak.slots.size) (hv : v = f k) : Laid A (Ak.setSlot k v) lo (k + 1) f := by
  refine ⟨h.1, h.2.1, by simpa [Cell.setSlot] using h.2.2.1, fun i => ?_⟩
  by_cases e : k = i
  · subst e; rw [Cell.slots_setSlot_self v hk, if_pos (by omega), hv]
  · rw [Cell.slots_setSlot_ne v e, h.2.2.2 i]
    by_cases q : lo ≤ i ∧ i < k
    · rw [if_pos q, if_pos (by omega)]
    · rw [if_neg q, if_neg (by omega)]
def U16 : String := "java/lang/StringUTF16"
namespace Cmp5
def yN : MethodName := ⟨"java/lang/StringUTF16", "compress", "([CI[BII)I"⟩
abbrev yB : ByteArray := jdk_52_method_21_code
theorem d0 : decode yB 0 = .ok (.iconst 0, 1) := by decide +kernel
theorem d1 : decode yB 1 = .ok (.istore 5, 2) := by decide +kernel
theorem d3 : decode yB 3 = .ok (.iload 5, 2) := by decide +kernel
theorem d5 : decode yB 5 = .ok (.iload 4, 2) := by decide +kernel
theorem d7 : decode yB 7 = .ok (.if_icmp (.ge) 37, 3) := by decide +kernel
theorem d10 : decode yB 10 = .ok (.aload_n 0, 1) := by decide +kernel
theorem d11 : decode yB 11 = .ok (.iload_n 1, 1) := by decide +kernel
theorem d12 : decode yB 12 = .ok (.caload, 1) := by decide +kernel
theorem d13 : decode yB 13 = .ok (.istore 6, 2) := by decide +kernel
theorem d15 : decode yB 15 = .ok (.iload 6, 2) := by decide +kernel
theorem d17 : decode yB 17 = .ok (.sipush 255, 3) := by decide +kernel
theorem d20 : decode yB 20 = .ok (.if_icmp (.le) 6, 3) := by decide +kernel
theorem d26 : decode yB 26 = .ok (.aload_n 2, 1) := by decide +kernel
theorem d27 : decode yB 27 = .ok (.iload_n 3, 1) := by decide +kernel
theorem d28 : decode yB 28 = .ok (.iload 6, 2) := by decide +kernel
theorem d30 : decode yB 30 = .ok (.i2b, 1) := by decide +kernel
theorem d31 : decode yB 31 = .ok (.bastore, 1) := by decide +kernel
theorem d32 : decode yB 32 = .ok (.iinc 1 1, 3) := by decide +kernel
theorem d35 : decode yB 35 = .ok (.iinc 3 1, 3) := by decide +kernel
theorem d38 : decode yB 38 = .ok (.iinc 5 1, 3) := by decide +kernel
theorem d41 : decode yB 41 = .ok (.goto (-38), 3) := by decide +kernel
theorem d44 : decode yB 44 = .ok (.iload 4, 2) := by decide +kernel
theorem d46 : decode yB 46 = .ok (.ireturn, 1) := by decide +kernel
def site : List Cond := []
def tab : Cond := tabOf yN yB 7 (some .int) site
def P (b : Addr) (A : Cell) (d : Addr) (B : Cell) (o q len : Nat) (args : Array Value) (s : State) : Prop := args = #[.ref b, .int (Int32.ofNat o), .ref d, .int (Int32.ofNat q), .int (Int32.ofNat len)] ∧ Ch b A s ∧ Arr .byte d B s ∧ b ≠ d ∧ o + len ≤ A.slots.size ∧ q + len ≤ B.slots.size ∧ ∀ i, i < len → ¬ 255 < cv A (o + i)
def E (b : Addr) (A : Cell) (d : Addr) (B : Cell) (o q len : Nat) (r : Option Value) (s u : State) : Prop := r = some (.int (Int32.ofNat len)) ∧ ∃ B', Put d B' s u ∧ Laid B B' q (q + len) (fun j => Value.int (lo8 (cv A (o + (j - q)))))
/-- no char of the range above 255: len; the places written hold each char's low byte -/
theorem law (l : Launch) (b : Addr) (A : Cell) (d : Addr) (B : Cell) (o q len : Nat) : Law l yN 5 5 0 0 yB 7 (some .int) site (P b A d B o q len) (E b A d B o q len) (copyLocs d q len) 0 0 := by
  refine Law.of_walk (plainFor_of_name (by decide +kernel)) (by decide +kernel) (by decide +kernel) (by decide) (fun _ _ h => by rw [h.1]; rfl) (fun _ U U' hal hh h => ⟨h.1, h.2.1.mv hal hh, h.2.2.1.mv hal hh, h.2.2.2⟩) (fun r U U' V V' h1 hal h2 h => ⟨h.1, h.2.elim fun B' q => ⟨B', q.1.mv h1 h2, q.2⟩⟩) ?_
  intro p e s m args below meth c s₁ X0 hexec hbytes hml hret hlk hnm hown hh0 W hP
  obtain ⟨rfl, hA, hB, hne, l1, l2, hp⟩ := hP
  have c1 : Steps p.tables e below (s₁.setTop (entryFrame m #[.ref b, .int (Int32.ofNat o), .ref d, .int (Int32.ofNat q), .int (Int32.ofNat len)] 7)) (s₁.setTop (mkF m 0 #[.val (.ref b), .val (.int (Int32.ofNat o)), .val (.ref d), .val (.int (Int32.ofNat q)), .val (.int (Int32.ofNat len)), .unset, .unset] [])) := entry rfl
  have hA0 := hA.1.mv X0.warmed.alike hh0
  have hB0 := hB.mv X0.warmed.alike hh0
  have a31 := hA.1.2.2.2
  have c2 : Steps p.tables e below (s₁.setTop (entryFrame m #[.ref b, .int (Int32.ofNat o), .ref d, .int (Int32.ofNat q), .int (Int32.ofNat len)] 7)) (s₁.setTop (mkF m 3 #[.val (.ref b), .val (.int (Int32.ofNat o)), .val (.ref d), .val (.int (Int32.ofNat q)), .val (.int (Int32.ofNat len)), .val (.int 0), .unset] [])) := c1.trans (by
    refine iconstV X0.here hexec rfl 0 (hb hbytes d0) (by decide) ?_
    refine XS.istore X0.here hexec rfl (hb hbytes d1) rfl rfl ?_
    exact Steps.refl _)
  have loop : ∀ (r i : Nat), i + r = len → ∀ (z : Slot), (z = .unset ∨ ∃ w, z = .val w ∧ w.category = 1) → ∀ (Tl : State) (Bk : Cell), Stand p l e { frames := 0, locals := 0, cells := 0, slots := 0 } s m #[.ref b, .int (Int32.ofNat o), .ref d, .int (Int32.ofNat q), .int (Int32.ofNat len)] below meth c Tl ([] ++ copyLocs d q i) 0 0 → Put d Bk s₁ Tl → Laid B Bk q (q + i) (fun j => Value.int (lo8 (cv A (o + (j - q))))) →
      Steps p.tables e below (s₁.setTop (entryFrame m #[.ref b, .int (Int32.ofNat o), .ref d, .int (Int32.ofNat q), .int (Int32.ofNat len)] 7)) (Tl.setTop (mkF m 3 #[.val (.ref b), .val (.int (Int32.ofNat (o + i))), .val (.ref d), .val (.int (Int32.ofNat (q + i))), .val (.int (Int32.ofNat len)), .val (.int (Int32.ofNat i)), z] [])) → ∃ (T' : State) (B' : Cell) (z' : Slot), Stand p l e { frames := 0, locals := 0, cells := 0, slots := 0 } s m #[.ref b, .int (Int32.ofNat o), .ref d, .int (Int32.ofNat q), .int (Int32.ofNat len)] below meth c T' ([] ++ copyLocs d q len) 0 0 ∧ Put d B' s₁ T' ∧ Laid B B' q (q + len) (fun j => Value.int (lo8 (cv A (o + (j - q))))) ∧
      Steps p.tables e below (s₁.setTop (entryFrame m #[.ref b, .int (Int32.ofNat o), .ref d, .int (Int32.ofNat q), .int (Int32.ofNat len)] 7)) (T'.setTop (mkF m 3 #[.val (.ref b), .val (.int (Int32.ofNat (o + len))), .val (.ref d), .val (.int (Int32.ofNat (q + len))), .val (.int (Int32.ofNat len)), .val (.int (Int32.ofNat len)), z'] [])) := by
    intro r
    induction r with
    | zero =>
      intro i hi z hz Tl Bk Xl pl fl cl
      have hil : i = len := by omega
      rw [hil] at Xl fl cl
      exact ⟨Tl, Bk, z, Xl, pl, fl, cl⟩
    | succ r ih =>
      intro i hi z hz Tl Bk Xl pl fl cl
      have all := X0.warmed.alike.symm.trans Xl.warmed.alike
      have hAl := hA0.keep all (pl.other hne hA0.1)
      have hBk := hB0.like all pl.1 fl.1 fl.2.1 fl.2.2.1
      have hlt : q + i < Bk.slots.size := by rw [fl.2.2.1]; omega
      have c3 : Steps p.tables e below (s₁.setTop (entryFrame m #[.ref b, .int (Int32.ofNat o), .ref d, .int (Int32.ofNat q), .int (Int32.ofNat len)] 7)) (Tl.setTop (mkF m 12 #[.val (.ref b), .val (.int (Int32.ofNat (o + i))), .val (.ref d), .val (.int (Int32.ofNat (q + i))), .val (.int (Int32.ofNat len)), .val (.int (Int32.ofNat i)), z] [.int (Int32.ofNat (o + i)), .ref b])) := cl.trans (by
        refine XS.iload Xl.here hexec rfl (hb hbytes d3) rfl ?_
        refine XS.iload Xl.here hexec rfl (hb hbytes d5) rfl ?_
        refine XS.icmpNo Xl.here hexec rfl (hb hbytes d7) rfl (ii_ge_f (lt32 (by omega) (by omega))) ?_
        refine XS.aloadN Xl.here hexec rfl (hb hbytes d10) rfl rfl ?_
        refine XS.iloadN Xl.here hexec rfl (hb hbytes d11) rfl ?_
        exact Steps.refl _)
      have c4 : Steps p.tables e below (s₁.setTop (entryFrame m #[.ref b, .int (Int32.ofNat o), .ref d, .int (Int32.ofNat q), .int (Int32.ofNat len)] 7)) (Tl.setTop (mkF m 13 #[.val (.ref b), .val (.int (Int32.ofNat (o + i))), .val (.ref d), .val (.int (Int32.ofNat (q + i))), .val (.int (Int32.ofNat len)), .val (.int (Int32.ofNat i)), z] [.int (cv A (o + i))])) := c3.trans (by
        refine Xl.aget hexec hAl rfl (hA.get (i := o + i) (by omega)) rfl rfl (hb hbytes d12) ?_
        exact Steps.refl _)
      have c5 : Steps p.tables e below (s₁.setTop (entryFrame m #[.ref b, .int (Int32.ofNat o), .ref d, .int (Int32.ofNat q), .int (Int32.ofNat len)] 7)) (Tl.setTop (mkF m 15 #[.val (.ref b), .val (.int (Int32.ofNat (o + i))), .val (.ref d), .val (.int (Int32.ofNat (q + i))), .val (.int (Int32.ofNat len)), .val (.int (Int32.ofNat i)), .val (.int (cv A (o + i)))] [])) := c4.trans (by
        refine XS.istoreS Xl.here hexec rfl (hb hbytes d13) rfl rfl hz ?_
        exact Steps.refl _)
      have c6 : Steps p.tables e below (s₁.setTop (entryFrame m #[.ref b, .int (Int32.ofNat o), .ref d, .int (Int32.ofNat q), .int (Int32.ofNat len)] 7)) (Tl.setTop (mkF m 31 #[.val (.ref b), .val (.int (Int32.ofNat (o + i))), .val (.ref d), .val (.int (Int32.ofNat (q + i))), .val (.int (Int32.ofNat len)), .val (.int (Int32.ofNat i)), .val (.int (cv A (o + i)))] [.int (lo8 (cv A (o + i))), .int (Int32.ofNat (q + i)), .ref d])) := c5.trans (by
        refine XS.iload Xl.here hexec rfl (hb hbytes d15) rfl ?_
        refine sipushV Xl.here hexec rfl 255 (hb hbytes d17) (by decide) ?_
        refine XS.icmpYes Xl.here hexec rfl (pc0 := 20) rfl (hb hbytes d20) rfl (ii_le_t (hp i (by omega))) (by decide) rfl ?_
        refine XS.aloadN Xl.here hexec rfl (hb hbytes d26) rfl rfl ?_
        refine XS.iloadN Xl.here hexec rfl (hb hbytes d27) rfl ?_
        refine XS.iload Xl.here hexec rfl (hb hbytes d28) rfl ?_
        refine i2b Xl.here hexec rfl (hb hbytes d30) rfl ?_
        exact Steps.refl _)
      obtain ⟨T7, X7, p7, st7⟩ := Xl.aput hexec hBk rfl hlt rfl (fits_lo8 (cv A (o + i))) (g := (mkF m 31 #[.val (.ref b), .val (.int (Int32.ofNat (o + i))), .val (.ref d), .val (.int (Int32.ofNat (q + i))), .val (.int (Int32.ofNat len)), .val (.int (Int32.ofNat i)), .val (.int (cv A (o + i)))] [.int (lo8 (cv A (o + i))), .int (Int32.ofNat (q + i)), .ref d])) rfl (rest := []) rfl (hb hbytes d31)
      have c8 : Steps p.tables e below (s₁.setTop (entryFrame m #[.ref b, .int (Int32.ofNat o), .ref d, .int (Int32.ofNat q), .int (Int32.ofNat len)] 7)) (T7.setTop (mkF m 32 #[.val (.ref b), .val (.int (Int32.ofNat (o + i))), .val (.ref d), .val (.int (Int32.ofNat (q + i))), .val (.int (Int32.ofNat len)), .val (.int (Int32.ofNat i)), .val (.int (cv A (o + i)))] [])) := c6.trans (st7 _ (Steps.refl _))
      have c9 : Steps p.tables e below (s₁.setTop (entryFrame m #[.ref b, .int (Int32.ofNat o), .ref d, .int (Int32.ofNat q), .int (Int32.ofNat len)] 7)) (T7.setTop (mkF m 3 #[.val (.ref b), .val (.int (Int32.ofNat (o + i) + 1)), .val (.ref d), .val (.int (Int32.ofNat (q + i) + 1)), .val (.int (Int32.ofNat len)), .val (.int (Int32.ofNat i + 1)), .val (.int (cv A (o + i)))] [])) := c8.trans (by
        refine iincV X7.here hexec rfl 1 (hb hbytes d32) (by decide) rfl rfl ?_
        refine iincV X7.here hexec rfl 1 (hb hbytes d35) (by decide) rfl rfl ?_
        refine iincV X7.here hexec rfl 1 (hb hbytes d38) (by decide) rfl rfl ?_
        refine XS.goto X7.here hexec rfl (pc0 := 41) rfl (hb hbytes d41) (by decide) rfl ?_
        exact Steps.refl _)
      have c10 : Steps p.tables e below (s₁.setTop (entryFrame m #[.ref b, .int (Int32.ofNat o), .ref d, .int (Int32.ofNat q), .int (Int32.ofNat len)] 7)) (T7.setTop (mkF m 3 #[.val (.ref b), .val (.int (Int32.ofNat (o + (i + 1)))), .val (.ref d), .val (.int (Int32.ofNat (q + (i + 1)))), .val (.int (Int32.ofNat len)), .val (.int (Int32.ofNat (i + 1))), .val (.int (cv A (o + i)))] [])) := by
        have := c9
        rw [succ32, succ32, succ32] at this
        exact this
      exact ih (i + 1) (by omega) _ (Or.inr ⟨_, rfl, rfl⟩) T7 _ (by rw [copyLocs_step, ← List.append_assoc]; exact X7) (pl.trans p7) (fl.step (by omega) hlt (by simp)) c10
  obtain ⟨T9, B9, z9, X9, p9, f9, g9⟩ := loop len 0 (by omega) .unset (Or.inl rfl) s₁ B (by simpa [copyLocs] using X0) ⟨hB0.1, fun _ _ => rfl, rfl⟩ (Laid.zero _ _ _) c2
  have c11 : Steps p.tables e below (s₁.setTop (entryFrame m #[.ref b, .int (Int32.ofNat o), .ref d, .int (Int32.ofNat q), .int (Int32.ofNat len)] 7)) (T9.setTop (mkF m 46 #[.val (.ref b), .val (.int (Int32.ofNat (o + len))), .val (.ref d), .val (.int (Int32.ofNat (q + len))), .val (.int (Int32.ofNat len)), .val (.int (Int32.ofNat len)), z9] [.int (Int32.ofNat len)])) := g9.trans (by
    refine XS.iload X9.here hexec rfl (hb hbytes d3) rfl ?_
    refine XS.iload X9.here hexec rfl (hb hbytes d5) rfl ?_
    refine XS.icmpYes X9.here hexec rfl (pc0 := 7) rfl (hb hbytes d7) rfl (ii_ge_t (nlt32 (by omega) (Nat.le_refl _))) (by decide) rfl ?_
    refine XS.iload X9.here hexec rfl (hb hbytes d44) rfl ?_
    exact Steps.refl _)
  exact ⟨T9, some (.int (Int32.ofNat len)), _, _, _, X9, by simp, rfl, rfl, (fun h => by cases h), ⟨rfl, B9, p9.from hh0, f9⟩, fun fs hl => c11.trans (X9.ireturnOut hexec hret rfl (Or.inl rfl) (hb hbytes d46) hl)⟩
end Cmp5
namespace Cmp3
def yN : MethodName := ⟨"java/lang/StringUTF16", "compress", "([CII)[B"⟩
abbrev yB : ByteArray := jdk_52_method_16_code
theorem d0 : decode yB 0 = .ok (.iload_n 2, 1) := by decide +kernel
theorem d1 : decode yB 1 = .ok (.newarray .byte, 2) := by decide +kernel
theorem d3 : decode yB 3 = .ok (.astore_n 3, 1) := by decide +kernel
theorem d4 : decode yB 4 = .ok (.aload_n 0, 1) := by decide +kernel
theorem d5 : decode yB 5 = .ok (.iload_n 1, 1) := by decide +kernel
theorem d6 : decode yB 6 = .ok (.aload_n 3, 1) := by decide +kernel
theorem d7 : decode yB 7 = .ok (.iconst 0, 1) := by decide +kernel
theorem d8 : decode yB 8 = .ok (.iload_n 2, 1) := by decide +kernel
theorem d9 : decode yB 9 = .ok (.invokestatic 115, 3) := by decide +kernel
theorem d12 : decode yB 12 = .ok (.istore 4, 2) := by decide +kernel
theorem d14 : decode yB 14 = .ok (.iload 4, 2) := by decide +kernel
theorem d16 : decode yB 16 = .ok (.iload_n 2, 1) := by decide +kernel
theorem d17 : decode yB 17 = .ok (.if_icmp (.eq) 40, 3) := by decide +kernel
theorem d57 : decode yB 57 = .ok (.aload_n 3, 1) := by decide +kernel
theorem d58 : decode yB 58 = .ok (.areturn, 1) := by decide +kernel
def site : List Cond := [.arrayClass .byte, Cmp5.tab] ++ staticW U16 115 Cmp5.yN
def tab : Cond := tabOf yN yB 6 (some (.array .byte)) site
def P (b : Addr) (A : Cell) (o len : Nat) (args : Array Value) (s : State) : Prop := args = #[.ref b, .int (Int32.ofNat o), .int (Int32.ofNat len)] ∧ Ch b A s ∧ o + len ≤ A.slots.size ∧ len ≤ 536870912 ∧ ∀ i, i < len → ¬ 255 < cv A (o + i)
def E (b : Addr) (A : Cell) (o len : Nat) (r : Option Value) (s u : State) : Prop := NewArr .byte "[B" len (fun j => .int (lo8 (cv A (o + j)))) r s u ∧ u.heap.size = s.heap.size + 1
/-- no char of the range above 255: a new byte[] of their low bytes -/
theorem law (l : Launch) (b : Addr) (A : Cell) (o len : Nat) : Law l yN 3 3 1 18 yB 6 (some (.array .byte)) site (P b A o len) (E b A o len) [] 1 len := by
  refine Law.of_walk (plainFor_of_name (by decide +kernel)) (by decide +kernel) (by decide +kernel) (by decide) (fun _ _ h => by rw [h.1]; rfl) (fun _ U U' hal hh h => ⟨h.1, h.2.1.mv hal hh, h.2.2⟩) (fun r U U' V V' h1 hal h2 h => ⟨NewArr.mv r U U' V V' h1 hal h2 h.1, by rw [h1, h2]; exact h.2⟩) ?_
  intro p e s m args below meth c s₁ X0 hexec hbytes hml hret hlk hnm hown hh0 W hP
  obtain ⟨rfl, hA, l1, l2, hp⟩ := hP
  have a31 := hA.1.2.2.2
  have c1 : Steps p.tables e below (s₁.setTop (entryFrame m #[.ref b, .int (Int32.ofNat o), .int (Int32.ofNat len)] 6)) (s₁.setTop (mkF m 0 #[.val (.ref b), .val (.int (Int32.ofNat o)), .val (.int (Int32.ofNat len)), .unset, .unset, .unset] [])) := entry rfl
  have c2 : Steps p.tables e below (s₁.setTop (entryFrame m #[.ref b, .int (Int32.ofNat o), .int (Int32.ofNat len)] 6)) (s₁.setTop (mkF m 1 #[.val (.ref b), .val (.int (Int32.ofNat o)), .val (.int (Int32.ofNat len)), .unset, .unset, .unset] [.int (Int32.ofNat len)])) := c1.trans (by
    refine XS.iloadN X0.here hexec rfl (hb hbytes d0) rfl ?_
    exact Steps.refl _)
  obtain ⟨T3, B3, X3, ba3, bs3, bv3, bh3, bf3, st3⟩ := X0.anew hexec (atype := .byte) (wk W (.arrayClass .byte)) rfl (by show len * 1 ≤ _; omega) (by omega) (g := (mkF m 1 #[.val (.ref b), .val (.int (Int32.ofNat o)), .val (.int (Int32.ofNat len)), .unset, .unset, .unset] [.int (Int32.ofNat len)])) rfl (hb hbytes d1) (rest := []) rfl (Nat.le_refl _) (by show 0 + len ≤ len; omega)
  rw [hh0] at ba3 st3
  have kp3 : XT.Kept s T3 := (XT.Kept.of_eq hh0).push bh3
  have hA3 := hA.keep X3.warmed.alike (kp3 _ _ hA.1.1)
  have hne : b ≠ s.heap.size := hA.1.ne
  have c4 : Steps p.tables e below (s₁.setTop (entryFrame m #[.ref b, .int (Int32.ofNat o), .int (Int32.ofNat len)] 6)) (T3.setTop (mkF m 3 #[.val (.ref b), .val (.int (Int32.ofNat o)), .val (.int (Int32.ofNat len)), .unset, .unset, .unset] [.ref s.heap.size])) := c2.trans (st3 _ (Steps.refl _))
  have c5 : Steps p.tables e below (s₁.setTop (entryFrame m #[.ref b, .int (Int32.ofNat o), .int (Int32.ofNat len)] 6)) (T3.setTop (mkF m 9 #[.val (.ref b), .val (.int (Int32.ofNat o)), .val (.int (Int32.ofNat len)), .val (.ref s.heap.size), .unset, .unset] [.int (Int32.ofNat len), .int 0, .ref s.heap.size, .int (Int32.ofNat o), .ref b])) := c4.trans (by
    refine XS.astoreN X3.here hexec rfl (hb hbytes d3) rfl rfl rfl ?_
    refine XS.aloadN X3.here hexec rfl (hb hbytes d4) rfl rfl ?_
    refine XS.iloadN X3.here hexec rfl (hb hbytes d5) rfl ?_
    refine XS.aloadN X3.here hexec rfl (hb hbytes d6) rfl rfl ?_
    refine iconstV X3.here hexec rfl 0 (hb hbytes d7) (by decide) ?_
    refine XS.iloadN X3.here hexec rfl (hb hbytes d8) rfl ?_
    exact Steps.refl _)
  obtain ⟨v6, T6, X6, E6, g6⟩ := X3.callS hexec (Cmp5.law l b A s.heap.size B3 o 0 len) hown (wks W (staticW U16 115 Cmp5.yN)) (wk W Cmp5.tab) (W := 0) (Nat.le_of_ble_eq_true rfl) (Nat.le_of_ble_eq_true rfl) (Nat.le_refl _) (by show 0 + len + 0 ≤ len; omega) (g := (mkF m 9 #[.val (.ref b), .val (.int (Int32.ofNat o)), .val (.int (Int32.ofNat len)), .val (.ref s.heap.size), .unset, .unset] [.int (Int32.ofNat len), .int (Int32.ofNat 0), .ref s.heap.size, .int (Int32.ofNat o), .ref b])) rfl (by rw [hml]; rfl) c5 (argsL := [.ref b, .int (Int32.ofNat o), .ref s.heap.size, .int (Int32.ofNat 0), .int (Int32.ofNat len)]) (rest := []) rfl rfl (by show 2 * 0 + 0 ≤ _; decide) (hb hbytes d9) (⟨rfl, hA3, ba3, hne, l1, by rw [bs3]; simp, hp⟩)
  obtain ⟨rfl, B6, p6, f6⟩ := E6
  have c7 : Steps p.tables e below (s₁.setTop (entryFrame m #[.ref b, .int (Int32.ofNat o), .int (Int32.ofNat len)] 6)) (T6.setTop (mkF m 12 #[.val (.ref b), .val (.int (Int32.ofNat o)), .val (.int (Int32.ofNat len)), .val (.ref s.heap.size), .unset, .unset] [.int (Int32.ofNat len)])) := g6
  have c8 : Steps p.tables e below (s₁.setTop (entryFrame m #[.ref b, .int (Int32.ofNat o), .int (Int32.ofNat len)] 6)) (T6.setTop (mkF m 58 #[.val (.ref b), .val (.int (Int32.ofNat o)), .val (.int (Int32.ofNat len)), .val (.ref s.heap.size), .val (.int (Int32.ofNat len)), .unset] [.ref s.heap.size])) := c7.trans (by
    refine XS.istore X6.here hexec rfl (hb hbytes d12) rfl rfl ?_
    refine XS.iload X6.here hexec rfl (hb hbytes d14) rfl ?_
    refine XS.iloadN X6.here hexec rfl (hb hbytes d16) rfl ?_
    refine XS.icmpYes X6.here hexec rfl (pc0 := 17) rfl (hb hbytes d17) rfl (ii_eq_t rfl) (by decide) rfl ?_
    refine XS.aloadN X6.here hexec rfl (hb hbytes d57) rfl rfl ?_
    exact Steps.refl _)
  have X8 := X6.wide (L' := []) (cells' := 1) (slots' := len) (fun x hx hlt => by
    simp only [List.nil_append, copyLocs, List.mem_map, List.mem_range] at hx
    obtain ⟨i, -, rfl⟩ := hx
    exact absurd hlt (Nat.lt_irrefl _)) (Nat.le_refl _) (by omega)
  exact ⟨T6, some (.ref s.heap.size), _, _, _, X8, rfl, rfl, rfl, (fun h => by cases h), ⟨⟨rfl, B6, ba3.like (X3.warmed.alike.symm.trans X6.warmed.alike) p6.1 f6.1 f6.2.1 f6.2.2.1, f6.2.1.trans bv3, by rw [X6.warmed.alike.findClass, f6.1]; exact bf3, by rw [f6.2.2.1, bs3]; simp, fun j hj => by rw [f6.2.2.2 j, if_pos (by omega)]; rfl, kp3.put p6 (Nat.le_refl _)⟩, by rw [p6.2.2, bh3, hh0]; simp⟩, fun fs hl => c8.trans (X8.areturnOut hexec rfl hret rfl (hb hbytes d58) hl)⟩
end Cmp3
namespace CodL
def yN : MethodName := ⟨"java/lang/StringUTF16", "coderFromArrayLen", "([BI)B"⟩
abbrev yB : ByteArray := jdk_52_method_15_code
theorem d0 : decode yB 0 = .ok (.iload_n 1, 1) := by decide +kernel
theorem d1 : decode yB 1 = .ok (.aload_n 0, 1) := by decide +kernel
theorem d2 : decode yB 2 = .ok (.arraylength, 1) := by decide +kernel
theorem d3 : decode yB 3 = .ok (.isub, 1) := by decide +kernel
theorem d4 : decode yB 4 = .ok (.bipush 31, 2) := by decide +kernel
theorem d6 : decode yB 6 = .ok (.iushr, 1) := by decide +kernel
theorem d7 : decode yB 7 = .ok (.i2b, 1) := by decide +kernel
theorem d8 : decode yB 8 = .ok (.ireturn, 1) := by decide +kernel
def site : List Cond := []
def tab : Cond := tabOf yN yB 2 (some .byte) site
def P (d : Addr) (B : Cell) (args : Array Value) (s : State) : Prop := args = #[.ref d, .int (Int32.ofNat B.slots.size)] ∧ Arr .byte d B s
def E (r : Option Value) (s u : State) : Prop := XT.PureE (some (.int 0)) r s u
/-- an array as long as the number of chars: LATIN1 -/
theorem law (l : Launch) (d : Addr) (B : Cell) : Law l yN 2 2 0 0 yB 2 (some .byte) site (P d B) E [] 0 0 := by
  refine Law.of_walk (plainFor_of_name (by decide +kernel)) (by decide +kernel) (by decide +kernel) (by decide) (fun _ _ h => by rw [h.1]; rfl) (fun _ U U' hal hh h => ⟨h.1, h.2.mv hal hh⟩) (fun r U U' V V' h1 hal h2 h => XT.PureE.mv r U U' V V' h1 hal h2 h) ?_
  intro p e s m args below meth c s₁ X0 hexec hbytes hml hret hlk hnm hown hh0 W hP
  obtain ⟨rfl, hB⟩ := hP
  have hB0 := hB.mv X0.warmed.alike hh0
  have c1 : Steps p.tables e below (s₁.setTop (entryFrame m #[.ref d, .int (Int32.ofNat B.slots.size)] 2)) (s₁.setTop (mkF m 0 #[.val (.ref d), .val (.int (Int32.ofNat B.slots.size))] [])) := entry rfl
  have c2 : Steps p.tables e below (s₁.setTop (entryFrame m #[.ref d, .int (Int32.ofNat B.slots.size)] 2)) (s₁.setTop (mkF m 2 #[.val (.ref d), .val (.int (Int32.ofNat B.slots.size))] [.ref d, .int (Int32.ofNat B.slots.size)])) := c1.trans (by
    refine XS.iloadN X0.here hexec rfl (hb hbytes d0) rfl ?_
    refine XS.aloadN X0.here hexec rfl (hb hbytes d1) rfl rfl ?_
    exact Steps.refl _)
  have c3 : Steps p.tables e below (s₁.setTop (entryFrame m #[.ref d, .int (Int32.ofNat B.slots.size)] 2)) (s₁.setTop (mkF m 8 #[.val (.ref d), .val (.int (Int32.ofNat B.slots.size))] [.int (lo8 (ushr (Int32.ofNat B.slots.size - Int32.ofNat B.slots.size) 31))])) := c2.trans (by
    refine X0.alen hexec hB0 rfl rfl (hb hbytes d2) ?_
    refine XS.isub X0.here hexec rfl (hb hbytes d3) rfl ?_
    refine bipushV X0.here hexec rfl 31 (hb hbytes d4) (by decide) ?_
    refine iushr X0.here hexec rfl (hb hbytes d6) rfl ?_
    refine i2b X0.here hexec rfl (hb hbytes d7) rfl ?_
    exact Steps.refl _)
  have e0 : lo8 (ushr (Int32.ofNat B.slots.size - Int32.ofNat B.slots.size) 31) = 0 := by rw [Int32.sub_self]; decide
  rw [e0] at c3
  exact ⟨s₁, some (.int 0), _, _, _, X0, rfl, rfl, rfl, (fun h => by cases h), ⟨rfl, hh0⟩, fun fs hl => c3.trans (X0.ireturnOut hexec hret rfl (Or.inr (Or.inr (Or.inl rfl))) (hb hbytes d8) hl)⟩
end CodL
/-- the String at a is Latin-1 over a new byte[] (the heap's one new cell): the low bytes of the len chars of A from o on; every cell but a is kept -/
def Got (a : Addr) (D : Cell) (fV fC : Field) (A : Cell) (o len : Nat) (r : Option Value) (s u : State) : Prop := r = none ∧ ∃ D' V : Cell, Blank "java/lang/String" a D' u ∧ Same D D' [fV.slot, fC.slot] ∧ D'.slots[fV.slot]? = some (.ref s.heap.size) ∧ D'.slots[fC.slot]? = some (.int 0) ∧ Arr .byte s.heap.size V u ∧ V.vm = .none ∧ u.vm.findClass "[B" = some V.cls ∧ V.slots.size = len ∧ (∀ j, j < len → V.slots[j]? = some (.int (lo8 (cv A (o + j))))) ∧ (∀ (y : Addr) (c : Cell), y ≠ a → s.heap[y]? = some c → u.heap[y]? = some c) ∧ u.heap.size = s.heap.size + 1
theorem Got.mv {a : Addr} {D A : Cell} {fV fC : Field} {o len : Nat} : ∀ r (U U' V V' : State), U'.heap = U.heap → V.vm.Alike V'.vm → V'.heap = V.heap → Got a D fV fC A o len r U V → Got a D fV fC A o len r U' V' :=
  fun r U U' V V' h1 hal h2 ⟨e0, D', X, a1, a2, a3, a4, a5, a6, a7, a8, a9, a10, a11⟩ => ⟨e0, D', X, a1.mv hal h2, a2, by rw [h1]; exact a3, a4, by rw [h1]; exact a5.mv hal h2, a6, by rw [hal.findClass]; exact a7, a8, a9, by rw [h1, h2]; exact a10, by rw [h1, h2]; exact a11⟩
namespace New4
def yN : MethodName := ⟨"java/lang/String", "<init>", "([CIILjava/lang/Void;)V"⟩
abbrev yB : ByteArray := jdk_42_method_149_code
theorem d0 : decode yB 0 = .ok (.aload_n 0, 1) := by decide +kernel
theorem d1 : decode yB 1 = .ok (.invokespecial 1, 3) := by decide +kernel
theorem d4 : decode yB 4 = .ok (.iload_n 3, 1) := by decide +kernel
theorem d5 : decode yB 5 = .ok (.ifCond (.ne) 22, 3) := by decide +kernel
theorem d27 : decode yB 27 = .ok (.getstatic 38, 3) := by decide +kernel
theorem d30 : decode yB 30 = .ok (.ifCond (.eq) 28, 3) := by decide +kernel
theorem d33 : decode yB 33 = .ok (.aload_n 1, 1) := by decide +kernel
theorem d34 : decode yB 34 = .ok (.iload_n 2, 1) := by decide +kernel
theorem d35 : decode yB 35 = .ok (.iload_n 3, 1) := by decide +kernel
theorem d36 : decode yB 36 = .ok (.invokestatic 177, 3) := by decide +kernel
theorem d39 : decode yB 39 = .ok (.astore 5, 2) := by decide +kernel
theorem d41 : decode yB 41 = .ok (.aload_n 0, 1) := by decide +kernel
theorem d42 : decode yB 42 = .ok (.aload 5, 2) := by decide +kernel
theorem d44 : decode yB 44 = .ok (.iload_n 3, 1) := by decide +kernel
theorem d45 : decode yB 45 = .ok (.invokestatic 47, 3) := by decide +kernel
theorem d48 : decode yB 48 = .ok (.putfield 15, 3) := by decide +kernel
theorem d51 : decode yB 51 = .ok (.aload_n 0, 1) := by decide +kernel
theorem d52 : decode yB 52 = .ok (.aload 5, 2) := by decide +kernel
theorem d54 : decode yB 54 = .ok (.putfield 9, 3) := by decide +kernel
theorem d57 : decode yB 57 = .ok (.return_, 1) := by decide +kernel
def site : List Cond := [.fieldLink "java/lang/String" 38 "java/lang/String" "COMPACT_STRINGS" "Z", Cmp3.tab, CodL.tab, .laysFinal "java/lang/String" "java/lang/String" "value" "[B", .fieldLink "java/lang/String" 9 "java/lang/String" "value" "[B", .laysFinal "java/lang/String" "java/lang/String" "coder" "B", .fieldLink "java/lang/String" 15 "java/lang/String" "coder" "B"] ++ objW "java/lang/String" 1 ++ staticW "java/lang/String" 177 Cmp3.yN ++ staticW "java/lang/String" 47 CodL.yN
def tab : Cond := tabOf yN yB 6 none site
def P (a : Addr) (D : Cell) (fV fC : Field) (b : Addr) (A : Cell) (z : Int32) (o len : Nat) (args : Array Value) (s : State) : Prop := args = #[.ref a, .ref b, .int (Int32.ofNat o), .int (Int32.ofNat len), .null] ∧ Blank "java/lang/String" a D s ∧ Found "java/lang/String" "value" "[B" fV s ∧ Found "java/lang/String" "coder" "B" fC s ∧ Ch b A s ∧ StaticIs s "java/lang/String" "COMPACT_STRINGS" "Z" (.int z) ∧ ¬ z = 0 ∧ 0 < len ∧ o + len ≤ A.slots.size ∧ len ≤ 536870912 ∧ ∀ i, i < len → ¬ 255 < cv A (o + i)
def E (a : Addr) (D : Cell) (fV fC : Field) (A : Cell) (o len : Nat) (r : Option Value) (s u : State) : Prop := Got a D fV fC A o len r s u
/-- len > 0, no char of the range above 255: a Latin-1 String of their low bytes -/
theorem law (l : Launch) (a : Addr) (D : Cell) (fV fC : Field) (b : Addr) (A : Cell) (z : Int32) (o len : Nat) : Law l yN 5 4 2 35 yB 6 none site (P a D fV fC b A z o len) (E a D fV fC A o len) [⟨a, fC.slot⟩, ⟨a, fV.slot⟩] 1 len := by
  refine Law.of_walk (plainFor_of_name (by decide +kernel)) (by decide +kernel) (by decide +kernel) (by decide) (fun _ _ h => by rw [h.1]; rfl) (fun _ U U' hal hh h => ⟨h.1, h.2.1.mv hal hh, h.2.2.1.al hal, h.2.2.2.1.al hal, h.2.2.2.2.1.mv hal hh, h.2.2.2.2.2.1.there hal hh, h.2.2.2.2.2.2⟩) (fun r U U' V V' h1 hal h2 h => Got.mv r U U' V V' h1 hal h2 h) ?_
  intro p e s m args below meth c s₁ X0 hexec hbytes hml hret hlk hnm hown hh0 W hP
  obtain ⟨rfl, hB, f1, f2, hA, s1, hz, l0, l1, l2, hp⟩ := hP
  have a31 := hA.1.2.2.2
  have c1 : Steps p.tables e below (s₁.setTop (entryFrame m #[.ref a, .ref b, .int (Int32.ofNat o), .int (Int32.ofNat len), .null] 6)) (s₁.setTop (mkF m 0 #[.val (.ref a), .val (.ref b), .val (.int (Int32.ofNat o)), .val (.int (Int32.ofNat len)), .val .null, .unset] [])) := entry rfl
  have c2 : Steps p.tables e below (s₁.setTop (entryFrame m #[.ref a, .ref b, .int (Int32.ofNat o), .int (Int32.ofNat len), .null] 6)) (s₁.setTop (mkF m 1 #[.val (.ref a), .val (.ref b), .val (.int (Int32.ofNat o)), .val (.int (Int32.ofNat len)), .val .null, .unset] [.ref a])) := c1.trans (by
    refine XS.aloadN X0.here hexec rfl (hb hbytes d0) rfl rfl ?_
    exact Steps.refl _)
  obtain ⟨T3, X3, q3, st3⟩ := X0.oinit hexec hown (wks W (objW "java/lang/String" 1)) (g := (mkF m 1 #[.val (.ref a), .val (.ref b), .val (.int (Int32.ofNat o)), .val (.int (Int32.ofNat len)), .val .null, .unset] [.ref a])) rfl (by rw [hml]; rfl) (rest := []) rfl (hb hbytes d1) (W := 0) (by show 2 * 0 + 0 ≤ _; decide) (Nat.le_of_ble_eq_true rfl) (Nat.le_of_ble_eq_true rfl)
  have hh3 := q3.trans hh0
  have c4 : Steps p.tables e below (s₁.setTop (entryFrame m #[.ref a, .ref b, .int (Int32.ofNat o), .int (Int32.ofNat len), .null] 6)) (T3.setTop (mkF m 27 #[.val (.ref a), .val (.ref b), .val (.int (Int32.ofNat o)), .val (.int (Int32.ofNat len)), .val .null, .unset] [])) := (c2.trans (st3 _ (Steps.refl _))).trans (by
    refine XS.iloadN X3.here hexec rfl (hb hbytes d4) rfl ?_
    refine XS.ifYes X3.here hexec rfl (pc0 := 5) rfl (hb hbytes d5) rfl (i0_ne_t (nz32 (by omega) l0)) (by decide) rfl ?_
    exact Steps.refl _)
  obtain ⟨T5, X5, q5, st5⟩ := X3.sget hexec hown (wk W (.fieldLink "java/lang/String" 38 "java/lang/String" "COMPACT_STRINGS" "Z")) s1 (fun _ _ h => by rw [hh3]; exact h) (g := (mkF m 27 #[.val (.ref a), .val (.ref b), .val (.int (Int32.ofNat o)), .val (.int (Int32.ofNat len)), .val .null, .unset] [])) rfl (hb hbytes d27)
  have hh5 := q5.trans hh3
  have c6 : Steps p.tables e below (s₁.setTop (entryFrame m #[.ref a, .ref b, .int (Int32.ofNat o), .int (Int32.ofNat len), .null] 6)) (T5.setTop (mkF m 30 #[.val (.ref a), .val (.ref b), .val (.int (Int32.ofNat o)), .val (.int (Int32.ofNat len)), .val .null, .unset] [.int z])) := c4.trans (st5 _ (Steps.refl _))
  have c7 : Steps p.tables e below (s₁.setTop (entryFrame m #[.ref a, .ref b, .int (Int32.ofNat o), .int (Int32.ofNat len), .null] 6)) (T5.setTop (mkF m 36 #[.val (.ref a), .val (.ref b), .val (.int (Int32.ofNat o)), .val (.int (Int32.ofNat len)), .val .null, .unset] [.int (Int32.ofNat len), .int (Int32.ofNat o), .ref b])) := c6.trans (by
    refine XS.ifNo X5.here hexec rfl (hb hbytes d30) rfl (i0_eq_f hz) ?_
    refine XS.aloadN X5.here hexec rfl (hb hbytes d33) rfl rfl ?_
    refine XS.iloadN X5.here hexec rfl (hb hbytes d34) rfl ?_
    refine XS.iloadN X5.here hexec rfl (hb hbytes d35) rfl ?_
    exact Steps.refl _)
  obtain ⟨v8, T8, X8, E8, g8⟩ := X5.callS hexec (Cmp3.law l b A o len) hown (wks W (staticW "java/lang/String" 177 Cmp3.yN)) (wk W Cmp3.tab) (W := 0) (Nat.le_of_ble_eq_true rfl) (Nat.le_of_ble_eq_true rfl) (Nat.le_refl _) (by show 0 + len ≤ len; omega) (g := (mkF m 36 #[.val (.ref a), .val (.ref b), .val (.int (Int32.ofNat o)), .val (.int (Int32.ofNat len)), .val .null, .unset] [.int (Int32.ofNat len), .int (Int32.ofNat o), .ref b])) rfl (by rw [hml]; rfl) c7 (argsL := [.ref b, .int (Int32.ofNat o), .int (Int32.ofNat len)]) (rest := []) rfl rfl (by show 2 * 0 + 0 ≤ _; decide) (hb hbytes d36) (⟨rfl, hA.mv X5.warmed.alike hh5, l1, l2, hp⟩)
  obtain ⟨e8, z8⟩ := E8
  obtain ⟨rfl, N, n1, n2, n3, n4, n5, n6⟩ := NewArr.mv _ T5 s _ _ hh5.symm (Vm.Alike.refl _) rfl e8
  rw [hh5] at z8
  have hB1 := hB.keep X8.warmed.alike (n6 _ _ hB.1)
  have hne : s.heap.size ≠ a := (Nat.ne_of_lt (Array.getElem?_eq_some_iff.mp hB.1).1).symm
  have c9 : Steps p.tables e below (s₁.setTop (entryFrame m #[.ref a, .ref b, .int (Int32.ofNat o), .int (Int32.ofNat len), .null] 6)) (T8.setTop (mkF m 39 #[.val (.ref a), .val (.ref b), .val (.int (Int32.ofNat o)), .val (.int (Int32.ofNat len)), .val .null, .unset] [.ref s.heap.size])) := g8
  have c10 : Steps p.tables e below (s₁.setTop (entryFrame m #[.ref a, .ref b, .int (Int32.ofNat o), .int (Int32.ofNat len), .null] 6)) (T8.setTop (mkF m 45 #[.val (.ref a), .val (.ref b), .val (.int (Int32.ofNat o)), .val (.int (Int32.ofNat len)), .val .null, .val (.ref s.heap.size)] [.int (Int32.ofNat N.slots.size), .ref s.heap.size, .ref a])) := by
    have hc : Steps p.tables e below (s₁.setTop (entryFrame m #[.ref a, .ref b, .int (Int32.ofNat o), .int (Int32.ofNat len), .null] 6)) (T8.setTop (mkF m 45 #[.val (.ref a), .val (.ref b), .val (.int (Int32.ofNat o)), .val (.int (Int32.ofNat len)), .val .null, .val (.ref s.heap.size)] [.int (Int32.ofNat len), .ref s.heap.size, .ref a])) := c9.trans (by
      refine XS.astore X8.here hexec rfl (hb hbytes d39) rfl rfl rfl ?_
      refine XS.aloadN X8.here hexec rfl (hb hbytes d41) rfl rfl ?_
      refine XS.aload X8.here hexec rfl (hb hbytes d42) rfl rfl ?_
      refine XS.iloadN X8.here hexec rfl (hb hbytes d44) rfl ?_
      exact Steps.refl _)
    rw [n4]; exact hc
  obtain ⟨v11, T11, X11, E11, g11⟩ := X8.callS hexec (CodL.law l s.heap.size N) hown (wks W (staticW "java/lang/String" 47 CodL.yN)) (wk W CodL.tab) (W := 1) (Nat.le_of_ble_eq_true rfl) (Nat.le_of_ble_eq_true rfl) (Nat.le_refl _) (by show 0 + len + 0 ≤ len; omega) (g := (mkF m 45 #[.val (.ref a), .val (.ref b), .val (.int (Int32.ofNat o)), .val (.int (Int32.ofNat len)), .val .null, .val (.ref s.heap.size)] [.int (Int32.ofNat N.slots.size), .ref s.heap.size, .ref a])) rfl (by rw [hml]; rfl) c10 (argsL := [.ref s.heap.size, .int (Int32.ofNat N.slots.size)]) (rest := [.ref a]) rfl rfl (by show 2 * 0 + (1 + 0) ≤ _; decide) (hb hbytes d45) (⟨rfl, n1⟩)
  obtain ⟨rfl, q11⟩ := E11
  have hB11 := hB1.mv (X8.warmed.alike.symm.trans X11.warmed.alike) q11
  have c12 : Steps p.tables e below (s₁.setTop (entryFrame m #[.ref a, .ref b, .int (Int32.ofNat o), .int (Int32.ofNat len), .null] 6)) (T11.setTop (mkF m 48 #[.val (.ref a), .val (.ref b), .val (.int (Int32.ofNat o)), .val (.int (Int32.ofNat len)), .val .null, .val (.ref s.heap.size)] [.int 0, .ref a])) := g11
  obtain ⟨T13, X13, p13, bl13, sl13, st13⟩ := X11.finit hexec hown (wk W (.fieldLink "java/lang/String" 15 "java/lang/String" "coder" "B")) (Or.inr ⟨_, (wk W (.laysFinal "java/lang/String" "java/lang/String" "coder" "B"))⟩) (Or.inl ⟨rfl, hnm⟩) f2 (Or.inl rfl) hB11 (t := .byte) (by decide +kernel) rfl (g := (mkF m 48 #[.val (.ref a), .val (.ref b), .val (.int (Int32.ofNat o)), .val (.int (Int32.ofNat len)), .val .null, .val (.ref s.heap.size)] [.int 0, .ref a])) rfl (rest := []) rfl (hb hbytes d48)
  have c14 : Steps p.tables e below (s₁.setTop (entryFrame m #[.ref a, .ref b, .int (Int32.ofNat o), .int (Int32.ofNat len), .null] 6)) (T13.setTop (mkF m 54 #[.val (.ref a), .val (.ref b), .val (.int (Int32.ofNat o)), .val (.int (Int32.ofNat len)), .val .null, .val (.ref s.heap.size)] [.ref s.heap.size, .ref a])) := (c12.trans (st13 _ (Steps.refl _))).trans (by
    refine XS.aloadN X13.here hexec rfl (hb hbytes d51) rfl rfl ?_
    refine XS.aload X13.here hexec rfl (hb hbytes d52) rfl rfl ?_
    exact Steps.refl _)
  obtain ⟨T15, X15, p15, bl15, sl15, st15⟩ := X13.finit hexec hown (wk W (.fieldLink "java/lang/String" 9 "java/lang/String" "value" "[B")) (Or.inr ⟨_, (wk W (.laysFinal "java/lang/String" "java/lang/String" "value" "[B"))⟩) (Or.inl ⟨rfl, hnm⟩) f1 (Or.inl rfl) bl13 (t := (.array .byte)) (by decide +kernel) rfl (g := (mkF m 54 #[.val (.ref a), .val (.ref b), .val (.int (Int32.ofNat o)), .val (.int (Int32.ofNat len)), .val .null, .val (.ref s.heap.size)] [.ref s.heap.size, .ref a])) rfl (rest := []) rfl (hb hbytes d54)
  have c16 : Steps p.tables e below (s₁.setTop (entryFrame m #[.ref a, .ref b, .int (Int32.ofNat o), .int (Int32.ofNat len), .null] 6)) (T15.setTop (mkF m 57 #[.val (.ref a), .val (.ref b), .val (.int (Int32.ofNat o)), .val (.int (Int32.ofNat len)), .val .null, .val (.ref s.heap.size)] [])) := c14.trans (st15 _ (Steps.refl _))
  have ap := apart (Or.inr ⟨_, (wk W (.laysFinal "java/lang/String" "java/lang/String" "value" "[B"))⟩) (Or.inr ⟨_, (wk W (.laysFinal "java/lang/String" "java/lang/String" "coder" "B"))⟩) f1 f2 (t₁ := .array .byte) (t₂ := .byte) (by decide +kernel) (by decide +kernel) (by decide)
  have al := X8.warmed.alike.symm.trans X15.warmed.alike
  have n7 : T11.heap[s.heap.size]? = some N := by rw [q11]; exact n1.1
  exact ⟨T15, none, _, _, _, X15, by simp, rfl, by omega, (fun _ => rfl), ⟨rfl, _, N, bl15, ((Same.refl D _).set _ (by simp)).set _ (by simp), sl15, (Cell.slots_setSlot_ne _ ap).trans sl13, n1.keep al (p15.other hne (p13.other hne n7)), n2, by rw [al.findClass]; exact n3, n4, n5, fun y c h1 h2 => p15.other h1 (p13.other h1 (by rw [q11]; exact n6 y c h2)), by rw [p15.2.2, p13.2.2, q11]; exact z8⟩, fun fs hl => c16.trans (X15.returnOut hexec hret (hb hbytes d57) hl)⟩
end New4
namespace New1
def yN : MethodName := ⟨"java/lang/String", "<init>", "([C)V"⟩
abbrev yB : ByteArray := jdk_42_method_3_code
theorem d0 : decode yB 0 = .ok (.aload_n 0, 1) := by decide +kernel
theorem d1 : decode yB 1 = .ok (.aload_n 1, 1) := by decide +kernel
theorem d2 : decode yB 2 = .ok (.iconst 0, 1) := by decide +kernel
theorem d3 : decode yB 3 = .ok (.aload_n 1, 1) := by decide +kernel
theorem d4 : decode yB 4 = .ok (.arraylength, 1) := by decide +kernel
theorem d5 : decode yB 5 = .ok (.aconst_null, 1) := by decide +kernel
theorem d6 : decode yB 6 = .ok (.invokespecial 27, 3) := by decide +kernel
theorem d9 : decode yB 9 = .ok (.return_, 1) := by decide +kernel
def site : List Cond := [New4.tab] ++ initW "java/lang/String" 27 New4.yN
def tab : Cond := tabOf yN yB 2 none site
def P (a : Addr) (D : Cell) (fV fC : Field) (b : Addr) (A : Cell) (z : Int32) (args : Array Value) (s : State) : Prop := args = #[.ref a, .ref b] ∧ Blank "java/lang/String" a D s ∧ Found "java/lang/String" "value" "[B" fV s ∧ Found "java/lang/String" "coder" "B" fC s ∧ Ch b A s ∧ StaticIs s "java/lang/String" "COMPACT_STRINGS" "Z" (.int z) ∧ ¬ z = 0 ∧ 0 < A.slots.size ∧ A.slots.size ≤ 536870912 ∧ ∀ i, i < A.slots.size → ¬ 255 < cv A i
def E (a : Addr) (D : Cell) (fV fC : Field) (A : Cell) (r : Option Value) (s u : State) : Prop := Got a D fV fC A 0 A.slots.size r s u
/-- new String(chars), not empty, no char above 255: a Latin-1 String of their low bytes -/
theorem law (l : Launch) (a : Addr) (D : Cell) (fV fC : Field) (b : Addr) (A : Cell) (z : Int32) : Law l yN 2 1 3 52 yB 2 none site (P a D fV fC b A z) (E a D fV fC A) [⟨a, fC.slot⟩, ⟨a, fV.slot⟩] 1 A.slots.size := by
  refine Law.of_walk (plainFor_of_name (by decide +kernel)) (by decide +kernel) (by decide +kernel) (by decide) (fun _ _ h => by rw [h.1]; rfl) (fun _ U U' hal hh h => ⟨h.1, h.2.1.mv hal hh, h.2.2.1.al hal, h.2.2.2.1.al hal, h.2.2.2.2.1.mv hal hh, h.2.2.2.2.2.1.there hal hh, h.2.2.2.2.2.2⟩) (fun r U U' V V' h1 hal h2 h => Got.mv r U U' V V' h1 hal h2 h) ?_
  intro p e s m args below meth c s₁ X0 hexec hbytes hml hret hlk hnm hown hh0 W hP
  obtain ⟨rfl, hB, f1, f2, hA, s1, hz, l0, l2, hp⟩ := hP
  have c1 : Steps p.tables e below (s₁.setTop (entryFrame m #[.ref a, .ref b] 2)) (s₁.setTop (mkF m 0 #[.val (.ref a), .val (.ref b)] [])) := entry rfl
  have c2 : Steps p.tables e below (s₁.setTop (entryFrame m #[.ref a, .ref b] 2)) (s₁.setTop (mkF m 6 #[.val (.ref a), .val (.ref b)] [.null, .int (Int32.ofNat A.slots.size), .int 0, .ref b, .ref a])) := c1.trans (by
    refine XS.aloadN X0.here hexec rfl (hb hbytes d0) rfl rfl ?_
    refine XS.aloadN X0.here hexec rfl (hb hbytes d1) rfl rfl ?_
    refine iconstV X0.here hexec rfl 0 (hb hbytes d2) (by decide) ?_
    refine XS.aloadN X0.here hexec rfl (hb hbytes d3) rfl rfl ?_
    refine X0.alen hexec (hA.1.mv X0.warmed.alike hh0) rfl rfl (hb hbytes d4) ?_
    refine XS.aconstNull X0.here hexec rfl (hb hbytes d5) ?_
    exact Steps.refl _)
  obtain ⟨v3, T3, X3, E3, g3⟩ := X0.callN hexec (New4.law l a D fV fC b A z 0 A.slots.size) rfl hown (wks W (initW "java/lang/String" 27 New4.yN)) (W New4.tab (by simp only [site, List.mem_cons, List.mem_append, true_or, or_true])) (W := 0) (Nat.le_of_ble_eq_true rfl) (Nat.le_of_ble_eq_true rfl) (Nat.le_refl _) (by show 0 + A.slots.size ≤ A.slots.size; omega) (g := (mkF m 6 #[.val (.ref a), .val (.ref b)] [.null, .int (Int32.ofNat A.slots.size), .int (Int32.ofNat 0), .ref b, .ref a])) rfl (by rw [hml]; rfl) c2 (argsL := [.ref b, .int (Int32.ofNat 0), .int (Int32.ofNat A.slots.size), .null]) (rest := []) rfl rfl (by show 2 * 0 + 0 ≤ _; decide) (hb hbytes d6) (⟨rfl, hB.mv X0.warmed.alike hh0, f1.al X0.warmed.alike, f2.al X0.warmed.alike, hA.mv X0.warmed.alike hh0, s1.there X0.warmed.alike hh0, hz, l0, by omega, l2, fun i hi => by rw [Nat.zero_add]; exact hp i hi⟩)
  have e0 := Got.mv _ s₁ s _ _ hh0.symm (Vm.Alike.refl _) rfl E3
  obtain rfl := e0.1
  have c4 : Steps p.tables e below (s₁.setTop (entryFrame m #[.ref a, .ref b] 2)) (T3.setTop (mkF m 9 #[.val (.ref a), .val (.ref b)] [])) := g3
  exact ⟨T3, none, _, _, _, X3, by simp, rfl, by omega, (fun _ => rfl), e0, fun fs hl => c4.trans (X3.returnOut hexec hret (hb hbytes d9) hl)⟩
theorem pays {l : Launch} {R : Room} {p : Program} {e : Env} {below : List Frame} {s : State} {sargs : Array Value} {len W : Nat} (a : Addr) (D : Cell) (fV fC : Field) (b : Addr) (A : Cell) (z : Int32) (htab : tab.before sargs s = true) (hfr : 4 ≤ R.frames) (hlo : W + 65 ≤ R.locals) :
    Back l R p e below s sargs yN len W (fun A₁ a₁ => A₁.cells + 1 ≤ R.cells ∧ A₁.slots + A.slots.size ≤ R.slots ∧ P a D fV fC b A z a₁ A₁.U) (fun A₁ _ v₁ B₁ => E a D fV fC A v₁ A₁.U B₁.U ∧ B₁.locs = A₁.locs ++ [⟨a, fC.slot⟩, ⟨a, fV.slot⟩] ∧ B₁.cells = A₁.cells + 1 ∧ B₁.slots = A₁.slots + A.slots.size) :=
  (law l a D fV fC b A z).pays htab hfr (by omega)
end New1
/-- the byte, read back as charAt reads it, is the char -/
theorem lo8_mask {x : Int32} (h0 : ¬ x < 0) (h1 : ¬ 255 < x) : lo8 x &&& 255 = x := by
  have t : ∀ k : Fin 256, lo8 (Int32.ofNat k.val) &&& 255 = Int32.ofNat k.val := by decide +kernel
  rw [Int32.lt_iff_toInt_lt] at h0 h1
  have e0 : (0 : Int32).toInt = 0 := rfl
  have e1 : (255 : Int32).toInt = 255 := rfl
  obtain ⟨k, hk⟩ : ∃ k : Nat, x.toInt = k := ⟨x.toInt.toNat, by omega⟩
  have hx : x = Int32.ofNat k := Int32.toInt_inj.mp (by rw [hk, Int32.toInt_ofNat_small (by omega)])
  rw [hx]
  exact t ⟨k, by omega⟩
end StrChars
namespace StrChars.Road
open Jvm Sem ClassFile Op Lib Jvm.Stand Jvm.Free Jvm.Free.XT
open Jvm.Lib.Cold (StaticIs)
abbrev ST : String := "java/lang/String"
/-- every table word that New1's law asks, flat -/
abbrev words : List Jvm.Cond := [.code New1.yN New1.yB 2 none, .initialized ST, .methodLink ST 27 New4.yN, .instanceMethod New4.yN,
  .code New4.yN New4.yB 6 none, .fieldLink ST 38 ST "COMPACT_STRINGS" "Z", .laysFinal ST ST "value" "[B", .fieldLink ST 9 ST "value" "[B", .laysFinal ST ST "coder" "B", .fieldLink ST 15 ST "coder" "B",
  .methodLink ST 1 Lib.objectInit, .instanceMethod Lib.objectInit, .code Lib.objectInit ⟨#[0xb1]⟩ 1 none, .methodLink ST 177 Cmp3.yN, .static Cmp3.yN, .methodLink ST 47 CodL.yN, .static CodL.yN,
  .code Cmp3.yN Cmp3.yB 6 (some (.array .byte)), .initialized U16, .arrayClass .byte, .methodLink U16 115 Cmp5.yN, .static Cmp5.yN, .code Cmp5.yN Cmp5.yB 7 (some .int), .code CodL.yN CodL.yB 2 (some .byte)]
theorem tab_of {a : Array Value} {s : State} (h : ∀ w ∈ words, w.before a s = true) : New1.tab.before a s = true := by
  have h5 : Cmp5.tab.before a s = true := unparts (wk h (.code Cmp5.yN Cmp5.yB 7 (some .int))) (wks h (.initialized Cmp5.yN.cls :: Cmp5.site))
  have hc : CodL.tab.before a s = true := unparts (wk h (.code CodL.yN CodL.yB 2 (some .byte))) (wks h (.initialized CodL.yN.cls :: CodL.site))
  have q5 : ∀ w ∈ Cmp5.tab :: words, w.before a s = true := fun w hw => (List.mem_cons.mp hw).elim (fun e => e ▸ h5) (h w)
  have h3 : Cmp3.tab.before a s = true := unparts (wk q5 (.code Cmp3.yN Cmp3.yB 6 (some (.array .byte)))) (wks q5 (.initialized Cmp3.yN.cls :: Cmp3.site))
  have q3 : ∀ w ∈ Cmp3.tab :: CodL.tab :: words, w.before a s = true := fun w hw => (List.mem_cons.mp hw).elim (fun e => e ▸ h3) fun hw => (List.mem_cons.mp hw).elim (fun e => e ▸ hc) (h w)
  have h4 : New4.tab.before a s = true := unparts (wk q3 (.code New4.yN New4.yB 6 none)) (wks q3 (.initialized New4.yN.cls :: New4.site))
  have q4 : ∀ w ∈ New4.tab :: words, w.before a s = true := fun w hw => (List.mem_cons.mp hw).elim (fun e => e ▸ h4) (h w)
  exact unparts (wk q4 (.code New1.yN New1.yB 2 none)) (wks q4 (.initialized New1.yN.cls :: New1.site))
/-- the words ride from the start Z to the walk's own state -/
theorem moved {Z s : State} {a0 args : Array Value} (hZ : Z.Warmed39 s.vm) (hw : ∀ d ∈ words, d.before a0 Z = true) : ∀ d ∈ words, d.before args s = true := fun d hd => by
  have q := hw d hd
  have t : ∀ d ∈ words, d = .arrayClass .byte ∨ (d.onTables && d.keepsFace) = true := by decide +kernel
  rcases t d hd with rfl | t
  · exact RoadKit.mvA hZ q
  · exact RoadKit.mv hZ q t
/-- WHAT COMES BACK, over the tables of the start Z: h the heap at the call, h' behind it -/
def Q (Z : State) (x : Addr) (A : Cell) (h : Heap) (v : Option Value) (h' : Heap) (L : List Loc) : Prop := v = none ∧ (∀ y ∈ L, y.base = x) ∧ RoadKit.Keep h h' [x] ∧ h'.size = h.size + 1 ∧ RoadKit.Exa Z h' x ST ∧ RoadKit.Fld Z h' x ST "value" "[B" (.ref h.size) ∧ RoadKit.Fld Z h' x ST "coder" "B" (.int 0) ∧
  (∃ V : Cell, RoadKit.Arr Z h' h.size V .byte ∧ V.vm = .none ∧ Z.vm.findClass "[B" = some V.cls ∧ V.slots.size = A.slots.size ∧ ∀ j, j < A.slots.size → V.slots[j]? = some (.int (lo8 (cv A j)))) ∧
  ∀ (O n d : String) (w : Value), RoadKit.Fld Z h x O n d w → RoadKit.slotOf Z O n d ≠ RoadKit.slotOf Z ST "value" "[B" → RoadKit.slotOf Z O n d ≠ RoadKit.slotOf Z ST "coder" "B" → RoadKit.Fld Z h' x O n d w
/-- **new String(chars) AT A CALL, IN THE ROAD'S FORM**: for specialBack behind newO: x the fresh String, b the char[] with the cell A -/
theorem back {p : Program} {l : Launch} {e : Env} {R : Room} {s : State} {args : Array Value} {below : List Frame} {len W : Nat} {Z : State} {a0 : Array Value} {h : Heap} (hZ : Z.Warmed39 s.vm) (hw : ∀ d ∈ words, d.before a0 Z = true) {kI : Nat} (wi : (Jvm.Cond.instantiable ST kI).before a0 Z = true)
    {x b : Addr} {A : Cell} {z : Int32} {v0 c0 : Value} (E : RoadKit.Exa Z h x ST) (V : RoadKit.Fld Z h x ST "value" "[B" v0) (C : RoadKit.Fld Z h x ST "coder" "B" c0) (K : RoadKit.Arr Z h b A .char) (hty : Typed .char A) (S : RoadKit.Sta Z h ST "COMPACT_STRINGS" "Z" (.int z)) (hz : ¬ z = 0)
    (l0 : 0 < A.slots.size) (l2 : A.slots.size ≤ 536870912) (hp : ∀ i, i < A.slots.size → ¬ 255 < cv A i) (hfr : 4 ≤ R.frames) (hlo : W + 65 ≤ R.locals) :
    Back l R p e below s args New1.yN len W (fun P a => a = #[.ref x, .ref b] ∧ P.U.heap = h ∧ P.cells + 1 ≤ R.cells ∧ P.slots + A.slots.size ≤ R.slots)
      (fun P _ v B => ∃ L, Q Z x A h v B.U.heap L ∧ B.locs = P.locs ++ L ∧ B.cells = P.cells + 1 ∧ B.slots = P.slots + A.slots.size) := by
  intro m meth c P g ig mk a X hg hsize hdg hW hn hp'
  obtain ⟨rfl, rfl, r1, r2⟩ := hp'
  have al : Z.vm.Alike P.U.vm := hZ.alike.trans X.warmed.alike
  obtain ⟨D, cfV, kV, iV, fV, hD, gV, stV, knV, obV, asV, slV⟩ := id V
  obtain ⟨D', cfC, kC, iC, fC, hD', gC, stC, -, -, asC, slC⟩ := id C
  cases hD.symm.trans hD'
  obtain ⟨D2, kD, e1, e2, e3, e4, e5⟩ := id E
  cases hD.symm.trans e1
  obtain ⟨c2, k2, i1, i2, i3, -⟩ := Cond.instantiable_spec wi
  cases e2.symm.trans i1
  cases e3.symm.trans i2
  obtain ⟨kU, u1, u2⟩ := al.2.2 _ _ e3
  have hB : Blank ST x D P.U := ⟨hD, ⟨knV, fun q hq => by rw [hq] at obV; cases obV⟩, by rw [al.findClass]; exact e2, kU, u1, by rw [u2]; exact i3, by rw [u2]; exact e5 i3⟩
  have F1 : Found ST "value" "[B" fV P.U := ⟨SBG.found_only al ⟨cfV, kV, iV, gV⟩, stV⟩
  have F2 : Found ST "coder" "B" fC P.U := ⟨SBG.found_only al ⟨cfC, kC, iC, gC⟩, stC⟩
  have hA : Ch b A P.U := ⟨⟨K.1, State.isArrayOf_alike al K.2.1, K.2.2, by omega⟩, hty⟩
  have hS : StaticIs P.U ST "COMPACT_STRINGS" "Z" (.int z) := by
    obtain ⟨cfS, iS, kS, fS, st, cS, t1, t2, t3, t4, t5, t6, t7⟩ := S
    exact StaticIs.there (s := { Z with heap := P.U.heap }) ⟨cfS, iS, kS, fS, st, cS, t1, t2, t3, t4, t5, (fun q => by rw [q] at t6; cases t6), t7⟩ al rfl
  obtain ⟨v, B, X', ⟨⟨hv, E', V', q1, q2, q3, q4, q5, q6, q7, q8, q9, q10, q11⟩, hl, hc, hs⟩, st⟩ := New1.pays x D fV fC b A z (tab_of (moved hZ hw)) hfr hlo m meth c P g ig mk _ X hg hsize hdg hW hn ⟨r1, r2, rfl, hB, F1, F2, hA, hS, hz, l0, l2, hp⟩
  have al' : Z.vm.Alike B.U.vm := hZ.alike.trans X'.warmed.alike
  have hsz : E'.slots.size = D.slots.size := by
    obtain ⟨-, -, -, kB, w1, w2, w3⟩ := q1
    obtain ⟨kB', y1, y2⟩ := al'.2.2 _ _ e3
    rw [q2.2.1] at w1
    cases w1.symm.trans y1
    rw [w3, e5 i3, y2]
  refine ⟨v, B, X', ⟨_, ⟨hv, ?_, ⟨by omega, fun y cy hy hn' => q10 y cy (by simpa using hn') hy, fun y cy hy => ?_⟩, q11, ⟨E', _, q1.1, by rw [q2.2.1]; exact e2, by rw [q2.2.1]; exact e3, by rw [q2.1]; exact obV, fun _ => by rw [hsz]; exact e5 i3⟩,
    ⟨E', cfV, kV, iV, fV, q1.1, gV, stV, by rw [q2.1]; exact knV, by rw [q2.1]; exact obV, by rw [q2.2.1]; exact asV, q3⟩, ⟨E', cfC, kC, iC, fC, q1.1, gC, stC, by rw [q2.1]; exact knV, by rw [q2.1]; exact obV, by rw [q2.2.1]; exact asC, q4⟩,
    ⟨V', ⟨q5.1, State.isArrayOf_alike al'.symm q5.2.1, q5.2.2.1⟩, q6, by rw [← al'.findClass]; exact q7, q8, fun j hj => by have := q9 j hj; rwa [Nat.zero_add] at this⟩, fun O n d w F n1 n2 => ?_⟩, hl, hc, hs⟩, st⟩
  · intro y hy
    simp only [List.mem_cons, List.not_mem_nil, or_false] at hy
    rcases hy with rfl | rfl <;> rfl
  · by_cases q : y = x
    · subst q
      cases hD.symm.trans hy
      exact ⟨E', q1.1, q2.2.1, q2.1, hsz⟩
    · exact ⟨cy, q10 y cy q hy, rfl, rfl, rfl⟩
  · obtain ⟨D3, cf, k, i, f, g1, g2, g3, g4, g5, g6, g7⟩ := F
    cases hD.symm.trans g1
    simp only [RoadKit.slotOf, g2, gV, gC, Option.map_some, Option.getD_some] at n1 n2
    exact ⟨E', cf, k, i, f, q1.1, g2, g3, by rw [q2.1]; exact g4, by rw [q2.1]; exact g5, by rw [q2.2.1]; exact g6, by rw [q2.2.2 f.slot (by simp [n1, n2])]; exact g7⟩
end StrChars.Road
namespace StrChars.Road
open Jvm Sem ClassFile Op Lib Jvm.Stand Jvm.Free Jvm.Free.XT
/-- WHAT COMES BACK, the byte[] as a list of values -/
def QA (Z : State) (x : Addr) (zn : Int32) (cs : List Int32) (h : Heap) (v : Option Value) (h' : Heap) (L : List Loc) : Prop := v = none ∧ (∀ y ∈ L, y.base = x) ∧ RoadKit.Keep h h' [x] ∧ h'.size = h.size + 1 ∧ RoadKit.Exa Z h' x ST ∧ RoadKit.Fld Z h' x ST "value" "[B" (.ref h.size) ∧ RoadKit.Fld Z h' x ST "coder" "B" (.int 0) ∧
  (∃ kb, Z.vm.findClass "[B" = some kb ∧ RoadKit.Arv Z h' h.size kb .byte zn (cs.map fun c => .int (lo8 c)) (.int 0)) ∧
  ∀ (O n d : String) (w : Value), RoadKit.Fld Z h x O n d w → RoadKit.slotOf Z O n d ≠ RoadKit.slotOf Z ST "value" "[B" → RoadKit.slotOf Z O n d ≠ RoadKit.slotOf Z ST "coder" "B" → RoadKit.Fld Z h' x O n d w
/-- **new String(chars) AT A CALL, THE ARRAYS AS LISTS**: the char[] at b holds cs, not empty, no char above 255 -/
theorem backArv {p : Program} {l : Launch} {e : Env} {R : Room} {s : State} {args : Array Value} {below : List Frame} {len W : Nat} {Z : State} {a0 : Array Value} {h : Heap} (hZ : Z.Warmed39 s.vm) (hw : ∀ d ∈ words, d.before a0 Z = true) {kI : Nat} (wi : (Jvm.Cond.instantiable ST kI).before a0 Z = true)
    {x b : Addr} {k : ClassId} {zn z : Int32} {cs : List Int32} {dv v0 c0 : Value} (E : RoadKit.Exa Z h x ST) (V : RoadKit.Fld Z h x ST "value" "[B" v0) (C : RoadKit.Fld Z h x ST "coder" "B" c0) (K : RoadKit.Arv Z h b k .char zn (cs.map Value.int) dv) (S : RoadKit.Sta Z h ST "COMPACT_STRINGS" "Z" (.int z)) (hz : ¬ z = 0)
    (hlen : zn.toNatClampNeg = cs.length) (h0 : 0 < cs.length) (hbig : cs.length ≤ 536870912) (hall : ∀ c ∈ cs, ¬ 255 < c) (hfr : 4 ≤ R.frames) (hlo : W + 65 ≤ R.locals) :
    Back l R p e below s args New1.yN len W (fun P a => a = #[.ref x, .ref b] ∧ P.U.heap = h ∧ P.cells + 1 ≤ R.cells ∧ P.slots + cs.length ≤ R.slots)
      (fun P _ v B => ∃ L, QA Z x zn cs h v B.U.heap L ∧ B.locs = P.locs ++ L ∧ B.cells = P.cells + 1 ∧ B.slots = P.slots + cs.length) := by
  obtain ⟨A, K1, K2, K3, K4, K5, K6⟩ := K
  have e : A.slots.size = cs.length := K3.trans hlen
  have hat : ∀ (i : Nat) (hi : i < cs.length), A.slots[i]? = some (.int cs[i]) := fun i hi => by rw [K5 i (by omega)]; simp [List.getD_eq_getElem?_getD, hi]
  have hcv : ∀ (i : Nat) (hi : i < cs.length), cv A i = cs[i] := fun i hi => by unfold cv; rw [hat i hi]
  have hty : Typed .char A := fun i v hv => by
    have hi : i < A.slots.size := (Array.getElem?_eq_some_iff.mp hv).1
    have q := K5 i hi
    rw [hv] at q
    rw [Option.some.inj q]
    exact K6 i hi
  refine Back.mono (back hZ hw wi E V C K1 hty S hz (by omega) (by omega) (fun i hi => by rw [hcv i (by omega)]; exact hall _ (List.getElem_mem _)) hfr hlo) (fun P a hp => ⟨hp.1, hp.2.1, hp.2.2.1, by rw [e]; exact hp.2.2.2⟩) (fun P a v B hp hq => ?_)
  obtain ⟨L, ⟨q1, q2, q3, q4, q5, q6, q7, ⟨V', v1, v2, v3, v4, v5⟩, q9⟩, hl, hc, hs⟩ := hq
  refine ⟨L, ⟨q1, q2, q3, q4, q5, q6, q7, ⟨V'.cls, v3, V', v1, rfl, by rw [v4, e, hlen], K4, fun i hi => ?_, fun i hi => ?_⟩, q9⟩, hl, hc, by rw [hs, e]⟩
  · have hi' : i < cs.length := by omega
    rw [v5 i (by omega), hcv i hi']; simp [List.getD_eq_getElem?_getD, hi']
  · have hi' : i < cs.length := by omega
    simp only [List.getD_eq_getElem?_getD, List.getElem?_map, List.getElem?_eq_getElem hi', Option.map_some, Option.getD_some]
    exact fits_lo8 _
end StrChars.Road
namespace StrChars.Road
open Jvm Sem ClassFile Op Lib Jvm.Stand Jvm.Free Jvm.Free.XT
/-- WHAT COMES BACK, in the writer's own shape -/
def QV (Z : State) (x : Addr) (N : Int32) (bs : List Int32) (h : Heap) (n0 : Nat) (v : Option Value) (h' : Heap) (L : List Loc) : Prop := v = none ∧ RoadKit.Fr n0 L ∧ RoadKit.Keep h h' [x] ∧ RoadKit.Exa Z h' x ST ∧ RoadKit.Fld Z h' x ST "coder" "B" (.int 0) ∧
  ∃ (t : Addr) (kb : ClassId), n0 ≤ t ∧ h.size ≤ t ∧ ¬ t = x ∧ RoadKit.Fld Z h' x ST "value" "[B" (.ref t) ∧ RoadKit.Arv Z h' t kb .byte N (bs.map Value.int) (.int 0)
/-- **new String(chars) AT A CALL, FOR THE WRITER**: a char[] of n known ints, each 0 to 255 -/
theorem backV {p : Program} {l : Launch} {e : Env} {R : Room} {s : State} {args : Array Value} {below : List Frame} {len W : Nat} {Z : State} {a0 : Array Value} {h : Heap} (hZ : Z.Warmed39 s.vm) (hw : ∀ d ∈ words, d.before a0 Z = true) {kI : Nat} (wi : (Jvm.Cond.instantiable ST kI).before a0 Z = true)
    {x b : Addr} {kC : ClassId} {cs bs : List Int32} {d v0 c0 : Value} {z N : Int32} {n n0 : Nat} (hx0 : n0 ≤ x) (hh0 : n0 ≤ h.size) (E : RoadKit.Exa Z h x ST) (V : RoadKit.Fld Z h x ST "value" "[B" v0) (C : RoadKit.Fld Z h x ST "coder" "B" c0) (K : RoadKit.Arv Z h b kC .char N (cs.map Value.int) d) (S : RoadKit.Sta Z h ST "COMPACT_STRINGS" "Z" (.int z)) (hz : ¬ z = 0)
    (hn : cs.length = n) (hN : N = Int32.ofNat n) (l0 : 0 < n) (l2 : n ≤ 4000) (hp : ∀ c ∈ cs, ¬ c < 0 ∧ ¬ (255 : Int32) < c) (hb : bs = cs.map (fun c => c.toInt8.toInt32)) (hfr : 4 ≤ R.frames) (hlo : W + 65 ≤ R.locals) :
    Back l R p e below s args (⟨"java/lang/String", "<init>", "([C)V"⟩ : MethodName) len W (fun P a => a = #[.ref x, .ref b] ∧ P.U.heap = h ∧ P.cells + 1 ≤ R.cells ∧ P.slots + n ≤ R.slots)
      (fun P _ v B => ∃ L, QV Z x N bs h n0 v B.U.heap L ∧ B.locs = P.locs ++ L ∧ B.cells = P.cells + 1 ∧ B.slots = P.slots + n) := by
  subst hn hN hb
  refine Back.mono (backArv hZ hw wi E V C K S hz (n32 (by omega)) l0 (by omega) (fun c hc => (hp c hc).2) hfr hlo) (fun P a hp => hp) (fun P a v B hp hq => ?_)
  obtain ⟨L, ⟨q1, q2, q3, q4, q5, q6, q7, ⟨kb, v1, v2⟩, q9⟩, hl, hc, hs⟩ := hq
  exact ⟨L, ⟨q1, fun y hy => by rw [q2 y hy]; exact hx0, q3, q5, q7, h.size, kb, hh0, Nat.le_refl _, Nat.ne_of_gt E.lt, q6, by rw [List.map_map]; exact v2⟩, hl, hc, hs⟩
end StrChars.Road
namespace StrChars
open Jvm Sem ClassFile Op Lib Jvm.Stand Jvm.Free.XT Jvm.Free.ALB Jvm.Free.JM Jvm.Free
open Jvm.Lib.Cold (StaticIs)
def hi8 (x : Int32) : Int32 := lo8 (x >>> ((8 : Int32) &&& 31))
/-- what StringUTF16.getChar makes of two bytes -/
def pairCh (u v : Int32) : Int32 := (((u &&& 255) <<< ((0 : Int32) &&& 31)) ||| ((v &&& 255) <<< ((8 : Int32) &&& 31))).toUInt32.toUInt16.toUInt32.toInt32
theorem shr0 (c : Int32) : c >>> ((0 : Int32) &&& 31) = c := by
  have e : ((0 : Int32) &&& 31) = 0 := by decide
  rw [e]
  apply Int32.toBitVec_inj.mp
  rw [Int32.toBitVec_shiftRight]
  have e1 : ((0 : Int32).toBitVec.smod 32) = 0#32 := by decide
  rw [e1, BitVec.sshiftRight_eq']
  exact BitVec.sshiftRight_zero
theorem lo8_and (x : Int32) : (lo8 x &&& 255).toBitVec.toNat = x.toBitVec.toNat % 256 := by
  have h : (lo8 x).toBitVec = (x.toBitVec.signExtend 8).signExtend 32 := by rw [lo8, Int8.toBitVec_toInt32, Int32.toBitVec_toInt8]
  rw [Int32.toBitVec_and, BitVec.toNat_and, h]
  have e : ((x.toBitVec.signExtend 8).signExtend 32).toNat % 256 = x.toBitVec.toNat % 256 := by
    rw [BitVec.toNat_signExtend]
    have hlt := x.toBitVec.isLt
    simp only [BitVec.toNat_setWidth, BitVec.toNat_signExtend]
    split <;> split <;> omega
  rw [← e]
  exact Nat.and_two_pow_sub_one_eq_mod _ 8
theorem pair_says {c : Int32} (h0 : ¬ c < 0) (h1 : ¬ 65535 < c) : pairCh (lo8 c) (hi8 c) = c := by
  rw [Int32.lt_iff_toInt_lt] at h0 h1
  have e0 : (0 : Int32).toInt = 0 := rfl
  have e1 : (65535 : Int32).toInt = 65535 := rfl
  have hc : c.toInt = c.toBitVec.toNat := by
    have := c.toBitVec.isLt
    have e : c.toInt = c.toBitVec.toInt := rfl
    rw [e] at h0 h1
    rw [e]
    rw [BitVec.toInt_eq_toNat_cond] at h0 h1 ⊢
    split at h0 <;> split <;> omega
  have hn : c.toBitVec.toNat < 65536 := by omega
  have a1 := lo8_and c
  have a2 : (hi8 c &&& 255).toBitVec.toNat = c.toBitVec.toNat / 256 := by
    rw [hi8, lo8_and]
    have e : ((8 : Int32) &&& 31) = 8 := by decide
    rw [e, Int32.toBitVec_shiftRight]
    have e2 : ((8 : Int32).toBitVec.smod 32) = 8#32 := by decide
    rw [e2, BitVec.sshiftRight_eq', BitVec.toNat_sshiftRight_of_msb_false (by rw [BitVec.msb_eq_false_iff_two_mul_lt]; omega)]
    show c.toBitVec.toNat >>> 8 % 256 = _
    rw [Nat.shiftRight_eq_div_pow]
    omega
  unfold pairCh
  apply Int32.toBitVec_inj.mp
  apply BitVec.eq_of_toNat_eq
  have f0 : ((0 : Int32) &&& 31) = 0 := by decide
  have f8 : ((8 : Int32) &&& 31) = 8 := by decide
  rw [f0, f8]
  have g : (((lo8 c &&& 255) <<< (0 : Int32)) ||| ((hi8 c &&& 255) <<< (8 : Int32))).toBitVec.toNat = c.toBitVec.toNat := by
    rw [Int32.toBitVec_or, Int32.toBitVec_shiftLeft, Int32.toBitVec_shiftLeft]
    have s0 : ((0 : Int32).toBitVec.smod 32) = 0#32 := by decide
    have s8 : ((8 : Int32).toBitVec.smod 32) = 8#32 := by decide
    rw [s0, s8, BitVec.toNat_or]
    simp only [BitVec.shiftLeft_eq', BitVec.toNat_shiftLeft, a1, a2]
    show (c.toBitVec.toNat % 256) <<< 0 % 2 ^ 32 ||| (c.toBitVec.toNat / 256) <<< 8 % 2 ^ 32 = _
    rw [Nat.shiftLeft_zero, Nat.mod_eq_of_lt (show c.toBitVec.toNat % 256 < 2 ^ 32 by omega), Nat.mod_eq_of_lt (show (c.toBitVec.toNat / 256) <<< 8 < 2 ^ 32 by rw [Nat.shiftLeft_eq]; omega), Nat.or_comm, ← Nat.shiftLeft_add_eq_or_of_lt (by omega), Nat.shiftLeft_eq]
    omega
  show BitVec.toNat (((((lo8 c &&& 255) <<< (0 : Int32)) ||| ((hi8 c &&& 255) <<< (8 : Int32))).toBitVec.setWidth 16).setWidth 32) = _
  rw [BitVec.toNat_setWidth, BitVec.toNat_setWidth, g]
  omega
end StrChars
namespace StrChars
open Jvm Sem ClassFile Op Lib Jvm.Stand Jvm.Free.XT Jvm.Free.ALB Jvm.Free.JM Jvm.Free
open Jvm.Lib.Cold (StaticIs)
theorem shr1 {n : Nat} (h : 2 * n < 2 ^ 31) : Int32.ofNat (2 * n) >>> ((1 : Int32) &&& 31) = Int32.ofNat n := by
  have e : ((1 : Int32) &&& 31) = 1 := by decide
  rw [e]
  apply Int32.toBitVec_inj.mp
  rw [Int32.toBitVec_shiftRight]
  have e1 : ((1 : Int32).toBitVec.smod 32) = 1#32 := by decide
  have hm : (BitVec.ofNat 32 (2 * n)).toNat = 2 * n := by rw [BitVec.toNat_ofNat, Nat.mod_eq_of_lt (by omega)]
  rw [e1, BitVec.sshiftRight_eq']
  apply BitVec.eq_of_toNat_eq
  show ((BitVec.ofNat 32 (2 * n)).sshiftRight 1).toNat = (BitVec.ofNat 32 n).toNat
  rw [BitVec.toNat_sshiftRight_of_msb_false (by rw [BitVec.msb_eq_false_iff_two_mul_lt, hm]; omega), hm, BitVec.toNat_ofNat, Nat.shiftRight_eq_div_pow]
  omega
/-- charAt's cast of a byte read back -/
def chr8 (u : Int32) : Int32 := (u &&& 255).toUInt32.toUInt16.toUInt32.toInt32
theorem chr8_lo8 {c : Int32} (h0 : ¬ c < 0) (h1 : ¬ 255 < c) : chr8 (lo8 c) = c := by
  have t : ∀ k : Fin 256, (Int32.ofNat k.val).toUInt32.toUInt16.toUInt32.toInt32 = Int32.ofNat k.val := by decide +kernel
  unfold chr8
  rw [lo8_mask h0 h1]
  rw [Int32.lt_iff_toInt_lt] at h0 h1
  have e0 : (0 : Int32).toInt = 0 := rfl
  have e1 : (255 : Int32).toInt = 255 := rfl
  obtain ⟨k, hk⟩ : ∃ k : Nat, c.toInt = k := ⟨c.toInt.toNat, by omega⟩
  have hx : c = Int32.ofNat k := Int32.toInt_inj.mp (by rw [hk, Int32.toInt_ofNat_small (by omega)])
  rw [hx]
  exact t ⟨k, by omega⟩
theorem narrow_ch {c : Int32} (h0 : ¬ c < 0) (h1 : ¬ 65535 < c) : narrow .char (.int c) = .int c := by
  have q : narrow .char (.int (pairCh (lo8 c) (hi8 c))) = .int (pairCh (lo8 c) (hi8 c)) := narrow_c _
  rwa [pair_says h0 h1] at q
/-- the array's cell V codes the n chars f 0 .. f (n - 1) by the coder cd, as the JDK does: coder 1 just where some char is above 255 -/
def Cod (cd : Int32) (n : Nat) (f : Nat → Int32) (V : Cell) : Prop := (cd = 0 ∧ V.slots.size = n ∧ ∀ j, j < n → V.slots[j]? = some (.int (lo8 (f j))) ∧ ¬ 255 < f j) ∨ (cd = 1 ∧ V.slots.size = 2 * n ∧ (∀ j, j < n → V.slots[2 * j]? = some (.int (lo8 (f j))) ∧ V.slots[2 * j + 1]? = some (.int (hi8 (f j)))) ∧ ∃ j, j < n ∧ 255 < f j)
theorem Cod.cd {cd : Int32} {n : Nat} {f : Nat → Int32} {V : Cell} (h : Cod cd n f V) : cd = 0 ∨ cd = 1 := h.imp (fun q => q.1) fun q => q.1
theorem Cod.len {cd : Int32} {n : Nat} {f : Nat → Int32} {V : Cell} (h : Cod cd n f V) (hs : V.slots.size < 2 ^ 31) : Int32.ofNat V.slots.size >>> (cd &&& 31) = Int32.ofNat n := by
  rcases h with ⟨rfl, h, -⟩ | ⟨rfl, h, -⟩
  · rw [shr0, h]
  · rw [h, shr1 (by omega)]
/-- **x is a String of the n chars f 0 .. f (n - 1)**, Latin-1 or UTF-16; its array at t has the cell V -/
def Txt (x t : Addr) (V : Cell) (cd : Int32) (n : Nat) (f : Nat → Int32) (U : State) : Prop := Exact "java/lang/String" x U ∧ Has x "java/lang/String" "value" "[B" (.ref t) U ∧ Has x "java/lang/String" "coder" "B" (.int cd) U ∧ XT.Arr .byte t V U ∧ Cod cd n f V ∧ ∀ j, j < n → ¬ f j < 0 ∧ ¬ 65535 < f j
theorem Txt.mv {x t : Addr} {V : Cell} {cd : Int32} {n : Nat} {f : Nat → Int32} {U U' : State} (h : Txt x t V cd n f U) (hal : U.vm.Alike U'.vm) (hh : U'.heap = U.heap) : Txt x t V cd n f U' := ⟨h.1.mv hal hh, h.2.1.mv hal hh, h.2.2.1.mv hal hh, h.2.2.2.1.mv hal hh, h.2.2.2.2⟩
namespace Cdr
def yN : MethodName := ⟨"java/lang/String", "coder", "()B"⟩
abbrev yB : ByteArray := jdk_42_method_152_code
theorem d0 : decode yB 0 = .ok (.getstatic 38, 3) := by decide +kernel
theorem d3 : decode yB 3 = .ok (.ifCond (.eq) 10, 3) := by decide +kernel
theorem d6 : decode yB 6 = .ok (.aload_n 0, 1) := by decide +kernel
theorem d7 : decode yB 7 = .ok (.getfield 15, 3) := by decide +kernel
theorem d10 : decode yB 10 = .ok (.goto 4, 3) := by decide +kernel
theorem d14 : decode yB 14 = .ok (.ireturn, 1) := by decide +kernel
def site : List Cond := [.fieldLink "java/lang/String" 38 "java/lang/String" "COMPACT_STRINGS" "Z", .fieldLink "java/lang/String" 15 "java/lang/String" "coder" "B"]
def tab : Cond := tabOf yN yB 1 (some .byte) site
def P (x : Addr) (cd z : Int32) (args : Array Value) (s : State) : Prop := args = #[.ref x] ∧ Has x "java/lang/String" "coder" "B" (.int cd) s ∧ (cd = 0 ∨ cd = 1) ∧ StaticIs s "java/lang/String" "COMPACT_STRINGS" "Z" (.int z) ∧ ¬ z = 0
def E (cd : Int32) (r : Option Value) (s u : State) : Prop := XT.PureE (some (.int cd)) r s u
theorem law (l : Launch) (x : Addr) (cd z : Int32) : Law l yN 1 0 0 0 yB 1 (some .byte) site (P x cd z) (E cd) [] 0 0 := by
  refine Law.of_walk (plainFor_of_name (by decide +kernel)) (by decide +kernel) (by decide +kernel) (by decide) (fun _ _ h => by rw [h.1]; rfl) (fun _ U U' hal hh h => ⟨h.1, h.2.1.mv hal hh, h.2.2.1, h.2.2.2.1.there hal hh, h.2.2.2.2⟩) (fun r U U' V V' h1 hal h2 h => XT.PureE.mv r U U' V V' h1 hal h2 h) ?_
  intro p e s m args below meth c s₁ X0 hexec hbytes hml hret hlk hnm hown hh0 W hP
  obtain ⟨rfl, hx, hc, s1, hz⟩ := hP
  have c1 : Steps p.tables e below (s₁.setTop (entryFrame m #[.ref x] 1)) (s₁.setTop (mkF m 0 #[.val (.ref x)] [])) := entry rfl
  obtain ⟨T2, X2, q2, st2⟩ := X0.sget hexec hown (wk W (.fieldLink "java/lang/String" 38 "java/lang/String" "COMPACT_STRINGS" "Z")) s1 (fun _ _ h => by rw [hh0]; exact h) (g := (mkF m 0 #[.val (.ref x)] [])) rfl (hb hbytes d0)
  have hh2 := q2.trans hh0
  have c3 : Steps p.tables e below (s₁.setTop (entryFrame m #[.ref x] 1)) (T2.setTop (mkF m 7 #[.val (.ref x)] [.ref x])) := (c1.trans (st2 _ (Steps.refl _))).trans (by
    refine XS.ifNo X2.here hexec rfl (hb hbytes d3) rfl (i0_eq_f hz) ?_
    refine XS.aloadN X2.here hexec rfl (hb hbytes d6) rfl rfl ?_
    exact Steps.refl _)
  obtain ⟨T4, X4, q4, st4⟩ := X2.hget hexec hown (wk W (.fieldLink "java/lang/String" 15 "java/lang/String" "coder" "B")) (hx.mv X2.warmed.alike hh2) (g := (mkF m 7 #[.val (.ref x)] [.ref x])) rfl (rest := []) rfl (hb hbytes d7)
  have c5 : Steps p.tables e below (s₁.setTop (entryFrame m #[.ref x] 1)) (T4.setTop (mkF m 14 #[.val (.ref x)] [.int cd])) := (c3.trans (st4 _ (Steps.refl _))).trans (by
    refine XS.goto X4.here hexec rfl (pc0 := 10) rfl (hb hbytes d10) (by decide) rfl ?_
    exact Steps.refl _)
  exact ⟨T4, some (.int cd), _, _, _, X4, rfl, rfl, rfl, (fun h => by cases h), ⟨rfl, q4.trans hh2⟩, fun fs hl => c5.trans (X4.ireturnOut hexec hret (by rcases hc with rfl | rfl <;> rfl) (Or.inr (Or.inr (Or.inl rfl))) (hb hbytes d14) hl)⟩
end Cdr
namespace Len
def yN : MethodName := ⟨"java/lang/String", "length", "()I"⟩
abbrev yB : ByteArray := jdk_42_method_54_code
theorem d0 : decode yB 0 = .ok (.aload_n 0, 1) := by decide +kernel
theorem d1 : decode yB 1 = .ok (.getfield 9, 3) := by decide +kernel
theorem d4 : decode yB 4 = .ok (.arraylength, 1) := by decide +kernel
theorem d5 : decode yB 5 = .ok (.aload_n 0, 1) := by decide +kernel
theorem d6 : decode yB 6 = .ok (.invokevirtual 335, 3) := by decide +kernel
theorem d9 : decode yB 9 = .ok (.ishr, 1) := by decide +kernel
theorem d10 : decode yB 10 = .ok (.ireturn, 1) := by decide +kernel
def site : List Cond := [.fieldLink "java/lang/String" 9 "java/lang/String" "value" "[B", Cdr.tab] ++ virtW "java/lang/String" 335 "java/lang/String" Cdr.yN Cdr.yN
def tab : Cond := tabOf yN yB 1 (some .int) site
def P (x t : Addr) (V : Cell) (cd : Int32) (n : Nat) (f : Nat → Int32) (z : Int32) (args : Array Value) (s : State) : Prop := args = #[.ref x] ∧ Txt x t V cd n f s ∧ StaticIs s "java/lang/String" "COMPACT_STRINGS" "Z" (.int z) ∧ ¬ z = 0
def E (n : Nat) (r : Option Value) (s u : State) : Prop := XT.PureE (some (.int (Int32.ofNat n))) r s u
/-- length() of a String of n chars, in either coding -/
theorem law (l : Launch) (x t : Addr) (V : Cell) (cd : Int32) (n : Nat) (f : Nat → Int32) (z : Int32) : Law l yN 1 0 1 13 yB 1 (some .int) site (P x t V cd n f z) (E n) [] 0 0 := by
  refine Law.of_walk (plainFor_of_name (by decide +kernel)) (by decide +kernel) (by decide +kernel) (by decide) (fun _ _ h => by rw [h.1]; rfl) (fun _ U U' hal hh h => ⟨h.1, h.2.1.mv hal hh, h.2.2.1.there hal hh, h.2.2.2⟩) (fun r U U' V V' h1 hal h2 h => XT.PureE.mv r U U' V V' h1 hal h2 h) ?_
  intro p e s m args below meth c s₁ X0 hexec hbytes hml hret hlk hnm hown hh0 W hP
  obtain ⟨rfl, hx, s1, hz⟩ := hP
  have v31 := hx.2.2.2.1.2.2.2
  have c1 : Steps p.tables e below (s₁.setTop (entryFrame m #[.ref x] 1)) (s₁.setTop (mkF m 1 #[.val (.ref x)] [.ref x])) := Steps.trans (entry rfl) (by
    show Steps p.tables e below (s₁.setTop (mkF m 0 #[.val (.ref x)] [])) _
    refine XS.aloadN X0.here hexec rfl (hb hbytes d0) rfl rfl ?_
    exact Steps.refl _)
  obtain ⟨T2, X2, q2, st2⟩ := X0.hget hexec hown (wk W (.fieldLink "java/lang/String" 9 "java/lang/String" "value" "[B")) (hx.mv X0.warmed.alike hh0).2.1 (g := (mkF m 1 #[.val (.ref x)] [.ref x])) rfl (rest := []) rfl (hb hbytes d1)
  have hh2 := q2.trans hh0
  have hx2 := hx.mv X2.warmed.alike hh2
  have c3 : Steps p.tables e below (s₁.setTop (entryFrame m #[.ref x] 1)) (T2.setTop (mkF m 6 #[.val (.ref x)] [.ref x, .int (Int32.ofNat V.slots.size)])) := (c1.trans (st2 _ (Steps.refl _))).trans (by
    refine X2.alen hexec hx2.2.2.2.1 rfl rfl (hb hbytes d4) ?_
    refine XS.aloadN X2.here hexec rfl (hb hbytes d5) rfl rfl ?_
    exact Steps.refl _)
  obtain ⟨v4, T4, X4, E4, g4⟩ := X2.callV hexec (Cdr.law l x cd z) hown (wks W (virtW "java/lang/String" 335 "java/lang/String" Cdr.yN Cdr.yN)) rfl (by decide) (wk W Cdr.tab) (W := 1) (Nat.le_of_ble_eq_true rfl) (Nat.le_of_ble_eq_true rfl) (Nat.le_refl _) (Nat.le_refl _) (hx2.1.fc X2.warmed.alike) hx2.1.is (g := (mkF m 6 #[.val (.ref x)] [.ref x, .int (Int32.ofNat V.slots.size)])) rfl (by rw [hml]; rfl) c3 (argsL := []) (rest := [.int (Int32.ofNat V.slots.size)]) rfl rfl (by show 2 * 0 + (1 + 0) ≤ _; decide) (hb hbytes d6) (⟨rfl, hx2.2.2.1, hx.2.2.2.2.1.cd, s1.there X2.warmed.alike hh2, hz⟩)
  obtain ⟨rfl, q4⟩ := E4
  have c5 : Steps p.tables e below (s₁.setTop (entryFrame m #[.ref x] 1)) (T4.setTop (mkF m 10 #[.val (.ref x)] [.int (Int32.ofNat V.slots.size >>> (cd &&& 31))])) := Steps.trans g4 (by
    refine ishr X4.here hexec rfl (hb hbytes d9) rfl ?_
    exact Steps.refl _)
  rw [hx.2.2.2.2.1.len v31] at c5
  exact ⟨T4, some (.int (Int32.ofNat n)), _, _, _, X4, rfl, rfl, rfl, (fun h => by cases h), ⟨rfl, q4.trans hh2⟩, fun fs hl => c5.trans (X4.ireturnOut hexec hret rfl (Or.inl rfl) (hb hbytes d10) hl)⟩
theorem pays {l : Launch} {R : Room} {p : Program} {e : Env} {below : List Frame} {s : State} {sargs : Array Value} {len W : Nat} (x t : Addr) (V : Cell) (cd : Int32) (n : Nat) (f : Nat → Int32) (z : Int32) (htab : tab.before sargs s = true) (hfr : 2 ≤ R.frames) (hlo : W + 25 ≤ R.locals) :
    Back l R p e below s sargs yN len W (fun A₁ a₁ => A₁.cells + 0 ≤ R.cells ∧ A₁.slots + 0 ≤ R.slots ∧ P x t V cd n f z a₁ A₁.U) (fun A₁ _ v₁ B₁ => E n v₁ A₁.U B₁.U ∧ B₁.locs = A₁.locs ++ [] ∧ B₁.cells = A₁.cells + 0 ∧ B₁.slots = A₁.slots + 0) :=
  (law l x t V cd n f z).pays htab hfr (by omega)
end Len
namespace IsL
def yN : MethodName := ⟨"java/lang/String", "isLatin1", "()Z"⟩
abbrev yB : ByteArray := jdk_42_method_154_code
theorem d0 : decode yB 0 = .ok (.getstatic 38, 3) := by decide +kernel
theorem d3 : decode yB 3 = .ok (.ifCond (.eq) 14, 3) := by decide +kernel
theorem d6 : decode yB 6 = .ok (.aload_n 0, 1) := by decide +kernel
theorem d7 : decode yB 7 = .ok (.getfield 15, 3) := by decide +kernel
theorem d10 : decode yB 10 = .ok (.ifCond (.ne) 7, 3) := by decide +kernel
theorem d13 : decode yB 13 = .ok (.iconst 1, 1) := by decide +kernel
theorem d14 : decode yB 14 = .ok (.goto 4, 3) := by decide +kernel
theorem d17 : decode yB 17 = .ok (.iconst 0, 1) := by decide +kernel
theorem d18 : decode yB 18 = .ok (.ireturn, 1) := by decide +kernel
def site : List Cond := [.fieldLink "java/lang/String" 38 "java/lang/String" "COMPACT_STRINGS" "Z", .fieldLink "java/lang/String" 15 "java/lang/String" "coder" "B"]
def tab : Cond := tabOf yN yB 1 (some .boolean) site
def P (x : Addr) (cd z : Int32) (args : Array Value) (s : State) : Prop := args = #[.ref x] ∧ Has x "java/lang/String" "coder" "B" (.int cd) s ∧ (cd = 0 ∨ cd = 1) ∧ StaticIs s "java/lang/String" "COMPACT_STRINGS" "Z" (.int z) ∧ ¬ z = 0
def E (cd : Int32) (r : Option Value) (s u : State) : Prop := XT.PureE (some (.int (1 - cd))) r s u
theorem law (l : Launch) (x : Addr) (cd z : Int32) : Law l yN 1 0 0 0 yB 1 (some .boolean) site (P x cd z) (E cd) [] 0 0 := by
  refine Law.of_walk (plainFor_of_name (by decide +kernel)) (by decide +kernel) (by decide +kernel) (by decide) (fun _ _ h => by rw [h.1]; rfl) (fun _ U U' hal hh h => ⟨h.1, h.2.1.mv hal hh, h.2.2.1, h.2.2.2.1.there hal hh, h.2.2.2.2⟩) (fun r U U' V V' h1 hal h2 h => XT.PureE.mv r U U' V V' h1 hal h2 h) ?_
  intro p e s m args below meth c s₁ X0 hexec hbytes hml hret hlk hnm hown hh0 W hP
  obtain ⟨rfl, hx, hc, s1, hz⟩ := hP
  have c1 : Steps p.tables e below (s₁.setTop (entryFrame m #[.ref x] 1)) (s₁.setTop (mkF m 0 #[.val (.ref x)] [])) := entry rfl
  obtain ⟨T2, X2, q2, st2⟩ := X0.sget hexec hown (wk W (.fieldLink "java/lang/String" 38 "java/lang/String" "COMPACT_STRINGS" "Z")) s1 (fun _ _ h => by rw [hh0]; exact h) (g := (mkF m 0 #[.val (.ref x)] [])) rfl (hb hbytes d0)
  have hh2 := q2.trans hh0
  have c3 : Steps p.tables e below (s₁.setTop (entryFrame m #[.ref x] 1)) (T2.setTop (mkF m 7 #[.val (.ref x)] [.ref x])) := (c1.trans (st2 _ (Steps.refl _))).trans (by
    refine XS.ifNo X2.here hexec rfl (hb hbytes d3) rfl (i0_eq_f hz) ?_
    refine XS.aloadN X2.here hexec rfl (hb hbytes d6) rfl rfl ?_
    exact Steps.refl _)
  obtain ⟨T4, X4, q4, st4⟩ := X2.hget hexec hown (wk W (.fieldLink "java/lang/String" 15 "java/lang/String" "coder" "B")) (hx.mv X2.warmed.alike hh2) (g := (mkF m 7 #[.val (.ref x)] [.ref x])) rfl (rest := []) rfl (hb hbytes d7)
  have c5 : Steps p.tables e below (s₁.setTop (entryFrame m #[.ref x] 1)) (T4.setTop (mkF m 10 #[.val (.ref x)] [.int cd])) := c3.trans (st4 _ (Steps.refl _))
  have c6 : Steps p.tables e below (s₁.setTop (entryFrame m #[.ref x] 1)) (T4.setTop (mkF m 18 #[.val (.ref x)] [.int (1 - cd)])) := by
    rcases hc with rfl | rfl
    · exact c5.trans (by
        refine XS.ifNo X4.here hexec rfl (hb hbytes d10) rfl (i0_ne_f rfl) ?_
        refine iconstV X4.here hexec rfl 1 (hb hbytes d13) (by decide) ?_
        refine XS.goto X4.here hexec rfl (pc0 := 14) rfl (hb hbytes d14) (by decide) rfl ?_
        exact Steps.refl _)
    · exact c5.trans (by
        refine XS.ifYes X4.here hexec rfl (pc0 := 10) rfl (hb hbytes d10) rfl (i0_ne_t (by decide)) (by decide) rfl ?_
        refine iconstV X4.here hexec rfl 0 (hb hbytes d17) (by decide) ?_
        exact Steps.refl _)
  exact ⟨T4, some (.int (1 - cd)), _, _, _, X4, rfl, rfl, rfl, (fun h => by cases h), ⟨rfl, q4.trans hh2⟩, fun fs hl => c6.trans (X4.ireturnOut hexec hret (by rcases hc with rfl | rfl <;> rfl) (Or.inr (Or.inl rfl)) (hb hbytes d18) hl)⟩
end IsL
namespace LChA
def yN : MethodName := ⟨"java/lang/StringLatin1", "charAt", "([BI)C"⟩
abbrev yB : ByteArray := jdk_43_method_2_code
theorem d0 : decode yB 0 = .ok (.iload_n 1, 1) := by decide +kernel
theorem d1 : decode yB 1 = .ok (.aload_n 0, 1) := by decide +kernel
theorem d2 : decode yB 2 = .ok (.arraylength, 1) := by decide +kernel
theorem d3 : decode yB 3 = .ok (.invokestatic 9, 3) := by decide +kernel
theorem d6 : decode yB 6 = .ok (.aload_n 0, 1) := by decide +kernel
theorem d7 : decode yB 7 = .ok (.iload_n 1, 1) := by decide +kernel
theorem d8 : decode yB 8 = .ok (.baload, 1) := by decide +kernel
theorem d9 : decode yB 9 = .ok (.sipush 255, 3) := by decide +kernel
theorem d12 : decode yB 12 = .ok (.iand, 1) := by decide +kernel
theorem d13 : decode yB 13 = .ok (.i2c, 1) := by decide +kernel
theorem d14 : decode yB 14 = .ok (.ireturn, 1) := by decide +kernel
def site : List Cond := [JO.Str_checkIndex.tab] ++ staticW "java/lang/StringLatin1" 9 JO.Str_checkIndex.yN
def tab : Cond := tabOf yN yB 2 (some .char) site
def P (t : Addr) (V : Cell) (i : Nat) (u : Int32) (fm : Value) (args : Array Value) (s : State) : Prop := args = #[.ref t, .int (Int32.ofNat i)] ∧ XT.Arr .byte t V s ∧ V.slots[i]? = some (.int u) ∧ (StaticIs s "jdk/internal/util/Preconditions" "SIOOBE_FORMATTER" "Ljava/util/function/BiFunction;" fm ∧ fm.isRef = true)
def E (u : Int32) (r : Option Value) (s w : State) : Prop := XT.PureE (some (.int (chr8 u))) r s w
theorem law (l : Launch) (t : Addr) (V : Cell) (i : Nat) (u : Int32) (fm : Value) : Law l yN 2 2 2 27 yB 2 (some .char) site (P t V i u fm) (E u) [] 0 0 := by
  refine Law.of_walk (plainFor_of_name (by decide +kernel)) (by decide +kernel) (by decide +kernel) (by decide) (fun _ _ h => by rw [h.1]; rfl) (fun _ U U' hal hh h => ⟨h.1, h.2.1.mv hal hh, h.2.2.1, h.2.2.2.1.there hal hh, h.2.2.2.2⟩) (fun r U U' V V' h1 hal h2 h => XT.PureE.mv r U U' V V' h1 hal h2 h) ?_
  intro p e s m args below meth c s₁ X0 hexec hbytes hml hret hlk hnm hown hh0 W hP
  obtain ⟨rfl, hV, hu, s1, rf⟩ := hP
  have v31 := hV.2.2.2
  have hi : i < V.slots.size := (Array.getElem?_eq_some_iff.mp hu).1
  have c1 : Steps p.tables e below (s₁.setTop (entryFrame m #[.ref t, .int (Int32.ofNat i)] 2)) (s₁.setTop (mkF m 0 #[.val (.ref t), .val (.int (Int32.ofNat i))] [])) := entry rfl
  have c2 : Steps p.tables e below (s₁.setTop (entryFrame m #[.ref t, .int (Int32.ofNat i)] 2)) (s₁.setTop (mkF m 3 #[.val (.ref t), .val (.int (Int32.ofNat i))] [.int (Int32.ofNat V.slots.size), .int (Int32.ofNat i)])) := c1.trans (by
    refine XS.iloadN X0.here hexec rfl (hb hbytes d0) rfl ?_
    refine XS.aloadN X0.here hexec rfl (hb hbytes d1) rfl rfl ?_
    refine X0.alen hexec (hV.mv X0.warmed.alike hh0) rfl rfl (hb hbytes d2) ?_
    exact Steps.refl _)
  obtain ⟨v3, T3, X3, E3, g3⟩ := X0.callS hexec (JO.Str_checkIndex.law l (Int32.ofNat i) (Int32.ofNat V.slots.size) fm) hown (wks W (staticW "java/lang/StringLatin1" 9 JO.Str_checkIndex.yN)) (wk W JO.Str_checkIndex.tab) (W := 0) (Nat.le_of_ble_eq_true rfl) (Nat.le_of_ble_eq_true rfl) (Nat.le_refl _) (Nat.le_refl _) (g := (mkF m 3 #[.val (.ref t), .val (.int (Int32.ofNat i))] [.int (Int32.ofNat V.slots.size), .int (Int32.ofNat i)])) rfl (by rw [hml]; rfl) c2 (argsL := [.int (Int32.ofNat i), .int (Int32.ofNat V.slots.size)]) (rest := []) rfl rfl (by show 2 * 0 + 0 ≤ _; decide) (hb hbytes d3) (⟨rfl, rf, s1.there X0.warmed.alike hh0, Int32.ofNat_not_neg (by omega), lt32 v31 hi⟩)
  obtain ⟨rfl, q3⟩ := E3
  have hh3 := q3.trans hh0
  have c4 : Steps p.tables e below (s₁.setTop (entryFrame m #[.ref t, .int (Int32.ofNat i)] 2)) (T3.setTop (mkF m 14 #[.val (.ref t), .val (.int (Int32.ofNat i))] [.int (chr8 u)])) := Steps.trans g3 (by
    refine XS.aloadN X3.here hexec rfl (hb hbytes d6) rfl rfl ?_
    refine XS.iloadN X3.here hexec rfl (hb hbytes d7) rfl ?_
    refine X3.aget hexec (hV.mv X3.warmed.alike hh3) rfl hu rfl rfl (hb hbytes d8) ?_
    refine sipushV X3.here hexec rfl 255 (hb hbytes d9) (by decide) ?_
    refine XS.iand X3.here hexec rfl (hb hbytes d12) rfl ?_
    refine i2c X3.here hexec rfl (hb hbytes d13) rfl ?_
    exact Steps.refl _)
  exact ⟨T3, some (.int (chr8 u)), _, _, _, X3, rfl, rfl, rfl, (fun h => by cases h), ⟨rfl, hh3⟩, fun fs hl => c4.trans (X3.ireturnOut hexec hret (narrow_c _) (Or.inr (Or.inr (Or.inr (Or.inl rfl)))) (hb hbytes d14) hl)⟩
end LChA
end StrChars
namespace StrChars.Road
open Jvm Sem ClassFile Op Lib Jvm.Stand Jvm.Free Jvm.Free.XT
open Jvm.Lib.Cold (StaticIs)
theorem consq {a : Array Value} {s : State} {c : Jvm.Cond} {L : List Jvm.Cond} (h0 : c.before a s = true) (h : ∀ w ∈ L, w.before a s = true) : ∀ w ∈ c :: L, w.before a s = true := fun w hw => (List.mem_cons.mp hw).elim (fun e => e ▸ h0) (h w)
/-- the words of String.length(), either coding -/
abbrev wordsLen : List Jvm.Cond := [.code Len.yN Len.yB 1 (some .int), .initialized ST, .fieldLink ST 9 ST "value" "[B", .fieldLink ST 38 ST "COMPACT_STRINGS" "Z", .fieldLink ST 15 ST "coder" "B", .code Cdr.yN Cdr.yB 1 (some .byte), .methodLink ST 335 Cdr.yN, .declares Cdr.yN, .selects ST Cdr.yN Cdr.yN, .instanceMethod Cdr.yN]
theorem tabLen_of {a : Array Value} {s : State} (h : ∀ w ∈ wordsLen, w.before a s = true) : Len.tab.before a s = true := by
  have hc : Cdr.tab.before a s = true := unparts (wk h (.code Cdr.yN Cdr.yB 1 (some .byte))) (wks h (.initialized Cdr.yN.cls :: Cdr.site))
  have q := consq hc h
  exact unparts (wk q (.code Len.yN Len.yB 1 (some .int))) (wks q (.initialized Len.yN.cls :: Len.site))
theorem movedLen {Z s : State} {a0 args : Array Value} (hZ : Z.Warmed39 s.vm) (hw : ∀ d ∈ wordsLen, d.before a0 Z = true) : ∀ d ∈ wordsLen, d.before args s = true := fun d hd => by
  have q := hw d hd
  have t : ∀ d ∈ wordsLen, d = .arrayClass .byte ∨ (d.onTables && d.keepsFace) = true := by decide +kernel
  rcases t d hd with rfl | t
  · exact RoadKit.mvA hZ q
  · exact RoadKit.mv hZ q t
/-- the bytes of the chars cs, low before high -/
def wideBytes : List Int32 → List Value
  | [] => []
  | c :: cs => .int (lo8 c) :: .int (hi8 c) :: wideBytes cs
theorem wide_lo (d : Value) : ∀ (cs : List Int32) (j : Nat), j < cs.length → (wideBytes cs).getD (2 * j) d = .int (lo8 (cs.getD j 0))
  | [], j, h => absurd h (Nat.not_lt_zero j)
  | c :: cs, 0, _ => rfl
  | c :: cs, j + 1, h => by
    have q := wide_lo d cs j (by simpa using h)
    rw [show 2 * (j + 1) = 2 * j + 1 + 1 from by omega]
    simpa [wideBytes] using q
theorem wide_hi (d : Value) : ∀ (cs : List Int32) (j : Nat), j < cs.length → (wideBytes cs).getD (2 * j + 1) d = .int (hi8 (cs.getD j 0))
  | [], j, h => absurd h (Nat.not_lt_zero j)
  | c :: cs, 0, _ => rfl
  | c :: cs, j + 1, h => by
    have q := wide_hi d cs j (by simpa using h)
    rw [show 2 * (j + 1) + 1 = 2 * j + 1 + 1 + 1 from by omega]
    simpa [wideBytes] using q
theorem low_at (d : Value) (cs : List Int32) (j : Nat) (h : j < cs.length) : (cs.map fun c => Value.int (lo8 c)).getD j d = .int (lo8 (cs.getD j 0)) := by
  simp [List.getD_eq_getElem?_getD, h]
/-- an array of N2 bytes vs codes the chars cs by the coder cd -/
def CodA (cs : List Int32) (cd N2 : Int32) (vs : List Value) : Prop := (cd = 0 ∧ N2 = Int32.ofNat cs.length ∧ vs = (cs.map fun c => Value.int (lo8 c)) ∧ ∀ c ∈ cs, ¬ 255 < c) ∨ (cd = 1 ∧ N2 = Int32.ofNat (2 * cs.length) ∧ vs = wideBytes cs ∧ ∃ c ∈ cs, 255 < c)
theorem CodA.cod {cs : List Int32} {cd N2 : Int32} {vs : List Value} {V : Cell} (h : CodA cs cd N2 vs) (hn : 2 * cs.length < 2 ^ 31) (hs : V.slots.size = N2.toNatClampNeg) (hv : RoadKit.Has V vs (.int 0)) : Cod cd cs.length (fun j => cs.getD j 0) V := by
  rcases h with ⟨rfl, rfl, rfl, h⟩ | ⟨rfl, rfl, rfl, c, hc, hw⟩
  · rw [n32 (by omega)] at hs
    exact Or.inl ⟨rfl, hs, fun j hj => ⟨by rw [hv j (by omega), low_at _ _ _ hj], by
      have e : cs.getD j 0 = cs[j] := by simp [List.getD_eq_getElem?_getD, hj]
      show ¬ 255 < cs.getD j 0
      rw [e]; exact h _ (List.getElem_mem _)⟩⟩
  · rw [n32 (by omega)] at hs
    obtain ⟨j, hj, rfl⟩ := List.getElem_of_mem hc
    exact Or.inr ⟨rfl, hs, fun j hj => ⟨by rw [hv _ (by omega), wide_lo _ _ _ hj], by rw [hv _ (by omega), wide_hi _ _ _ hj]⟩, j, hj, by
      have e : cs.getD j 0 = cs[j] := by simp [List.getD_eq_getElem?_getD, hj]
      show 255 < cs.getD j 0
      rw [e]; exact hw⟩
/-- an object of exactly java/lang/String, its two fields found: as the laws ask it -/
theorem strObj {Z U : State} {a0 : Array Value} {kI : Nat} (wi : (Jvm.Cond.instantiable ST kI).before a0 Z = true) (al : Z.vm.Alike U.vm) {x : Addr} {v0 c0 : Value} (E : RoadKit.Exa Z U.heap x ST) (V : RoadKit.Fld Z U.heap x ST "value" "[B" v0) (C : RoadKit.Fld Z U.heap x ST "coder" "B" c0) :
    ∃ (D : Cell) (fV fC : Field), Blank ST x D U ∧ Found ST "value" "[B" fV U ∧ Found ST "coder" "B" fC U ∧ D.slots[fV.slot]? = some v0 ∧ D.slots[fC.slot]? = some c0 ∧ RoadKit.slotOf Z ST "value" "[B" = fV.slot ∧ RoadKit.slotOf Z ST "coder" "B" = fC.slot := by
  obtain ⟨D, cfV, kV, iV, fV, hD, gV, stV, knV, obV, asV, slV⟩ := V
  obtain ⟨D', cfC, kC, iC, fC, hD', gC, stC, -, -, asC, slC⟩ := C
  cases hD.symm.trans hD'
  obtain ⟨D2, kD, e1, e2, e3, e4, e5⟩ := E
  cases hD.symm.trans e1
  obtain ⟨c2, k2, i1, i2, i3, -⟩ := Cond.instantiable_spec wi
  cases e2.symm.trans i1
  cases e3.symm.trans i2
  obtain ⟨kU, u1, u2⟩ := al.2.2 _ _ e3
  exact ⟨D, fV, fC, ⟨hD, ⟨knV, fun q hq => by rw [hq] at obV; cases obV⟩, by rw [al.findClass]; exact e2, kU, u1, by rw [u2]; exact i3, by rw [u2]; exact e5 i3⟩, ⟨SBG.found_only al ⟨cfV, kV, iV, gV⟩, stV⟩, ⟨SBG.found_only al ⟨cfC, kC, iC, gC⟩, stC⟩, slV, slC, by simp [RoadKit.slotOf, gV], by simp [RoadKit.slotOf, gC]⟩
theorem sta_is {Z U : State} (al : Z.vm.Alike U.vm) {C n d : String} {v : Value} (S : RoadKit.Sta Z U.heap C n d v) : StaticIs U C n d v := by
  obtain ⟨cfS, iS, kS, fS, st, cS, t1, t2, t3, t4, t5, t6, t7⟩ := S
  exact StaticIs.there (s := { Z with heap := U.heap }) ⟨cfS, iS, kS, fS, st, cS, t1, t2, t3, t4, t5, (fun q => by rw [q] at t6; cases t6), t7⟩ al rfl
/-- **length() OF SUCH A STRING** -/
theorem lenW {p : Program} {l : Launch} {e : Env} {R : Room} {s : State} {args : Array Value} {below : List Frame} {len W : Nat} {Z : State} {a0 : Array Value} {h : Heap} (hZ : Z.Warmed39 s.vm) (hw : ∀ d ∈ wordsLen, d.before a0 Z = true) {kI : Nat} (wi : (Jvm.Cond.instantiable ST kI).before a0 Z = true)
    {x t : Addr} {kb : ClassId} {cs : List Int32} {cd N2 z : Int32} {vs : List Value} (E : RoadKit.Exa Z h x ST) (V : RoadKit.Fld Z h x ST "value" "[B" (.ref t)) (C : RoadKit.Fld Z h x ST "coder" "B" (.int cd)) (K : RoadKit.Arv Z h t kb .byte N2 vs (.int 0)) (hc : CodA cs cd N2 vs) (hb : ∀ c ∈ cs, ¬ c < 0 ∧ ¬ (65535 : Int32) < c)
    (S : RoadKit.Sta Z h ST "COMPACT_STRINGS" "Z" (.int z)) (hz : ¬ z = 0) (l2 : cs.length ≤ 4000) (hfr : 2 ≤ R.frames) (hlo : W + 25 ≤ R.locals) :
    Back l R p e below s args (⟨"java/lang/String", "length", "()I"⟩ : MethodName) len W (fun P a => a = #[.ref x] ∧ P.U.heap = h ∧ P.cells + 0 ≤ R.cells ∧ P.slots + 0 ≤ R.slots)
      (fun P _ v B => ∃ L, (v = some (.int (Int32.ofNat cs.length)) ∧ L = [] ∧ B.U.heap = h) ∧ B.locs = P.locs ++ L ∧ B.cells = P.cells + 0 ∧ B.slots = P.slots + 0) := by
  obtain ⟨A, K1, K2, K3, K4, K5, K6⟩ := K
  have hcod := hc.cod (by omega) K3 K5
  intro m meth c P g ig mk a X hg hsize hdg hW hn hp'
  obtain ⟨rfl, rfl, r1, r2⟩ := hp'
  have al : Z.vm.Alike P.U.vm := hZ.alike.trans X.warmed.alike
  obtain ⟨D, fV, fC, hB, F1, F2, g1, g2, -, -⟩ := strObj wi al E V C
  have hx : Txt x t A cd cs.length (fun j => cs.getD j 0) P.U := ⟨⟨_, hB.2.2.1, D, hB.1, rfl, by cases q : D.vm <;> first | rfl | exact absurd q (hB.2.1.2 _)⟩, Has.of hB F1 g1, Has.of hB F2 g2, ⟨K1.1, State.isArrayOf_alike al K1.2.1, K1.2.2, by rcases hcod with ⟨-, q, -⟩ | ⟨-, q, -⟩ <;> omega⟩, hcod, fun j hj => by
    have e : cs.getD j 0 = cs[j] := by simp [List.getD_eq_getElem?_getD, hj]
    show ¬ cs.getD j 0 < 0 ∧ ¬ 65535 < cs.getD j 0
    rw [e]; exact hb _ (List.getElem_mem _)⟩
  obtain ⟨v, B, X', ⟨⟨hv, hh⟩, hl, hk, hs⟩, st⟩ := Len.pays x t A cd cs.length (fun j => cs.getD j 0) z (tabLen_of (movedLen hZ hw)) hfr hlo m meth c P g ig mk _ X hg hsize hdg hW hn ⟨r1, r2, rfl, hx, sta_is al S, hz⟩
  exact ⟨v, B, X', ⟨[], ⟨hv, rfl, hh⟩, hl, hk, hs⟩, st⟩
end StrChars.Road
namespace StrChars
open Jvm Sem ClassFile Op Lib Jvm.Stand Jvm.Free.XT Jvm.Free.ALB Jvm.Free.JM Jvm.Free
open Jvm.Lib.Cold (StaticIs)
namespace Emp
def yN : MethodName := ⟨"java/lang/String", "isEmpty", "()Z"⟩
abbrev yB : ByteArray := jdk_42_method_55_code
theorem d0 : decode yB 0 = .ok (.aload_n 0, 1) := by decide +kernel
theorem d1 : decode yB 1 = .ok (.getfield 9, 3) := by decide +kernel
theorem d4 : decode yB 4 = .ok (.arraylength, 1) := by decide +kernel
theorem d5 : decode yB 5 = .ok (.ifCond (.ne) 7, 3) := by decide +kernel
theorem d8 : decode yB 8 = .ok (.iconst 1, 1) := by decide +kernel
theorem d9 : decode yB 9 = .ok (.goto 4, 3) := by decide +kernel
theorem d12 : decode yB 12 = .ok (.iconst 0, 1) := by decide +kernel
theorem d13 : decode yB 13 = .ok (.ireturn, 1) := by decide +kernel
def site : List Cond := [.fieldLink "java/lang/String" 9 "java/lang/String" "value" "[B"]
def tab : Cond := tabOf yN yB 1 (some .boolean) site
def P (x t : Addr) (V : Cell) (cd : Int32) (n : Nat) (f : Nat → Int32) (args : Array Value) (s : State) : Prop := args = #[.ref x] ∧ Txt x t V cd n f s
def E (n : Nat) (r : Option Value) (s u : State) : Prop := XT.PureE (some (.int (if n = 0 then 1 else 0))) r s u
/-- isEmpty() of a String of n chars -/
theorem law (l : Launch) (x t : Addr) (V : Cell) (cd : Int32) (n : Nat) (f : Nat → Int32) : Law l yN 1 0 0 0 yB 1 (some .boolean) site (P x t V cd n f) (E n) [] 0 0 := by
  refine Law.of_walk (plainFor_of_name (by decide +kernel)) (by decide +kernel) (by decide +kernel) (by decide) (fun _ _ h => by rw [h.1]; rfl) (fun _ U U' hal hh h => ⟨h.1, h.2.mv hal hh⟩) (fun r U U' V V' h1 hal h2 h => XT.PureE.mv r U U' V V' h1 hal h2 h) ?_
  intro p e s m args below meth c s₁ X0 hexec hbytes hml hret hlk hnm hown hh0 W hP
  obtain ⟨rfl, hx⟩ := hP
  have v31 := hx.2.2.2.1.2.2.2
  have c1 : Steps p.tables e below (s₁.setTop (entryFrame m #[.ref x] 1)) (s₁.setTop (mkF m 1 #[.val (.ref x)] [.ref x])) := Steps.trans (entry rfl) (by
    show Steps p.tables e below (s₁.setTop (mkF m 0 #[.val (.ref x)] [])) _
    refine XS.aloadN X0.here hexec rfl (hb hbytes d0) rfl rfl ?_
    exact Steps.refl _)
  obtain ⟨T2, X2, q2, st2⟩ := X0.hget hexec hown (wk W (.fieldLink "java/lang/String" 9 "java/lang/String" "value" "[B")) (hx.mv X0.warmed.alike hh0).2.1 (g := (mkF m 1 #[.val (.ref x)] [.ref x])) rfl (rest := []) rfl (hb hbytes d1)
  have hh2 := q2.trans hh0
  have hx2 := hx.mv X2.warmed.alike hh2
  have c3 : Steps p.tables e below (s₁.setTop (entryFrame m #[.ref x] 1)) (T2.setTop (mkF m 5 #[.val (.ref x)] [.int (Int32.ofNat V.slots.size)])) := (c1.trans (st2 _ (Steps.refl _))).trans (by
    refine X2.alen hexec hx2.2.2.2.1 rfl rfl (hb hbytes d4) ?_
    exact Steps.refl _)
  have hz : V.slots.size = 0 ↔ n = 0 := by
    rcases hx.2.2.2.2.1 with ⟨-, q, -⟩ | ⟨-, q, -⟩ <;> omega
  by_cases h0 : n = 0
  · have c4 : Steps p.tables e below (s₁.setTop (entryFrame m #[.ref x] 1)) (T2.setTop (mkF m 13 #[.val (.ref x)] [.int 1])) := c3.trans (by
      refine XS.ifNo X2.here hexec rfl (hb hbytes d5) rfl (i0_ne_f (by rw [hz.mpr h0]; rfl)) ?_
      refine iconstV X2.here hexec rfl 1 (hb hbytes d8) (by decide) ?_
      refine XS.goto X2.here hexec rfl (pc0 := 9) rfl (hb hbytes d9) (by decide) rfl ?_
      exact Steps.refl _)
    exact ⟨T2, some (.int 1), _, _, _, X2, rfl, rfl, rfl, (fun h => by cases h), ⟨by rw [if_pos h0], hh2⟩, fun fs hl => c4.trans (X2.ireturnOut hexec hret rfl (Or.inr (Or.inl rfl)) (hb hbytes d13) hl)⟩
  · have c4 : Steps p.tables e below (s₁.setTop (entryFrame m #[.ref x] 1)) (T2.setTop (mkF m 13 #[.val (.ref x)] [.int 0])) := c3.trans (by
      refine XS.ifYes X2.here hexec rfl (pc0 := 5) rfl (hb hbytes d5) rfl (i0_ne_t (nz32 v31 (by omega))) (by decide) rfl ?_
      refine iconstV X2.here hexec rfl 0 (hb hbytes d12) (by decide) ?_
      exact Steps.refl _)
    exact ⟨T2, some (.int 0), _, _, _, X2, rfl, rfl, rfl, (fun h => by cases h), ⟨by rw [if_neg h0], hh2⟩, fun fs hl => c4.trans (X2.ireturnOut hexec hret rfl (Or.inr (Or.inl rfl)) (hb hbytes d13) hl)⟩
theorem pays {l : Launch} {R : Room} {p : Program} {e : Env} {below : List Frame} {s : State} {sargs : Array Value} {len W : Nat} (x t : Addr) (V : Cell) (cd : Int32) (n : Nat) (f : Nat → Int32) (htab : tab.before sargs s = true) (hfr : 1 ≤ R.frames) (hlo : W + 12 ≤ R.locals) :
    Back l R p e below s sargs yN len W (fun A₁ a₁ => A₁.cells + 0 ≤ R.cells ∧ A₁.slots + 0 ≤ R.slots ∧ P x t V cd n f a₁ A₁.U) (fun A₁ _ v₁ B₁ => E n v₁ A₁.U B₁.U ∧ B₁.locs = A₁.locs ++ [] ∧ B₁.cells = A₁.cells + 0 ∧ B₁.slots = A₁.slots + 0) :=
  (law l x t V cd n f).pays htab hfr (by omega)
end Emp
end StrChars
namespace StrChars.Road
open Jvm Sem ClassFile Op Lib Jvm.Stand Jvm.Free Jvm.Free.XT
open Jvm.Lib.Cold (StaticIs)
/-- the words of String.isEmpty() -/
abbrev wordsEmp : List Jvm.Cond := [.code Emp.yN Emp.yB 1 (some .boolean), .initialized ST, .fieldLink ST 9 ST "value" "[B"]
theorem tabEmp_of {a : Array Value} {s : State} (h : ∀ w ∈ wordsEmp, w.before a s = true) : Emp.tab.before a s = true := unparts (wk h (.code Emp.yN Emp.yB 1 (some .boolean))) (wks h (.initialized Emp.yN.cls :: Emp.site))
theorem movedEmp {Z s : State} {a0 args : Array Value} (hZ : Z.Warmed39 s.vm) (hw : ∀ d ∈ wordsEmp, d.before a0 Z = true) : ∀ d ∈ wordsEmp, d.before args s = true := fun d hd => by
  have t : ∀ d ∈ wordsEmp, (d.onTables && d.keepsFace) = true := by decide +kernel
  exact RoadKit.mv hZ (hw d hd) (t d hd)
/-- the road's facts of a String, as the laws ask it -/
theorem txt_of {Z U : State} {a0 : Array Value} {kI : Nat} (wi : (Jvm.Cond.instantiable ST kI).before a0 Z = true) (al : Z.vm.Alike U.vm) {x t : Addr} {kb : ClassId} {cs : List Int32} {cd N2 : Int32} {vs : List Value} (E : RoadKit.Exa Z U.heap x ST) (V : RoadKit.Fld Z U.heap x ST "value" "[B" (.ref t)) (C : RoadKit.Fld Z U.heap x ST "coder" "B" (.int cd)) (K : RoadKit.Arv Z U.heap t kb .byte N2 vs (.int 0)) (hc : CodA cs cd N2 vs) (hb : ∀ c ∈ cs, ¬ c < 0 ∧ ¬ (65535 : Int32) < c) (l2 : cs.length ≤ 4000) :
    ∃ A, Txt x t A cd cs.length (fun j => cs.getD j 0) U := by
  obtain ⟨A, K1, K2, K3, K4, K5, K6⟩ := K
  have hcod := hc.cod (by omega) K3 K5
  obtain ⟨D, fV, fC, hB, F1, F2, g1, g2, -, -⟩ := strObj wi al E V C
  exact ⟨A, ⟨_, hB.2.2.1, D, hB.1, rfl, by cases q : D.vm <;> first | rfl | exact absurd q (hB.2.1.2 _)⟩, Has.of hB F1 g1, Has.of hB F2 g2, ⟨K1.1, State.isArrayOf_alike al K1.2.1, K1.2.2, by rcases hcod with ⟨-, q, -⟩ | ⟨-, q, -⟩ <;> omega⟩, hcod, fun j hj => by
    have e : cs.getD j 0 = cs[j] := by simp [List.getD_eq_getElem?_getD, hj]
    show ¬ cs.getD j 0 < 0 ∧ ¬ 65535 < cs.getD j 0
    rw [e]; exact hb _ (List.getElem_mem _)⟩
/-- **isEmpty() OF SUCH A STRING** -/
theorem empW {p : Program} {l : Launch} {e : Env} {R : Room} {s : State} {args : Array Value} {below : List Frame} {len W : Nat} {Z : State} {a0 : Array Value} {h : Heap} (hZ : Z.Warmed39 s.vm) (hw : ∀ d ∈ wordsEmp, d.before a0 Z = true) {kI : Nat} (wi : (Jvm.Cond.instantiable ST kI).before a0 Z = true)
    {x t : Addr} {kb : ClassId} {cs : List Int32} {cd N2 : Int32} {vs : List Value} (E : RoadKit.Exa Z h x ST) (V : RoadKit.Fld Z h x ST "value" "[B" (.ref t)) (C : RoadKit.Fld Z h x ST "coder" "B" (.int cd)) (K : RoadKit.Arv Z h t kb .byte N2 vs (.int 0)) (hc : CodA cs cd N2 vs) (hb : ∀ c ∈ cs, ¬ c < 0 ∧ ¬ (65535 : Int32) < c) (l2 : cs.length ≤ 4000) (hfr : 1 ≤ R.frames) (hlo : W + 12 ≤ R.locals) :
    Back l R p e below s args (⟨"java/lang/String", "isEmpty", "()Z"⟩ : MethodName) len W (fun P a => a = #[.ref x] ∧ P.U.heap = h ∧ P.cells + 0 ≤ R.cells ∧ P.slots + 0 ≤ R.slots)
      (fun P _ v B => ∃ L, (v = some (.int (if cs.length = 0 then 1 else 0)) ∧ L = [] ∧ B.U.heap = h) ∧ B.locs = P.locs ++ L ∧ B.cells = P.cells + 0 ∧ B.slots = P.slots + 0) := by
  intro m meth c P g ig mk a X hg hsize hdg hW hn hp'
  obtain ⟨rfl, rfl, r1, r2⟩ := hp'
  have al : Z.vm.Alike P.U.vm := hZ.alike.trans X.warmed.alike
  obtain ⟨A, hx⟩ := txt_of wi al E V C K hc hb l2
  obtain ⟨v, B, X', ⟨⟨hv, hh⟩, hl, hk, hs⟩, st⟩ := Emp.pays x t A cd cs.length (fun j => cs.getD j 0) (tabEmp_of (movedEmp hZ hw)) hfr hlo m meth c P g ig mk _ X hg hsize hdg hW hn ⟨r1, r2, rfl, hx⟩
  exact ⟨v, B, X', ⟨[], ⟨hv, rfl, hh⟩, hl, hk, hs⟩, st⟩
end StrChars.Road
namespace StrChars
open Jvm Sem ClassFile Op Lib Jvm.Stand Jvm.Free.XT Jvm.Free.ALB Jvm.Free.JM Jvm.Free
open Jvm.Lib.Cold (StaticIs)
namespace ChN
def yN : MethodName := ⟨"java/lang/String", "charAt", "(I)C"⟩
abbrev yB : ByteArray := jdk_42_method_56_code
theorem d0 : decode yB 0 = .ok (.aload_n 0, 1) := by decide +kernel
theorem d1 : decode yB 1 = .ok (.invokevirtual 492, 3) := by decide +kernel
theorem d4 : decode yB 4 = .ok (.ifCond (.eq) 12, 3) := by decide +kernel
theorem d7 : decode yB 7 = .ok (.aload_n 0, 1) := by decide +kernel
theorem d8 : decode yB 8 = .ok (.getfield 9, 3) := by decide +kernel
theorem d11 : decode yB 11 = .ok (.iload_n 1, 1) := by decide +kernel
theorem d12 : decode yB 12 = .ok (.invokestatic 495, 3) := by decide +kernel
theorem d15 : decode yB 15 = .ok (.ireturn, 1) := by decide +kernel
def site : List Cond := [.fieldLink "java/lang/String" 9 "java/lang/String" "value" "[B", IsL.tab, LChA.tab] ++ virtW "java/lang/String" 492 "java/lang/String" IsL.yN IsL.yN ++ staticW "java/lang/String" 495 LChA.yN
def tab : Cond := tabOf yN yB 2 (some .char) site
def P (x t : Addr) (V : Cell) (n : Nat) (f : Nat → Int32) (z : Int32) (fm : Value) (i : Nat) (args : Array Value) (s : State) : Prop := args = #[.ref x, .int (Int32.ofNat i)] ∧ Txt x t V 0 n f s ∧ i < n ∧ StaticIs s "java/lang/String" "COMPACT_STRINGS" "Z" (.int z) ∧ ¬ z = 0 ∧ StaticIs s "jdk/internal/util/Preconditions" "SIOOBE_FORMATTER" "Ljava/util/function/BiFunction;" fm ∧ fm.isRef = true
def E (f : Nat → Int32) (i : Nat) (r : Option Value) (s u : State) : Prop := XT.PureE (some (.int (f i))) r s u
/-- charAt(i) of a Latin-1 String of n chars, i < n: f i -/
theorem law (l : Launch) (x t : Addr) (V : Cell) (n : Nat) (f : Nat → Int32) (z : Int32) (fm : Value) (i : Nat) : Law l yN 2 1 3 40 yB 2 (some .char) site (P x t V n f z fm i) (E f i) [] 0 0 := by
  refine Law.of_walk (plainFor_of_name (by decide +kernel)) (by decide +kernel) (by decide +kernel) (by decide) (fun _ _ h => by rw [h.1]; rfl) (fun _ U U' hal hh h => ⟨h.1, h.2.1.mv hal hh, h.2.2.1, h.2.2.2.1.there hal hh, h.2.2.2.2.1, h.2.2.2.2.2.1.there hal hh, h.2.2.2.2.2.2⟩) (fun r U U' V V' h1 hal h2 h => XT.PureE.mv r U U' V V' h1 hal h2 h) ?_
  intro p e s m args below meth c s₁ X0 hexec hbytes hml hret hlk hnm hown hh0 W hP
  obtain ⟨rfl, hx, hi, s1, hz, s3, rf⟩ := hP
  have v31 := hx.2.2.2.1.2.2.2
  have hr := hx.2.2.2.2.2 i hi
  have hx0 := hx.mv X0.warmed.alike hh0
  have c1 : Steps p.tables e below (s₁.setTop (entryFrame m #[.ref x, .int (Int32.ofNat i)] 2)) (s₁.setTop (mkF m 1 #[.val (.ref x), .val (.int (Int32.ofNat i))] [.ref x])) := Steps.trans (entry rfl) (by
    show Steps p.tables e below (s₁.setTop (mkF m 0 #[.val (.ref x), .val (.int (Int32.ofNat i))] [])) _
    refine XS.aloadN X0.here hexec rfl (hb hbytes d0) rfl rfl ?_
    exact Steps.refl _)
  obtain ⟨v2, T2, X2, E2, g2⟩ := X0.callV hexec (IsL.law l x 0 z) hown (wks W (virtW "java/lang/String" 492 "java/lang/String" IsL.yN IsL.yN)) rfl (by decide) (wk W IsL.tab) (W := 0) (Nat.le_of_ble_eq_true rfl) (Nat.le_of_ble_eq_true rfl) (Nat.le_refl _) (Nat.le_refl _) (hx0.1.fc X0.warmed.alike) hx0.1.is (g := (mkF m 1 #[.val (.ref x), .val (.int (Int32.ofNat i))] [.ref x])) rfl (by rw [hml]; rfl) c1 (argsL := []) (rest := []) rfl rfl (by show 2 * 0 + 0 ≤ _; decide) (hb hbytes d1) (⟨rfl, hx0.2.2.1, hx.2.2.2.2.1.cd, s1.there X0.warmed.alike hh0, hz⟩)
  obtain ⟨rfl, q2⟩ := E2
  have hh2 := q2.trans hh0
  have hx2 := hx.mv X2.warmed.alike hh2
  obtain ⟨-, k1, k2⟩ | ⟨k0, -⟩ := hx.2.2.2.2.1
  · have c3 : Steps p.tables e below (s₁.setTop (entryFrame m #[.ref x, .int (Int32.ofNat i)] 2)) (T2.setTop (mkF m 8 #[.val (.ref x), .val (.int (Int32.ofNat i))] [.ref x])) := Steps.trans g2 (by
      refine XS.ifNo X2.here hexec rfl (hb hbytes d4) rfl (i0_eq_f (by decide)) ?_
      refine XS.aloadN X2.here hexec rfl (hb hbytes d7) rfl rfl ?_
      exact Steps.refl _)
    obtain ⟨T4, X4, q4, st4⟩ := X2.hget hexec hown (wk W (.fieldLink "java/lang/String" 9 "java/lang/String" "value" "[B")) hx2.2.1 (g := (mkF m 8 #[.val (.ref x), .val (.int (Int32.ofNat i))] [.ref x])) rfl (rest := []) rfl (hb hbytes d8)
    have hh4 := q4.trans hh2
    have c5 : Steps p.tables e below (s₁.setTop (entryFrame m #[.ref x, .int (Int32.ofNat i)] 2)) (T4.setTop (mkF m 12 #[.val (.ref x), .val (.int (Int32.ofNat i))] [.int (Int32.ofNat i), .ref t])) := (c3.trans (st4 _ (Steps.refl _))).trans (by
      refine XS.iloadN X4.here hexec rfl (hb hbytes d11) rfl ?_
      exact Steps.refl _)
    obtain ⟨v6, T6, X6, E6, g6⟩ := X4.callS hexec (LChA.law l t V i (lo8 (f i)) fm) hown (wks W (staticW "java/lang/String" 495 LChA.yN)) (wk W LChA.tab) (W := 0) (Nat.le_of_ble_eq_true rfl) (Nat.le_of_ble_eq_true rfl) (Nat.le_refl _) (Nat.le_refl _) (g := (mkF m 12 #[.val (.ref x), .val (.int (Int32.ofNat i))] [.int (Int32.ofNat i), .ref t])) rfl (by rw [hml]; rfl) c5 (argsL := [.ref t, .int (Int32.ofNat i)]) (rest := []) rfl rfl (by show 2 * 0 + 0 ≤ _; decide) (hb hbytes d12) (⟨rfl, hx.2.2.2.1.mv X4.warmed.alike hh4, (k2 i hi).1, s3.there X4.warmed.alike hh4, rf⟩)
    obtain ⟨rfl, q6⟩ := E6
    rw [chr8_lo8 hr.1 (k2 i hi).2] at g6
    exact ⟨T6, some (.int (f i)), _, _, _, X6, rfl, rfl, rfl, (fun h => by cases h), ⟨rfl, q6.trans hh4⟩, fun fs hl => Steps.trans g6 (X6.ireturnOut hexec hret (narrow_ch hr.1 hr.2) (Or.inr (Or.inr (Or.inr (Or.inl rfl)))) (hb hbytes d15) hl)⟩
  · exact absurd k0 (by decide)
theorem pays {l : Launch} {R : Room} {p : Program} {e : Env} {below : List Frame} {s : State} {sargs : Array Value} {len W : Nat} (x t : Addr) (V : Cell) (n : Nat) (f : Nat → Int32) (z : Int32) (fm : Value) (i : Nat) (htab : tab.before sargs s = true) (hfr : 4 ≤ R.frames) (hlo : W + 53 ≤ R.locals) :
    Back l R p e below s sargs yN len W (fun A₁ a₁ => A₁.cells + 0 ≤ R.cells ∧ A₁.slots + 0 ≤ R.slots ∧ P x t V n f z fm i a₁ A₁.U) (fun A₁ _ v₁ B₁ => E f i v₁ A₁.U B₁.U ∧ B₁.locs = A₁.locs ++ [] ∧ B₁.cells = A₁.cells + 0 ∧ B₁.slots = A₁.slots + 0) :=
  (law l x t V n f z fm i).pays htab hfr (by omega)
end ChN
end StrChars
namespace StrChars.Road
open Jvm Sem ClassFile Op Lib Jvm.Stand Jvm.Free Jvm.Free.XT
open Jvm.Lib.Cold (StaticIs)
/-- the words of String.charAt(int), the Latin-1 road alone -/
abbrev wordsChN : List Jvm.Cond := [.code ChN.yN ChN.yB 2 (some .char), .initialized ST, .fieldLink ST 9 ST "value" "[B", .fieldLink ST 38 ST "COMPACT_STRINGS" "Z", .fieldLink ST 15 ST "coder" "B", .code IsL.yN IsL.yB 1 (some .boolean), .methodLink ST 492 IsL.yN, .declares IsL.yN, .selects ST IsL.yN IsL.yN, .instanceMethod IsL.yN,
  .methodLink ST 495 LChA.yN, .static LChA.yN, .code LChA.yN LChA.yB 2 (some .char), .initialized "java/lang/StringLatin1", .methodLink "java/lang/StringLatin1" 9 JO.Str_checkIndex.yN, .static JO.Str_checkIndex.yN, .code JO.Str_checkIndex.yN JO.Str_checkIndex.yB 2 none,
  .fieldLink ST 1053 "jdk/internal/util/Preconditions" "SIOOBE_FORMATTER" "Ljava/util/function/BiFunction;", .methodLink ST 1059 JC.PreCheck.yN, .static JC.PreCheck.yN, .code JC.PreCheck.yN JC.PreCheck.yB 3 (some .int), .initialized "jdk/internal/util/Preconditions"]
theorem tabChN_of {a : Array Value} {s : State} (h : ∀ w ∈ wordsChN, w.before a s = true) : ChN.tab.before a s = true := by
  have hp : JC.PreCheck.tab.before a s = true := unparts (wk h (.code JC.PreCheck.yN JC.PreCheck.yB 3 (some .int))) (wks h (.initialized JC.PreCheck.yN.cls :: JC.PreCheck.site))
  have qk := consq hp h
  have hk : JO.Str_checkIndex.tab.before a s = true := unparts (wk qk (.code JO.Str_checkIndex.yN JO.Str_checkIndex.yB 2 none)) (wks qk (.initialized JO.Str_checkIndex.yN.cls :: JO.Str_checkIndex.site))
  have ql := consq hk h
  have hl : LChA.tab.before a s = true := unparts (wk ql (.code LChA.yN LChA.yB 2 (some .char))) (wks ql (.initialized LChA.yN.cls :: LChA.site))
  have hi : IsL.tab.before a s = true := unparts (wk h (.code IsL.yN IsL.yB 1 (some .boolean))) (wks h (.initialized IsL.yN.cls :: IsL.site))
  have q := consq hi (consq hl h)
  exact unparts (wk q (.code ChN.yN ChN.yB 2 (some .char))) (wks q (.initialized ChN.yN.cls :: ChN.site))
theorem movedChN {Z s : State} {a0 args : Array Value} (hZ : Z.Warmed39 s.vm) (hw : ∀ d ∈ wordsChN, d.before a0 Z = true) : ∀ d ∈ wordsChN, d.before args s = true := fun d hd => by
  have t : ∀ d ∈ wordsChN, (d.onTables && d.keepsFace) = true := by decide +kernel
  exact RoadKit.mv hZ (hw d hd) (t d hd)
/-- **charAt(i) OF A LATIN-1 STRING**, i < n: the char -/
theorem chN {p : Program} {l : Launch} {e : Env} {R : Room} {s : State} {args : Array Value} {below : List Frame} {len W : Nat} {Z : State} {a0 : Array Value} {h : Heap} (hZ : Z.Warmed39 s.vm) (hw : ∀ d ∈ wordsChN, d.before a0 Z = true) {kI : Nat} (wi : (Jvm.Cond.instantiable ST kI).before a0 Z = true)
    {x t : Addr} {kb : ClassId} {cs : List Int32} {N2 z : Int32} {vs : List Value} {fm : Value} {i : Nat} {j : Int32} (E : RoadKit.Exa Z h x ST) (V : RoadKit.Fld Z h x ST "value" "[B" (.ref t)) (C : RoadKit.Fld Z h x ST "coder" "B" (.int 0)) (K : RoadKit.Arv Z h t kb .byte N2 vs (.int 0)) (hc : CodA cs 0 N2 vs) (hb : ∀ c ∈ cs, ¬ c < 0 ∧ ¬ (65535 : Int32) < c)
    (S : RoadKit.Sta Z h ST "COMPACT_STRINGS" "Z" (.int z)) (hz : ¬ z = 0) (F : RoadKit.Sta Z h "jdk/internal/util/Preconditions" "SIOOBE_FORMATTER" "Ljava/util/function/BiFunction;" fm) (rf : fm.isRef = true) (l2 : cs.length ≤ 4000) (hi : i < cs.length) (hj : j = Int32.ofNat i) (hfr : 4 ≤ R.frames) (hlo : W + 53 ≤ R.locals) :
    Back l R p e below s args (⟨"java/lang/String", "charAt", "(I)C"⟩ : MethodName) len W (fun P a => a = #[.ref x, .int j] ∧ P.U.heap = h ∧ P.cells + 0 ≤ R.cells ∧ P.slots + 0 ≤ R.slots)
      (fun P _ v B => ∃ L, (v = some (.int (cs.getD i 0)) ∧ L = [] ∧ B.U.heap = h) ∧ B.locs = P.locs ++ L ∧ B.cells = P.cells + 0 ∧ B.slots = P.slots + 0) := by
  subst hj
  intro m meth c P g ig mk a X hg hsize hdg hW hn hp'
  obtain ⟨rfl, rfl, r1, r2⟩ := hp'
  have al : Z.vm.Alike P.U.vm := hZ.alike.trans X.warmed.alike
  obtain ⟨A, hx⟩ := txt_of wi al E V C K hc hb l2
  obtain ⟨v, B, X', ⟨⟨hv, hh⟩, hl, hk, hs⟩, st⟩ := ChN.pays x t A cs.length (fun j => cs.getD j 0) z fm i (tabChN_of (movedChN hZ hw)) hfr hlo m meth c P g ig mk _ X hg hsize hdg hW hn ⟨r1, r2, rfl, hx, hi, sta_is al S, hz, sta_is al F, rf⟩
  exact ⟨v, B, X', ⟨[], ⟨hv, rfl, hh⟩, hl, hk, hs⟩, st⟩
/-- what backV says of its String, as the contracts of this text ask it: cs's low bytes, coder 0 -/
theorem codOf {cs : List Int32} {n : Nat} (hn : cs.length = n) (hb : ∀ c ∈ cs, ¬ 255 < c) : CodA cs 0 (Int32.ofNat n) ((cs.map lo8).map Value.int) := Or.inl ⟨rfl, by rw [hn], by simp [List.map_map, Function.comp_def], hb⟩
end StrChars.Road
end Jvm.Pilot.@@N@@

namespace Jvm.Pilot.@@N@@
namespace Own
open Jvm Jvm.ClassFile Sem Op Lib Jvm.Free Jvm.Stand Jvm.LawKit Jvm.RoadKit
abbrev Gx := Bool × Launch × State × Array Value × List (String × Nat) × Nat
abbrev Gx.wd (G : Gx) : Bool := G.1
abbrev Gx.l (G : Gx) : Launch := G.2.1
abbrev Gx.Z (G : Gx) : State := G.2.2.1
abbrev Gx.a0 (G : Gx) : Array Value := G.2.2.2.1
abbrev Gx.EL (G : Gx) : List (String × Nat) := G.2.2.2.2.1
abbrev Gx.n0 (G : Gx) : Nat := G.2.2.2.2.2
abbrev Md := String × String × ByteArray × Nat × Option FieldType
abbrev Md.own (M : Md) : String := M.1
abbrev Md.nm (M : Md) : String := M.2.1
abbrev Md.code (M : Md) : ByteArray := M.2.2.1
abbrev Md.mx (M : Md) : Nat := M.2.2.2.1
abbrev Md.ret (M : Md) : Option FieldType := M.2.2.2.2
abbrev Cx := Program × Env × State × MethodId × Array Value × List Frame × Method × Code
abbrev Cx.p (X : Cx) : Program := X.1
abbrev Cx.e (X : Cx) : Env := X.2.1
abbrev Cx.s (X : Cx) : State := X.2.2.1
abbrev Cx.m (X : Cx) : MethodId := X.2.2.2.1
abbrev Cx.args (X : Cx) : Array Value := X.2.2.2.2.1
abbrev Cx.below (X : Cx) : List Frame := X.2.2.2.2.2.1
abbrev Cx.meth (X : Cx) : Method := X.2.2.2.2.2.2.1
abbrev Cx.c (X : Cx) : Code := X.2.2.2.2.2.2.2
def EndW (wd : Bool) (s : State) (o : Outcome) (t : State) (L : List Loc) (k n : Nat) : Prop := ReturnedEndW s o t L k n ∧ (wd = false → FrameEnd s o t L k n)
def Fix (G : Gx) (M : Md) (X : Cx) : Prop := X.p.tables.exec = Jvm.exec ∧ X.c.code = M.code ∧ X.c.maxLocals = M.mx ∧ X.meth.sig.returnType = M.ret ∧ X.meth.locks = false ∧ X.meth.name = M.nm ∧ EW G.Z G.a0 G.EL
def Wk (G : Gx) (M : Md) (R : Room) (X : Cx) (vm : Vm) (T : State) (h : Heap) (k n : Nat) : Prop :=
  Fix G M X ∧ ∃ (k0 : Nat) (L : List Loc), Stand X.p G.l X.e R (X.s.setVm vm) X.m X.args X.below X.meth X.c T L k n ∧ T.heap = h ∧ X.s.Since vm k0 ∧ k0 ≤ h.size ∧ G.Z.Warmed39 vm ∧ vm.findClass M.own = some X.m.cls ∧ Fr G.n0 L ∧ Old G.Z G.n0 h ∧ (G.wd = true → CHr G.Z G.EL X.s.vm X.s.heap vm h) ∧ (G.wd = false → vm = X.s.vm)
def Go (G : Gx) (R : Room) (X : Cx) (Q : Option Value → Heap → Prop) (S : State) : Prop :=
  ∃ (t : State) (o : Outcome), Steps X.p.tables X.e X.below S t ∧ t.status = .running ∧ Ended t X.below o ∧ ∃ (v : Option Value) (L : List Loc), o = .returned v ∧ (Q v t.heap ∧ Fr G.n0 L ∧ Old G.Z G.n0 t.heap) ∧ (G.wd = true → CHr G.Z G.EL X.s.vm X.s.heap t.vm t.heap) ∧ EndW G.wd X.s o t L R.cells R.slots
def Con (G : Gx) (y : MethodName) (bytes : ByteArray) (maxL : Nat) (ret : Option FieldType) (ws : List Cond) (rm : Room) (as : Array Value) (h : Heap) (Q : Option Value → Heap → Prop) : Prop :=
  MetFree G.l y (head1 (Cond.code y bytes maxL ret :: ws) rm) (fun a U => a = as ∧ G.Z.Warmed39 U.vm ∧ U.heap = h ∧ (G.wd = true → CHv G.Z G.EL U.vm h)) (fun _ _ _ _ _ => True)
    (fun _ U o U' => ∃ (v : Option Value) (L : List Loc), o = .returned v ∧ (Q v U'.heap ∧ Fr G.n0 L ∧ Old G.Z G.n0 U'.heap) ∧ (G.wd = true → CHr G.Z G.EL U.vm U.heap U'.vm U'.heap) ∧ EndW G.wd U o U' L rm.cells rm.slots)
def vQ (Q : Value → Heap → Prop) : Option Value → Heap → Prop := fun v h => ∃ x, v = some x ∧ Q x h
def nQ (Q : Heap → Prop) : Option Value → Heap → Prop := fun v h => v = none ∧ Q h
section Lay
variable {G : Gx} {M : Md} {R : Room} {X : Cx} {vm : Vm} {T : State} {h : Heap} {k n : Nat} {Q : Option Value → Heap → Prop}
theorem Go.of {S S' : State} (f : ∀ t, Steps X.p.tables X.e X.below S' t → Steps X.p.tables X.e X.below S t) (g : Go G R X Q S') : Go G R X Q S := by
  obtain ⟨t, o, h1, r⟩ := g; exact ⟨t, o, f t h1, r⟩
theorem Wk.hx (w : Wk G M R X vm T h k n) : X.p.tables.exec = Jvm.exec := w.1.1
theorem Wk.by_ (w : Wk G M R X vm T h k n) : X.c.code = M.code := w.1.2.1
theorem Wk.hml (w : Wk G M R X vm T h k n) : X.c.maxLocals = M.mx := w.1.2.2.1
theorem Wk.hret (w : Wk G M R X vm T h k n) : X.meth.sig.returnType = M.ret := w.1.2.2.2.1
theorem Wk.hlk (w : Wk G M R X vm T h k n) : X.meth.locks = false := w.1.2.2.2.2.1
theorem Wk.hnm (w : Wk G M R X vm T h k n) : X.meth.name = M.nm := w.1.2.2.2.2.2.1
theorem Wk.hEL (w : Wk G M R X vm T h k n) : EW G.Z G.a0 G.EL := w.1.2.2.2.2.2.2
theorem Wk.here (w : Wk G M R X vm T h k n) : At T X.m X.c X.below := by obtain ⟨-, k0, L, S, -⟩ := w; exact S.here
theorem Wk.heap (w : Wk G M R X vm T h k n) : T.heap = h := by obtain ⟨-, k0, L, S, e, -⟩ := w; exact e
theorem Wk.old (w : Wk G M R X vm T h k n) : Old G.Z G.n0 h := by obtain ⟨-, k0, L, -, -, -, -, -, -, -, q, -⟩ := w; exact q
theorem Wk.ch (w : Wk G M R X vm T h k n) : G.wd = true → CHr G.Z G.EL X.s.vm X.s.heap vm h := by obtain ⟨-, k0, L, -, -, -, -, -, -, -, -, q, -⟩ := w; exact q
theorem Wk.wz (w : Wk G M R X vm T h k n) : G.Z.Warmed39 vm := by obtain ⟨-, k0, L, -, -, -, -, q, -⟩ := w; exact q
theorem Wk.n0le (w : Wk G M R X vm T h k n) : G.n0 ≤ h.size := by have := w.old; rw [← this.1]; exact this.2.1
theorem Wk.sta (w : Wk G M R X vm T h k n) {C f d : String} {v : Value} (S : Sta G.Z G.Z.heap C f d v) : Sta G.Z h C f d v := S.ext w.old.2
theorem Wk.mono (w : Wk G M R X vm T h k n) {k' n' : Nat} (hk : k ≤ k') (hn : n ≤ n') : Wk G M R X vm T h k' n' := by
  obtain ⟨a, k0, L, S, r⟩ := w; exact ⟨a, k0, L, S.mono hk hn, r⟩
theorem Wk.aloadN (w : Wk G M R X vm T h k n) {pc q : Nat} {Ls : Array Slot} {st : List Value} {j : Fin 4} {v : Value} (hd : decode M.code pc = .ok (.aload_n j, 1)) (hl : Ls[j.val]? = some (.val v)) (hv : v.isRef = true) (hq : pc + 1 = q) (go : Go G R X Q (T.setTop (mkF X.m q Ls (v :: st)))) : Go G R X Q (T.setTop (mkF X.m pc Ls st)) := by
  subst hq
  exact go.of fun t r => XS.aloadN w.here w.hx rfl (hb w.by_ hd) hl hv r
theorem Wk.aload (w : Wk G M R X vm T h k n) {pc q : Nat} {Ls : Array Slot} {st : List Value} {j : Nat} {v : Value} (hd : decode M.code pc = .ok (.aload j, 2)) (hl : Ls[j]? = some (.val v)) (hv : v.isRef = true) (hq : pc + 2 = q) (go : Go G R X Q (T.setTop (mkF X.m q Ls (v :: st)))) : Go G R X Q (T.setTop (mkF X.m pc Ls st)) := by
  subst hq
  exact go.of fun t r => XS.aload w.here w.hx rfl (hb w.by_ hd) hl hv r
theorem Wk.iloadN (w : Wk G M R X vm T h k n) {pc q : Nat} {Ls : Array Slot} {st : List Value} {j : Fin 4} {v : Int32} (hd : decode M.code pc = .ok (.iload_n j, 1)) (hl : Ls[j.val]? = some (.val (.int v))) (hq : pc + 1 = q) (go : Go G R X Q (T.setTop (mkF X.m q Ls (.int v :: st)))) : Go G R X Q (T.setTop (mkF X.m pc Ls st)) := by
  subst hq
  exact go.of fun t r => XS.iloadN w.here w.hx rfl (hb w.by_ hd) hl r
theorem Wk.iload (w : Wk G M R X vm T h k n) {pc q : Nat} {Ls : Array Slot} {st : List Value} {j : Nat} {v : Int32} (hd : decode M.code pc = .ok (.iload j, 2)) (hl : Ls[j]? = some (.val (.int v))) (hq : pc + 2 = q) (go : Go G R X Q (T.setTop (mkF X.m q Ls (.int v :: st)))) : Go G R X Q (T.setTop (mkF X.m pc Ls st)) := by
  subst hq
  exact go.of fun t r => XS.iload w.here w.hx rfl (hb w.by_ hd) hl r
theorem Wk.lloadN (w : Wk G M R X vm T h k n) {pc q : Nat} {Ls : Array Slot} {st : List Value} {j : Fin 4} {v : Int64} (hd : decode M.code pc = .ok (.lload_n j, 1)) (hl : Ls[j.val]? = some (.val (.long v))) (hq : pc + 1 = q) (go : Go G R X Q (T.setTop (mkF X.m q Ls (.long v :: st)))) : Go G R X Q (T.setTop (mkF X.m pc Ls st)) := by
  subst hq
  exact go.of fun t r => XS.lloadN w.here w.hx rfl (hb w.by_ hd) hl r
theorem Wk.lload (w : Wk G M R X vm T h k n) {pc q : Nat} {Ls : Array Slot} {st : List Value} {j : Nat} {v : Int64} (hd : decode M.code pc = .ok (.lload j, 2)) (hl : Ls[j]? = some (.val (.long v))) (hq : pc + 2 = q) (go : Go G R X Q (T.setTop (mkF X.m q Ls (.long v :: st)))) : Go G R X Q (T.setTop (mkF X.m pc Ls st)) := by
  subst hq
  exact go.of fun t r => XS.lload w.here w.hx rfl (hb w.by_ hd) hl r
theorem Wk.istoreN (w : Wk G M R X vm T h k n) {pc q : Nat} {Ls : Array Slot} {st : List Value} {j : Fin 4} {x : Int32} {L2 : Array Slot} (hd : decode M.code pc = .ok (.istore_n j, 1)) (hl : storeLocals Ls j.val (.int x) = some L2) (hq : pc + 1 = q) (go : Go G R X Q (T.setTop (mkF X.m q L2 st))) : Go G R X Q (T.setTop (mkF X.m pc Ls (.int x :: st))) := by
  subst hq
  exact go.of fun t r => XS.istoreN w.here w.hx rfl (hb w.by_ hd) rfl hl r
theorem Wk.istore (w : Wk G M R X vm T h k n) {pc q : Nat} {Ls : Array Slot} {st : List Value} {j : Nat} {x : Int32} {L2 : Array Slot} (hd : decode M.code pc = .ok (.istore j, 2)) (hl : storeLocals Ls j (.int x) = some L2) (hq : pc + 2 = q) (go : Go G R X Q (T.setTop (mkF X.m q L2 st))) : Go G R X Q (T.setTop (mkF X.m pc Ls (.int x :: st))) := by
  subst hq
  exact go.of fun t r => XS.istore w.here w.hx rfl (hb w.by_ hd) rfl hl r
theorem Wk.lstoreN (w : Wk G M R X vm T h k n) {pc q : Nat} {Ls : Array Slot} {st : List Value} {j : Fin 4} {x : Int64} {L2 : Array Slot} (hd : decode M.code pc = .ok (.lstore_n j, 1)) (hl : storeLocals Ls j.val (.long x) = some L2) (hq : pc + 1 = q) (go : Go G R X Q (T.setTop (mkF X.m q L2 st))) : Go G R X Q (T.setTop (mkF X.m pc Ls (.long x :: st))) := by
  subst hq
  exact go.of fun t r => XS.lstoreN w.here w.hx rfl (hb w.by_ hd) rfl hl r
theorem Wk.lstore (w : Wk G M R X vm T h k n) {pc q : Nat} {Ls : Array Slot} {st : List Value} {j : Nat} {x : Int64} {L2 : Array Slot} (hd : decode M.code pc = .ok (.lstore j, 2)) (hl : storeLocals Ls j (.long x) = some L2) (hq : pc + 2 = q) (go : Go G R X Q (T.setTop (mkF X.m q L2 st))) : Go G R X Q (T.setTop (mkF X.m pc Ls (.long x :: st))) := by
  subst hq
  exact go.of fun t r => XS.lstore w.here w.hx rfl (hb w.by_ hd) rfl hl r
theorem Wk.astoreN (w : Wk G M R X vm T h k n) {pc q : Nat} {Ls : Array Slot} {st : List Value} {j : Fin 4} {x : Value} {L2 : Array Slot} (hd : decode M.code pc = .ok (.astore_n j, 1)) (hv : x.isRef = true) (hl : storeLocals Ls j.val x = some L2) (hq : pc + 1 = q) (go : Go G R X Q (T.setTop (mkF X.m q L2 st))) : Go G R X Q (T.setTop (mkF X.m pc Ls (x :: st))) := by
  subst hq
  exact go.of fun t r => XS.astoreN w.here w.hx rfl (hb w.by_ hd) rfl hv hl r
theorem Wk.astore (w : Wk G M R X vm T h k n) {pc q : Nat} {Ls : Array Slot} {st : List Value} {j : Nat} {x : Value} {L2 : Array Slot} (hd : decode M.code pc = .ok (.astore j, 2)) (hv : x.isRef = true) (hl : storeLocals Ls j x = some L2) (hq : pc + 2 = q) (go : Go G R X Q (T.setTop (mkF X.m q L2 st))) : Go G R X Q (T.setTop (mkF X.m pc Ls (x :: st))) := by
  subst hq
  exact go.of fun t r => XS.astore w.here w.hx rfl (hb w.by_ hd) rfl hv hl r
theorem Wk.aconst (w : Wk G M R X vm T h k n) {pc q : Nat} {Ls : Array Slot} {st : List Value} (hd : decode M.code pc = .ok (.aconst_null, 1)) (hq : pc + 1 = q) (go : Go G R X Q (T.setTop (mkF X.m q Ls (.null :: st)))) : Go G R X Q (T.setTop (mkF X.m pc Ls st)) := by
  subst hq
  exact go.of fun t r => XS.aconstNull w.here w.hx rfl (hb w.by_ hd) r
theorem Wk.iconst (w : Wk G M R X vm T h k n) {pc q : Nat} {Ls : Array Slot} {st : List Value} {i : Int} (v : Int32) (hd : decode M.code pc = .ok (.iconst i, 1)) (hv : Int32.ofInt i = v) (hq : pc + 1 = q) (go : Go G R X Q (T.setTop (mkF X.m q Ls (.int v :: st)))) : Go G R X Q (T.setTop (mkF X.m pc Ls st)) := by
  subst hq hv
  exact go.of fun t r => XS.iconst w.here w.hx rfl (hb w.by_ hd) r
theorem Wk.bipush (w : Wk G M R X vm T h k n) {pc q : Nat} {Ls : Array Slot} {st : List Value} {i : Int} (v : Int32) (hd : decode M.code pc = .ok (.bipush i, 2)) (hv : (Int8.ofInt i).toInt32 = v) (hq : pc + 2 = q) (go : Go G R X Q (T.setTop (mkF X.m q Ls (.int v :: st)))) : Go G R X Q (T.setTop (mkF X.m pc Ls st)) := by
  subst hq hv
  exact go.of fun t r => XS.bipush w.here w.hx rfl (hb w.by_ hd) r
theorem Wk.sipush (w : Wk G M R X vm T h k n) {pc q : Nat} {Ls : Array Slot} {st : List Value} {i : Int} (v : Int32) (hd : decode M.code pc = .ok (.sipush i, 3)) (hv : (Int16.ofInt i).toInt32 = v) (hq : pc + 3 = q) (go : Go G R X Q (T.setTop (mkF X.m q Ls (.int v :: st)))) : Go G R X Q (T.setTop (mkF X.m pc Ls st)) := by
  subst hq hv
  exact go.of fun t r => XS.sipush w.here w.hx rfl (hb w.by_ hd) r
theorem Wk.lconst (w : Wk G M R X vm T h k n) {pc q : Nat} {Ls : Array Slot} {st : List Value} {i : Fin 2} (v : Int64) (hd : decode M.code pc = .ok (.lconst i, 1)) (hv : Int64.ofNat i = v) (hq : pc + 1 = q) (go : Go G R X Q (T.setTop (mkF X.m q Ls (.long v :: st)))) : Go G R X Q (T.setTop (mkF X.m pc Ls st)) := by
  subst hq hv
  exact go.of fun t r => XS.lconst w.here w.hx rfl (hb w.by_ hd) r
theorem Wk.iadd (w : Wk G M R X vm T h k n) {pc q : Nat} {Ls : Array Slot} {st : List Value} {x y : Int32} (hd : decode M.code pc = .ok (.iadd, 1)) (hq : pc + 1 = q) (go : Go G R X Q (T.setTop (mkF X.m q Ls (.int (x + y) :: st)))) : Go G R X Q (T.setTop (mkF X.m pc Ls (.int y :: .int x :: st))) := by
  subst hq
  exact go.of fun t r => XS.iadd w.here w.hx rfl (hb w.by_ hd) rfl r
theorem Wk.isub (w : Wk G M R X vm T h k n) {pc q : Nat} {Ls : Array Slot} {st : List Value} {x y : Int32} (hd : decode M.code pc = .ok (.isub, 1)) (hq : pc + 1 = q) (go : Go G R X Q (T.setTop (mkF X.m q Ls (.int (x - y) :: st)))) : Go G R X Q (T.setTop (mkF X.m pc Ls (.int y :: .int x :: st))) := by
  subst hq
  exact go.of fun t r => XS.isub w.here w.hx rfl (hb w.by_ hd) rfl r
theorem Wk.imul (w : Wk G M R X vm T h k n) {pc q : Nat} {Ls : Array Slot} {st : List Value} {x y : Int32} (hd : decode M.code pc = .ok (.imul, 1)) (hq : pc + 1 = q) (go : Go G R X Q (T.setTop (mkF X.m q Ls (.int (x * y) :: st)))) : Go G R X Q (T.setTop (mkF X.m pc Ls (.int y :: .int x :: st))) := by
  subst hq
  exact go.of fun t r => XS.imul w.here w.hx rfl (hb w.by_ hd) rfl r
theorem Wk.iand (w : Wk G M R X vm T h k n) {pc q : Nat} {Ls : Array Slot} {st : List Value} {x y : Int32} (hd : decode M.code pc = .ok (.iand, 1)) (hq : pc + 1 = q) (go : Go G R X Q (T.setTop (mkF X.m q Ls (.int (x &&& y) :: st)))) : Go G R X Q (T.setTop (mkF X.m pc Ls (.int y :: .int x :: st))) := by
  subst hq
  exact go.of fun t r => XS.iand w.here w.hx rfl (hb w.by_ hd) rfl r
theorem Wk.ior (w : Wk G M R X vm T h k n) {pc q : Nat} {Ls : Array Slot} {st : List Value} {x y : Int32} (hd : decode M.code pc = .ok (.ior, 1)) (hq : pc + 1 = q) (go : Go G R X Q (T.setTop (mkF X.m q Ls (.int (x ||| y) :: st)))) : Go G R X Q (T.setTop (mkF X.m pc Ls (.int y :: .int x :: st))) := by
  subst hq
  exact go.of fun t r => XS.ior w.here w.hx rfl (hb w.by_ hd) rfl r
theorem Wk.ixor (w : Wk G M R X vm T h k n) {pc q : Nat} {Ls : Array Slot} {st : List Value} {x y : Int32} (hd : decode M.code pc = .ok (.ixor, 1)) (hq : pc + 1 = q) (go : Go G R X Q (T.setTop (mkF X.m q Ls (.int (x ^^^ y) :: st)))) : Go G R X Q (T.setTop (mkF X.m pc Ls (.int y :: .int x :: st))) := by
  subst hq
  exact go.of fun t r => XS.ixor w.here w.hx rfl (hb w.by_ hd) rfl r
theorem Wk.ishl (w : Wk G M R X vm T h k n) {pc q : Nat} {Ls : Array Slot} {st : List Value} {x y : Int32} (hd : decode M.code pc = .ok (.ishl, 1)) (hq : pc + 1 = q) (go : Go G R X Q (T.setTop (mkF X.m q Ls (.int (x <<< (y &&& 31)) :: st)))) : Go G R X Q (T.setTop (mkF X.m pc Ls (.int y :: .int x :: st))) := by
  subst hq
  exact go.of fun t r => XS.ishl w.here w.hx rfl (hb w.by_ hd) rfl r
theorem Wk.ishr (w : Wk G M R X vm T h k n) {pc q : Nat} {Ls : Array Slot} {st : List Value} {x y : Int32} (hd : decode M.code pc = .ok (.ishr, 1)) (hq : pc + 1 = q) (go : Go G R X Q (T.setTop (mkF X.m q Ls (.int (x >>> (y &&& 31)) :: st)))) : Go G R X Q (T.setTop (mkF X.m pc Ls (.int y :: .int x :: st))) := by
  subst hq
  exact go.of fun t r => XS.ishr w.here w.hx rfl (hb w.by_ hd) rfl r
theorem Wk.iushr (w : Wk G M R X vm T h k n) {pc q : Nat} {Ls : Array Slot} {st : List Value} {x y : Int32} (hd : decode M.code pc = .ok (.iushr, 1)) (hq : pc + 1 = q) (go : Go G R X Q (T.setTop (mkF X.m q Ls (.int ((x.toUInt32 >>> (y &&& 31).toUInt32).toInt32) :: st)))) : Go G R X Q (T.setTop (mkF X.m pc Ls (.int y :: .int x :: st))) := by
  subst hq
  exact go.of fun t r => XS.iushr w.here w.hx rfl (hb w.by_ hd) rfl r
theorem Wk.ladd (w : Wk G M R X vm T h k n) {pc q : Nat} {Ls : Array Slot} {st : List Value} {x y : Int64} (hd : decode M.code pc = .ok (.ladd, 1)) (hq : pc + 1 = q) (go : Go G R X Q (T.setTop (mkF X.m q Ls (.long (x + y) :: st)))) : Go G R X Q (T.setTop (mkF X.m pc Ls (.long y :: .long x :: st))) := by
  subst hq
  exact go.of fun t r => XS.ladd w.here w.hx rfl (hb w.by_ hd) rfl r
theorem Wk.lsub (w : Wk G M R X vm T h k n) {pc q : Nat} {Ls : Array Slot} {st : List Value} {x y : Int64} (hd : decode M.code pc = .ok (.lsub, 1)) (hq : pc + 1 = q) (go : Go G R X Q (T.setTop (mkF X.m q Ls (.long (x - y) :: st)))) : Go G R X Q (T.setTop (mkF X.m pc Ls (.long y :: .long x :: st))) := by
  subst hq
  exact go.of fun t r => XS.lsub w.here w.hx rfl (hb w.by_ hd) rfl r
theorem Wk.lmul (w : Wk G M R X vm T h k n) {pc q : Nat} {Ls : Array Slot} {st : List Value} {x y : Int64} (hd : decode M.code pc = .ok (.lmul, 1)) (hq : pc + 1 = q) (go : Go G R X Q (T.setTop (mkF X.m q Ls (.long (x * y) :: st)))) : Go G R X Q (T.setTop (mkF X.m pc Ls (.long y :: .long x :: st))) := by
  subst hq
  exact go.of fun t r => XS.lmul w.here w.hx rfl (hb w.by_ hd) rfl r
theorem Wk.land (w : Wk G M R X vm T h k n) {pc q : Nat} {Ls : Array Slot} {st : List Value} {x y : Int64} (hd : decode M.code pc = .ok (.land, 1)) (hq : pc + 1 = q) (go : Go G R X Q (T.setTop (mkF X.m q Ls (.long (x &&& y) :: st)))) : Go G R X Q (T.setTop (mkF X.m pc Ls (.long y :: .long x :: st))) := by
  subst hq
  exact go.of fun t r => XS.land w.here w.hx rfl (hb w.by_ hd) rfl r
theorem Wk.lor (w : Wk G M R X vm T h k n) {pc q : Nat} {Ls : Array Slot} {st : List Value} {x y : Int64} (hd : decode M.code pc = .ok (.lor, 1)) (hq : pc + 1 = q) (go : Go G R X Q (T.setTop (mkF X.m q Ls (.long (x ||| y) :: st)))) : Go G R X Q (T.setTop (mkF X.m pc Ls (.long y :: .long x :: st))) := by
  subst hq
  exact go.of fun t r => XS.lor w.here w.hx rfl (hb w.by_ hd) rfl r
theorem Wk.lxor (w : Wk G M R X vm T h k n) {pc q : Nat} {Ls : Array Slot} {st : List Value} {x y : Int64} (hd : decode M.code pc = .ok (.lxor, 1)) (hq : pc + 1 = q) (go : Go G R X Q (T.setTop (mkF X.m q Ls (.long (x ^^^ y) :: st)))) : Go G R X Q (T.setTop (mkF X.m pc Ls (.long y :: .long x :: st))) := by
  subst hq
  exact go.of fun t r => XS.lxor w.here w.hx rfl (hb w.by_ hd) rfl r
theorem Wk.lshl (w : Wk G M R X vm T h k n) {pc q : Nat} {Ls : Array Slot} {st : List Value} {x : Int64} {y : Int32} (hd : decode M.code pc = .ok (.lshl, 1)) (hq : pc + 1 = q) (go : Go G R X Q (T.setTop (mkF X.m q Ls (.long (x <<< (y &&& 0x3f).toInt64) :: st)))) : Go G R X Q (T.setTop (mkF X.m pc Ls (.int y :: .long x :: st))) := by
  subst hq
  exact go.of fun t r => XS.lshl w.here w.hx rfl (hb w.by_ hd) rfl r
theorem Wk.lshr (w : Wk G M R X vm T h k n) {pc q : Nat} {Ls : Array Slot} {st : List Value} {x : Int64} {y : Int32} (hd : decode M.code pc = .ok (.lshr, 1)) (hq : pc + 1 = q) (go : Go G R X Q (T.setTop (mkF X.m q Ls (.long (x >>> (y &&& 0x3f).toInt64) :: st)))) : Go G R X Q (T.setTop (mkF X.m pc Ls (.int y :: .long x :: st))) := by
  subst hq
  exact go.of fun t r => XS.lshr w.here w.hx rfl (hb w.by_ hd) rfl r
theorem Wk.lushr (w : Wk G M R X vm T h k n) {pc q : Nat} {Ls : Array Slot} {st : List Value} {x : Int64} {y : Int32} (hd : decode M.code pc = .ok (.lushr, 1)) (hq : pc + 1 = q) (go : Go G R X Q (T.setTop (mkF X.m q Ls (.long ((x.toUInt64 >>> (y &&& 0x3f).toInt64.toUInt64).toInt64) :: st)))) : Go G R X Q (T.setTop (mkF X.m pc Ls (.int y :: .long x :: st))) := by
  subst hq
  exact go.of fun t r => XS.lushr w.here w.hx rfl (hb w.by_ hd) rfl r
theorem Wk.lcmp (w : Wk G M R X vm T h k n) {pc q : Nat} {Ls : Array Slot} {st : List Value} {x y : Int64} (hd : decode M.code pc = .ok (.lcmp, 1)) (hq : pc + 1 = q) (go : Go G R X Q (T.setTop (mkF X.m q Ls (.int (lcmpW x y) :: st)))) : Go G R X Q (T.setTop (mkF X.m pc Ls (.long y :: .long x :: st))) := by
  subst hq
  exact go.of fun t r => XS.lcmp w.here w.hx rfl (hb w.by_ hd) rfl r
theorem Wk.idiv (w : Wk G M R X vm T h k n) {pc q : Nat} {Ls : Array Slot} {st : List Value} {x y : Int32} (hd : decode M.code pc = .ok (.idiv, 1)) (hy : y ≠ 0) (hq : pc + 1 = q) (go : Go G R X Q (T.setTop (mkF X.m q Ls (.int (x / y) :: st)))) : Go G R X Q (T.setTop (mkF X.m pc Ls (.int y :: .int x :: st))) := by
  subst hq
  exact go.of fun t r => XS.idiv w.here w.hx rfl (hb w.by_ hd) rfl hy r
theorem Wk.irem (w : Wk G M R X vm T h k n) {pc q : Nat} {Ls : Array Slot} {st : List Value} {x y : Int32} (hd : decode M.code pc = .ok (.irem, 1)) (hy : y ≠ 0) (hq : pc + 1 = q) (go : Go G R X Q (T.setTop (mkF X.m q Ls (.int (x % y) :: st)))) : Go G R X Q (T.setTop (mkF X.m pc Ls (.int y :: .int x :: st))) := by
  subst hq
  refine go.of fun t r => XS.irem w.here w.hx rfl (hb w.by_ hd) rfl hy ?_
  rw [irem_eq_mod]; exact r
theorem Wk.ineg (w : Wk G M R X vm T h k n) {pc q : Nat} {Ls : Array Slot} {st : List Value} {x : Int32} (hd : decode M.code pc = .ok (.ineg, 1)) (hq : pc + 1 = q) (go : Go G R X Q (T.setTop (mkF X.m q Ls (.int (-x) :: st)))) : Go G R X Q (T.setTop (mkF X.m pc Ls (.int x :: st))) := by
  subst hq
  exact go.of fun t r => XS.ineg w.here w.hx rfl (hb w.by_ hd) rfl r
theorem Wk.lneg (w : Wk G M R X vm T h k n) {pc q : Nat} {Ls : Array Slot} {st : List Value} {x : Int64} (hd : decode M.code pc = .ok (.lneg, 1)) (hq : pc + 1 = q) (go : Go G R X Q (T.setTop (mkF X.m q Ls (.long (-x) :: st)))) : Go G R X Q (T.setTop (mkF X.m pc Ls (.long x :: st))) := by
  subst hq
  exact go.of fun t r => XS.lneg w.here w.hx rfl (hb w.by_ hd) rfl r
theorem Wk.i2l (w : Wk G M R X vm T h k n) {pc q : Nat} {Ls : Array Slot} {st : List Value} {x : Int32} (hd : decode M.code pc = .ok (.i2l, 1)) (hq : pc + 1 = q) (go : Go G R X Q (T.setTop (mkF X.m q Ls (.long x.toInt64 :: st)))) : Go G R X Q (T.setTop (mkF X.m pc Ls (.int x :: st))) := by
  subst hq
  exact go.of fun t r => XS.i2l w.here w.hx rfl (hb w.by_ hd) rfl r
theorem Wk.i2b (w : Wk G M R X vm T h k n) {pc q : Nat} {Ls : Array Slot} {st : List Value} {x : Int32} (hd : decode M.code pc = .ok (.i2b, 1)) (hq : pc + 1 = q) (go : Go G R X Q (T.setTop (mkF X.m q Ls (.int x.toInt8.toInt32 :: st)))) : Go G R X Q (T.setTop (mkF X.m pc Ls (.int x :: st))) := by
  subst hq
  exact go.of fun t r => XS.i2b w.here w.hx rfl (hb w.by_ hd) rfl r
theorem Wk.i2c (w : Wk G M R X vm T h k n) {pc q : Nat} {Ls : Array Slot} {st : List Value} {x : Int32} (hd : decode M.code pc = .ok (.i2c, 1)) (hq : pc + 1 = q) (go : Go G R X Q (T.setTop (mkF X.m q Ls (.int x.toUInt32.toUInt16.toUInt32.toInt32 :: st)))) : Go G R X Q (T.setTop (mkF X.m pc Ls (.int x :: st))) := by
  subst hq
  exact go.of fun t r => XS.i2c w.here w.hx rfl (hb w.by_ hd) rfl r
theorem Wk.i2s (w : Wk G M R X vm T h k n) {pc q : Nat} {Ls : Array Slot} {st : List Value} {x : Int32} (hd : decode M.code pc = .ok (.i2s, 1)) (hq : pc + 1 = q) (go : Go G R X Q (T.setTop (mkF X.m q Ls (.int x.toInt16.toInt32 :: st)))) : Go G R X Q (T.setTop (mkF X.m pc Ls (.int x :: st))) := by
  subst hq
  exact go.of fun t r => XS.i2s w.here w.hx rfl (hb w.by_ hd) rfl r
theorem Wk.l2i (w : Wk G M R X vm T h k n) {pc q : Nat} {Ls : Array Slot} {st : List Value} {x : Int64} (hd : decode M.code pc = .ok (.l2i, 1)) (hq : pc + 1 = q) (go : Go G R X Q (T.setTop (mkF X.m q Ls (.int x.toInt32 :: st)))) : Go G R X Q (T.setTop (mkF X.m pc Ls (.long x :: st))) := by
  subst hq
  exact go.of fun t r => XS.l2i w.here w.hx rfl (hb w.by_ hd) rfl r
theorem Wk.dup (w : Wk G M R X vm T h k n) {pc q : Nat} {Ls : Array Slot} {st : List Value} {x : Value} (hd : decode M.code pc = .ok (.dup, 1)) (hc : x.category = 1) (hq : pc + 1 = q) (go : Go G R X Q (T.setTop (mkF X.m q Ls (x :: x :: st)))) : Go G R X Q (T.setTop (mkF X.m pc Ls (x :: st))) := by
  subst hq
  exact go.of fun t r => XS.dup w.here w.hx rfl (hb w.by_ hd) rfl hc r
theorem Wk.pop (w : Wk G M R X vm T h k n) {pc q : Nat} {Ls : Array Slot} {st : List Value} {x : Value} (hd : decode M.code pc = .ok (.pop, 1)) (hc : x.category = 1) (hq : pc + 1 = q) (go : Go G R X Q (T.setTop (mkF X.m q Ls st))) : Go G R X Q (T.setTop (mkF X.m pc Ls (x :: st))) := by
  subst hq
  exact go.of fun t r => XS.pop w.here w.hx rfl (hb w.by_ hd) rfl hc r
theorem Wk.dupX1 (w : Wk G M R X vm T h k n) {pc q : Nat} {Ls : Array Slot} {st : List Value} {x y : Value} (hd : decode M.code pc = .ok (.dup_x1, 1)) (hc : x.category = 1) (hc2 : y.category = 1) (hq : pc + 1 = q) (go : Go G R X Q (T.setTop (mkF X.m q Ls (x :: y :: x :: st)))) : Go G R X Q (T.setTop (mkF X.m pc Ls (x :: y :: st))) := by
  subst hq
  exact go.of fun t r => XS.dupX1 w.here w.hx rfl (hb w.by_ hd) rfl hc hc2 r
theorem Wk.dup2 (w : Wk G M R X vm T h k n) {pc q : Nat} {Ls : Array Slot} {st : List Value} {x y : Value} (hd : decode M.code pc = .ok (.dup2, 1)) (hc : x.category = 1) (hc2 : y.category = 1) (hq : pc + 1 = q) (go : Go G R X Q (T.setTop (mkF X.m q Ls (x :: y :: x :: y :: st)))) : Go G R X Q (T.setTop (mkF X.m pc Ls (x :: y :: st))) := by
  subst hq
  exact go.of fun t r => XT.dup2 w.here w.hx rfl (hb w.by_ hd) rfl hc hc2 r
theorem Wk.dup2L (w : Wk G M R X vm T h k n) {pc q : Nat} {Ls : Array Slot} {st : List Value} {x : Int64} (hd : decode M.code pc = .ok (.dup2, 1)) (hq : pc + 1 = q) (go : Go G R X Q (T.setTop (mkF X.m q Ls (.long x :: .long x :: st)))) : Go G R X Q (T.setTop (mkF X.m pc Ls (.long x :: st))) := by
  subst hq
  exact go.of fun t r => XT.dup2L w.here w.hx rfl (hb w.by_ hd) rfl r
theorem Wk.iinc (w : Wk G M R X vm T h k n) {pc q : Nat} {Ls L2 : Array Slot} {st : List Value} {j : Nat} {cst : Int} {x : Int32} (v : Int32) (hd : decode M.code pc = .ok (.iinc j cst, 3)) (hv : Int32.ofInt cst = v) (hl : Ls[j]? = some (.val (.int x))) (hl2 : storeLocals Ls j (.int (x + v)) = some L2) (hq : pc + 3 = q) (go : Go G R X Q (T.setTop (mkF X.m q L2 st))) : Go G R X Q (T.setTop (mkF X.m pc Ls st)) := by
  subst hq hv
  exact go.of fun t r => XS.iinc w.here w.hx rfl (hb w.by_ hd) hl hl2 r
theorem Wk.goto (w : Wk G M R X vm T h k n) {pc q : Nat} {Ls : Array Slot} {st : List Value} {o : Int} (hd : decode M.code pc = .ok (.goto o, 3)) (ho : 0 ≤ (pc : Int) + o) (hq : ((pc : Int) + o).toNat = q) (go : Go G R X Q (T.setTop (mkF X.m q Ls st))) : Go G R X Q (T.setTop (mkF X.m pc Ls st)) := by
  exact go.of fun t r => XS.goto w.here w.hx rfl (pc0 := pc) rfl (hb w.by_ hd) ho hq r
theorem Wk.ifY (w : Wk G M R X vm T h k n) {pc q : Nat} {Ls : Array Slot} {st : List Value} {cd : ClassFile.Cond} {x : Int32} {o : Int} (hd : decode M.code pc = .ok (.ifCond cd o, 3)) (hc : ifCond.holds cd x = true) (ho : 0 ≤ (pc : Int) + o) (hq : ((pc : Int) + o).toNat = q) (go : Go G R X Q (T.setTop (mkF X.m q Ls st))) : Go G R X Q (T.setTop (mkF X.m pc Ls (.int x :: st))) := by
  exact go.of fun t r => XS.ifYes w.here w.hx rfl (pc0 := pc) rfl (hb w.by_ hd) rfl hc ho hq r
theorem Wk.ifN (w : Wk G M R X vm T h k n) {pc q : Nat} {Ls : Array Slot} {st : List Value} {cd : ClassFile.Cond} {x : Int32} {o : Int} (hd : decode M.code pc = .ok (.ifCond cd o, 3)) (hc : ifCond.holds cd x = false) (hq : pc + 3 = q) (go : Go G R X Q (T.setTop (mkF X.m q Ls st))) : Go G R X Q (T.setTop (mkF X.m pc Ls (.int x :: st))) := by
  subst hq
  exact go.of fun t r => XS.ifNo w.here w.hx rfl (hb w.by_ hd) rfl hc r
theorem Wk.icY (w : Wk G M R X vm T h k n) {pc q : Nat} {Ls : Array Slot} {st : List Value} {cd : ClassFile.Cond} {x y : Int32} {o : Int} (hd : decode M.code pc = .ok (.if_icmp cd o, 3)) (hc : if_icmp.holds cd x y = true) (ho : 0 ≤ (pc : Int) + o) (hq : ((pc : Int) + o).toNat = q) (go : Go G R X Q (T.setTop (mkF X.m q Ls st))) : Go G R X Q (T.setTop (mkF X.m pc Ls (.int y :: .int x :: st))) := by
  exact go.of fun t r => XS.icmpYes w.here w.hx rfl (pc0 := pc) rfl (hb w.by_ hd) rfl hc ho hq r
theorem Wk.icN (w : Wk G M R X vm T h k n) {pc q : Nat} {Ls : Array Slot} {st : List Value} {cd : ClassFile.Cond} {x y : Int32} {o : Int} (hd : decode M.code pc = .ok (.if_icmp cd o, 3)) (hc : if_icmp.holds cd x y = false) (hq : pc + 3 = q) (go : Go G R X Q (T.setTop (mkF X.m q Ls st))) : Go G R X Q (T.setTop (mkF X.m pc Ls (.int y :: .int x :: st))) := by
  subst hq
  exact go.of fun t r => XS.icmpNo w.here w.hx rfl (hb w.by_ hd) rfl hc r
theorem Wk.nuY (w : Wk G M R X vm T h k n) {pc q : Nat} {Ls : Array Slot} {st : List Value} {o : Int} (hd : decode M.code pc = .ok (.ifnull o, 3)) (ho : 0 ≤ (pc : Int) + o) (hq : ((pc : Int) + o).toNat = q) (go : Go G R X Q (T.setTop (mkF X.m q Ls st))) : Go G R X Q (T.setTop (mkF X.m pc Ls (.null :: st))) := by
  exact go.of fun t r => XS.ifnullYes w.here w.hx rfl (pc0 := pc) rfl (hb w.by_ hd) rfl ho hq r
theorem Wk.nuN (w : Wk G M R X vm T h k n) {pc q : Nat} {Ls : Array Slot} {st : List Value} {b : Addr} {o : Int} (hd : decode M.code pc = .ok (.ifnull o, 3)) (hq : pc + 3 = q) (go : Go G R X Q (T.setTop (mkF X.m q Ls st))) : Go G R X Q (T.setTop (mkF X.m pc Ls (.ref b :: st))) := by
  subst hq
  exact go.of fun t r => XS.ifnullNo w.here w.hx rfl (hb w.by_ hd) rfl r
theorem Wk.nnY (w : Wk G M R X vm T h k n) {pc q : Nat} {Ls : Array Slot} {st : List Value} {b : Addr} {o : Int} (hd : decode M.code pc = .ok (.ifnonnull o, 3)) (ho : 0 ≤ (pc : Int) + o) (hq : ((pc : Int) + o).toNat = q) (go : Go G R X Q (T.setTop (mkF X.m q Ls st))) : Go G R X Q (T.setTop (mkF X.m pc Ls (.ref b :: st))) := by
  exact go.of fun t r => XS.ifnonnullYes w.here w.hx rfl (pc0 := pc) rfl (hb w.by_ hd) rfl ho hq r
theorem Wk.nnN (w : Wk G M R X vm T h k n) {pc q : Nat} {Ls : Array Slot} {st : List Value} {o : Int} (hd : decode M.code pc = .ok (.ifnonnull o, 3)) (hq : pc + 3 = q) (go : Go G R X Q (T.setTop (mkF X.m q Ls st))) : Go G R X Q (T.setTop (mkF X.m pc Ls (.null :: st))) := by
  subst hq
  exact go.of fun t r => XS.ifnonnullNo w.here w.hx rfl (hb w.by_ hd) rfl r
theorem Wk.acY (w : Wk G M R X vm T h k n) {pc q : Nat} {Ls : Array Slot} {st : List Value} {cd : ClassFile.ACond} {x y : Value} {o : Int} (hd : decode M.code pc = .ok (.if_acmp cd o, 3)) (hx : x.isRef = true) (hy : y.isRef = true) (hc : Jvm.Free.XT.acmp cd x y = true) (ho : 0 ≤ (pc : Int) + o) (hq : ((pc : Int) + o).toNat = q) (go : Go G R X Q (T.setTop (mkF X.m q Ls st))) : Go G R X Q (T.setTop (mkF X.m pc Ls (y :: x :: st))) := by
  exact go.of fun t r => XT.acmpYes w.here w.hx rfl (pc0 := pc) rfl (hb w.by_ hd) rfl hx hy hc ho hq r
theorem Wk.acN (w : Wk G M R X vm T h k n) {pc q : Nat} {Ls : Array Slot} {st : List Value} {cd : ClassFile.ACond} {x y : Value} {o : Int} (hd : decode M.code pc = .ok (.if_acmp cd o, 3)) (hx : x.isRef = true) (hy : y.isRef = true) (hc : Jvm.Free.XT.acmp cd x y = false) (hq : pc + 3 = q) (go : Go G R X Q (T.setTop (mkF X.m q Ls st))) : Go G R X Q (T.setTop (mkF X.m pc Ls (y :: x :: st))) := by
  subst hq
  exact go.of fun t r => XT.acmpNo w.here w.hx rfl (hb w.by_ hd) rfl hx hy hc r
theorem xrfl (h : Heap) : Ext h h := ⟨Nat.le_refl _, fun _ _ q => q⟩
theorem xtr {h h' h2 : Heap} (A : Ext h h') (B : Ext h' h2) : Ext h h2 := ⟨Nat.le_trans A.1 B.1, fun a c q => B.2 a c (A.2 a c q)⟩
theorem xkp {h0 h h' : Heap} {ws : List Addr} (E : Ext h0 h) (K : Keep h h' ws) (q : ∀ x ∈ ws, h0.size ≤ x) : Ext h0 h' := ⟨Nat.le_trans E.1 K.1, fun a c r => K.2.1 a c (E.2 a c r) fun z => absurd (Array.getElem?_eq_some_iff.mp r).1 (Nat.not_lt.mpr (q a z))⟩
theorem xkeep {h h' : Heap} (E : Ext h h') : Keep h h' [] := (Keep.refl h []).ext E
theorem sta_uniq {Z : State} {h : Heap} {C n d : String} {a b : Addr} (F : Sta Z h C n d (.ref a)) (E : Sta Z h C n d (.ref b)) : a = b := by
  obtain ⟨cf, i, k, f, st, cell, h1, h2, h3, h4, h5, h6, h7⟩ := F
  obtain ⟨cf', i', k', f', st', cell', g1, g2, g3, g4, g5, g6, g7⟩ := E
  cases h1.symm.trans g1
  cases h4.symm.trans g4
  cases h5.symm.trans g5
  cases h7.symm.trans g7
  rfl
theorem nin1 {x y : Nat} (q : x ≠ y) : x ∉ ([y] : List Addr) := fun z => q (List.mem_singleton.mp z)
theorem all1 {P : Addr → Prop} {a : Addr} (q : P a) : ∀ x ∈ [a], P x := fun x hx => by cases List.mem_singleton.mp hx; exact q
theorem Wk.sfE (w : Wk G M R X vm T h k n) {a : Addr} {C : String} (E : Exa G.Z h a C) (h1 : C ≠ "java/lang/String") (h2 : C ≠ "[B") : G.wd = true → Safe G.Z G.EL vm h a := fun _ => Safe.exa w.wz.alike E h1 h2
theorem Wk.sfA (w : Wk G M R X vm T h k n) {a : Addr} {kc : ClassId} {ty : FieldType} {N : Int32} {vs : List Value} {dv : Value} (A : Arv G.Z h a kc ty N vs dv) (ht : ty ≠ .byte) : G.wd = true → Safe G.Z G.EL vm h a := fun _ => Safe.arv w.wz.alike A ht
theorem Wk.sfN (w : Wk G M R X vm T h k n) {a : Addr} (q : h.size ≤ a) : G.wd = true → Safe G.Z G.EL vm h a := fun _ => Safe.new q
theorem blank_safe {Z : State} {EL : List (String × Nat)} {vm : Vm} {h : Heap} {x : Addr} (hal : Z.vm.Alike vm) (E : Exa Z h x "java/lang/String") (V : Fld Z h x "java/lang/String" "value" "[B" .null) : Safe Z EL vm h x := fun B => by
  obtain ⟨cell, kx, e1, e2, e3, e4, e5⟩ := E
  obtain ⟨cellV, cf, kf, i, f, v1, v2, v3, v4, v5, v6, v7⟩ := V
  cases e1.symm.trans v1
  obtain ⟨p, -, u, a, -, q, -, F, hy⟩ := B
  obtain ⟨cS, ⟨⟨s1, s2, s3, ⟨cv, kv, iv, s4, s4'⟩, -, s6, s7, s8, s9, s10, s11, -⟩, hfS, hcS⟩, -, hB, -⟩ := F
  rcases hy with rfl | rfl
  · cases e1.symm.trans (show h[q.sa]? = some q.sC from s1)
    obtain ⟨kz, z4⟩ := ff_back (U := Wst Z vm h) hal s4
    have := v2.symm.trans z4
    simp only [Option.some.injEq, Prod.mk.injEq] at this
    rw [this.2.2.2] at v7
    rw [s8] at v7
    cases v7
  · cases e1.symm.trans (show h[q.sd]? = some q.SA from s10)
    obtain ⟨-, k9, hk9, comp, hkind⟩ := s11
    have hB' : vm.findClass "[B" = some q.SA.cls := hB
    rw [hal.findClass] at hB'
    obtain ⟨k1, a1, a2⟩ := Vm.findClass_spec hB'
    obtain ⟨k2, b1, b2⟩ := Vm.findClass_spec e2
    cases a1.symm.trans b1
    rw [a2] at b2
    exact absurd b2 (by decide)
theorem Wk.sfB (w : Wk G M R X vm T h k n) {a : Addr} (E : Exa G.Z h a "java/lang/String") (V : Fld G.Z h a "java/lang/String" "value" "[B" .null) : G.wd = true → Safe G.Z G.EL vm h a := fun _ => blank_safe w.wz.alike E V
theorem Wk.newO (w : Wk G M R X vm T h k n) {pc q : Nat} {Ls : Array Slot} {st : List Value} {C : String} {index sz : Nat} (hd : decode M.code pc = .ok (.new index, 3)) (w1 : (Jvm.Cond.classLink M.own index C).before G.a0 G.Z = true) (w2 : (Jvm.Cond.instantiable C sz).before G.a0 G.Z = true) (w3 : (Jvm.Cond.initialized C).before G.a0 G.Z = true) (hc : k + 1 ≤ R.cells) (hl : n + sz ≤ R.slots) (hq : pc + 3 = q)
    (go : ∀ (T' : State) (h' : Heap) (b : Nat), b = h.size → Wk G M R X vm T' h' (k + 1) (n + sz) → Ext h h' → Exa G.Z h' b C → (∀ {O nm d : String} {ty : FieldType}, Laid G.Z G.a0 C O nm d → parseFieldDescriptor d = some ty → Fld G.Z h' b O nm d (defaultValue ty)) → Unt h' b → Go G R X Q (T'.setTop (mkF X.m q Ls (.ref b :: st)))) : Go G R X Q (T.setTop (mkF X.m pc Ls st)) := by
  subst hq
  obtain ⟨fx, k0, L, S, eh, hS, hk, hZ, hown, hF, ho, hch, hnw⟩ := w
  obtain ⟨T', h', X', e', E, A, D, U, st'⟩ := Jvm.RoadKit.newO S fx.1 hZ hown w1 w2 w3 eh (g := mkF X.m pc Ls st) rfl (hb fx.2.1 hd) hc hl
  exact (go T' h' h.size rfl ⟨fx, k0, L, X', e', hS, Nat.le_trans hk E.1, hZ, hown, hF, ho.ext E, fun b => (hch b).trans (CHr.ext E (hch b).1), hnw⟩ E A D U).of st'
theorem Wk.newP (w : Wk G M R X vm T h k n) {pc q : Nat} {Ls : Array Slot} {st : List Value} {aty : ArrayType} {N : Int32} (cap : Nat) (hd : decode M.code pc = .ok (.newarray aty, 2)) (w1 : (Jvm.Cond.arrayClass (newarray.typeOf aty)).before G.a0 G.Z = true) (hN : ¬ N < 0) (hcap : N.toNatClampNeg ≤ cap) (hb8 : cap * 8 ≤ 536870912) (hc : k + 1 ≤ R.cells) (hl : n + cap ≤ R.slots) (hq : pc + 2 = q)
    (go : ∀ (T' : State) (h' : Heap) (b : Nat) (kc : ClassId), b = h.size → Wk G M R X vm T' h' (k + 1) (n + cap) → Ext h h' → Arv G.Z h' b kc (newarray.typeOf aty) N [] (defaultValue (newarray.typeOf aty)) → Go G R X Q (T'.setTop (mkF X.m q Ls (.ref b :: st)))) : Go G R X Q (T.setTop (mkF X.m pc Ls (.int N :: st))) := by
  subst hq
  obtain ⟨fx, k0, L, S, eh, hS, hk, hZ, hown, hF, ho, hch, hnw⟩ := w
  obtain ⟨T', h', kc, X', e', E, A, st'⟩ := Jvm.RoadKit.newP S fx.1 hZ w1 eh (g := mkF X.m pc Ls (.int N :: st)) rfl (hb fx.2.1 hd) rfl hN (cap := cap) hcap hb8 hc hl
  exact (go T' h' h.size kc rfl ⟨fx, k0, L, X', e', hS, Nat.le_trans hk E.1, hZ, hown, hF, ho.ext E, fun b => (hch b).trans (CHr.ext E (hch b).1), hnw⟩ E (Arv.new A hN)).of st'
theorem Wk.newR (w : Wk G M R X vm T h k n) {pc q : Nat} {Ls : Array Slot} {st : List Value} {C : String} {index : Nat} {N : Int32} (cap : Nat) (hd : decode M.code pc = .ok (.anewarray index, 3)) (w1 : (Jvm.Cond.classLink M.own index C).before G.a0 G.Z = true) (w2 : (Jvm.Cond.arrayOver (.object C)).before G.a0 G.Z = true) (hN : ¬ N < 0) (hcap : N.toNatClampNeg ≤ cap) (hb8 : cap * 8 ≤ 536870912) (hc : k + 1 ≤ R.cells) (hl : n + cap ≤ R.slots) (hq : pc + 3 = q)
    (go : ∀ (T' : State) (h' : Heap) (b : Nat) (kc : ClassId), b = h.size → Wk G M R X vm T' h' (k + 1) (n + cap) → Ext h h' → Arv G.Z h' b kc (.object C) N [] .null → Ovr G.Z kc C → Go G R X Q (T'.setTop (mkF X.m q Ls (.ref b :: st)))) : Go G R X Q (T.setTop (mkF X.m pc Ls (.int N :: st))) := by
  subst hq
  obtain ⟨fx, k0, L, S, eh, hS, hk, hZ, hown, hF, ho, hch, hnw⟩ := w
  obtain ⟨T', h', kc, X', e', E, A, O, st'⟩ := Jvm.RoadKit.newR S fx.1 hZ hown w1 w2 eh (g := mkF X.m pc Ls (.int N :: st)) rfl (hb fx.2.1 hd) rfl hN (cap := cap) hcap hb8 hc hl
  exact (go T' h' h.size kc rfl ⟨fx, k0, L, X', e', hS, Nat.le_trans hk E.1, hZ, hown, hF, ho.ext E, fun b => (hch b).trans (CHr.ext E (hch b).1), hnw⟩ E (Arv.new A hN) O).of st'
theorem Wk.castore (w : Wk G M R X vm T h k n) {pc q : Nat} {Ls : Array Slot} {st : List Value} {b : Addr} {kc : ClassId} {N j x : Int32} {vs : List Value} {dv : Value} (i : Nat) (hd : decode M.code pc = .ok (.castore, 1)) (A : Arv G.Z h b kc .char N vs dv) (h0 : G.n0 ≤ b) (hj : ¬ j < 0 ∧ j < N) (hi : j.toNatClampNeg = i) (hlen : i < vs.length) (hq : pc + 1 = q)
    (go : ∀ (T' : State) (h' : Heap), Wk G M R X vm T' h' k n → Keep h h' [b] → Arv G.Z h' b kc .char N (vs.set i (.int (nar .char x))) dv → Go G R X Q (T'.setTop (mkF X.m q Ls st))) : Go G R X Q (T.setTop (mkF X.m pc Ls (.int x :: .int j :: .ref b :: st))) := by
  subst hq
  have sf := w.sfA A (by decide)
  obtain ⟨fx, k0, L, S, eh, hS, hk, hZ, hown, hF, ho, hch, hnw⟩ := w
  obtain ⟨cl, Ar, r1, r2, r3, H, Gf⟩ := A
  obtain ⟨T', h', X', e', W, st'⟩ := Jvm.RoadKit.stC S fx.1 hZ eh Ar (j := j) (x := x) (inb_of r2 hj) (g := mkF X.m pc Ls (.int x :: .int j :: .ref b :: st)) rfl rfl (hb fx.2.1 hd)
  have K := Keep.of_wr W
  exact (go T' h' ⟨fx, k0, _, X', e', hS, Nat.le_trans hk K.1, hZ, hown, Fr.snoc X' hF h0, ho.wr W h0, fun b' => (hch b').trans (CHr.wr W (sf b') (hch b').1), hnw⟩ K (Arv.set Ar r1 r2 r3 H Gf (fits_nar_char _) W i hi hlen)).of st'
theorem Wk.iastore (w : Wk G M R X vm T h k n) {pc q : Nat} {Ls : Array Slot} {st : List Value} {b : Addr} {kc : ClassId} {N j x : Int32} {vs : List Value} {dv : Value} (i : Nat) (hd : decode M.code pc = .ok (.iastore, 1)) (A : Arv G.Z h b kc .int N vs dv) (h0 : G.n0 ≤ b) (hj : ¬ j < 0 ∧ j < N) (hi : j.toNatClampNeg = i) (hlen : i < vs.length) (hq : pc + 1 = q)
    (go : ∀ (T' : State) (h' : Heap), Wk G M R X vm T' h' k n → Keep h h' [b] → Arv G.Z h' b kc .int N (vs.set i (.int x)) dv → Go G R X Q (T'.setTop (mkF X.m q Ls st))) : Go G R X Q (T.setTop (mkF X.m pc Ls (.int x :: .int j :: .ref b :: st))) := by
  subst hq
  have sf := w.sfA A (by decide)
  obtain ⟨fx, k0, L, S, eh, hS, hk, hZ, hown, hF, ho, hch, hnw⟩ := w
  obtain ⟨cl, Ar, r1, r2, r3, H, Gf⟩ := A
  obtain ⟨T', h', X', e', W, st'⟩ := Jvm.RoadKit.stI S fx.1 hZ eh Ar (j := j) (x := x) (inb_of r2 hj) (g := mkF X.m pc Ls (.int x :: .int j :: .ref b :: st)) rfl rfl (hb fx.2.1 hd)
  have K := Keep.of_wr W
  exact (go T' h' ⟨fx, k0, _, X', e', hS, Nat.le_trans hk K.1, hZ, hown, Fr.snoc X' hF h0, ho.wr W h0, fun b' => (hch b').trans (CHr.wr W (sf b') (hch b').1), hnw⟩ K (Arv.set Ar r1 r2 r3 H Gf rfl W i hi hlen)).of st'
theorem Wk.bastore (w : Wk G M R X vm T h k n) {pc q : Nat} {Ls : Array Slot} {st : List Value} {b : Addr} {kc : ClassId} {N j x : Int32} {vs : List Value} {dv : Value} (i : Nat) (hd : decode M.code pc = .ok (.bastore, 1)) (A : Arv G.Z h b kc .byte N vs dv) (h0 : G.n0 ≤ b) (sf : G.wd = true → Safe G.Z G.EL vm h b) (hj : ¬ j < 0 ∧ j < N) (hi : j.toNatClampNeg = i) (hlen : i < vs.length) (hq : pc + 1 = q)
    (go : ∀ (T' : State) (h' : Heap), Wk G M R X vm T' h' k n → Keep h h' [b] → (G.wd = true → Safe G.Z G.EL vm h' b) → Arv G.Z h' b kc .byte N (vs.set i (.int x.toInt8.toInt32)) dv → Go G R X Q (T'.setTop (mkF X.m q Ls st))) : Go G R X Q (T.setTop (mkF X.m pc Ls (.int x :: .int j :: .ref b :: st))) := by
  subst hq
  obtain ⟨fx, k0, L, S, eh, hS, hk, hZ, hown, hF, ho, hch, hnw⟩ := w
  obtain ⟨cl, Ar, r1, r2, r3, H, Gf⟩ := A
  obtain ⟨T', h', X', e', W, st'⟩ := Jvm.RoadKit.stB S fx.1 hZ eh Ar (j := j) (x := x) (inb_of r2 hj) (g := mkF X.m pc Ls (.int x :: .int j :: .ref b :: st)) rfl rfl (hb fx.2.1 hd)
  have K := Keep.of_wr W
  exact (go T' h' ⟨fx, k0, _, X', e', hS, Nat.le_trans hk K.1, hZ, hown, Fr.snoc X' hF h0, ho.wr W h0, fun b' => (hch b').trans (CHr.wr W (sf b') (hch b').1), hnw⟩ K (fun b' => (CHr.wr W (sf b') (hch b').1).safe Ar.lt (sf b')) (Arv.set Ar r1 r2 r3 H Gf (fits_nar_byte _) W i hi hlen)).of st'
theorem Wk.aastore (w : Wk G M R X vm T h k n) {pc q : Nat} {Ls : Array Slot} {st : List Value} {b : Addr} {kc : ClassId} {ty : FieldType} {N j : Int32} {v : Value} {vs : List Value} {dv : Value} (i : Nat) (hd : decode M.code pc = .ok (.aastore, 1)) (A : Arv G.Z h b kc ty N vs dv) (hty : ty.isReference = true) (F : Sto G.Z h b v) (hv : v.isRef = true) (h0 : G.n0 ≤ b) (hj : ¬ j < 0 ∧ j < N) (hi : j.toNatClampNeg = i) (hlen : i < vs.length) (hq : pc + 1 = q)
    (go : ∀ (T' : State) (h' : Heap), Wk G M R X vm T' h' k n → Keep h h' [b] → Arv G.Z h' b kc ty N (vs.set i v) dv → Go G R X Q (T'.setTop (mkF X.m q Ls st))) : Go G R X Q (T.setTop (mkF X.m pc Ls (v :: .int j :: .ref b :: st))) := by
  subst hq
  have hnb : ty ≠ .byte := fun e => by rw [e] at hty; cases hty
  have sf := w.sfA A hnb
  have hfit : fits ty v = true := by cases ty <;> first | (cases hty; done) | (rcases ref_cases hv with rfl | ⟨_, rfl⟩ <;> rfl)
  obtain ⟨fx, k0, L, S, eh, hS, hk, hZ, hown, hF, ho, hch, hnw⟩ := w
  obtain ⟨cl, Ar, r1, r2, r3, H, Gf⟩ := A
  obtain ⟨T', h', X', e', W, st'⟩ := Jvm.RoadKit.stR S fx.1 hZ eh Ar (j := j) (v := v) (inb_of r2 hj) hty F (g := mkF X.m pc Ls (v :: .int j :: .ref b :: st)) rfl rfl (hb fx.2.1 hd)
  have K := Keep.of_wr W
  exact (go T' h' ⟨fx, k0, _, X', e', hS, Nat.le_trans hk K.1, hZ, hown, Fr.snoc X' hF h0, ho.wr W h0, fun b' => (hch b').trans (CHr.wr W (sf b') (hch b').1), hnw⟩ K (Arv.set Ar r1 r2 r3 H Gf hfit W i hi hlen)).of st'
theorem Wk.getF (w : Wk G M R X vm T h k n) {pc q : Nat} {Ls : Array Slot} {st : List Value} {R0 O f d : String} {index : Nat} {a : Addr} {v : Value} (hd : decode M.code pc = .ok (.getfield index, 3)) (w1 : (Jvm.Cond.fieldLink M.own index R0 f d).before G.a0 G.Z = true) (via : Via G.Z R0 O f d) (F : Fld G.Z h a O f d v) (hq : pc + 3 = q)
    (go : ∀ T' : State, Wk G M R X vm T' h k n → Go G R X Q (T'.setTop (mkF X.m q Ls (v :: st)))) : Go G R X Q (T.setTop (mkF X.m pc Ls (.ref a :: st))) := by
  subst hq
  obtain ⟨fx, k0, L, S, eh, hS, hk, hZ, hown, r⟩ := w
  obtain ⟨T', X', e', st'⟩ := Jvm.RoadKit.getF (host := "") S fx.1 hZ hown (Or.inl w1) via eh F (g := mkF X.m pc Ls (.ref a :: st)) rfl rfl (hb fx.2.1 hd)
  exact (go T' ⟨fx, k0, L, X', e', hS, hk, hZ, hown, r⟩).of st'
theorem Wk.getS (w : Wk G M R X vm T h k n) {pc q : Nat} {Ls : Array Slot} {st : List Value} {R0 O f d : String} {index : Nat} {v : Value} (hd : decode M.code pc = .ok (.getstatic index, 3)) (w1 : (Jvm.Cond.fieldLink M.own index R0 f d).before G.a0 G.Z = true) (via : Via G.Z R0 O f d) (F : Sta G.Z G.Z.heap O f d v) (hq : pc + 3 = q)
    (go : ∀ T' : State, Wk G M R X vm T' h k n → Go G R X Q (T'.setTop (mkF X.m q Ls (v :: st)))) : Go G R X Q (T.setTop (mkF X.m pc Ls st)) := by
  subst hq
  have F' := w.sta F
  obtain ⟨fx, k0, L, S, eh, hS, hk, hZ, hown, r⟩ := w
  obtain ⟨T', X', e', st'⟩ := Jvm.RoadKit.getS (host := "") S fx.1 hZ hown w1 via eh F' (g := mkF X.m pc Ls st) rfl (hb fx.2.1 hd)
  exact (go T' ⟨fx, k0, L, X', e', hS, hk, hZ, hown, r⟩).of st'
theorem Wk.putF (w : Wk G M R X vm T h k n) {pc q : Nat} {Ls : Array Slot} {st : List Value} {R0 O f d C : String} {index kk : Nat} {ty : FieldType} {a : Addr} {v old : Value} (hd : decode M.code pc = .ok (.putfield index, 3)) (w1 : (Jvm.Cond.fieldLink M.own index R0 f d).before G.a0 G.Z = true) (via : Via G.Z R0 O f d) (F : Fld G.Z h a O f d old) (E : Exa G.Z h a C) (hlay : (Jvm.Cond.lays C O f d).before G.a0 G.Z = true ∨ ((Jvm.Cond.laysFinal C O f d).before G.a0 G.Z = true ∧ M.own = O ∧ M.nm = "<init>")) (wi : (Jvm.Cond.instantiable C kk).before G.a0 G.Z = true)
    (hty : parseFieldDescriptor d = some ty) (hn : narrow ty v = v) (hf : fits ty v = true) (h0 : G.n0 ≤ a) (sf : G.wd = true → Safe G.Z G.EL vm h a) (hq : pc + 3 = q)
    (go : ∀ (T' : State) (h' : Heap), Wk G M R X vm T' h' k n → Wr h h' a (Jvm.RoadKit.slotOf G.Z O f d) v → (G.wd = true → Safe G.Z G.EL vm h' a) → Go G R X Q (T'.setTop (mkF X.m q Ls st))) : Go G R X Q (T.setTop (mkF X.m pc Ls (v :: .ref a :: st))) := by
  subst hq
  have hnm := w.hnm
  obtain ⟨fx, k0, L, S, eh, hS, hk, hZ, hown, hF, ho, hch, hnw⟩ := w
  obtain ⟨T', h', X', e', W, st'⟩ := Jvm.RoadKit.putF (host := "") S fx.1 hZ hown (Or.inl w1) via eh F E (hlay.imp id fun z => ⟨z.1, z.2.1, hnm.trans z.2.2⟩) wi hty hn hf (g := mkF X.m pc Ls (v :: .ref a :: st)) rfl rfl (hb fx.2.1 hd)
  have K := Keep.of_wr W
  exact (go T' h' ⟨fx, k0, _, X', e', hS, Nat.le_trans hk K.1, hZ, hown, Fr.snoc X' hF h0, ho.wr W h0, fun b' => (hch b').trans (CHr.wr W (sf b') (hch b').1), hnw⟩ W (fun b' => (CHr.wr W (sf b') (hch b').1).safe F.lt (sf b'))).of st'
theorem Wk.castY (w : Wk G M R X vm T h k n) {pc q : Nat} {Ls : Array Slot} {st : List Value} {K : String} {index : Nat} {a : Addr} (hd : decode M.code pc = .ok (.checkcast index, 3)) (w1 : (Jvm.Cond.classLink M.own index K).before G.a0 G.Z = true) (F : Ins G.Z h a K true) (hq : pc + 3 = q)
    (go : ∀ T' : State, Wk G M R X vm T' h k n → Go G R X Q (T'.setTop (mkF X.m q Ls (.ref a :: st)))) : Go G R X Q (T.setTop (mkF X.m pc Ls (.ref a :: st))) := by
  subst hq
  obtain ⟨fx, k0, L, S, eh, hS, hk, hZ, hown, r⟩ := w
  obtain ⟨T', X', e', st'⟩ := Jvm.RoadKit.castY S fx.1 hZ hown w1 eh F (g := mkF X.m pc Ls (.ref a :: st)) rfl rfl (hb fx.2.1 hd)
  exact (go T' ⟨fx, k0, L, X', e', hS, hk, hZ, hown, r⟩).of st'
theorem Wk.instY (w : Wk G M R X vm T h k n) {pc q : Nat} {Ls : Array Slot} {st : List Value} {K : String} {index : Nat} {a : Addr} (hd : decode M.code pc = .ok (.instanceof index, 3)) (w1 : (Jvm.Cond.classLink M.own index K).before G.a0 G.Z = true) (F : Ins G.Z h a K true) (hq : pc + 3 = q)
    (go : ∀ T' : State, Wk G M R X vm T' h k n → Go G R X Q (T'.setTop (mkF X.m q Ls (.int 1 :: st)))) : Go G R X Q (T.setTop (mkF X.m pc Ls (.ref a :: st))) := by
  subst hq
  obtain ⟨fx, k0, L, S, eh, hS, hk, hZ, hown, r⟩ := w
  obtain ⟨T', X', e', st'⟩ := Jvm.RoadKit.instY S fx.1 hZ hown w1 eh F (g := mkF X.m pc Ls (.ref a :: st)) rfl rfl (hb fx.2.1 hd)
  exact (go T' ⟨fx, k0, L, X', e', hS, hk, hZ, hown, r⟩).of st'
theorem Wk.initO (w : Wk G M R X vm T h k n) {pc q : Nat} {Ls : Array Slot} {st : List Value} {index W : Nat} {a : Addr} (hd : decode M.code pc = .ok (.invokespecial index, 3)) (w1 : (Jvm.Cond.methodLink M.own index Lib.objectInit).before G.a0 G.Z = true) (w2 : (Jvm.Cond.instanceMethod Lib.objectInit).before G.a0 G.Z = true) (w3 : (Jvm.Cond.code Lib.objectInit ⟨#[0xb1]⟩ 1 none).before G.a0 G.Z = true) (hsz : Ls.size = M.mx) (hfr : 1 ≤ R.frames) (hW : (st.map fun v => v.category).sum ≤ W) (hlo : W + 12 ≤ R.locals) (hq : pc + 3 = q)
    (go : ∀ T' : State, Wk G M R X vm T' h k n → Go G R X Q (T'.setTop (mkF X.m q Ls st))) : Go G R X Q (T.setTop (mkF X.m pc Ls (.ref a :: st))) := by
  subst hq
  obtain ⟨fx, k0, L, S, eh, hS, hk, hZ, hown, r⟩ := w
  obtain ⟨T', X', e', st'⟩ := Jvm.RoadKit.initO S fx.1 hZ hown w1 w2 w3 eh (g := mkF X.m pc Ls (.ref a :: st)) rfl (hsz.trans fx.2.2.1.symm) rfl (hb fx.2.1 hd) hfr (W := W) (by show 2 * 0 + _ ≤ _; omega) hlo
  exact (go T' ⟨fx, k0, L, X', e', hS, hk, hZ, hown, r⟩).of st'
theorem Wk.ldcI (w : Wk G M R X vm T h k n) {pc q : Nat} {Ls : Array Slot} {st : List Value} {index : Nat} {v : Int32} (hd : decode M.code pc = .ok (.ldc index, 2)) (w1 : (Jvm.Cond.constant M.own index v).before G.a0 G.Z = true) (hq : pc + 2 = q) (go : Go G R X Q (T.setTop (mkF X.m q Ls (.int v :: st)))) : Go G R X Q (T.setTop (mkF X.m pc Ls st)) := by
  subst hq
  obtain ⟨fx, k0, L, S, eh, hS, hk, hZ, hown, r⟩ := w
  exact go.of fun t z => S.ldcI fx.1 hown (mv (s := X.s.setVm vm) hZ w1) (g := mkF X.m pc Ls st) rfl (hb fx.2.1 hd) z
theorem Wk.ldc2J (w : Wk G M R X vm T h k n) {pc q : Nat} {Ls : Array Slot} {st : List Value} {index : Nat} {v : Int64} (hd : decode M.code pc = .ok (.ldc2_w index, 3)) (w1 : (Jvm.Cond.constantLong M.own index v).before G.a0 G.Z = true) (hq : pc + 3 = q) (go : Go G R X Q (T.setTop (mkF X.m q Ls (.long v :: st)))) : Go G R X Q (T.setTop (mkF X.m pc Ls st)) := by
  subst hq
  obtain ⟨fx, k0, L, S, eh, hS, hk, hZ, hown, r⟩ := w
  exact go.of fun t z => S.ldc2J fx.1 hown (mv (s := X.s.setVm vm) hZ w1) (g := mkF X.m pc Ls st) rfl (hb fx.2.1 hd) z
theorem Wk.alen (w : Wk G M R X vm T h k n) {pc q : Nat} {Ls : Array Slot} {st : List Value} {b : Addr} {kc : ClassId} {ty : FieldType} {N : Int32} {vs : List Value} {dv : Value} (hd : decode M.code pc = .ok (.arraylength, 1)) (A : Arv G.Z h b kc ty N vs dv) (hq : pc + 1 = q) (go : Go G R X Q (T.setTop (mkF X.m q Ls (.int N :: st)))) : Go G R X Q (T.setTop (mkF X.m pc Ls (.ref b :: st))) := by
  subst hq
  obtain ⟨fx, k0, L, S, eh, hS, hk, hZ, hown, r⟩ := w
  obtain ⟨cl, Ar, r1, r2, r3, H, Gf⟩ := A
  refine go.of fun t z => S.arraylength fx.1 (by rw [eh]; exact Ar.1) (State.isArrayOf_alike hZ.alike Ar.2.1) (g := mkF X.m pc Ls (.ref b :: st)) rfl rfl (hb fx.2.1 hd) _ ?_
  rw [len_of r2 r3]; exact z
theorem Wk.aaload (w : Wk G M R X vm T h k n) {pc q : Nat} {Ls : Array Slot} {st : List Value} {b : Addr} {kc : ClassId} {ty : FieldType} {N j : Int32} {v : Value} {vs : List Value} {dv : Value} (hd : decode M.code pc = .ok (.aaload, 1)) (A : Arv G.Z h b kc ty N vs dv) (hty : ty.isReference = true) (hj : ¬ j < 0 ∧ j < N) (hv : vs.getD j.toNatClampNeg dv = v) (hq : pc + 1 = q) (go : Go G R X Q (T.setTop (mkF X.m q Ls (v :: st)))) : Go G R X Q (T.setTop (mkF X.m pc Ls (.int j :: .ref b :: st))) := by
  subst hq
  obtain ⟨fx, k0, L, S, eh, hS, hk, hZ, hown, r⟩ := w
  obtain ⟨cl, Ar, r1, r2, r3, H, Gf⟩ := A
  exact go.of fun t z => S.aaload fx.1 (j := j) (v := v) (by rw [eh]; exact Ar.1) (State.isArrayOf_alike hZ.alike Ar.2.1) hty Ar.2.2 (inb_of r2 hj) (H.at (inb_of r2 hj) hv) (g := mkF X.m pc Ls (.int j :: .ref b :: st)) rfl rfl (hb fx.2.1 hd) _ z
theorem Wk.caload (w : Wk G M R X vm T h k n) {pc q : Nat} {Ls : Array Slot} {st : List Value} {b : Addr} {kc : ClassId} {N j x : Int32} {vs : List Value} {dv : Value} (hd : decode M.code pc = .ok (.caload, 1)) (A : Arv G.Z h b kc .char N vs dv) (hj : ¬ j < 0 ∧ j < N) (hv : vs.getD j.toNatClampNeg dv = .int x) (hq : pc + 1 = q) (go : Go G R X Q (T.setTop (mkF X.m q Ls (.int x :: st)))) : Go G R X Q (T.setTop (mkF X.m pc Ls (.int j :: .ref b :: st))) := by
  subst hq
  obtain ⟨fx, k0, L, S, eh, hS, hk, hZ, hown, r⟩ := w
  obtain ⟨cl, Ar, r1, r2, r3, H, Gf⟩ := A
  exact go.of fun t z => S.caload fx.1 (j := j) (v := .int x) (by rw [eh]; exact Ar.1) (State.isArrayOf_alike hZ.alike Ar.2.1) Ar.2.2 (inb_of r2 hj) (H.at (inb_of r2 hj) hv) (g := mkF X.m pc Ls (.int j :: .ref b :: st)) rfl rfl (hb fx.2.1 hd) _ z
theorem Wk.baload (w : Wk G M R X vm T h k n) {pc q : Nat} {Ls : Array Slot} {st : List Value} {b : Addr} {kc : ClassId} {N j x : Int32} {vs : List Value} {dv : Value} (hd : decode M.code pc = .ok (.baload, 1)) (A : Arv G.Z h b kc .byte N vs dv) (hj : ¬ j < 0 ∧ j < N) (hv : vs.getD j.toNatClampNeg dv = .int x) (hq : pc + 1 = q) (go : Go G R X Q (T.setTop (mkF X.m q Ls (.int x :: st)))) : Go G R X Q (T.setTop (mkF X.m pc Ls (.int j :: .ref b :: st))) := by
  subst hq
  obtain ⟨fx, k0, L, S, eh, hS, hk, hZ, hown, r⟩ := w
  obtain ⟨cl, Ar, r1, r2, r3, H, Gf⟩ := A
  exact go.of fun t z => S.baloadBytes fx.1 (j := j) (v := .int x) (by rw [eh]; exact Ar.1) (State.isArrayOf_alike hZ.alike Ar.2.1) Ar.2.2 (inb_of r2 hj) (H.at (inb_of r2 hj) hv) (g := mkF X.m pc Ls (.int j :: .ref b :: st)) rfl rfl (hb fx.2.1 hd) _ z
theorem arv_sto {Z : State} {h : Heap} {b y : Addr} {kc : ClassId} {ty : FieldType} {N : Int32} {vs : List Value} {dv : Value} {C : String} (A : Arv Z h b kc ty N vs dv) (O : Ovr Z kc C) (I : Ins Z h y C true) : Sto Z h b (.ref y) := by
  obtain ⟨c, Ar, r1, -⟩ := A; exact Sto.ofV Ar r1 O I
def PayN (G : Gx) (R : Room) (X : Cx) (y : MethodName) (len W : Nat) (as : Array Value) (h : Heap) (k1 n1 : Nat) (Q1 : Option Value → Heap → Prop) (vm : Vm) : Prop :=
  Back G.l R X.p X.e X.below (X.s.setVm vm) X.args y len W (fun P a => a = as ∧ P.U.heap = h ∧ P.cells + k1 ≤ R.cells ∧ P.slots + n1 ≤ R.slots)
    (fun P _ v B => ∃ L, (Q1 v B.U.heap ∧ Fr G.n0 L ∧ Old G.Z G.n0 B.U.heap ∧ h.size ≤ B.U.heap.size ∧ (G.wd = true → CHr G.Z G.EL vm h vm B.U.heap)) ∧ B.locs = P.locs ++ L ∧ B.cells = P.cells + k1 ∧ B.slots = P.slots + n1)
def PayW (G : Gx) (R : Room) (X : Cx) (y : MethodName) (len W : Nat) (as : Array Value) (h : Heap) (k1 n1 : Nat) (Q1 : Option Value → Heap → Prop) (vm : Vm) : Prop :=
  G.wd = true ∧ BackS G.l R X.p X.e X.below (X.s.setVm vm) X.args y len W (fun P a => a = as ∧ P.U.heap = h ∧ P.cells + k1 ≤ R.cells ∧ P.slots + n1 ≤ R.slots)
    (fun P _ v B => ∃ L, (Q1 v B.U.heap ∧ Fr G.n0 L ∧ Old G.Z G.n0 B.U.heap ∧ (G.wd = true → CHr G.Z G.EL vm h B.U.vm B.U.heap)) ∧ B.locs = P.locs ++ L ∧ B.cells = P.cells + k1 ∧ B.slots = P.slots + n1)
def Pay (G : Gx) (R : Room) (X : Cx) (y : MethodName) (len W : Nat) (as : Array Value) (h : Heap) (k1 n1 : Nat) (Q1 : Option Value → Heap → Prop) (vm : Vm) : Prop := PayN G R X y len W as h k1 n1 Q1 vm ∨ PayW G R X y len W as h k1 n1 Q1 vm
theorem finN {k0 k1 n1 : Nat} {L : List Loc} {Q1 : Option Value → Heap → Prop} (fx : Fix G M X) (hS : X.s.Since vm k0) (hk : k0 ≤ h.size) (hZ : G.Z.Warmed39 vm) (hown : vm.findClass M.own = some X.m.cls) (hF : Fr G.n0 L) (hch : G.wd = true → CHr G.Z G.EL X.s.vm X.s.heap vm h) (hnw : G.wd = false → vm = X.s.vm)
    {v : Option Value} {B : Pt} (X' : Stand X.p G.l X.e R (X.s.setVm vm) X.m X.args X.below X.meth X.c B.U B.locs B.cells B.slots) (post : ∃ L', (Q1 v B.U.heap ∧ Fr G.n0 L' ∧ Old G.Z G.n0 B.U.heap ∧ h.size ≤ B.U.heap.size ∧ (G.wd = true → CHr G.Z G.EL vm h vm B.U.heap)) ∧ B.locs = L ++ L' ∧ B.cells = k + k1 ∧ B.slots = n + n1) :
    Wk G M R X vm B.U B.U.heap (k + k1) (n + n1) ∧ Q1 v B.U.heap := by
  obtain ⟨U, Lb, c, s⟩ := B
  obtain ⟨L', ⟨q1, q2, q3, q4, q5⟩, h1, h2, h3⟩ := post
  dsimp only [Pt.U, Pt.locs, Pt.cells, Pt.slots] at *
  subst h1 h2 h3
  exact ⟨⟨fx, k0, _, X', rfl, hS, Nat.le_trans hk q4, hZ, hown, Fr.app hF q2, q3, fun b => (hch b).trans (q5 b), hnw⟩, q1⟩
theorem finW {k0 k1 n1 : Nat} {L : List Loc} {Q1 : Option Value → Heap → Prop} (hwd : G.wd = true) (fx : Fix G M X) (hS : X.s.Since vm k0) (hk : k0 ≤ h.size) (hZ : G.Z.Warmed39 vm) (hown : vm.findClass M.own = some X.m.cls) (hF : Fr G.n0 L) (hch : G.wd = true → CHr G.Z G.EL X.s.vm X.s.heap vm h)
    {v : Option Value} {B : Pt} (X' : Stand X.p G.l X.e R ((X.s.setVm vm).setVm B.U.vm) X.m X.args X.below X.meth X.c B.U B.locs B.cells B.slots) (hS' : (X.s.setVm vm).Since B.U.vm B.U.heap.size) (hgr : h.size ≤ B.U.heap.size) (post : ∃ L', (Q1 v B.U.heap ∧ Fr G.n0 L' ∧ Old G.Z G.n0 B.U.heap ∧ (G.wd = true → CHr G.Z G.EL vm h B.U.vm B.U.heap)) ∧ B.locs = L ++ L' ∧ B.cells = k + k1 ∧ B.slots = n + n1) :
    Wk G M R X B.U.vm B.U B.U.heap (k + k1) (n + n1) ∧ Q1 v B.U.heap := by
  obtain ⟨U, Lb, c, s⟩ := B
  obtain ⟨L', ⟨q1, q2, q3, q5⟩, h1, h2, h3⟩ := post
  dsimp only [Pt.U, Pt.locs, Pt.cells, Pt.slots] at *
  subst h1 h2 h3
  exact ⟨⟨fx, U.heap.size, _, X', rfl, hS.trans hS' (Nat.le_trans hk hgr), Nat.le_refl _, State.Warmed39.trans (t := X.s.setVm vm) hZ hS'.1, by rw [hS'.1.alike.findClass]; exact hown, Fr.app hF q2, q3, fun b => (hch b).trans (q5 b), fun z => absurd (z.symm.trans hwd) (by decide)⟩, q1⟩
theorem Wk.callS (w : Wk G M R X vm T h k n) {pc q : Nat} {Ls : Array Slot} {st : List Value} {y : MethodName} {bytes : ByteArray} {maxL : Nat} {ret : Option FieldType} {index W k1 n1 : Nat} {argsL rest : List Value} {Q1 : Option Value → Heap → Prop} (hd : decode M.code pc = .ok (.invokestatic index, 3)) (w1 : (Jvm.Cond.methodLink M.own index y).before G.a0 G.Z = true) (w2 : (Jvm.Cond.static y).before G.a0 G.Z = true) (w3 : (Jvm.Cond.initialized y.cls).before G.a0 G.Z = true) (w4 : (Jvm.Cond.code y bytes maxL ret).before G.a0 G.Z = true) (hy : y.cls ≠ "java/lang/invoke/MethodHandle" ∧ y.cls ≠ "java/lang/invoke/VarHandle")
    (hst : st = argsL.reverse ++ rest) (hlen : ∀ sig, parseMethodDescriptor y.desc = some sig → argsL.length = sig.parameters.length) (hsz : Ls.size = M.mx) (hW : (rest.map fun v => v.category).sum ≤ W) (pay : Pay G R X y 3 W argsL.toArray h k1 n1 Q1 vm) (hc : k + k1 ≤ R.cells) (hl : n + n1 ≤ R.slots) (hq : pc + 3 = q)
    (go : ∀ (vm' : Vm) (T' : State) (h' : Heap) (v : Option Value), Wk G M R X vm' T' h' (k + k1) (n + n1) → Q1 v h' → Go G R X Q (T'.setTop (mkF X.m q Ls (v.toList ++ rest)))) : Go G R X Q (T.setTop (mkF X.m pc Ls st)) := by
  subst hst hq
  obtain ⟨fx, k0, L, S, eh, hS, hk, hZ, hown, hF, ho, hch, hnw⟩ := w
  rcases pay with pay | ⟨hwd, pay⟩
  · obtain ⟨v, vm₁, B, -, X', post, st'⟩ := Jvm.LawKit.callS S fx.1 hown (mv (s := X.s.setVm vm) hZ w1) (mv (s := X.s.setVm vm) hZ w2) (mv (s := X.s.setVm vm) hZ w3) (mv (s := X.s.setVm vm) hZ w4) hy pay (g := mkF X.m pc Ls (argsL.reverse ++ rest)) rfl (hsz.trans fx.2.2.1.symm) hlen rfl (by show 2 * 0 + _ ≤ _; omega) (hb fx.2.1 hd) (fun _ _ => ⟨rfl, eh, hc, hl⟩)
    obtain ⟨w2, q1⟩ := finN fx hS hk hZ hown hF hch hnw X' post
    exact (go _ _ _ v w2 q1).of st'
  · obtain ⟨v, vm₁, B, -, X', hS', hgr, post, st'⟩ := Jvm.RoadKit.callSS S fx.1 hown (mv (s := X.s.setVm vm) hZ w1) (mv (s := X.s.setVm vm) hZ w2) (mv (s := X.s.setVm vm) hZ w3) (mv (s := X.s.setVm vm) hZ w4) hy pay (g := mkF X.m pc Ls (argsL.reverse ++ rest)) rfl (hsz.trans fx.2.2.1.symm) hlen rfl (by show 2 * 0 + _ ≤ _; omega) (hb fx.2.1 hd) (fun _ _ => ⟨rfl, eh, hc, hl⟩)
    obtain ⟨w2, q1⟩ := finW hwd fx hS hk hZ hown hF hch X' hS' (by rw [← eh]; exact hgr) post
    exact (go _ _ _ v w2 q1).of fun t z => st'.trans z
theorem Wk.callC (w : Wk G M R X vm T h k n) {pc q : Nat} {Ls : Array Slot} {st : List Value} {y : MethodName} {bytes : ByteArray} {maxL : Nat} {index W k1 n1 : Nat} {a : Addr} {argsL rest : List Value} {Q1 : Option Value → Heap → Prop} (hd : decode M.code pc = .ok (.invokespecial index, 3)) (hy1 : y.name = "<init>") (w1 : (Jvm.Cond.methodLink M.own index y).before G.a0 G.Z = true) (w2 : (Jvm.Cond.instanceMethod y).before G.a0 G.Z = true) (w4 : (Jvm.Cond.code y bytes maxL none).before G.a0 G.Z = true) (hy : y.cls ≠ "java/lang/invoke/MethodHandle" ∧ y.cls ≠ "java/lang/invoke/VarHandle")
    (hst : st = argsL.reverse ++ .ref a :: rest) (hlen : ∀ sig, parseMethodDescriptor y.desc = some sig → argsL.length = sig.parameters.length) (hsz : Ls.size = M.mx) (hW : (rest.map fun v => v.category).sum ≤ W) (pay : Pay G R X y 3 W (.ref a :: argsL).toArray h k1 n1 Q1 vm) (hc : k + k1 ≤ R.cells) (hl : n + n1 ≤ R.slots) (hq : pc + 3 = q)
    (go : ∀ (vm' : Vm) (T' : State) (h' : Heap) (v : Option Value), Wk G M R X vm' T' h' (k + k1) (n + n1) → Q1 v h' → Go G R X Q (T'.setTop (mkF X.m q Ls (v.toList ++ rest)))) : Go G R X Q (T.setTop (mkF X.m pc Ls st)) := by
  subst hst hq
  obtain ⟨fx, k0, L, S, eh, hS, hk, hZ, hown, hF, ho, hch, hnw⟩ := w
  rcases pay with pay | ⟨hwd, pay⟩
  · obtain ⟨v, vm₁, B, -, X', post, st'⟩ := S.specialBack fx.1 hy1 hown (mv (s := X.s.setVm vm) hZ w1) (mv (s := X.s.setVm vm) hZ w2) (mv (s := X.s.setVm vm) hZ w4) hy pay (g := mkF X.m pc Ls (argsL.reverse ++ .ref a :: rest)) rfl (hsz.trans fx.2.2.1.symm) (Steps.refl _) (a := a) hlen rfl (by show 2 * 0 + _ ≤ _; omega) (hb fx.2.1 hd) (fun _ _ => ⟨rfl, eh, hc, hl⟩)
    obtain ⟨w2, q1⟩ := finN fx hS hk hZ hown hF hch hnw X' post
    exact (go _ _ _ v w2 q1).of fun t z => st'.trans z
  · obtain ⟨v, vm₁, B, -, X', hS', hgr, post, st'⟩ := S.specialBackS fx.1 hy1 hown (mv (s := X.s.setVm vm) hZ w1) (mv (s := X.s.setVm vm) hZ w2) (mv (s := X.s.setVm vm) hZ w4) hy pay (g := mkF X.m pc Ls (argsL.reverse ++ .ref a :: rest)) rfl (hsz.trans fx.2.2.1.symm) (Steps.refl _) (a := a) hlen rfl (by show 2 * 0 + _ ≤ _; omega) (hb fx.2.1 hd) (fun _ _ => ⟨rfl, eh, hc, hl⟩)
    obtain ⟨w2, q1⟩ := finW hwd fx hS hk hZ hown hF hch X' hS' (by rw [← eh]; exact hgr) post
    exact (go _ _ _ v w2 q1).of fun t z => st'.trans z
theorem Wk.callV (w : Wk G M R X vm T h k n) {pc q : Nat} {Ls : Array Slot} {st : List Value} {C : String} {y z : MethodName} {index W k1 n1 : Nat} {a : Addr} {argsL rest : List Value} {Q1 : Option Value → Heap → Prop} (hd : decode M.code pc = .ok (.invokevirtual index, 3)) (w1 : (Jvm.Cond.methodLink M.own index y).before G.a0 G.Z = true) (w2 : (Jvm.Cond.declares y).before G.a0 G.Z = true) (hnf : NotFace G.Z y) (w3 : (Jvm.Cond.selects C y z).before G.a0 G.Z = true) (w4 : (Jvm.Cond.instanceMethod z).before G.a0 G.Z = true) (hy : y.cls ≠ "java/lang/invoke/MethodHandle" ∧ y.cls ≠ "java/lang/invoke/VarHandle") (E : Exa G.Z h a C)
    (hst : st = argsL.reverse ++ .ref a :: rest) (hlen : ∀ sig, parseMethodDescriptor y.desc = some sig → argsL.length = sig.parameters.length) (hsz : Ls.size = M.mx) (hW : (rest.map fun v => v.category).sum ≤ W) (pay : Pay G R X z 3 W (.ref a :: argsL).toArray h k1 n1 Q1 vm) (hc : k + k1 ≤ R.cells) (hl : n + n1 ≤ R.slots) (hq : pc + 3 = q)
    (go : ∀ (vm' : Vm) (T' : State) (h' : Heap) (v : Option Value), Wk G M R X vm' T' h' (k + k1) (n + n1) → Q1 v h' → Go G R X Q (T'.setTop (mkF X.m q Ls (v.toList ++ rest)))) : Go G R X Q (T.setTop (mkF X.m pc Ls st)) := by
  subst hst hq
  obtain ⟨fx, k0, L, S, eh, hS, hk, hZ, hown, hF, ho, hch, hnw⟩ := w
  have hnf' : NotFace (X.s.setVm vm) y := fun r0 h0 => by
    have q0 : G.Z.methodNamed? y = some r0 := by
      have := State.methodNamed?_setVm (s := G.Z) (vm' := vm) hZ.alike (x := y)
      rw [← this]; exact h0
    obtain ⟨kr, g1, g2⟩ := hnf r0 q0
    obtain ⟨kr', g3, g4⟩ := hZ.alike.2.2 _ _ g1
    exact ⟨kr', g3, by rw [g4]; exact g2⟩
  obtain ⟨cB, kB, b1, b2, b3⟩ := isOf (s := X.s.setVm vm) hZ eh E
  rcases pay with pay | ⟨hwd, pay⟩
  · obtain ⟨v, vm₁, B, -, X', post, st'⟩ := S.virtualBack fx.1 hown (mv (s := X.s.setVm vm) hZ w1) (mv (s := X.s.setVm vm) hZ w2) hnf' (mv (s := X.s.setVm vm) hZ w3) (mv (s := X.s.setVm vm) hZ w4) hy pay b1 b3 (g := mkF X.m pc Ls (argsL.reverse ++ .ref a :: rest)) rfl (hsz.trans fx.2.2.1.symm) (Steps.refl _) hlen rfl (by show 2 * 0 + _ ≤ _; omega) (hb fx.2.1 hd) (fun _ _ => ⟨rfl, eh, hc, hl⟩)
    obtain ⟨w2, q1⟩ := finN fx hS hk hZ hown hF hch hnw X' post
    exact (go _ _ _ v w2 q1).of fun t z => st'.trans z
  · obtain ⟨v, vm₁, B, -, X', hS', hgr, post, st'⟩ := S.virtualBackS fx.1 hown (mv (s := X.s.setVm vm) hZ w1) (mv (s := X.s.setVm vm) hZ w2) hnf' (mv (s := X.s.setVm vm) hZ w3) (mv (s := X.s.setVm vm) hZ w4) hy pay b1 b3 (g := mkF X.m pc Ls (argsL.reverse ++ .ref a :: rest)) rfl (hsz.trans fx.2.2.1.symm) (Steps.refl _) hlen rfl (by show 2 * 0 + _ ≤ _; omega) (hb fx.2.1 hd) (fun _ _ => ⟨rfl, eh, hc, hl⟩)
    obtain ⟨w2, q1⟩ := finW hwd fx hS hk hZ hown hF hch X' hS' (by rw [← eh]; exact hgr) post
    exact (go _ _ _ v w2 q1).of fun t z => st'.trans z
theorem Wk.callI (w : Wk G M R X vm T h k n) {pc q : Nat} {Ls : Array Slot} {st : List Value} {C : String} {xi y : MethodName} {index count W k1 n1 : Nat} {a : Addr} {argsL rest : List Value} {Q1 : Option Value → Heap → Prop} (hd : decode M.code pc = .ok (.invokeinterface index count, 5)) (w1 : (Jvm.Cond.methodLink M.own index xi).before G.a0 G.Z = true) (w2 : (Jvm.Cond.declares xi).before G.a0 G.Z = true) (w3 : (Jvm.Cond.interfaceMethod xi.cls xi.cls xi.name xi.desc).before G.a0 G.Z = true) (w4 : (Jvm.Cond.selects C xi y).before G.a0 G.Z = true) (w5 : (Jvm.Cond.instanceMethod y).before G.a0 G.Z = true) (w6 : (Jvm.Cond.publicMethod y).before G.a0 G.Z = true) (w7 : (Jvm.Cond.unhidden C xi.name xi.desc).before G.a0 G.Z = true) (w8 : (Jvm.Cond.castable C xi.cls).before G.a0 G.Z = true) (hy : xi.cls ≠ "java/lang/invoke/MethodHandle" ∧ xi.cls ≠ "java/lang/invoke/VarHandle") (E : Exa G.Z h a C)
    (hst : st = argsL.reverse ++ .ref a :: rest) (hlen : ∀ sig, parseMethodDescriptor xi.desc = some sig → argsL.length = sig.parameters.length) (hsz : Ls.size = M.mx) (hW : (rest.map fun v => v.category).sum ≤ W) (pay : Pay G R X y 5 W (.ref a :: argsL).toArray h k1 n1 Q1 vm) (hc : k + k1 ≤ R.cells) (hl : n + n1 ≤ R.slots) (hq : pc + 5 = q)
    (go : ∀ (vm' : Vm) (T' : State) (h' : Heap) (v : Option Value), Wk G M R X vm' T' h' (k + k1) (n + n1) → Q1 v h' → Go G R X Q (T'.setTop (mkF X.m q Ls (v.toList ++ rest)))) : Go G R X Q (T.setTop (mkF X.m pc Ls st)) := by
  subst hst hq
  obtain ⟨fx, k0, L, S, eh, hS, hk, hZ, hown, hF, ho, hch, hnw⟩ := w
  obtain ⟨cB, kB, b1, b2, b3⟩ := isOf (s := X.s.setVm vm) hZ eh E
  rcases pay with pay | ⟨hwd, pay⟩
  · obtain ⟨v, vm₁, B, -, X', post, st'⟩ := S.interfaceBack fx.1 hown (mv (s := X.s.setVm vm) hZ w1) (mv (s := X.s.setVm vm) hZ w2) (mv (s := X.s.setVm vm) hZ w3 (by simp [Cond.onTables, Cond.keepsFace, Cond.keeps, Cond.steady, Cond.faceAtom]; exact hy)) (mv (s := X.s.setVm vm) hZ w4) (mv (s := X.s.setVm vm) hZ w5) (mv (s := X.s.setVm vm) hZ w6) (mv (s := X.s.setVm vm) hZ w7) (mv (s := X.s.setVm vm) hZ w8) hy pay b1 b2 b3 (g := mkF X.m pc Ls (argsL.reverse ++ .ref a :: rest)) rfl (hsz.trans fx.2.2.1.symm) (Steps.refl _) hlen rfl (by show 2 * 0 + _ ≤ _; omega) (hb fx.2.1 hd) (fun _ _ => ⟨rfl, eh, hc, hl⟩)
    obtain ⟨w2, q1⟩ := finN fx hS hk hZ hown hF hch hnw X' post
    exact (go _ _ _ v w2 q1).of fun t z => st'.trans z
  · obtain ⟨v, vm₁, B, -, X', hS', hgr, post, st'⟩ := S.interfaceBackS fx.1 hown (mv (s := X.s.setVm vm) hZ w1) (mv (s := X.s.setVm vm) hZ w2) (mv (s := X.s.setVm vm) hZ w3 (by simp [Cond.onTables, Cond.keepsFace, Cond.keeps, Cond.steady, Cond.faceAtom]; exact hy)) (mv (s := X.s.setVm vm) hZ w4) (mv (s := X.s.setVm vm) hZ w5) (mv (s := X.s.setVm vm) hZ w6) (mv (s := X.s.setVm vm) hZ w7) (mv (s := X.s.setVm vm) hZ w8) hy pay b1 b2 b3 (g := mkF X.m pc Ls (argsL.reverse ++ .ref a :: rest)) rfl (hsz.trans fx.2.2.1.symm) (Steps.refl _) hlen rfl (by show 2 * 0 + _ ≤ _; omega) (hb fx.2.1 hd) (fun _ _ => ⟨rfl, eh, hc, hl⟩)
    obtain ⟨w2, q1⟩ := finW hwd fx hS hk hZ hown hF hch X' hS' (by rw [← eh]; exact hgr) post
    exact (go _ _ _ v w2 q1).of fun t z => st'.trans z
theorem Con.pay {y : MethodName} {bytes : ByteArray} {maxL : Nat} {ret : Option FieldType} {rm : Room} {as : Array Value} {Q1 : Option Value → Heap → Prop} {len W : Nat} (H : Con G y bytes maxL ret [] rm as h Q1) (w : Wk G M R X vm T h k n) (wc : (Jvm.Cond.code y bytes maxL ret).before G.a0 G.Z = true) (wz : (Jvm.Cond.initialized y.cls).before G.a0 G.Z = true) (hf : rm.frames + 1 ≤ R.frames) (hl : W + (maxL + 11) + rm.locals ≤ R.locals) : Pay G R X y len W as h rm.cells rm.slots Q1 vm := by
  have hZ := w.wz
  have hEL := w.hEL
  have hch := w.ch
  cases hwd : G.wd with
  | false =>
    exact Or.inl (Back.of_free (bytes := bytes) (maxL := maxL) (ret := ret) (E := fun _ first o t L k n => k = rm.cells ∧ n = rm.slots ∧ first.heap.size ≤ t.heap.size ∧ ∃ v, o = .returned v ∧ (Q1 v t.heap ∧ Fr G.n0 L ∧ Old G.Z G.n0 t.heap)) H hf hl
      (fun m meth c A a Y hp => have hU : G.Z.Warmed39 A.U.vm := wtrans (s := X.s.setVm vm) hZ Y.warmed
        ⟨by show (Jvm.Cond.and _ .tt).before a A.U = true; rw [Cond.before_and, mv hU wc]; rfl, mv hU wc, mv hU wz, hp.2.2.1, hp.2.2.2⟩)
      (fun m meth c A a g mk Y hp => ⟨hp.1, wtrans (s := X.s.setVm vm) hZ Y.warmed, hp.2.1, fun b => absurd (hwd.symm.trans b) (by decide)⟩) (fun _ _ _ _ _ _ _ _ _ => trivial)
      (fun _ _ _ _ ⟨v, L, h1, h2, h3, h4⟩ => ⟨L, _, _, h4.2 hwd, rfl, rfl, (h4.1.2.2.2).2.1, v, h1, h2⟩)
      (fun m meth c A a g mk v t L k n Y hp _ _ ⟨e1, e2, e0, v', e3, e4⟩ => by
        cases e3; subst e1 e2
        refine ⟨L, ⟨e4.1, e4.2.1, e4.2.2, ?_, fun b => absurd (hwd.symm.trans b) (by decide)⟩, rfl, rfl, rfl⟩
        rw [← hp.2.1]; exact e0))
  | true =>
    refine Or.inr ⟨hwd, BackS.of_freeW (bytes := bytes) (maxL := maxL) (ret := ret) (E := fun _ first o t L k n => k = rm.cells ∧ n = rm.slots ∧ CHr G.Z G.EL first.vm first.heap t.vm t.heap ∧ ∃ v, o = .returned v ∧ (Q1 v t.heap ∧ Fr G.n0 L ∧ Old G.Z G.n0 t.heap)) H hf hl
      (fun m meth c A a Y hp => have hU : G.Z.Warmed39 A.U.vm := wtrans (s := X.s.setVm vm) hZ Y.warmed
        ⟨by show (Jvm.Cond.and _ .tt).before a A.U = true; rw [Cond.before_and, mv hU wc]; rfl, mv hU wc, mv hU wz, hp.2.2.1, hp.2.2.2⟩)
      (fun m meth c A a g mk Y hp => ⟨hp.1, wtrans (s := X.s.setVm vm) hZ Y.warmed, hp.2.1, fun b => (CHv.at Y hZ hEL (hch b).1).1⟩) (fun _ _ _ _ _ _ _ _ _ => trivial)
      (fun _ _ _ _ ⟨v, L, h1, h2, h3, h4⟩ => ⟨L, _, _, h4.1, rfl, rfl, h3 hwd, v, h1, h2⟩)
      (fun m meth c A a g mk v t L k n Y hp _ _ ⟨e1, e2, e0, v', e3, e4⟩ => by
        cases e3; subst e1 e2
        refine ⟨L, ⟨e4.1, e4.2.1, e4.2.2, fun b => (CHv.at Y hZ hEL (hch b).1).trans ?_⟩, rfl, rfl, rfl⟩
        rw [← hp.2.1]; exact e0)⟩
theorem Pay.pure {y : MethodName} {as : Array Value} {len W : Nat} {P : Option Value → Prop} (w : Wk G M R X vm T h k n) (H : Back G.l R X.p X.e X.below (X.s.setVm vm) X.args y len W (fun P a => a = as ∧ P.U.heap = h ∧ P.cells + 0 ≤ R.cells ∧ P.slots + 0 ≤ R.slots) (fun A _ v B => ∃ L, (P v ∧ L = [] ∧ B.U.heap = h) ∧ B.locs = A.locs ++ L ∧ B.cells = A.cells + 0 ∧ B.slots = A.slots + 0)) : Pay G R X y len W as h 0 0 (fun v h' => P v ∧ h = h') vm := by
  refine Or.inl (Back.mono H (fun P a hp => hp) (fun A a v B hp hq => ?_))
  obtain ⟨L, ⟨q1, rfl, q3⟩, r⟩ := hq
  exact ⟨[], ⟨⟨q1, q3.symm⟩, Fr.nil _, by rw [q3]; exact w.old, by rw [q3]; exact Nat.le_refl _, fun b => by rw [q3]; exact CHr.refl (w.ch b).1⟩, r⟩
theorem Pay.pureV {y : MethodName} {as : Array Value} {len W : Nat} {P : Value → Prop} (w : Wk G M R X vm T h k n) (H : Pay G R X y len W as h 0 0 (fun v h' => (∃ x, v = some x ∧ P x) ∧ h = h') vm) : Pay G R X y len W as h 0 0 (vQ fun x h' => P x ∧ h = h') vm := by
  have e : (vQ fun x h' => P x ∧ h = h') = (fun (v : Option Value) (h' : Heap) => (∃ x, v = some x ∧ P x) ∧ h = h') := by
    funext v h'
    apply propext
    exact ⟨fun ⟨x, a, b, c⟩ => ⟨⟨x, a, b⟩, c⟩, fun ⟨⟨x, a, b⟩, c⟩ => ⟨x, a, b, c⟩⟩
  rw [e]; exact H
theorem Con.intro {y : MethodName} {bytes : ByteArray} {maxL : Nat} {ret : Option FieldType} {ws : List Jvm.Cond} {rm : Room} {as : Array Value} {Ls : Array Slot} (hE : EW G.Z G.a0 G.EL) (ho : Old G.Z G.n0 h) (hpl : plainFor y = true) (hef : ∀ m, entryFrame m as maxL = mkF m 0 Ls [])
    (body : ∀ (X : Cx) (vm : Vm) (T : State), Wk G (y.cls, y.name, bytes, maxL, ret) rm X vm T h 0 0 → Go G rm X Q (T.setTop (mkF X.m 0 Ls []))) : Con G y bytes maxL ret ws rm as h Q := by
  refine MetFree.of_bodySF hpl hisR ?_
  intro p e s m args below meth c s₁ Bd hml0 hP hK
  obtain ⟨rfl, hZ, hh, hc⟩ := hP
  have X0 : Stand p G.l e rm s m args below meth c s₁ [] 0 0 := Stand.of_body Bd
  have e0 : s₁.heap = h := by rw [← hh, Bd.state]; rfl
  have w : Wk G (y.cls, y.name, bytes, maxL, ret) rm (p, e, s, m, args, below, meth, c) s.vm s₁ h 0 0 :=
    ⟨⟨Bd.exec, Bd.bytes, hml0, Bd.returns, Bd.notSynchronized, (name_of_methodNamed Bd.named Bd.method).1, hE⟩, 0, [], X0, e0, (State.WarmedH.refl s).since 0, Nat.zero_le _, hZ, findClass_of_methodNamed Bd.named, Fr.nil _, ho, fun b => by show CHr G.Z G.EL s.vm s.heap s.vm h; rw [hh]; exact CHr.refl (hc b), fun _ => rfl⟩
  obtain ⟨t, o, h1, h2, h3, h4⟩ := body _ _ _ w
  exact ⟨t, o, castTop (hef m) h1, h2, h3, h4⟩
theorem Wk.leave' (w : Wk G M R X vm T h k n) {v : Option Value} (hv : M.ret = none → v = none) (hk' : k ≤ R.cells) (hn' : n ≤ R.slots) (hQ : Q v h) {S0 : State} (f : ∀ fs, (∀ (f : JFrame) (acts : List Action), f.method = X.m → f.locked = none → f.entered = [] → (doReturn X.e (T.setTop f) acts v).1 = T.setFrames fs) → ∀ L, Stand X.p G.l X.e R (X.s.setVm vm) X.m X.args X.below X.meth X.c T L k n → Steps X.p.tables X.e X.below S0 (T.setFrames fs)) : Go G R X Q S0 := by
  have hEL := w.hEL
  obtain ⟨fx, k0, L, S, eh, hS, hk, hZ, hown, hF, ho, hch, hnw⟩ := w
  obtain ⟨fs, hr, hrun, hended, hW, hsame⟩ := S.leave (v := v) (fun z => hv (fx.2.2.2.1.symm.trans z)) fx.2.2.2.2.1
  obtain ⟨a, b, c⟩ := hS.ended (U := T.setFrames fs) hW (by show k0 ≤ T.heap.size; rw [eh]; exact hk) hsame
  refine ⟨T.setFrames fs, .returned v, f fs hr L S, hrun, hended, v, L, rfl, ⟨by show Q v T.heap; rw [eh]; exact hQ, hF, by show Old G.Z G.n0 T.heap; rw [eh]; exact ho⟩, fun z => ?_, ⟨⟨v, rfl⟩, a, b, c.mono hk' hn'⟩, fun z => ?_⟩
  · show CHr G.Z G.EL X.s.vm X.s.heap T.vm T.heap
    rw [eh]; exact (hch z).trans (CHv.at S hZ hEL (hch z).1)
  · have e := hnw z
    subst e
    exact ⟨⟨v, rfl⟩, hW, c.mono hk' hn'⟩
theorem Wk.retV (w : Wk G M R X vm T h k n) {pc : Nat} {Ls : Array Slot} (hd : decode M.code pc = .ok (.return_, 1)) (hret : M.ret = none) (hk' : k ≤ R.cells) (hn' : n ≤ R.slots) (hQ : Q none h) : Go G R X Q (T.setTop (mkF X.m pc Ls [])) := by
  have fx := w.1
  exact w.leave' (v := none) (fun _ => rfl) hk' hn' hQ fun fs hr L S => S.returnOut fx.1 (fx.2.2.2.1.trans hret) (hb fx.2.1 hd) hr
theorem Wk.ret (w : Wk G M R X vm T h k n) {pc : Nat} {Ls : Array Slot} {st : List Value} {v : Value} {t : FieldType} {i : Instr} (hd : decode M.code pc = .ok (i, 1)) (hret : M.ret = some t) (hn : narrow t v = v)
    (hi : (i = .ireturn ∧ (t = .int ∨ t = .boolean ∨ t = .byte ∨ t = .char ∨ t = .short) ∧ ∃ z, v = .int z) ∨ (i = .lreturn ∧ t = .long ∧ ∃ z, v = .long z) ∨ (i = .dreturn ∧ t = .double ∧ ∃ z, v = .double z) ∨ (i = .freturn ∧ t = .float ∧ ∃ z, v = .float z) ∨ (i = .areturn ∧ t.isReference = true ∧ v.isRef = true))
    (hk' : k ≤ R.cells) (hn' : n ≤ R.slots) (hQ : Q (some v) h) : Go G R X Q (T.setTop (mkF X.m pc Ls (v :: st))) := by
  have fx := w.1
  exact w.leave' (v := some v) (fun z => by rw [hret] at z; cases z) hk' hn' hQ fun fs hr L S => retOut S fx.1 (fx.2.2.2.1.trans hret) hn hi (hb fx.2.1 hd) hr
theorem Wk.retI (w : Wk G M R X vm T h k n) {pc : Nat} {Ls : Array Slot} {st : List Value} {z : Int32} (hd : decode M.code pc = .ok (.ireturn, 1)) (hret : M.ret = some .int) (hk' : k ≤ R.cells) (hn' : n ≤ R.slots) (hQ : Q (some (.int z)) h) : Go G R X Q (T.setTop (mkF X.m pc Ls (.int z :: st))) :=
  w.ret hd hret rfl (Or.inl ⟨rfl, Or.inl rfl, z, rfl⟩) hk' hn' hQ
theorem Wk.retZ (w : Wk G M R X vm T h k n) {pc : Nat} {Ls : Array Slot} {st : List Value} {z : Int32} {t : FieldType} (hd : decode M.code pc = .ok (.ireturn, 1)) (hret : M.ret = some t) (ht : t = .boolean ∨ t = .byte ∨ t = .char ∨ t = .short) (hn : narrow t (.int z) = .int z) (hk' : k ≤ R.cells) (hn' : n ≤ R.slots) (hQ : Q (some (.int z)) h) : Go G R X Q (T.setTop (mkF X.m pc Ls (.int z :: st))) :=
  w.ret hd hret hn (Or.inl ⟨rfl, Or.inr ht, z, rfl⟩) hk' hn' hQ
theorem Wk.retA (w : Wk G M R X vm T h k n) {pc : Nat} {Ls : Array Slot} {st : List Value} {v : Value} {t : FieldType} (hd : decode M.code pc = .ok (.areturn, 1)) (hret : M.ret = some t) (ht : t.isReference = true) (hv : v.isRef = true) (hk' : k ≤ R.cells) (hn' : n ≤ R.slots) (hQ : Q (some v) h) : Go G R X Q (T.setTop (mkF X.m pc Ls (v :: st))) :=
  w.ret hd hret (by cases t <;> first | (cases ht; done) | (rcases ref_cases hv with rfl | ⟨_, rfl⟩ <;> rfl)) (Or.inr (Or.inr (Or.inr (Or.inr ⟨rfl, ht, hv⟩)))) hk' hn' hQ
theorem Wk.retJ (w : Wk G M R X vm T h k n) {pc : Nat} {Ls : Array Slot} {st : List Value} {z : Int64} (hd : decode M.code pc = .ok (.lreturn, 1)) (hret : M.ret = some .long) (hk' : k ≤ R.cells) (hn' : n ≤ R.slots) (hQ : Q (some (.long z)) h) : Go G R X Q (T.setTop (mkF X.m pc Ls (.long z :: st))) :=
  w.ret hd hret rfl (Or.inr (Or.inl ⟨rfl, rfl, z, rfl⟩)) hk' hn' hQ
theorem Wk.ldcS (w : Wk G M R X vm T h k n) {pc q : Nat} {Ls : Array Slot} {st : List Value} {index sz : Nat} {text : String} {vs : List Value} {z : Int32} (hd : decode M.code pc = .ok (.ldc index, 2)) (hwd : G.wd = true) (w1 : (Jvm.Cond.stringLink M.own index text).before G.a0 G.Z = true) (wS : ∀ a ∈ Bundle.stringAtoms, a.before G.a0 G.Z = true) (hmem : (M.own, index) ∈ G.EL) (ht : (∀ c ∈ text.toList, c.toNat < 256) ∧ text.toList.map (fun c => Value.int (Jvm.Lit.byteI c.toNat.toUInt16)) = vs) (hz : ¬ z < 0) (hlz : z.toNatClampNeg = vs.length) (hn : 4 * text.toList.length ≤ sz) (hbig : sz ≤ 536870912) (hc : k + 2 ≤ R.cells) (hl : n + (sz + 4) ≤ R.slots) (hq : pc + 2 = q)
    (go : ∀ (vm' : Vm) (T' : State) (h' : Heap) (a b : Addr) (kb : ClassId), Wk G M R X vm' T' h' (k + 2) (n + (sz + 4)) → Ext h h' → CHr G.Z G.EL vm h vm' h' → Exa G.Z h' a "java/lang/String" → Fld G.Z h' a "java/lang/String" "coder" "B" (.int 0) → Fld G.Z h' a "java/lang/String" "value" "[B" (.ref b) → Arv G.Z h' b kb .byte z vs (.int 0) → Go G R X Q (T'.setTop (mkF X.m q Ls (.ref a :: st)))) : Go G R X Q (T.setTop (mkF X.m pc Ls st)) := by
  subst hq
  have hEL := w.hEL
  obtain ⟨fx, k0, L, S, eh, hS, hk, hZ, hown, hF, ho, hch, hnw⟩ := w
  obtain ⟨a, T', h', k1, b, kb, X', e', E, hS', hk', hZ', hown', A1, A2, A3, A4, -, -, hC, -, -, st'⟩ := ldcCH S fx.1 hZ hown w1 wS eh hS hk hEL hmem (hch hwd).1 ht hz hlz (g := mkF X.m pc Ls st) rfl (hb fx.2.1 hd) hn hbig hc hl
  exact (go T'.vm T' h' a b kb ⟨fx, k1, L, X', e', hS', hk', hZ', hown', hF, ho.ext E, fun z => (hch z).trans hC, fun z => absurd (z.symm.trans hwd) (by decide)⟩ E hC A1 A2 A3 A4).of st'
theorem Wk.ldcO (w : Wk G M R X vm T h k n) {pc q : Nat} {Ls : Array Slot} {st : List Value} {index sz : Nat} {text : String} (hd : decode M.code pc = .ok (.ldc index, 2)) (hwd : G.wd = true) (w1 : (Jvm.Cond.stringLink M.own index text).before G.a0 G.Z = true) (wS : ∀ a ∈ Bundle.stringAtoms, a.before G.a0 G.Z = true) (hn : 4 * text.toList.length ≤ sz) (hbig : sz ≤ 536870912) (hc : k + 2 ≤ R.cells) (hl : n + (sz + 4) ≤ R.slots) (hq : pc + 2 = q)
    (go : ∀ (vm' : Vm) (T' : State) (h' : Heap) (a : Addr), Wk G M R X vm' T' h' (k + 2) (n + (sz + 4)) → Ext h h' → CHr G.Z G.EL vm h vm' h' → Go G R X Q (T'.setTop (mkF X.m q Ls (.ref a :: st)))) : Go G R X Q (T.setTop (mkF X.m pc Ls st)) := by
  subst hq
  have hEL := w.hEL
  obtain ⟨fx, k0, L, S, eh, hS, hk, hZ, hown, hF, ho, hch, hnw⟩ := w
  obtain ⟨a, T', h', k1, X', e', E, hS', hk', hZ', hown', hC, -, st'⟩ := ldcOH S fx.1 hZ hown w1 wS eh hS hk hEL (hch hwd).1 (g := mkF X.m pc Ls st) rfl (hb fx.2.1 hd) hn hbig hc hl
  exact (go T'.vm T' h' a ⟨fx, k1, L, X', e', hS', hk', hZ', hown', hF, ho.ext E, fun z => (hch z).trans hC, fun z => absurd (z.symm.trans hwd) (by decide)⟩ E hC).of st'
end Lay
end Own
end Jvm.Pilot.@@N@@
namespace Jvm.Pilot.@@N@@
namespace Own
open Jvm Jvm.ClassFile Sem Op Lib Jvm.Free Jvm.Stand Jvm.LawKit Jvm.RoadKit
section Lay
variable {G : Gx} {M : Md} {R : Room} {X : Cx} {vm : Vm} {T : State} {h : Heap} {k n : Nat} {Q : Option Value → Heap → Prop}
theorem mvMN {Z s : State} {a0 args : Array Value} {own host : String} {y : MethodName} {index : Nat} (hZ : Z.Warmed39 s.vm) (w : (Jvm.Cond.methodLinkNest own index y host).before a0 Z = true) : (Jvm.Cond.methodLinkNest own index y host).before args s = true := (Cond.methodLinkNest_wide hZ w :)
theorem Wk.newRX (w : Wk G M R X vm T h k n) {pc q : Nat} {Ls : Array Slot} {st : List Value} {C : String} {index : Nat} {N : Int32} {ad : String} (cap : Nat) (hd : decode M.code pc = .ok (.anewarray index, 3)) (w1 : (Jvm.Cond.classLink M.own index C).before G.a0 G.Z = true) (w2 : (Jvm.Cond.arrayOver (.object C)).before G.a0 G.Z = true) (had : "[" ++ (FieldType.object C).toString = ad) (hN : ¬ N < 0) (hcap : N.toNatClampNeg ≤ cap) (hb8 : cap * 8 ≤ 536870912) (hc : k + 1 ≤ R.cells) (hl : n + cap ≤ R.slots) (hq : pc + 3 = q)
    (go : ∀ (T' : State) (h' : Heap) (b : Nat) (kc : ClassId), b = h.size → Wk G M R X vm T' h' (k + 1) (n + cap) → Ext h h' → Arv G.Z h' b kc (.object C) N [] .null → Ovr G.Z kc C → Exa G.Z h' b ad → Go G R X Q (T'.setTop (mkF X.m q Ls (.ref b :: st)))) : Go G R X Q (T.setTop (mkF X.m pc Ls (.int N :: st))) := by
  subst hq
  obtain ⟨fx, k0, L, S, eh, hS, hk, hZ, hown, hF, ho, hch, hnw⟩ := w
  obtain ⟨T', h', kc, X', e', E, A, Ea, O, st'⟩ := Jvm.RoadKit.newRE S fx.1 hZ hown w1 w2 eh (g := mkF X.m pc Ls (.int N :: st)) rfl (hb fx.2.1 hd) rfl hN (cap := cap) hcap hb8 hc hl had
  exact (go T' h' h.size kc rfl ⟨fx, k0, L, X', e', hS, Nat.le_trans hk E.1, hZ, hown, hF, ho.ext E, fun b => (hch b).trans (CHr.ext E (hch b).1), hnw⟩ E (Arv.new A hN) O Ea).of st'
theorem Wk.getSN (w : Wk G M R X vm T h k n) {pc q : Nat} {Ls : Array Slot} {st : List Value} {R0 O f d host : String} {index : Nat} {v : Value} (hd : decode M.code pc = .ok (.getstatic index, 3)) (w1 : (Jvm.Cond.fieldLinkNest M.own index R0 f d host).before G.a0 G.Z = true) (via : Via G.Z R0 O f d) (F : Sta G.Z G.Z.heap O f d v) (hq : pc + 3 = q)
    (go : ∀ T' : State, Wk G M R X vm T' h k n → Go G R X Q (T'.setTop (mkF X.m q Ls (v :: st)))) : Go G R X Q (T.setTop (mkF X.m pc Ls st)) := by
  subst hq
  have F' := w.sta F
  obtain ⟨fx, k0, L, S, eh, hS, hk, hZ, hown, r⟩ := w
  obtain ⟨T', X', e', st'⟩ := Jvm.RoadKit.getS2 (host := host) S fx.1 hZ hown (Or.inr w1) via eh F' (g := mkF X.m pc Ls st) rfl (hb fx.2.1 hd)
  exact (go T' ⟨fx, k0, L, X', e', hS, hk, hZ, hown, r⟩).of st'
theorem Wk.getFN (w : Wk G M R X vm T h k n) {pc q : Nat} {Ls : Array Slot} {st : List Value} {R0 O f d host : String} {index : Nat} {a : Addr} {v : Value} (hd : decode M.code pc = .ok (.getfield index, 3)) (w1 : (Jvm.Cond.fieldLinkNest M.own index R0 f d host).before G.a0 G.Z = true) (via : Via G.Z R0 O f d) (F : Fld G.Z h a O f d v) (hq : pc + 3 = q)
    (go : ∀ T' : State, Wk G M R X vm T' h k n → Go G R X Q (T'.setTop (mkF X.m q Ls (v :: st)))) : Go G R X Q (T.setTop (mkF X.m pc Ls (.ref a :: st))) := by
  subst hq
  obtain ⟨fx, k0, L, S, eh, hS, hk, hZ, hown, r⟩ := w
  obtain ⟨T', X', e', st'⟩ := Jvm.RoadKit.getF (host := host) S fx.1 hZ hown (Or.inr w1) via eh F (g := mkF X.m pc Ls (.ref a :: st)) rfl rfl (hb fx.2.1 hd)
  exact (go T' ⟨fx, k0, L, X', e', hS, hk, hZ, hown, r⟩).of st'
theorem Wk.callCN (w : Wk G M R X vm T h k n) {pc q : Nat} {Ls : Array Slot} {st : List Value} {y : MethodName} {host : String} {bytes : ByteArray} {maxL : Nat} {index W k1 n1 : Nat} {a : Addr} {argsL rest : List Value} {Q1 : Option Value → Heap → Prop} (hd : decode M.code pc = .ok (.invokespecial index, 3)) (hy1 : y.name = "<init>") (w1 : (Jvm.Cond.methodLinkNest M.own index y host).before G.a0 G.Z = true) (w2 : (Jvm.Cond.instanceMethod y).before G.a0 G.Z = true) (w4 : (Jvm.Cond.code y bytes maxL none).before G.a0 G.Z = true) (hy : y.cls ≠ "java/lang/invoke/MethodHandle" ∧ y.cls ≠ "java/lang/invoke/VarHandle")
    (hst : st = argsL.reverse ++ .ref a :: rest) (hlen : ∀ sig, parseMethodDescriptor y.desc = some sig → argsL.length = sig.parameters.length) (hsz : Ls.size = M.mx) (hW : (rest.map fun v => v.category).sum ≤ W) (pay : Pay G R X y 3 W (.ref a :: argsL).toArray h k1 n1 Q1 vm) (hc : k + k1 ≤ R.cells) (hl : n + n1 ≤ R.slots) (hq : pc + 3 = q)
    (go : ∀ (vm' : Vm) (T' : State) (h' : Heap) (v : Option Value), Wk G M R X vm' T' h' (k + k1) (n + n1) → Q1 v h' → Go G R X Q (T'.setTop (mkF X.m q Ls (v.toList ++ rest)))) : Go G R X Q (T.setTop (mkF X.m pc Ls st)) := by
  subst hst hq
  obtain ⟨fx, k0, L, S, eh, hS, hk, hZ, hown, hF, ho, hch, hnw⟩ := w
  rcases pay with pay | ⟨hwd, pay⟩
  · obtain ⟨v, vm₁, B, -, X', post, st'⟩ := S.specialBackNest fx.1 hy1 hown (mvMN (s := X.s.setVm vm) hZ w1) (mv (s := X.s.setVm vm) hZ w2) (mv (s := X.s.setVm vm) hZ w4) hy pay (g := mkF X.m pc Ls (argsL.reverse ++ .ref a :: rest)) rfl (hsz.trans fx.2.2.1.symm) (Steps.refl _) (a := a) hlen rfl (by show 2 * 0 + _ ≤ _; omega) (hb fx.2.1 hd) (fun _ _ => ⟨rfl, eh, hc, hl⟩)
    obtain ⟨w2, q1⟩ := finN fx hS hk hZ hown hF hch hnw X' post
    exact (go _ _ _ v w2 q1).of fun t z => st'.trans z
  · obtain ⟨v, vm₁, B, -, X', hS', hgr, post, st'⟩ := S.specialBackNestS fx.1 hy1 hown (mvMN (s := X.s.setVm vm) hZ w1) (mv (s := X.s.setVm vm) hZ w2) (mv (s := X.s.setVm vm) hZ w4) hy pay (g := mkF X.m pc Ls (argsL.reverse ++ .ref a :: rest)) rfl (hsz.trans fx.2.2.1.symm) (Steps.refl _) (a := a) hlen rfl (by show 2 * 0 + _ ≤ _; omega) (hb fx.2.1 hd) (fun _ _ => ⟨rfl, eh, hc, hl⟩)
    obtain ⟨w2, q1⟩ := finW hwd fx hS hk hZ hown hF hch X' hS' (by rw [← eh]; exact hgr) post
    exact (go _ _ _ v w2 q1).of fun t z => st'.trans z
theorem Wk.tswI (w : Wk G M R X vm T h k n) {pc q : Nat} {Ls : Array Slot} {st : List Value} {dflt low high : Int} {offs : Array Int} {len : Nat} {o : Int} {i : Int32} (hd : decode M.code pc = .ok (.tableswitch dflt low high offs, len)) (hin : ¬ (i.toInt < low ∨ i.toInt > high)) (hoff : offs[(i.toInt - low).toNat]? = some o) (ho : 0 ≤ (pc : Int) + o) (hq : ((pc : Int) + o).toNat = q) (go : Go G R X Q (T.setTop (mkF X.m q Ls st))) : Go G R X Q (T.setTop (mkF X.m pc Ls (.int i :: st))) :=
  go.of fun t r => XS.tswIn w.here w.hx rfl (pc0 := pc) rfl (hb w.by_ hd) rfl hin hoff ho hq r
theorem Wk.tswO (w : Wk G M R X vm T h k n) {pc q : Nat} {Ls : Array Slot} {st : List Value} {dflt low high : Int} {offs : Array Int} {len : Nat} {i : Int32} (hd : decode M.code pc = .ok (.tableswitch dflt low high offs, len)) (hout : i.toInt < low ∨ i.toInt > high) (ho : 0 ≤ (pc : Int) + dflt) (hq : ((pc : Int) + dflt).toNat = q) (go : Go G R X Q (T.setTop (mkF X.m q Ls st))) : Go G R X Q (T.setTop (mkF X.m pc Ls (.int i :: st))) :=
  go.of fun t r => XS.tswOut w.here w.hx rfl (pc0 := pc) rfl (hb w.by_ hd) rfl hout ho hq r
end Lay
end Own
end Jvm.Pilot.@@N@@

namespace Jvm.Pilot.@@N@@
namespace Own
open Jvm Jvm.ClassFile Sem Op Lib Jvm.Free Jvm.Stand Jvm.LawKit Jvm.RoadKit
def StrAt (Z : State) (h : Heap) (a : Addr) (cd : Int32) (cs : List Int32) : Prop := ∃ (t : Addr) (kb : ClassId) (N : Int32) (vs : List Value), Exa Z h a "java/lang/String" ∧ Fld Z h a "java/lang/String" "value" "[B" (.ref t) ∧ Fld Z h a "java/lang/String" "coder" "B" (.int cd) ∧ Arv Z h t kb .byte N vs (.int 0) ∧ StrChars.Road.CodA cs cd N vs ∧ (∀ c ∈ cs, ¬ c < 0 ∧ ¬ (65535 : Int32) < c) ∧ cs.length ≤ 4000
section
variable {Z : State} {h h' : Heap} {a : Addr} {cd : Int32} {cs : List Int32}
theorem StrAt.ext (F : StrAt Z h a cd cs) (E : Ext h h') : StrAt Z h' a cd cs := by
  obtain ⟨t, kb, N, vs, h1, h2, h3, h4, r⟩ := F; exact ⟨t, kb, N, vs, h1.ext E, h2.ext E, h3.ext E, h4.ext E, r⟩
theorem StrAt.exa (F : StrAt Z h a cd cs) : Exa Z h a "java/lang/String" := by obtain ⟨t, kb, N, vs, h1, -⟩ := F; exact h1
theorem StrAt.lt (F : StrAt Z h a cd cs) : a < h.size := F.exa.lt
theorem up_ (cs : List Int32) (h : ∀ c ∈ cs, ¬ c < 0 ∧ ¬ (255 : Int32) < c) : ∀ c ∈ cs, ¬ c < 0 ∧ ¬ (65535 : Int32) < c := fun c hc => ⟨(h c hc).1, fun q => (h c hc).2 (by rw [Int32.lt_iff_toInt_lt] at q ⊢; have e1 : (65535 : Int32).toInt = 65535 := rfl; have e2 : (255 : Int32).toInt = 255 := rfl; omega)⟩
theorem and255 (x : Int32) : ¬ nar .char ((x &&& (255 : Int32)).toUInt32.toUInt16.toUInt32.toInt32) < 0 ∧ ¬ (255 : Int32) < nar .char ((x &&& (255 : Int32)).toUInt32.toUInt16.toUInt32.toInt32) := by
  have t : ∀ k : Fin 256, ¬ nar .char ((Int32.ofNat k.val).toUInt32.toUInt16.toUInt32.toInt32) < 0 ∧ ¬ (255 : Int32) < nar .char ((Int32.ofNat k.val).toUInt32.toUInt16.toUInt32.toInt32) := by decide +kernel
  have h : (x &&& 255).toBitVec.toNat < 256 := by
    simp only [Int32.toBitVec_and, BitVec.toNat_and]
    exact Nat.lt_succ_of_le Nat.and_le_right
  have e : (x &&& 255) = Int32.ofNat (x &&& 255).toBitVec.toNat := by
    apply Int32.toBitVec_inj.mp
    show _ = BitVec.ofNat 32 _
    rw [BitVec.ofNat_toNat]; simp
  rw [e]
  exact t ⟨_, h⟩
def Lat (c : Int32) : Prop := ¬ c < 0 ∧ ¬ (255 : Int32) < c
theorem lat_mask (x : Int32) : Lat (nar .char ((x &&& (255 : Int32)).toUInt32.toUInt16.toUInt32.toInt32)) := and255 x
theorem lat0 : ∀ c ∈ ([] : List Int32), ¬ c < 0 ∧ ¬ (255 : Int32) < c := fun _ q => nomatch q
theorem latS {c : Int32} {cs : List Int32} (a : Lat c) (r : ∀ c ∈ cs, ¬ c < 0 ∧ ¬ (255 : Int32) < c) : ∀ d ∈ c :: cs, ¬ d < 0 ∧ ¬ (255 : Int32) < d := fun d hd => by
  rcases List.mem_cons.mp hd with rfl | hd
  · exact a
  · exact r d hd
end
section
variable {G : Gx} {M : Md} {R : Room} {X : Cx} {vm : Vm} {T : State} {h : Heap} {k n : Nat} {Q : Option Value → Heap → Prop}
abbrev strInit : MethodName := ⟨"java/lang/String", "<init>", "([C)V"⟩
theorem pay_newStr (w : Wk G M R X vm T h k n) (hws : ∀ d ∈ StrChars.Road.words, d.before G.a0 G.Z = true) (wi : (Jvm.Cond.instantiable "java/lang/String" 4).before G.a0 G.Z = true) (hcz : ∃ z : Int32, ¬ z = 0 ∧ Sta G.Z G.Z.heap "java/lang/String" "COMPACT_STRINGS" "Z" (.int z))
    {x b : Addr} {kC : ClassId} {cs : List Int32} {d : Value} {N : Int32} {nn W : Nat} (h0 : G.n0 ≤ x) (E : Exa G.Z h x "java/lang/String") (V : Fld G.Z h x "java/lang/String" "value" "[B" .null) (C : Fld G.Z h x "java/lang/String" "coder" "B" (.int 0)) (K : Arv G.Z h b kC .char N (cs.map Value.int) d) (hn : cs.length = nn) (hN : N = Int32.ofNat nn) (l0 : 0 < nn) (l2 : nn ≤ 4000) (hp : ∀ c ∈ cs, ¬ c < 0 ∧ ¬ (255 : Int32) < c) (hfr : 4 ≤ R.frames) (hlo : W + 65 ≤ R.locals) :
    Pay G R X strInit 3 W #[.ref x, .ref b] h 1 nn (nQ fun h' => Keep h h' [x] ∧ StrAt G.Z h' x 0 cs) vm := by
  obtain ⟨z, hz, S⟩ := hcz
  refine Or.inl (Back.mono (StrChars.Road.backV (s := X.s.setVm vm) w.wz hws wi (cs := cs) (n := nn) h0 w.n0le E V C K (w.sta S) hz hn hN l0 l2 hp rfl hfr hlo) (fun P a hp => hp) (fun P a v B _ hq => ?_))
  obtain ⟨L, ⟨q1, q2, q3, q4, q5, t, kb, u1, u2, u3, q6, q7⟩, r⟩ := hq
  exact ⟨L, ⟨⟨q1, q3, t, kb, N, _, q4, q6, q5, q7, hN ▸ StrChars.Road.codOf hn (fun c hc => (hp c hc).2), up_ cs hp, by omega⟩, q2, w.old.keep q3 (all1 h0), q3.1, fun b => CHr.keep q3 (all1 (blank_safe w.wz.alike E V)) (w.ch b).1⟩, r⟩
end

section
variable {G : Gx} {M : Md} {R : Room} {X : Cx} {vm : Vm} {T : State} {h : Heap} {k n : Nat} {Q : Option Value → Heap → Prop}
abbrev strLength : MethodName := ⟨"java/lang/String", "length", "()I"⟩
theorem pay_len (w : Wk G M R X vm T h k n) (hws : ∀ d ∈ StrChars.Road.wordsLen, d.before G.a0 G.Z = true) (wi : (Jvm.Cond.instantiable "java/lang/String" 4).before G.a0 G.Z = true) (hcz : ∃ z : Int32, ¬ z = 0 ∧ Sta G.Z G.Z.heap "java/lang/String" "COMPACT_STRINGS" "Z" (.int z))
    {x : Addr} {cs : List Int32} {cd : Int32} {W : Nat} (A : StrAt G.Z h x cd cs) (hfr : 2 ≤ R.frames) (hlo : W + 25 ≤ R.locals) :
    Pay G R X strLength 3 W #[.ref x] h 0 0 (vQ fun v h' => (v = .int (Int32.ofNat cs.length)) ∧ h = h') vm := by
  obtain ⟨z, hz, S⟩ := hcz
  obtain ⟨t, kb, N, vs, a1, a2, a3, a4, a5, a6, a7⟩ := A
  refine Pay.pureV w (Pay.pure w (Back.mono (StrChars.Road.lenW (s := X.s.setVm vm) w.wz hws wi a1 a2 a3 a4 a5 a6 (w.sta S) hz a7 hfr hlo) (fun P a hp => hp) (fun P a v B _ hq => ?_)))
  obtain ⟨L, ⟨q1, q2⟩, r⟩ := hq
  exact ⟨L, ⟨⟨_, q1, rfl⟩, q2⟩, r⟩
end

section
variable {G : Gx} {M : Md} {R : Room} {X : Cx} {vm : Vm} {T : State} {h : Heap} {k n : Nat} {Q : Option Value → Heap → Prop}
abbrev strIsEmpty : MethodName := ⟨"java/lang/String", "isEmpty", "()Z"⟩
theorem pay_emp (w : Wk G M R X vm T h k n) (hws : ∀ d ∈ StrChars.Road.wordsEmp, d.before G.a0 G.Z = true) (wi : (Jvm.Cond.instantiable "java/lang/String" 4).before G.a0 G.Z = true)
    {x : Addr} {cs : List Int32} {cd : Int32} {W : Nat} (A : StrAt G.Z h x cd cs) (hfr : 1 ≤ R.frames) (hlo : W + 12 ≤ R.locals) :
    Pay G R X strIsEmpty 3 W #[.ref x] h 0 0 (vQ fun v h' => (v = .int (if cs.length = 0 then 1 else 0)) ∧ h = h') vm := by
  obtain ⟨t, kb, N, vs, a1, a2, a3, a4, a5, a6, a7⟩ := A
  refine Pay.pureV w (Pay.pure w (Back.mono (StrChars.Road.empW (s := X.s.setVm vm) w.wz hws wi a1 a2 a3 a4 a5 a6 a7 hfr hlo) (fun P a hp => hp) (fun P a v B _ hq => ?_)))
  obtain ⟨L, ⟨q1, q2⟩, r⟩ := hq
  exact ⟨L, ⟨⟨_, q1, rfl⟩, q2⟩, r⟩
end

section
variable {G : Gx} {M : Md} {R : Room} {X : Cx} {vm : Vm} {T : State} {h : Heap} {k n : Nat} {Q : Option Value → Heap → Prop}
abbrev strCharAt : MethodName := ⟨"java/lang/String", "charAt", "(I)C"⟩
theorem pay_chr (w : Wk G M R X vm T h k n) (hws : ∀ d ∈ StrChars.Road.wordsChN, d.before G.a0 G.Z = true) (wi : (Jvm.Cond.instantiable "java/lang/String" 4).before G.a0 G.Z = true) (hcz : ∃ z : Int32, ¬ z = 0 ∧ Sta G.Z G.Z.heap "java/lang/String" "COMPACT_STRINGS" "Z" (.int z)) (hfm : ∃ fm : Value, fm.isRef = true ∧ Sta G.Z G.Z.heap "jdk/internal/util/Preconditions" "SIOOBE_FORMATTER" "Ljava/util/function/BiFunction;" fm)
    {x : Addr} {cs : List Int32} {W : Nat} (A : StrAt G.Z h x 0 cs) (i : Nat) {j : Int32} (hi : i < cs.length) (hj : j = Int32.ofNat i) (hfr : 4 ≤ R.frames) (hlo : W + 53 ≤ R.locals) :
    Pay G R X strCharAt 3 W #[.ref x, .int j] h 0 0 (vQ fun v h' => (v = .int (cs.getD i 0)) ∧ h = h') vm := by
  obtain ⟨z, hz, S⟩ := hcz
  obtain ⟨fm, hr, F⟩ := hfm
  obtain ⟨t, kb, N, vs, a1, a2, a3, a4, a5, a6, a7⟩ := A
  refine Pay.pureV w (Pay.pure w (Back.mono (StrChars.Road.chN (s := X.s.setVm vm) w.wz hws wi a1 a2 a3 a4 a5 a6 (w.sta S) hz (w.sta F) hr a7 hi hj hfr hlo) (fun P a hp => hp) (fun P a v B _ hq => ?_)))
  obtain ⟨L, ⟨q1, q2⟩, r⟩ := hq
  exact ⟨L, ⟨⟨_, q1, rfl⟩, q2⟩, r⟩
end

section SafeLen
theorem safe_len {Z : State} {a0 : Array Value} {EL : List (String × Nat)} {vm : Vm} {h : Heap} {x : Addr} {kc : ClassId} {N : Int32} {vs : List Value} {dv : Value} (hal : Z.vm.Alike vm) (hE : EW Z a0 EL) (A : Arv Z h x kc .byte N vs dv)
    (hN : ∀ p ∈ EL, ∀ text : String, (Jvm.Cond.stringLink p.1 p.2 text).before a0 Z = true → text.toList.length ≠ N.toNatClampNeg) : Safe Z EL vm h x := fun B => by
  obtain ⟨cl, ⟨A1, ⟨-, kA, hkA, compA, hkindA⟩, -⟩, -, sz, -⟩ := A
  obtain ⟨kA', hkA', ekA⟩ := hal.2.2 _ _ hkA
  obtain ⟨p, hp, u, a, hb, q, -, F, rfl | rfl⟩ := B
  · cases (show h[q.sa]? = some q.sC from F.ha).symm.trans A1
    obtain ⟨cS, ⟨-, -, e⟩, ⟨kS, g1, g2, -⟩, -⟩ := F
    subst e
    cases (show vm.classes[q.sC.cls]? = some kS from g1).symm.trans hkA'
    rw [ekA] at g2
    cases hkindA.symm.trans g2
  · cases (show h[q.sd]? = some q.SA from F.hd).symm.trans A1
    obtain ⟨cS, -, -, -, hbyt⟩ := F
    obtain ⟨text, w, ht⟩ := hE p hp
    obtain ⟨c, k, cf, i, b1, b2, b3, b4, b5, -⟩ := hb
    rw [hal.findClass] at b1
    obtain ⟨k0, cf0, i0, units, c1, c2, c3, c4, -, c5, -⟩ := Cond.stringLink_spec b1 w
    obtain ⟨k', d1, d2⟩ := hal.2.2 _ _ c1
    cases d1.symm.trans b2
    have e1 : cf0 = cf := by
      have : k.cf = k0.cf := by rw [d2]
      rw [b3, c2] at this; exact (Option.some.inj this).symm
    subst e1
    cases b4.symm.trans c3
    cases b5.symm.trans c4
    have hlat := Jvm.ClassFile.lat_of_text c5 ht
    refine hN p hp text w ?_
    rw [← sz, hbyt, Jvm.Free.SBG.stringBytes_lat hlat, Array.size_map]
    have := congrArg List.length (Jvm.ClassFile.units_of_text c5 ht)
    simpa using this.symm
end SafeLen

section SBx
variable {G : Gx} {M : Md} {R : Room} {X : Cx} {vm : Vm} {T : State} {h : Heap} {k n : Nat} {Q : Option Value → Heap → Prop}
theorem Wk.sfL (w : Wk G M R X vm T h k n) {x : Addr} {kc : ClassId} {N : Int32} {vs : List Value} {dv : Value} (A : Arv G.Z h x kc .byte N vs dv) (hN : ∀ p ∈ G.EL, ∀ text : String, (Jvm.Cond.stringLink p.1 p.2 text).before G.a0 G.Z = true → text.toList.length ≠ N.toNatClampNeg) : G.wd = true → Safe G.Z G.EL vm h x := fun _ => safe_len w.wz.alike w.hEL A hN
theorem sl_uniq {Z : State} {a0 : Array Value} {o t1 t2 : String} {i : Nat} (h1 : (Jvm.Cond.stringLink o i t1).before a0 Z = true) (h2 : (Jvm.Cond.stringLink o i t2).before a0 Z = true) : t1 = t2 := by
  cases hc : Z.vm.findClass o with
  | none => simp [Cond.before, Cond.holds, Cond.value, hc] at h1
  | some c =>
    obtain ⟨k0, cf0, i0, u0, c1, c2, c3, c4, c5, -⟩ := Cond.stringLink_spec hc h1
    obtain ⟨k1, cf1, i1, u1, d1, d2, d3, d4, d5, -⟩ := Cond.stringLink_spec hc h2
    cases c1.symm.trans d1
    cases c2.symm.trans d2
    have := c5.symm.trans d5
    injection this with e
    injection e
theorem Wk.acopy (w : Wk G M R X vm T h k n) {pc q index W : Nat} {Ls : Array Slot} {rest : List Value} {a b : Addr} {ka kb : ClassId} {ty : FieldType} {z z' sp dp nn : Int32} {vs vd us : List Value} {dv dd : Value} (hd : decode M.code pc = .ok (.invokestatic index, 3))
    (w1 : (Jvm.Cond.methodLink M.own index Jvm.Stand.acN).before G.a0 G.Z = true) (w2 : (Jvm.Cond.native Jvm.Stand.acN).before G.a0 G.Z = true) (w3 : (Jvm.Cond.static Jvm.Stand.acN).before G.a0 G.Z = true) (w4 : (Jvm.Cond.initialized "java/lang/System").before G.a0 G.Z = true) (A : Arv G.Z h a ka ty z vs dv) (B : Arv G.Z h b kb ty z' vd dd) (hr : refKind ty = false)
    (h1 : ¬ sp < 0) (h2 : ¬ dp < 0) (h3 : ¬ nn < 0) (h4 : sp.toNatClampNeg + nn.toNatClampNeg ≤ z.toNatClampNeg) (h5 : dp.toNatClampNeg + nn.toNatClampNeg ≤ z'.toNatClampNeg) (hus : us = (List.range nn.toNatClampNeg).map fun i => vs.getD (sp.toNatClampNeg + i) dv) (hl : dp.toNatClampNeg + nn.toNatClampNeg ≤ vd.length) (ge : G.n0 ≤ b) (sf : G.wd = true → Safe G.Z G.EL vm h b)
    (hsz : Ls.size = M.mx) (hf : 1 ≤ R.frames) (hW : (rest.map fun v => v.category).sum ≤ W) (hlo : W + (nativeFrameWords "java/lang/System" "arraycopy" 5 + 11) ≤ R.locals) (hq : pc + 3 = q)
    (go : ∀ (T' : State) (h' : Heap), Wk G M R X vm T' h' k n → Keep h h' [b] → Arv G.Z h' b kb ty z' (vd.take dp.toNatClampNeg ++ us ++ vd.drop (dp.toNatClampNeg + nn.toNatClampNeg)) dd → Go G R X Q (T'.setTop (mkF X.m q Ls rest))) : Go G R X Q (T.setTop (mkF X.m pc Ls (.int nn :: .int dp :: .ref b :: .int sp :: .ref a :: rest))) := by
  subst hq
  obtain ⟨fx, k0, L, S, eh, hS, hk, hZ, hown, hF, ho, hch, hnw⟩ := w
  obtain ⟨T', h', L', X', e', F', K, A', st'⟩ := Jvm.RoadKit.cpA S fx.1 hZ hown w1 w2 w3 w4 eh A B (Or.inl ⟨rfl, hr⟩) h1 h2 h3 h4 h5 hus hl hF ge (g := mkF X.m pc Ls (.int nn :: .int dp :: .ref b :: .int sp :: .ref a :: rest)) rfl (hsz.trans fx.2.2.1.symm) rfl (hb fx.2.1 hd) hf (W := W) (by show 2 * 0 + _ ≤ _; omega) hlo
  exact (go T' h' ⟨fx, k0, L', X', e', hS, Nat.le_trans hk K.1, hZ, hown, F', ho.keep K (all1 ge), fun b' => (hch b').trans (CHr.keep K (all1 (sf b')) (hch b').1), hnw⟩ K A').of st'
theorem same_of_named {Z : State} {a0 : Array Value} {y y2 : MethodName} {C : String} {bytes : ByteArray} {maxL : Nat} {ret : Option FieldType} (wc : (Jvm.Cond.code y bytes maxL ret).before a0 Z = true) (ws : (Jvm.Cond.selects C y2 y2).before a0 Z = true) (hc : y2.cls = y.cls) (hy : y.cls ≠ "java/lang/invoke/MethodHandle" ∧ y.cls ≠ "java/lang/invoke/VarHandle") : (Jvm.Cond.sameMethod y.cls y.cls y.name y.desc).before a0 Z = true := by
  obtain ⟨m, hm⟩ := Cond.code_named wc
  have h1 := State.methodFound?_of_named hm hy
  obtain ⟨c2, r2, m2, q1, q2, q3, q4, kP, hkP, hkPi⟩ := Cond.selects_spec ws
  have f1 := findClass_of_methodNamed hm
  have f2 := findClass_of_methodNamed q3
  rw [hc] at f2
  have e : m2.cls = m.cls := Option.some.inj (f2.symm.trans f1)
  rw [e] at hkP
  simp [Cond.before, Cond.holds, Cond.value, h1, hm, f1, hkP, hkPi]
theorem Wk.callSup (w : Wk G M R X vm T h k n) {pc q : Nat} {Ls : Array Slot} {st : List Value} {C : String} {y : MethodName} {bytes : ByteArray} {maxL : Nat} {ret : Option FieldType} {index W k1 n1 : Nat} {a : Addr} {argsL rest : List Value} {Q1 : Option Value → Heap → Prop} (hd : decode M.code pc = .ok (.invokespecial index, 3)) (w1 : (Jvm.Cond.methodLink M.own index y).before G.a0 G.Z = true) (w2 : (Jvm.Cond.sameMethod y.cls y.cls y.name y.desc).before G.a0 G.Z = true) (w3 : (Jvm.Cond.instanceMethod y).before G.a0 G.Z = true) (w4 : (Jvm.Cond.superclass M.own y.cls).before G.a0 G.Z = true) (hn : y.name ≠ "<init>") (wc : (Jvm.Cond.code y bytes maxL ret).before G.a0 G.Z = true) (F : Ins G.Z h a C true)
    (hst : st = argsL.reverse ++ .ref a :: rest) (hlen : ∀ sig, parseMethodDescriptor y.desc = some sig → argsL.length = sig.parameters.length) (hsz : Ls.size = M.mx) (hW : (rest.map fun v => v.category).sum ≤ W) (pay : Pay G R X y 3 W (.ref a :: argsL).toArray h k1 n1 Q1 vm) (hc : k + k1 ≤ R.cells) (hl : n + n1 ≤ R.slots) (hq : pc + 3 = q)
    (go : ∀ (vm' : Vm) (T' : State) (h' : Heap) (v : Option Value), Wk G M R X vm' T' h' (k + k1) (n + n1) → Q1 v h' → Go G R X Q (T'.setTop (mkF X.m q Ls (v.toList ++ rest)))) : Go G R X Q (T.setTop (mkF X.m pc Ls st)) := by
  subst hst hq
  obtain ⟨fx, k0, L, S, eh, hS, hk, hZ, hown, hF, ho, hch, hnw⟩ := w
  rcases pay with pay | ⟨hwd, pay⟩
  · obtain ⟨v, vm₁, B, -, X', post, st'⟩ := Jvm.RoadKit.superBack S fx.1 hZ hown w1 w2 w3 w4 hn pay eh F (g := mkF X.m pc Ls (argsL.reverse ++ .ref a :: rest)) rfl (hsz.trans fx.2.2.1.symm) wc hlen rfl (by show 2 * 0 + _ ≤ _; omega) (hb fx.2.1 hd) (fun _ _ => ⟨rfl, eh, hc, hl⟩)
    obtain ⟨w2, q1⟩ := finN fx hS hk hZ hown hF hch hnw X' post
    exact (go _ _ _ v w2 q1).of fun t z => st'.trans z
  · obtain ⟨v, vm₁, B, -, X', hS', hgr, post, st'⟩ := Jvm.RoadKit.superBackS S fx.1 hZ hown w1 w2 w3 w4 hn pay eh F (g := mkF X.m pc Ls (argsL.reverse ++ .ref a :: rest)) rfl (hsz.trans fx.2.2.1.symm) wc hlen rfl (by show 2 * 0 + _ ≤ _; omega) (hb fx.2.1 hd) (fun _ _ => ⟨rfl, eh, hc, hl⟩)
    obtain ⟨w2, q1⟩ := finW hwd fx hS hk hZ hown hF hch X' hS' (by rw [← eh]; exact hgr) post
    exact (go _ _ _ v w2 q1).of fun t z => st'.trans z
end SBx

section Bld
variable {G : Gx} {M : Md} {R : Room} {X : Cx} {vm : Vm} {T : State} {h : Heap} {k n : Nat} {Q : Option Value → Heap → Prop}
theorem notFace_of_cls {Z : State} {a0 : Array Value} {y y2 : MethodName} {C : String} (ws : (Jvm.Cond.selects C y2 y2).before a0 Z = true) (hc : y2.cls = y.cls) : NotFace Z y := fun r0 h0 => by
  obtain ⟨c2, r2, m2, q1, q2, q3, q4, kP, hkP, hkPi⟩ := Cond.selects_spec ws
  have f1 := findClass_of_methodNamed h0
  have f2 := findClass_of_methodNamed q3
  rw [hc] at f2
  have e : m2.cls = r0.cls := Option.some.inj (f2.symm.trans f1)
  exact ⟨kP, e ▸ hkP, hkPi⟩
/-- invokevirtual of a private method of a class that need not be instantiable -/
theorem Wk.callPs (w : Wk G M R X vm T h k n) {pc q : Nat} {Ls : Array Slot} {st : List Value} {C C0 : String} {y : MethodName} {bytes : ByteArray} {maxL : Nat} {ret : Option FieldType} {index W k1 n1 : Nat} {a : Addr} {argsL rest : List Value} {Q1 : Option Value → Heap → Prop} (hd : decode M.code pc = .ok (.invokevirtual index, 3)) (w1 : (Jvm.Cond.methodLink M.own index y).before G.a0 G.Z = true) (w2 : (Jvm.Cond.instanceMethod y).before G.a0 G.Z = true) (w3 : (Jvm.Cond.privateMethod y).before G.a0 G.Z = true) (w4 : (Jvm.Cond.code y bytes maxL ret).before G.a0 G.Z = true) (w5 : (Jvm.Cond.selects C0 y y).before G.a0 G.Z = true) (hy : y.cls ≠ "java/lang/invoke/MethodHandle" ∧ y.cls ≠ "java/lang/invoke/VarHandle") (E : Exa G.Z h a C)
    (hst : st = argsL.reverse ++ .ref a :: rest) (hlen : ∀ sig, parseMethodDescriptor y.desc = some sig → argsL.length = sig.parameters.length) (hsz : Ls.size = M.mx) (hW : (rest.map fun v => v.category).sum ≤ W) (pay : Pay G R X y 3 W (.ref a :: argsL).toArray h k1 n1 Q1 vm) (hc : k + k1 ≤ R.cells) (hl : n + n1 ≤ R.slots) (hq : pc + 3 = q)
    (go : ∀ (vm' : Vm) (T' : State) (h' : Heap) (v : Option Value), Wk G M R X vm' T' h' (k + k1) (n + n1) → Q1 v h' → Go G R X Q (T'.setTop (mkF X.m q Ls (v.toList ++ rest)))) : Go G R X Q (T.setTop (mkF X.m pc Ls st)) := by
  subst hst hq
  obtain ⟨fx, k0, L, S, eh, hS, hk, hZ, hown, hF, ho, hch, hnw⟩ := w
  obtain ⟨c2, r2, m2, q1, q2, q3, q4, kP, hkP, hkPi⟩ := Cond.selects_spec (mv (s := X.s.setVm vm) (args := X.args) hZ w5)
  have hpriv := Cond.privateMethod_at (mvP (s := X.s.setVm vm) (args := X.args) hZ w3)
  have hinst := mv (s := X.s.setVm vm) (args := X.args) hZ w2
  have hsel := Jvm.Stand.selects_self_of_private (findClass_of_methodNamed q3) hkP hkPi hpriv hinst hy
  obtain ⟨cell, c1, c2⟩ := E.cell
  rcases pay with pay | ⟨hwd, pay⟩
  · obtain ⟨v, vm₁, B, -, X', post, st'⟩ := S.privateBack fx.1 hown (mv (s := X.s.setVm vm) hZ w1) hinst hsel hpriv (mv (s := X.s.setVm vm) hZ w4) hy pay (g := mkF X.m pc Ls (argsL.reverse ++ .ref a :: rest)) rfl (hsz.trans fx.2.2.1.symm) (Steps.refl _) (a := a) (cell := cell) (by rw [eh]; exact c1) c2 hlen rfl (by show 2 * 0 + _ ≤ _; omega) (hb fx.2.1 hd) (fun _ _ => ⟨rfl, eh, hc, hl⟩)
    obtain ⟨w2, q1⟩ := finN fx hS hk hZ hown hF hch hnw X' post
    exact (go _ _ _ v w2 q1).of fun t z => st'.trans z
  · obtain ⟨v, vm₁, B, -, X', hS', hgr, post, st'⟩ := S.privateBackS fx.1 hown (mv (s := X.s.setVm vm) hZ w1) hinst hsel hpriv (mv (s := X.s.setVm vm) hZ w4) hy pay (g := mkF X.m pc Ls (argsL.reverse ++ .ref a :: rest)) rfl (hsz.trans fx.2.2.1.symm) (Steps.refl _) (a := a) (cell := cell) (by rw [eh]; exact c1) c2 hlen rfl (by show 2 * 0 + _ ≤ _; omega) (hb fx.2.1 hd) (fun _ _ => ⟨rfl, eh, hc, hl⟩)
    obtain ⟨w2, q1⟩ := finW hwd fx hS hk hZ hown hF hch X' hS' (by rw [← eh]; exact hgr) post
    exact (go _ _ _ v w2 q1).of fun t z => st'.trans z
theorem neN {x y : Nat} (q : x ≠ y) : (x : Addr) ≠ (y : Addr) := q
theorem nin2 {x y z : Nat} (q : x ≠ y ∧ x ≠ z) : x ∉ ([y, z] : List Addr) := fun w => by
  rcases List.mem_cons.mp w with r | r
  · exact q.1 r
  · exact q.2 (List.mem_singleton.mp r)
theorem all2 {P : Addr → Prop} {a b : Addr} (q : P a) (r : P b) : ∀ x ∈ [a, b], P x := fun x hx => by
  rcases List.mem_cons.mp hx with rfl | hx
  · exact q
  · cases List.mem_singleton.mp hx; exact r
end Bld
section Bld2
theorem StrAt.open0 {Z : State} {h : Heap} {a : Addr} {cs : List Int32} (S : StrAt Z h a 0 cs) : ∃ (t : Addr) (kb : ClassId), Exa Z h a "java/lang/String" ∧ Fld Z h a "java/lang/String" "value" "[B" (.ref t) ∧ Fld Z h a "java/lang/String" "coder" "B" (.int (0 : Int32)) ∧ Arv Z h t kb .byte (Int32.ofNat cs.length) (cs.map fun c => Value.int (StrChars.lo8 c)) (.int 0) ∧ (∀ c ∈ cs, ¬ c < 0 ∧ ¬ (255 : Int32) < c) := by
  obtain ⟨t, kb, N, vs, h1, h2, h3, h4, h5, h6, h7⟩ := S
  rcases h5 with ⟨-, rfl, rfl, q⟩ | ⟨q, -⟩
  · exact ⟨t, kb, h1, h2, h3, h4, fun c hc => ⟨(h6 c hc).1, q c hc⟩⟩
  · exact absurd q (by decide)
def SBd (Z : State) (h : Heap) (b ar : Nat) (kc : ClassId) (cs : List Int32) : Prop := Exa Z h b "java/lang/StringBuilder" ∧ Fld Z h b "java/lang/AbstractStringBuilder" "value" "[B" (.ref ar) ∧ Fld Z h b "java/lang/AbstractStringBuilder" "coder" "B" (.int (0 : Int32)) ∧ Fld Z h b "java/lang/AbstractStringBuilder" "count" "I" (.int (Int32.ofNat cs.length)) ∧ ∃ tl : List Value, cs.length + tl.length = 16 ∧ Arv Z h ar kc .byte (16 : Int32) ((cs.map fun c => Value.int (StrChars.lo8 c)) ++ tl) (.int (0 : Int32))
variable {Z : State} {h h' : Heap} {b ar : Nat} {kc : ClassId} {cs : List Int32}
theorem SBd.ext (B : SBd Z h b ar kc cs) (E : Ext h h') : SBd Z h' b ar kc cs := by
  obtain ⟨h1, h2, h3, h4, tl, h5, h6⟩ := B; exact ⟨h1.ext E, h2.ext E, h3.ext E, h4.ext E, tl, h5, h6.ext E⟩
theorem SBd.keep {ws : List Addr} (B : SBd Z h b ar kc cs) (K : Keep h h' ws) (q : b ∉ ws) (r : ar ∉ ws) : SBd Z h' b ar kc cs := by
  obtain ⟨h1, h2, h3, h4, tl, h5, h6⟩ := B; exact ⟨h1.keep K, h2.keep K q, h3.keep K q, h4.keep K q, tl, h5, h6.keep K r⟩
theorem SBd.lt (B : SBd Z h b ar kc cs) : b < h.size := B.1.lt
theorem SBd.lt2 (B : SBd Z h b ar kc cs) : ar < h.size := by obtain ⟨-, -, -, -, tl, -, h6⟩ := B; exact h6.lt
end Bld2

end Own
end Jvm.Pilot.@@N@@
namespace Jvm.Pilot.@@N@@
open Jvm Jvm.ClassFile Sem Op Lib Jvm.Free Jvm.Stand Jvm.LawKit Jvm.RoadKit Bundle Jvm.Pilot.@@N@@.Jvm.D Own
theorem ti (n : Nat) (h : n < 2147483648) : (Int32.ofNat n).toInt = n := Int32.toInt_ofNat_of_lt h
theorem cln {n : Nat} (h : n < 2147483648) : (Int32.ofNat n).toNatClampNeg = n := by
  show (Int32.ofNat n).toInt.toNat = n
  rw [ti n h]; rfl
theorem nn0 {n : Nat} (h : n < 2147483648) : ¬ Int32.ofNat n < 0 := by
  rw [Int32.lt_iff_toInt_lt, ti n h]
  have : (0 : Int32).toInt = 0 := rfl
  omega
theorem oflt {n m : Nat} (h1 : n < m) (h : m < 2147483648) : Int32.ofNat n < Int32.ofNat m := by
  rw [Int32.lt_iff_toInt_lt, ti n (by omega), ti m h]; omega
theorem ofne {n m : Nat} (h1 : n ≠ m) (h2 : n < 2147483648) (h : m < 2147483648) : ¬ Int32.ofNat n = Int32.ofNat m := fun q => by
  have := congrArg Int32.toInt q
  rw [ti n h2, ti m h] at this; omega
theorem ofadd (a b : Nat) : Int32.ofNat a + Int32.ofNat b = Int32.ofNat (a + b) := (Int32.ofNat_add a b).symm
theorem ofpred (n : Nat) : Int32.ofNat (n + 1) + (-1 : Int32) = Int32.ofNat n := by
  rw [Int32.ofNat_add]
  have : Int32.ofNat 1 = 1 := rfl
  rw [this]; grind
theorem shl0 (p : Int32) : p <<< ((0 : Int32) &&& 31) = p := by
  have : ((0 : Int32) &&& 31) = 0 := by decide
  rw [this]; simp
theorem sub0 (p : Int32) : p - (0 : Int32) = p := by simp
theorem ens_ok {n : Nat} (h : n ≤ 16) : ¬ (0 : Int32) < Int32.ofNat n - (16 : Int32) := by
  rw [Int32.lt_iff_toInt_lt, Int32.toInt_sub, ti n (by omega)]
  have e1 : (16 : Int32).toInt = 16 := rfl
  have e2 : (0 : Int32).toInt = 0 := rfl
  rw [e1, e2]; simp only [Int.bmod_def]; omega
theorem tneg {m : Nat} (h : m ≤ 100000) : (-(Int32.ofNat m)).toInt = -(m : Int) := by
  rw [Int32.toInt_neg, ti m (by omega)]; simp only [Int.bmod_def]; omega
theorem neglt {m K : Nat} (h : m ≤ 100000) (hK : K ≤ 100000) (q : m < K) : -(Int32.ofNat K) < -(Int32.ofNat m) := by
  rw [Int32.lt_iff_toInt_lt, tneg h, tneg hK]; omega
theorem negge {m K : Nat} (h : m ≤ 100000) (hK : K ≤ 100000) (q : K ≤ m) : ¬ -(Int32.ofNat K) < -(Int32.ofNat m) := by
  rw [Int32.lt_iff_toInt_lt, tneg h, tneg hK]; omega
theorem negneg (a : Int32) : -(-a) = a := by grind
theorem divh {m : Nat} (h : m ≤ 100000) : -(Int32.ofNat m) / (100 : Int32) = -(Int32.ofNat (m / 100)) := by
  apply Int32.toInt_inj.mp
  rw [Int32.toInt_div, tneg h, tneg (by omega)]
  have e1 : (100 : Int32).toInt = 100 := rfl
  rw [e1, Int.neg_tdiv, Int.tdiv_eq_ediv_of_nonneg (by omega)]
  simp only [Int.bmod_def]; omega
theorem remh {m : Nat} (h : m ≤ 100000) : -(Int32.ofNat (m / 100)) * (100 : Int32) - -(Int32.ofNat m) = Int32.ofNat (m % 100) := by
  apply Int32.toInt_inj.mp
  rw [Int32.toInt_sub, Int32.toInt_mul, tneg h, tneg (by omega), ti _ (by omega)]
  have e1 : (100 : Int32).toInt = 100 := rfl
  rw [e1]; simp only [Int.bmod_def]; omega
theorem set_at {α : Type} (p l : List α) (j : Nat) (v : α) : (p ++ l).set (p.length + j) v = p ++ l.set j v := by
  rw [List.set_append_right _ _ (by omega)]; congr 1; congr 1; omega
theorem us_take {α : Type} (vs : List α) (dv : α) (n : Nat) (h : n ≤ vs.length) : vs.take n = (List.range n).map fun i => vs.getD (0 + i) dv := by
  apply List.ext_getElem
  · simp; omega
  · intro i h1 h2
    simp at h1 h2
    simp [List.getElem?_eq_getElem (show i < vs.length by omega)]
theorem us_all {α : Type} (vs : List α) (dv : α) : vs = (List.range vs.length).map fun i => vs.getD (0 + i) dv := by
  have := us_take vs dv vs.length (Nat.le_refl _)
  rwa [List.take_length] at this
theorem app_list {α β : Type} (f : α → β) (cs ds : List α) (tl : List β) : (cs.map f ++ tl).take cs.length ++ ds.map f ++ (cs.map f ++ tl).drop (cs.length + (ds.map f).length) = (cs ++ ds).map f ++ tl.drop ds.length := by
  have e : cs.length = (cs.map f).length := (List.length_map f).symm
  rw [List.map_append, List.length_map]
  congr 1
  · congr 1
    conv => lhs; rw [e]
    rw [List.take_left]
  · rw [List.drop_append]
    simp
theorem lo58 {c : Int32} (h : ¬ c < 0 ∧ ¬ (255 : Int32) < c) : StrChars.lo8 c = 58 ↔ c = 58 := by
  have t : ∀ k : Fin 256, StrChars.lo8 (Int32.ofNat k.val) = 58 ↔ Int32.ofNat k.val = 58 := by decide +kernel
  have e1 : (0 : Int32).toInt = 0 := rfl
  have e2 : (255 : Int32).toInt = 255 := rfl
  rw [Int32.lt_iff_toInt_lt, Int32.lt_iff_toInt_lt, e1, e2] at h
  have e : c = Int32.ofNat c.toInt.toNat := by
    apply Int32.toInt_inj.mp
    rw [ti _ (by omega)]; omega
  rw [e]
  exact t ⟨c.toInt.toNat, by omega⟩
def D (k : Nat) : Int32 := Int32.ofNat (48 + k % 10)
def dig (m : Nat) : List Int32 := if m < 10 then [D m] else if m < 100 then [D (m/10), D m] else if m < 1000 then [D (m/100), D (m/10), D m] else if m < 10000 then [D (m/1000), D (m/100), D (m/10), D m] else [D (m/10000), D (m/1000), D (m/100), D (m/10), D m]
theorem dig_lat (m : Nat) : ∀ c ∈ dig m, ¬ c < 0 ∧ ¬ (255 : Int32) < c := by
  have t : ∀ k : Nat, ¬ D k < 0 ∧ ¬ (255 : Int32) < D k := fun k => by
    have t : ∀ k : Fin 10, ¬ Int32.ofNat (48 + k.val) < 0 ∧ ¬ (255 : Int32) < Int32.ofNat (48 + k.val) := by decide +kernel
    exact t ⟨k % 10, by omega⟩
  intro c hc
  unfold dig at hc
  split at hc
  · simp at hc; subst hc; exact t _
  split at hc
  · simp at hc; rcases hc with rfl | rfl <;> exact t _
  split at hc
  · simp at hc; rcases hc with rfl | rfl | rfl <;> exact t _
  split at hc
  · simp at hc; rcases hc with rfl | rfl | rfl | rfl <;> exact t _
  · simp at hc; rcases hc with rfl | rfl | rfl | rfl | rfl <;> exact t _
theorem dig_len (m : Nat) : 1 ≤ (dig m).length ∧ (dig m).length ≤ 5 := by
  unfold dig; split; simp; split; simp; split; simp; split; simp; simp
theorem divof {m K : Nat} (h : m ≤ 100000) (h0 : 0 < K) (hK : K ≤ 100000) : Int32.ofNat m / Int32.ofNat K = Int32.ofNat (m / K) := by
  apply Int32.toInt_inj.mp
  have := Nat.div_le_self m K
  rw [Int32.toInt_div, ti m (by omega), ti _ (by omega), ti _ (by omega)]
  rw [Int.tdiv_eq_ediv_of_nonneg (by omega)]
  have e : ((m : Int) / (K : Int)) = ((m / K : Nat) : Int) := by simp
  rw [e]
  generalize m / K = z at *
  simp only [Int.bmod_def]; omega
theorem modof {m : Nat} (h : m ≤ 100000) : Int32.ofNat m % (10 : Int32) = Int32.ofNat (m % 10) := by
  apply Int32.toInt_inj.mp
  rw [Int32.toInt_mod, ti m (by omega), ti _ (by omega)]
  have e1 : (10 : Int32).toInt = 10 := rfl
  rw [e1, Int.tmod_eq_emod_of_nonneg (by omega)]
  omega
theorem dchr (k : Nat) : ((48 : Int32) + Int32.ofNat (k % 10)).toUInt32.toUInt16.toUInt32.toInt32 = D k := by
  have t : ∀ k : Fin 10, ((48 : Int32) + Int32.ofNat k.val).toUInt32.toUInt16.toUInt32.toInt32 = Int32.ofNat (48 + k.val) := by decide +kernel
  exact t ⟨k % 10, by omega⟩
theorem modn (x : Int32) : ∃ z, z = (1 : Int32) + (x &&& 3) % 3 ∧ (z = 1 ∨ z = 2 ∨ z = 3) := by
  refine ⟨_, rfl, ?_⟩
  have h : (x &&& 3).toBitVec.toNat < 4 := by
    simp only [Int32.toBitVec_and, BitVec.toNat_and]
    exact Nat.lt_succ_of_le Nat.and_le_right
  have e : (x &&& 3) = Int32.ofNat (x &&& 3).toBitVec.toNat := by
    apply Int32.toBitVec_inj.mp
    show _ = BitVec.ofNat 32 _
    rw [BitVec.ofNat_toNat]; simp
  rw [e]
  have t : ∀ k : Fin 4, (1 : Int32) + (Int32.ofNat k.val) % 3 = 1 ∨ (1 : Int32) + (Int32.ofNat k.val) % 3 = 2 ∨ (1 : Int32) + (Int32.ofNat k.val) % 3 = 3 := by decide +kernel
  exact t ⟨_, h⟩
theorem mask16 (x : Int32) : ∃ m : Nat, m ≤ 65535 ∧ x &&& 65535 = Int32.ofNat m := by
  refine ⟨(x &&& 65535).toBitVec.toNat, ?_, ?_⟩
  · simp only [Int32.toBitVec_and, BitVec.toNat_and]
    exact Nat.and_le_right
  · apply Int32.toBitVec_inj.mp
    show _ = BitVec.ofNat 32 _
    rw [BitVec.ofNat_toNat]; simp
theorem oflt_iff {n m : Nat} (h1 : n < 2147483648) (h : m < 2147483648) : Int32.ofNat n < Int32.ofNat m ↔ n < m := by
  rw [Int32.lt_iff_toInt_lt, ti n h1, ti m h]; omega
theorem len_k {α : Type} (l : List α) (n : Nat) (h : n ≤ l.length) : ∃ a r, a.length = n ∧ l = a ++ r := ⟨l.take n, l.drop n, by simp; omega, by simp⟩
theorem c1_ {α : Type} {l : List α} (h : 1 ≤ l.length) : ∃ a r, l = a :: r := by
  cases l with
  | nil => simp at h
  | cons a r => exact ⟨a, r, rfl⟩
theorem c2_ {α : Type} {l : List α} (h : 2 ≤ l.length) : ∃ a b r, l = a :: b :: r := by
  obtain ⟨a, r, rfl⟩ := c1_ (l := l) (by omega)
  obtain ⟨b, r, rfl⟩ := c1_ (l := r) (by simp at h; omega)
  exact ⟨a, b, r, rfl⟩
theorem c3_ {α : Type} {l : List α} (h : 3 ≤ l.length) : ∃ a b c r, l = a :: b :: c :: r := by
  obtain ⟨a, b, r, rfl⟩ := c2_ (l := l) (by omega)
  obtain ⟨c, r, rfl⟩ := c1_ (l := r) (by simp at h; omega)
  exact ⟨a, b, c, r, rfl⟩
theorem c4_ {α : Type} {l : List α} (h : 4 ≤ l.length) : ∃ a b c d r, l = a :: b :: c :: d :: r := by
  obtain ⟨a, b, c, r, rfl⟩ := c3_ (l := l) (by omega)
  obtain ⟨d, r, rfl⟩ := c1_ (l := r) (by simp at h; omega)
  exact ⟨a, b, c, d, r, rfl⟩
theorem c5_ {α : Type} {l : List α} (h : 5 ≤ l.length) : ∃ a b c d e r, l = a :: b :: c :: d :: e :: r := by
  obtain ⟨a, b, c, d, r, rfl⟩ := c4_ (l := l) (by omega)
  obtain ⟨e, r, rfl⟩ := c1_ (l := r) (by simp at h; omega)
  exact ⟨a, b, c, d, e, r, rfl⟩
theorem ofnlt {n m : Nat} (h1 : n ≤ m) (h : m < 2147483648) : ¬ Int32.ofNat m < Int32.ofNat n := fun q => by
  rw [Int32.lt_iff_toInt_lt, ti n (by omega), ti m h] at q; omega
theorem ofsucc (n : Nat) : Int32.ofNat n + (1 : Int32) = Int32.ofNat (n + 1) := (Int32.ofNat_add n 1).symm
theorem lat_app {a b : List Int32} (ha : ∀ c ∈ a, ¬ c < 0 ∧ ¬ (255 : Int32) < c) (hb : ∀ c ∈ b, ¬ c < 0 ∧ ¬ (255 : Int32) < c) : ∀ c ∈ a ++ b, ¬ c < 0 ∧ ¬ (255 : Int32) < c := fun c hc => (List.mem_append.mp hc).elim (ha c) (hb c)
theorem dchr2 {m K : Nat} (h : m ≤ 100000) (h0 : 0 < K) (hK : K ≤ 100000) : ((48 : Int32) + ((Int32.ofNat m / Int32.ofNat K) % (10 : Int32))).toUInt32.toUInt16.toUInt32.toInt32 = D (m / K) := by
  rw [divof h h0 hK, modof (by have := Nat.div_le_self m K; omega)]; exact dchr _

def hp (cs : List Int32) (m : Nat) : List Int32 := (([] ++ (if (58 : Int32) ∈ cs then (([] ++ [91]) ++ cs) ++ [93] else cs)) ++ [58]) ++ dig m
def Dig (Z : State) (f : String) (v : Nat → Nat) : Prop := ∃ (d : Nat) (kd : ClassId) (vs : List Value), Sta Z Z.heap "java/lang/Integer" f "[B" (.ref d) ∧ Arv Z Z.heap d kd .byte (100 : Int32) vs (.int (0 : Int32)) ∧ ∀ r, r < 100 → vs.getD r (.int (0 : Int32)) = .int (Int32.ofNat (v r))
theorem dig_start {Z : State} {args : Array Value} {f : String} {F : Term} {v : Nat → Nat} (hf : Fit Z) (wA : (Jvm.Cond.arrayClass .byte).before args Z = true) (hx : (Jvm.Cond.exactly (.static "java/lang/Integer" f "[B") "[B").value args Z none Z [] = some true) (hi : (Jvm.Cond.initializedFor "java/lang/Integer" f "[B").before args Z = true) (hl : (Jvm.Cond.eq (.length (.static "java/lang/Integer" f "[B")) (.int 100)).value args Z none Z [] = some true) (ha : (Jvm.Cond.all (.static "java/lang/Integer" f "[B") (.eq (.elem (.static "java/lang/Integer" f "[B") (.index 0)) F)).value args Z none Z [] = some true)
    (hF : ∀ r, r < 100 → F.eval args Z none [r] Z = some (.int (Int32.ofNat (v r)))) : Dig Z f v := by
  obtain ⟨d, ev⟩ := exa_v hx
  have S := Sta.start ev (Or.inl hi)
  have et : ∀ idx, (Term.static "java/lang/Integer" f "[B").eval args Z none idx Z = some (.ref d) := fun idx => by simpa [Term.eval] using ev
  have hl' := eqv_i (Term.int_eval (100)) hl
  obtain ⟨x, cl, e1, e2, e3⟩ := Term.length_spec hl'
  cases ev.symm.trans e1
  have h31 := Jvm.Free.SBG.length_lt e1 e2 hl'
  have hz : cl.slots.size.toInt32 = 100 := by
    have e4 := (len_f e1 e2 h31).symm.trans hl'
    simpa using e4
  have hs : cl.slots.size = 100 := by
    have := congrArg Int32.toInt hz
    rw [show cl.slots.size.toInt32 = Int32.ofNat cl.slots.size from rfl, ti _ h31] at this
    have e : (100 : Int32).toInt = 100 := rfl
    omega
  obtain ⟨cell, k, x1, x2, x3, x4, -⟩ := Exa.start ev hx
  obtain ⟨c0, k0, comp, y1, y2, y3⟩ := Cond.arrayClass_spec wA
  have y1' : Z.vm.findClass "[B" = some c0 := y1
  cases x2.symm.trans y1'
  have hun : Z.heap[d]? = some cl ∧ cl.vm ≠ .unknown := by
    simp only [State.arrayAt?, x1, Option.bind_eq_bind, Option.bind_some, y2, y3] at e2
    split at e2
    · cases e2
    · cases e2; exact ⟨x1, fun q => by simp_all⟩
  cases hun.1.symm.trans x1
  have A : Arr Z Z.heap d cl .byte := ⟨hun.1, ⟨fun k q => by rw [q] at x4; simp [VmData.isStatics] at x4, k0, y2, comp, y3⟩, hun.2⟩
  have key : ∀ r, r < 100 → cl.slots[r]? = some (.int (Int32.ofNat (v r))) := fun r hr => by
    have n1 : ¬ Int32.ofNat r < 0 := nn0 (by omega)
    have n2 : (Int32.ofNat r).toNatClampNeg = r := cln (by omega)
    have q := Cond.all_elim (et []) e2 ha r (by omega)
    have q2 := eqv_i (hF r hr) q
    have i1 := idx_at (args := args) (first := Z) (s := Z) (o := none) n1
    have q3 := elem_f (et [(Int32.ofNat r).toNatClampNeg]) i1 e2 n1
    rw [n2] at q3
    exact q3.symm.trans q2
  have hg : ∀ r, r < 100 → cl.slots.toList.getD r (.int (0 : Int32)) = .int (Int32.ofNat (v r)) := fun r hr => by
    have := key r hr
    rw [List.getD_eq_getElem?_getD, Array.getElem?_toList, this]; rfl
  refine ⟨d, cl.cls, cl.slots.toList, S, ⟨cl, A, rfl, hs, by decide, fun i hi => ?_, fun i hi => ?_⟩, hg⟩
  · rw [hg i (by omega)]; exact key i (by omega)
  · rw [hg i (by omega)]
    have n1 : ¬ Int32.ofNat i < 0 := nn0 (by omega)
    have n2 : (Int32.ofNat i).toNatClampNeg = i := cln (by omega)
    exact elem_fits hf A (j := Int32.ofNat i) (fun q => q.elim n1 (fun z => by rw [n2] at z; omega)) (by rw [n2]; exact key i (by omega))
theorem dig_o {Z : State} {args : Array Value} {r : Nat} (hr : r < 100) : (Term.add (.int 48) (.rem (.index 0) (.int 10))).eval args Z none [r] Z = some (.int (Int32.ofNat (48 + r % 10))) := by
  have n2 : (Int32.ofNat r).toNatClampNeg = r := cln (by omega)
  have i1 := idx_at (args := args) (first := Z) (s := Z) (o := none) (nn0 (n := r) (by omega))
  rw [n2] at i1
  have e : (48 : Int32) + Int32.ofNat r % 10 = Int32.ofNat (48 + r % 10) := by rw [modof (by omega)]; exact ofadd 48 _
  rw [← e]
  simp [Term.eval, i1]
theorem dig_t {Z : State} {args : Array Value} {r : Nat} (hr : r < 100) : (Term.add (.int 48) (.div (.index 0) (.int 10))).eval args Z none [r] Z = some (.int (Int32.ofNat (48 + r / 10))) := by
  have n2 : (Int32.ofNat r).toNatClampNeg = r := cln (by omega)
  have i1 := idx_at (args := args) (first := Z) (s := Z) (o := none) (nn0 (n := r) (by omega))
  rw [n2] at i1
  have e : (48 : Int32) + Int32.ofNat r / 10 = Int32.ofNat (48 + r / 10) := by rw [show (10 : Int32) = Int32.ofNat 10 from rfl, divof (by omega) (by decide) (by decide)]; exact ofadd 48 _
  rw [← e]
  simp [Term.eval, i1]
theorem set_es (es : List Int32) (l : List Value) (j : Nat) (v : Value) : (es.map Value.int ++ l).set (es.length + j) v = es.map Value.int ++ l.set j v := by
  have := set_at (es.map Value.int) l j v
  rwa [List.length_map] at this
theorem getD_es {es : List Int32} {tl : List Value} {i : Nat} (h : i < es.length) : (es.map Value.int ++ tl).getD i (.int (0 : Int32)) = .int (es.getD i 0) := by
  simp [List.getD_eq_getElem?_getD, List.getElem?_append_left, h]
theorem t255 (x : Int32) : ∃ k : Fin 256, x &&& 255 = Int32.ofNat k.val := by
  have h : (x &&& 255).toBitVec.toNat < 256 := by
    simp only [Int32.toBitVec_and, BitVec.toNat_and]
    exact Nat.lt_succ_of_le Nat.and_le_right
  refine ⟨⟨_, h⟩, ?_⟩
  apply Int32.toBitVec_inj.mp
  show _ = BitVec.ofNat 32 _
  rw [BitVec.ofNat_toNat]; simp
theorem nar255 (x : Int32) : nar .char ((x &&& (255 : Int32)).toUInt32.toUInt16.toUInt32.toInt32) = ((x &&& (255 : Int32)).toUInt32.toUInt16.toUInt32.toInt32) := by
  obtain ⟨k, e⟩ := t255 x
  rw [e]
  exact (by decide +kernel : ∀ k : Fin 256, nar .char ((Int32.ofNat k.val).toUInt32.toUInt16.toUInt32.toInt32) = ((Int32.ofNat k.val).toUInt32.toUInt16.toUInt32.toInt32)) k
theorem lat255 (x : Int32) : Lat ((x &&& (255 : Int32)).toUInt32.toUInt16.toUInt32.toInt32) := by
  have := lat_mask x
  rwa [nar255] at this
theorem nar_D (k : Nat) : nar .char (D k) = D k :=
  (by decide +kernel : ∀ k : Fin 10, nar .char (Int32.ofNat (48 + k.val)) = Int32.ofNat (48 + k.val)) ⟨k % 10, by omega⟩
def Hyp (G : Gx) : Prop := (∀ d ∈ tables_1, d.before G.a0 G.Z = true) ∧ EW G.Z G.a0 G.EL ∧ (∃ z : Int32, ¬ z = 0 ∧ Sta G.Z G.Z.heap "java/lang/String" "COMPACT_STRINGS" "Z" (.int z)) ∧ (G.wd = true ∧ G.EL = consts_1) ∧ (∃ fm : Value, fm.isRef = true ∧ Sta G.Z G.Z.heap "jdk/internal/util/Preconditions" "SIOOBE_FORMATTER" "Ljava/util/function/BiFunction;" fm) ∧ Dig G.Z "DigitOnes" (fun r => 48 + r % 10) ∧ Dig G.Z "DigitTens" (fun r => 48 + r / 10)
theorem Hyp.tw {G : Gx} (H : Hyp G) {d : Jvm.Cond} (i : Nat) (q : tables_1[i]? = some d) : d.before G.a0 G.Z = true := H.1 d (List.mem_of_getElem? q)
theorem Hyp.el {G : Gx} (H : Hyp G) : EW G.Z G.a0 G.EL := H.2.1
theorem Hyp.cz {G : Gx} (H : Hyp G) : ∃ z : Int32, ¬ z = 0 ∧ Sta G.Z G.Z.heap "java/lang/String" "COMPACT_STRINGS" "Z" (.int z) := H.2.2.1
theorem Hyp.ws {G : Gx} (H : Hyp G) : ∀ d ∈ StrChars.Road.words, d.before G.a0 G.Z = true := fun d hd => H.1 d ((by decide +kernel : ∀ d ∈ StrChars.Road.words, d ∈ tables_1) d hd)
theorem Hyp.wl {G : Gx} (H : Hyp G) : ∀ d ∈ StrChars.Road.wordsLen, d.before G.a0 G.Z = true := fun d hd => H.1 d ((by decide +kernel : ∀ d ∈ StrChars.Road.wordsLen, d ∈ tables_1) d hd)
theorem Hyp.we {G : Gx} (H : Hyp G) : ∀ d ∈ StrChars.Road.wordsEmp, d.before G.a0 G.Z = true := fun d hd => H.1 d ((by decide +kernel : ∀ d ∈ StrChars.Road.wordsEmp, d ∈ tables_1) d hd)
theorem Hyp.wc {G : Gx} (H : Hyp G) : ∀ d ∈ StrChars.Road.wordsChN, d.before G.a0 G.Z = true := fun d hd => H.1 d ((by decide +kernel : ∀ d ∈ StrChars.Road.wordsChN, d ∈ tables_1) d hd)
theorem Hyp.sa {G : Gx} (H : Hyp G) : ∀ d ∈ Bundle.stringAtoms, d.before G.a0 G.Z = true := fun d hd => H.1 d ((by decide +kernel : ∀ d ∈ Bundle.stringAtoms, d ∈ tables_1) d hd)
theorem Hyp.wd {G : Gx} (H : Hyp G) : G.wd = true := H.2.2.2.1.1
theorem Hyp.mem {G : Gx} (H : Hyp G) {p : String × Nat} (q : p ∈ consts_1) : p ∈ G.EL := H.2.2.2.1.2 ▸ q
theorem Hyp.mo {G : Gx} (H : Hyp G) : (∃ fm : Value, fm.isRef = true ∧ Sta G.Z G.Z.heap "jdk/internal/util/Preconditions" "SIOOBE_FORMATTER" "Ljava/util/function/BiFunction;" fm) ∧ Dig G.Z "DigitOnes" (fun r => 48 + r % 10) ∧ Dig G.Z "DigitTens" (fun r => 48 + r / 10) := H.2.2.2.2
theorem StrAt.lit {Z : State} {h : Heap} {a b : Addr} {kb : ClassId} {z : Int32} {vs : List Value} (cs : List Int32) (A1 : Exa Z h a "java/lang/String") (A2 : Fld Z h a "java/lang/String" "coder" "B" (.int 0)) (A3 : Fld Z h a "java/lang/String" "value" "[B" (.ref b)) (A4 : Arv Z h b kb .byte z vs (.int 0)) (e1 : z = Int32.ofNat cs.length) (e2 : vs = cs.map fun c => Value.int (StrChars.lo8 c)) (e3 : ∀ c ∈ cs, ¬ c < 0 ∧ ¬ (255 : Int32) < c) (e4 : cs.length ≤ 4000) : StrAt Z h a 0 cs :=
  ⟨b, kb, z, vs, A1, A3, A2, A4, Or.inl ⟨rfl, e1, e2, fun c hc => (e3 c hc).2⟩, up_ cs e3, e4⟩
theorem Hyp.len1 {G : Gx} (H : Hyp G) : ∀ p ∈ G.EL, ∀ text : String, (Jvm.Cond.stringLink p.1 p.2 text).before G.a0 G.Z = true → text.toList.length = 1 := by
  intro p hp text ht
  rw [H.2.2.2.1.2] at hp
  simp only [consts_1, List.mem_cons, List.not_mem_nil, or_false] at hp
  rcases hp with rfl | rfl | rfl
  · rw [sl_uniq ht (H.tw 119 rfl)]; rfl
  · rw [sl_uniq ht (H.tw 162 rfl)]; rfl
  · rw [sl_uniq ht (H.tw 80 rfl)]; rfl
theorem Hyp.ne16 {G : Gx} (H : Hyp G) : ∀ p ∈ G.EL, ∀ text : String, (Jvm.Cond.stringLink p.1 p.2 text).before G.a0 G.Z = true → text.toList.length ≠ (16 : Int32).toNatClampNeg := fun p hp text ht => by
  rw [H.len1 p hp text ht]; decide

theorem d0_0 : decode jdk_30_method_1_code 0 = .ok (.aload_n 0, 1) := by decide +kernel
theorem d0_1 : decode jdk_30_method_1_code 1 = .ok (.invokespecial 1, 3) := by decide +kernel
theorem d0_4 : decode jdk_30_method_1_code 4 = .ok (.return_, 1) := by decide +kernel
theorem pn1 : plainName "java/lang/Record" = true := by first | (simp [plainName, overriddenIn]; done) | decide +kernel
set_option maxRecDepth 65536 in
set_option maxHeartbeats 40000000 in
theorem con_recinit (G : Gx) (H : Hyp G) (a : Nat) (h : Heap) (ho : Old G.Z G.n0 h)  :
    Con G (⟨"java/lang/Record", "<init>", "()V"⟩ : MethodName) jdk_30_method_1_code 1 none [] ({ frames := 1, cells := 0, slots := 0, locals := 12 } : Room) #[(.ref a)] h (nQ fun h' => h = h') := by
  refine Con.intro H.el ho (plainFor_of_name pn1) (Ls := #[.val (.ref a)]) (fun m => by first | (simp [entryFrame, mkF, argsToLocals, Value.category]; done) | rfl) ?_
  intro X vm T w
  refine w.aloadN (q := 1) d0_0 rfl rfl rfl ?_
  refine w.initO (q := 4) (W := 0) d0_1 (H.tw 46 rfl) (H.tw 16 rfl) (H.tw 17 rfl) rfl (by decide) (Nat.le_of_eq rfl) (by decide) rfl fun T1 w1 => ?_
  exact w1.retV d0_4 rfl (by decide) (by decide) ⟨rfl, rfl⟩
theorem d2_0 : decode jdk_42_method_152_code 0 = .ok (.getstatic 38, 3) := by decide +kernel
theorem d2_3 : decode jdk_42_method_152_code 3 = .ok (.ifCond .eq 10, 3) := by decide +kernel
theorem d2_6 : decode jdk_42_method_152_code 6 = .ok (.aload_n 0, 1) := by decide +kernel
theorem d2_7 : decode jdk_42_method_152_code 7 = .ok (.getfield 15, 3) := by decide +kernel
theorem d2_10 : decode jdk_42_method_152_code 10 = .ok (.goto 4, 3) := by decide +kernel
theorem d2_14 : decode jdk_42_method_152_code 14 = .ok (.ireturn, 1) := by decide +kernel
theorem pn3 : plainName "java/lang/String" = true := by first | (simp [plainName, overriddenIn]; done) | decide +kernel
set_option maxRecDepth 65536 in
set_option maxHeartbeats 40000000 in
theorem con_coder (G : Gx) (H : Hyp G) (a : Nat) (h : Heap) (ho : Old G.Z G.n0 h) (F : Fld G.Z h a "java/lang/String" "coder" "B" (.int (0 : Int32))) :
    Con G (⟨"java/lang/String", "coder", "()B"⟩ : MethodName) jdk_42_method_152_code 1 (some .byte) [] ({ frames := 0, cells := 0, slots := 0, locals := 0 } : Room) #[(.ref a)] h (vQ fun v h' => v = .int (0 : Int32) ∧ h = h') := by
  refine Con.intro H.el ho (plainFor_of_name pn3) (Ls := #[.val (.ref a)]) (fun m => by first | (simp [entryFrame, mkF, argsToLocals, Value.category]; done) | rfl) ?_
  intro X vm T w
  obtain ⟨cz, nz, Sz⟩ := H.cz
  refine w.getS (q := 3) d2_0 (H.tw 18 rfl) Via.refl Sz rfl fun T1 w1 => ?_
  refine w1.ifN (q := 6) d2_3 ((if0 _ _).trans (feq nz).1) rfl ?_
  refine w1.aloadN (q := 7) d2_6 rfl rfl rfl ?_
  refine w1.getF (q := 10) d2_7 (H.tw 30 rfl) Via.refl F rfl fun T2 w2 => ?_
  refine w2.goto (q := 14) d2_10 (by decide) (by decide) ?_
  exact w2.retZ d2_14 (t := .byte) rfl (by decide) rfl (by decide) (by decide) ⟨_, rfl, ⟨rfl, rfl⟩⟩
theorem d4_0 : decode jdk_42_method_154_code 0 = .ok (.getstatic 38, 3) := by decide +kernel
theorem d4_3 : decode jdk_42_method_154_code 3 = .ok (.ifCond .eq 14, 3) := by decide +kernel
theorem d4_6 : decode jdk_42_method_154_code 6 = .ok (.aload_n 0, 1) := by decide +kernel
theorem d4_7 : decode jdk_42_method_154_code 7 = .ok (.getfield 15, 3) := by decide +kernel
theorem d4_10 : decode jdk_42_method_154_code 10 = .ok (.ifCond .ne 7, 3) := by decide +kernel
theorem d4_13 : decode jdk_42_method_154_code 13 = .ok (.iconst 1, 1) := by decide +kernel
theorem d4_14 : decode jdk_42_method_154_code 14 = .ok (.goto 4, 3) := by decide +kernel
theorem d4_18 : decode jdk_42_method_154_code 18 = .ok (.ireturn, 1) := by decide +kernel
set_option maxRecDepth 65536 in
set_option maxHeartbeats 40000000 in
theorem con_lat (G : Gx) (H : Hyp G) (a : Nat) (h : Heap) (ho : Old G.Z G.n0 h) (F : Fld G.Z h a "java/lang/String" "coder" "B" (.int (0 : Int32))) :
    Con G (⟨"java/lang/String", "isLatin1", "()Z"⟩ : MethodName) jdk_42_method_154_code 1 (some .boolean) [] ({ frames := 0, cells := 0, slots := 0, locals := 0 } : Room) #[(.ref a)] h (vQ fun v h' => v = .int (1 : Int32) ∧ h = h') := by
  refine Con.intro H.el ho (plainFor_of_name pn3) (Ls := #[.val (.ref a)]) (fun m => by first | (simp [entryFrame, mkF, argsToLocals, Value.category]; done) | rfl) ?_
  intro X vm T w
  obtain ⟨cz, nz, Sz⟩ := H.cz
  refine w.getS (q := 3) d4_0 (H.tw 18 rfl) Via.refl Sz rfl fun T1 w1 => ?_
  refine w1.ifN (q := 6) d4_3 ((if0 _ _).trans (feq nz).1) rfl ?_
  refine w1.aloadN (q := 7) d4_6 rfl rfl rfl ?_
  refine w1.getF (q := 10) d4_7 (H.tw 30 rfl) Via.refl F rfl fun T2 w2 => ?_
  refine w2.ifN (q := 13) d4_10 ((if0 _ _).trans (teq rfl).2) rfl ?_
  refine w2.iconst (q := 14) (1 : Int32) d4_13 rfl rfl ?_
  refine w2.goto (q := 18) d4_14 (by decide) (by decide) ?_
  exact w2.retZ d4_18 (t := .boolean) rfl (by decide) rfl (by decide) (by decide) ⟨_, rfl, ⟨rfl, rfl⟩⟩
theorem d5_0 : decode jdk_68_method_68_code 0 = .ok (.getstatic 18, 3) := by decide +kernel
theorem d5_3 : decode jdk_68_method_68_code 3 = .ok (.ifCond .eq 14, 3) := by decide +kernel
theorem d5_6 : decode jdk_68_method_68_code 6 = .ok (.aload_n 0, 1) := by decide +kernel
theorem d5_7 : decode jdk_68_method_68_code 7 = .ok (.getfield 22, 3) := by decide +kernel
theorem d5_10 : decode jdk_68_method_68_code 10 = .ok (.ifCond .ne 7, 3) := by decide +kernel
theorem d5_13 : decode jdk_68_method_68_code 13 = .ok (.iconst 1, 1) := by decide +kernel
theorem d5_14 : decode jdk_68_method_68_code 14 = .ok (.goto 4, 3) := by decide +kernel
theorem d5_18 : decode jdk_68_method_68_code 18 = .ok (.ireturn, 1) := by decide +kernel
theorem pn6 : plainName "java/lang/AbstractStringBuilder" = true := by first | (simp [plainName, overriddenIn]; done) | decide +kernel
set_option maxRecDepth 65536 in
set_option maxHeartbeats 40000000 in
theorem con_blat (G : Gx) (H : Hyp G) (a : Nat) (h : Heap) (ho : Old G.Z G.n0 h) (F : Fld G.Z h a "java/lang/AbstractStringBuilder" "coder" "B" (.int (0 : Int32))) :
    Con G (⟨"java/lang/AbstractStringBuilder", "isLatin1", "()Z"⟩ : MethodName) jdk_68_method_68_code 1 (some .boolean) [] ({ frames := 0, cells := 0, slots := 0, locals := 0 } : Room) #[(.ref a)] h (vQ fun v h' => v = .int (1 : Int32) ∧ h = h') := by
  refine Con.intro H.el ho (plainFor_of_name pn6) (Ls := #[.val (.ref a)]) (fun m => by first | (simp [entryFrame, mkF, argsToLocals, Value.category]; done) | rfl) ?_
  intro X vm T w
  obtain ⟨cz, nz, Sz⟩ := H.cz
  refine w.getS (q := 3) d5_0 (H.tw 75 rfl) Via.refl Sz rfl fun T1 w1 => ?_
  refine w1.ifN (q := 6) d5_3 ((if0 _ _).trans (feq nz).1) rfl ?_
  refine w1.aloadN (q := 7) d5_6 rfl rfl rfl ?_
  refine w1.getF (q := 10) d5_7 (H.tw 78 rfl) Via.refl F rfl fun T2 w2 => ?_
  refine w2.ifN (q := 13) d5_10 ((if0 _ _).trans (teq rfl).2) rfl ?_
  refine w2.iconst (q := 14) (1 : Int32) d5_13 rfl rfl ?_
  refine w2.goto (q := 18) d5_14 (by decide) (by decide) ?_
  exact w2.retZ d5_18 (t := .boolean) rfl (by decide) rfl (by decide) (by decide) ⟨_, rfl, ⟨rfl, rfl⟩⟩
theorem d7_0 : decode jdk_42_method_126_code 0 = .ok (.aload_n 0, 1) := by decide +kernel
theorem d7_1 : decode jdk_42_method_126_code 1 = .ok (.areturn, 1) := by decide +kernel
set_option maxRecDepth 65536 in
set_option maxHeartbeats 40000000 in
theorem con_sts (G : Gx) (H : Hyp G) (a : Nat) (h : Heap) (ho : Old G.Z G.n0 h)  :
    Con G (⟨"java/lang/String", "toString", "()Ljava/lang/String;"⟩ : MethodName) jdk_42_method_126_code 1 (some (.object "java/lang/String")) [] ({ frames := 0, cells := 0, slots := 0, locals := 0 } : Room) #[(.ref a)] h (vQ fun v h' => v = .ref a ∧ h = h') := by
  refine Con.intro H.el ho (plainFor_of_name pn3) (Ls := #[.val (.ref a)]) (fun m => by first | (simp [entryFrame, mkF, argsToLocals, Value.category]; done) | rfl) ?_
  intro X vm T w
  refine w.aloadN (q := 1) d7_0 rfl rfl rfl ?_
  exact w.retA d7_1 (t := (.object "java/lang/String")) rfl rfl rfl (by decide) (by decide) ⟨_, rfl, ⟨rfl, rfl⟩⟩
theorem d8_0 : decode jdk_68_method_2_code 0 = .ok (.aload_n 0, 1) := by decide +kernel
theorem d8_1 : decode jdk_68_method_2_code 1 = .ok (.invokespecial 3, 3) := by decide +kernel
theorem d8_4 : decode jdk_68_method_2_code 4 = .ok (.getstatic 18, 3) := by decide +kernel
theorem d8_7 : decode jdk_68_method_2_code 7 = .ok (.ifCond .eq 18, 3) := by decide +kernel
theorem d8_10 : decode jdk_68_method_2_code 10 = .ok (.aload_n 0, 1) := by decide +kernel
theorem d8_11 : decode jdk_68_method_2_code 11 = .ok (.iload_n 1, 1) := by decide +kernel
theorem d8_12 : decode jdk_68_method_2_code 12 = .ok (.newarray .byte, 2) := by decide +kernel
theorem d8_14 : decode jdk_68_method_2_code 14 = .ok (.putfield 15, 3) := by decide +kernel
theorem d8_17 : decode jdk_68_method_2_code 17 = .ok (.aload_n 0, 1) := by decide +kernel
theorem d8_18 : decode jdk_68_method_2_code 18 = .ok (.iconst 0, 1) := by decide +kernel
theorem d8_19 : decode jdk_68_method_2_code 19 = .ok (.putfield 22, 3) := by decide +kernel
theorem d8_22 : decode jdk_68_method_2_code 22 = .ok (.goto 16, 3) := by decide +kernel
theorem d8_38 : decode jdk_68_method_2_code 38 = .ok (.return_, 1) := by decide +kernel
set_option maxRecDepth 65536 in
set_option maxHeartbeats 40000000 in
theorem con_asb (G : Gx) (H : Hyp G) (a : Nat) (h : Heap) (ho : Old G.Z G.n0 h) (E : Exa G.Z h a "java/lang/StringBuilder") (Fv : Fld G.Z h a "java/lang/AbstractStringBuilder" "value" "[B" .null) (Fc : Fld G.Z h a "java/lang/AbstractStringBuilder" "coder" "B" (.int (0 : Int32))) (Fn : Fld G.Z h a "java/lang/AbstractStringBuilder" "count" "I" (.int (0 : Int32))) (g : G.n0 ≤ a) :
    Con G (⟨"java/lang/AbstractStringBuilder", "<init>", "(I)V"⟩ : MethodName) jdk_68_method_2_code 2 none [] ({ frames := 1, cells := 1, slots := 16, locals := 12 } : Room) #[(.ref a), (.int (16 : Int32))] h (nQ fun h' => Keep h h' [a] ∧ ∃ (ar : Nat) (kc : ClassId), h.size ≤ ar ∧ SBd G.Z h' a ar kc []) := by
  refine Con.intro H.el ho (plainFor_of_name pn6) (Ls := #[.val (.ref a), .val (.int (16 : Int32))]) (fun m => by first | (simp [entryFrame, mkF, argsToLocals, Value.category]; done) | rfl) ?_
  intro X vm T w
  obtain ⟨cz, nz, Sz⟩ := H.cz
  have lta : a < h.size := E.lt
  refine w.aloadN (q := 1) d8_0 rfl rfl rfl ?_
  refine w.initO (q := 4) (W := 0) d8_1 (H.tw 74 rfl) (H.tw 16 rfl) (H.tw 17 rfl) rfl (by decide) (Nat.le_of_eq rfl) (by decide) rfl fun T1 w1 => ?_
  refine w1.getS (q := 7) d8_4 (H.tw 75 rfl) Via.refl Sz rfl fun T2 w2 => ?_
  refine w2.ifN (q := 10) d8_7 ((if0 _ _).trans (feq nz).1) rfl ?_
  refine w2.aloadN (q := 11) d8_10 rfl rfl rfl ?_
  refine w2.iloadN (q := 12) d8_11 rfl rfl ?_
  refine w2.newP (q := 14) 16 d8_12 (H.tw 23 rfl) (by decide) (by decide) (by decide) (by decide) (by decide) rfl fun T3 h3 b3 kc3 e3 w3 E3 A3 => ?_
  replace A3 : Arv G.Z h3 b3 kc3 .byte (16 : Int32) [(.int (0 : Int32)), (.int (0 : Int32)), (.int (0 : Int32)), (.int (0 : Int32)), (.int (0 : Int32)), (.int (0 : Int32)), (.int (0 : Int32)), (.int (0 : Int32)), (.int (0 : Int32)), (.int (0 : Int32)), (.int (0 : Int32)), (.int (0 : Int32)), (.int (0 : Int32)), (.int (0 : Int32)), (.int (0 : Int32)), (.int (0 : Int32))] (.int (0 : Int32)) := A3.pad (pad_rep [] (.int (0 : Int32)) 16)
  have lt3 : b3 < h3.size := A3.lt
  have sz3 : h.size ≤ h3.size := E3.1
  replace E := E.ext E3
  replace Fv := Fv.ext E3
  replace Fc := Fc.ext E3
  replace Fn := Fn.ext E3
  refine w3.putF (q := 17) d8_14 (H.tw 76 rfl) Via.refl Fv E (Or.inl (H.tw 77 rfl)) (H.tw 63 rfl) (ty := (.array .byte)) (by decide) rfl rfl g (w3.sfE E (by decide) (by decide)) rfl fun T4 h4 w4 W4 sf4 => ?_
  have sz4 : h3.size ≤ h4.size := (Keep.of_wr W4).1
  replace E := E.wr W4
  replace Fc := Fc.other W4 (Or.inr (slot_ne (Or.inl (H.tw 79 rfl)) (Or.inl (H.tw 77 rfl)) (by decide) (t := .byte) (t' := (.array .byte)) (by decide) (by decide)))
  replace Fn := Fn.other W4 (Or.inr (slot_ne (Or.inl (H.tw 136 rfl)) (Or.inl (H.tw 77 rfl)) (by decide) (t := .int) (t' := (.array .byte)) (by decide) (by decide)))
  have Fv2 := Fv.same W4
  replace A3 := A3.other W4 (neN (by omega))
  refine w4.aloadN (q := 18) d8_17 rfl rfl rfl ?_
  refine w4.iconst (q := 19) (0 : Int32) d8_18 rfl rfl ?_
  refine w4.putF (q := 22) d8_19 (H.tw 78 rfl) Via.refl Fc E (Or.inl (H.tw 79 rfl)) (H.tw 63 rfl) (ty := .byte) (by decide) rfl rfl g (w4.sfE E (by decide) (by decide)) rfl fun T5 h5 w5 W5 sf5 => ?_
  have sz5 : h4.size ≤ h5.size := (Keep.of_wr W5).1
  replace E := E.wr W5
  replace Fv2 := Fv2.other W5 (Or.inr (slot_ne (Or.inl (H.tw 77 rfl)) (Or.inl (H.tw 79 rfl)) (by decide) (t := (.array .byte)) (t' := .byte) (by decide) (by decide)))
  replace Fn := Fn.other W5 (Or.inr (slot_ne (Or.inl (H.tw 136 rfl)) (Or.inl (H.tw 79 rfl)) (by decide) (t := .int) (t' := .byte) (by decide) (by decide)))
  replace Fc := Fc.same W5
  replace A3 := A3.other W5 (neN (by omega))
  have K1 : Keep h h5 [a] := (((Keep.refl h [a]).ext E3).wr W4 (Or.inl (List.mem_singleton.mpr rfl))).wr W5 (Or.inl (List.mem_singleton.mpr rfl))
  refine w5.goto (q := 38) d8_22 (by decide) (by decide) ?_
  exact w5.retV d8_38 rfl (by decide) (by decide) ⟨rfl, K1, b3, kc3, by omega, E, Fv2, Fc, Fn, [.int (0 : Int32), .int (0 : Int32), .int (0 : Int32), .int (0 : Int32), .int (0 : Int32), .int (0 : Int32), .int (0 : Int32), .int (0 : Int32), .int (0 : Int32), .int (0 : Int32), .int (0 : Int32), .int (0 : Int32), .int (0 : Int32), .int (0 : Int32), .int (0 : Int32), .int (0 : Int32)], rfl, A3⟩
theorem d9_0 : decode jdk_67_method_1_code 0 = .ok (.aload_n 0, 1) := by decide +kernel
theorem d9_1 : decode jdk_67_method_1_code 1 = .ok (.bipush 16, 2) := by decide +kernel
theorem d9_3 : decode jdk_67_method_1_code 3 = .ok (.invokespecial 1, 3) := by decide +kernel
theorem pd10 : parseMethodDescriptor "(I)V" = some ⟨[.int], none⟩ := by decide +kernel
theorem d9_6 : decode jdk_67_method_1_code 6 = .ok (.return_, 1) := by decide +kernel
theorem pn11 : plainName "java/lang/StringBuilder" = true := by first | (simp [plainName, overriddenIn]; done) | decide +kernel
set_option maxRecDepth 65536 in
set_option maxHeartbeats 40000000 in
theorem con_sb (G : Gx) (H : Hyp G) (a : Nat) (h : Heap) (ho : Old G.Z G.n0 h) (E : Exa G.Z h a "java/lang/StringBuilder") (Fv : Fld G.Z h a "java/lang/AbstractStringBuilder" "value" "[B" .null) (Fc : Fld G.Z h a "java/lang/AbstractStringBuilder" "coder" "B" (.int (0 : Int32))) (Fn : Fld G.Z h a "java/lang/AbstractStringBuilder" "count" "I" (.int (0 : Int32))) (g : G.n0 ≤ a) :
    Con G (⟨"java/lang/StringBuilder", "<init>", "()V"⟩ : MethodName) jdk_67_method_1_code 1 none [] ({ frames := 2, cells := 1, slots := 16, locals := 25 } : Room) #[(.ref a)] h (nQ fun h' => Keep h h' [a] ∧ ∃ (ar : Nat) (kc : ClassId), h.size ≤ ar ∧ SBd G.Z h' a ar kc []) := by
  refine Con.intro H.el ho (plainFor_of_name pn11) (Ls := #[.val (.ref a)]) (fun m => by first | (simp [entryFrame, mkF, argsToLocals, Value.category]; done) | rfl) ?_
  intro X vm T w
  refine w.aloadN (q := 1) d9_0 rfl rfl rfl ?_
  refine w.bipush (q := 3) (16 : Int32) d9_1 rfl rfl ?_
  refine w.callC (q := 6) d9_3 rfl (H.tw 68 rfl) (H.tw 69 rfl) (H.tw 73 rfl) (by decide) (a := a) (argsL := [(.int (16 : Int32))]) (rest := []) rfl (lenOf pd10 rfl) rfl (W := 0) (Nat.le_of_eq rfl) ((con_asb G H a h ho E Fv Fc Fn g).pay w (H.tw 73 rfl) (H.tw 72 rfl) (by decide) (by decide)) (by decide) (by decide) rfl fun vm1 T1 h1 v1 w1 q1 => ?_
  obtain ⟨rfl, K1, B1⟩ := q1
  show Go _ _ _ _ (T1.setTop (mkF X.m 6 #[.val (.ref a)] []))
  exact w1.retV d9_6 rfl (by decide) (by decide) ⟨rfl, K1, B1⟩
theorem d12_0 : decode jdk_43_method_25_code 0 = .ok (.aload_n 2, 1) := by decide +kernel
theorem d12_1 : decode jdk_43_method_25_code 1 = .ok (.iconst 0, 1) := by decide +kernel
theorem d12_2 : decode jdk_43_method_25_code 2 = .ok (.baload, 1) := by decide +kernel
theorem d12_3 : decode jdk_43_method_25_code 3 = .ok (.istore 5, 2) := by decide +kernel
theorem d12_5 : decode jdk_43_method_25_code 5 = .ok (.iload_n 1, 1) := by decide +kernel
theorem d12_6 : decode jdk_43_method_25_code 6 = .ok (.iload_n 3, 1) := by decide +kernel
theorem d12_7 : decode jdk_43_method_25_code 7 = .ok (.isub, 1) := by decide +kernel
theorem d12_8 : decode jdk_43_method_25_code 8 = .ok (.istore 6, 2) := by decide +kernel
theorem d12_10 : decode jdk_43_method_25_code 10 = .ok (.iload 4, 2) := by decide +kernel
theorem d12_12 : decode jdk_43_method_25_code 12 = .ok (.istore 7, 2) := by decide +kernel
theorem d12_14 : decode jdk_43_method_25_code 14 = .ok (.iload 7, 2) := by decide +kernel
theorem d12_16 : decode jdk_43_method_25_code 16 = .ok (.iload 6, 2) := by decide +kernel
theorem d12_18 : decode jdk_43_method_25_code 18 = .ok (.if_icmp .gt 101, 3) := by decide +kernel
theorem d12_21 : decode jdk_43_method_25_code 21 = .ok (.aload_n 0, 1) := by decide +kernel
theorem d12_22 : decode jdk_43_method_25_code 22 = .ok (.iload 7, 2) := by decide +kernel
theorem d12_24 : decode jdk_43_method_25_code 24 = .ok (.baload, 1) := by decide +kernel
theorem d12_25 : decode jdk_43_method_25_code 25 = .ok (.iload 5, 2) := by decide +kernel
theorem d12_27 : decode jdk_43_method_25_code 27 = .ok (.if_icmp .eq 25, 3) := by decide +kernel
theorem d12_52 : decode jdk_43_method_25_code 52 = .ok (.iload 7, 2) := by decide +kernel
theorem d12_54 : decode jdk_43_method_25_code 54 = .ok (.iload 6, 2) := by decide +kernel
theorem d12_56 : decode jdk_43_method_25_code 56 = .ok (.if_icmp .gt 57, 3) := by decide +kernel
theorem d12_59 : decode jdk_43_method_25_code 59 = .ok (.iload 7, 2) := by decide +kernel
theorem d12_61 : decode jdk_43_method_25_code 61 = .ok (.iconst 1, 1) := by decide +kernel
theorem d12_62 : decode jdk_43_method_25_code 62 = .ok (.iadd, 1) := by decide +kernel
theorem d12_63 : decode jdk_43_method_25_code 63 = .ok (.istore 8, 2) := by decide +kernel
theorem d12_65 : decode jdk_43_method_25_code 65 = .ok (.iload 8, 2) := by decide +kernel
theorem d12_67 : decode jdk_43_method_25_code 67 = .ok (.iload_n 3, 1) := by decide +kernel
theorem d12_68 : decode jdk_43_method_25_code 68 = .ok (.iadd, 1) := by decide +kernel
theorem d12_69 : decode jdk_43_method_25_code 69 = .ok (.iconst 1, 1) := by decide +kernel
theorem d12_70 : decode jdk_43_method_25_code 70 = .ok (.isub, 1) := by decide +kernel
theorem d12_71 : decode jdk_43_method_25_code 71 = .ok (.istore 9, 2) := by decide +kernel
theorem d12_73 : decode jdk_43_method_25_code 73 = .ok (.iconst 1, 1) := by decide +kernel
theorem d12_74 : decode jdk_43_method_25_code 74 = .ok (.istore 10, 2) := by decide +kernel
theorem d12_76 : decode jdk_43_method_25_code 76 = .ok (.iload 8, 2) := by decide +kernel
theorem d12_78 : decode jdk_43_method_25_code 78 = .ok (.iload 9, 2) := by decide +kernel
theorem d12_80 : decode jdk_43_method_25_code 80 = .ok (.if_icmp .ge 23, 3) := by decide +kernel
theorem d12_103 : decode jdk_43_method_25_code 103 = .ok (.iload 8, 2) := by decide +kernel
theorem d12_105 : decode jdk_43_method_25_code 105 = .ok (.iload 9, 2) := by decide +kernel
theorem d12_107 : decode jdk_43_method_25_code 107 = .ok (.if_icmp .ne 6, 3) := by decide +kernel
theorem d12_110 : decode jdk_43_method_25_code 110 = .ok (.iload 7, 2) := by decide +kernel
theorem d12_112 : decode jdk_43_method_25_code 112 = .ok (.ireturn, 1) := by decide +kernel
theorem d12_30 : decode jdk_43_method_25_code 30 = .ok (.iinc 7 1, 3) := by decide +kernel
theorem d12_33 : decode jdk_43_method_25_code 33 = .ok (.iload 7, 2) := by decide +kernel
theorem d12_35 : decode jdk_43_method_25_code 35 = .ok (.iload 6, 2) := by decide +kernel
theorem d12_37 : decode jdk_43_method_25_code 37 = .ok (.if_icmp .gt 15, 3) := by decide +kernel
theorem d12_113 : decode jdk_43_method_25_code 113 = .ok (.iinc 7 1, 3) := by decide +kernel
theorem d12_116 : decode jdk_43_method_25_code 116 = .ok (.goto (-102), 3) := by decide +kernel
theorem d12_119 : decode jdk_43_method_25_code 119 = .ok (.iconst (-1), 1) := by decide +kernel
theorem d12_120 : decode jdk_43_method_25_code 120 = .ok (.ireturn, 1) := by decide +kernel
theorem d12_40 : decode jdk_43_method_25_code 40 = .ok (.aload_n 0, 1) := by decide +kernel
theorem d12_41 : decode jdk_43_method_25_code 41 = .ok (.iload 7, 2) := by decide +kernel
theorem d12_43 : decode jdk_43_method_25_code 43 = .ok (.baload, 1) := by decide +kernel
theorem d12_44 : decode jdk_43_method_25_code 44 = .ok (.iload 5, 2) := by decide +kernel
theorem d12_46 : decode jdk_43_method_25_code 46 = .ok (.if_icmp .eq 6, 3) := by decide +kernel
theorem d12_49 : decode jdk_43_method_25_code 49 = .ok (.goto (-19), 3) := by decide +kernel
theorem pn13 : plainName "java/lang/StringLatin1" = true := by first | (simp [plainName, overriddenIn]; done) | decide +kernel
set_option maxRecDepth 65536 in
set_option maxHeartbeats 40000000 in
theorem con_ix5 (G : Gx) (H : Hyp G) (t u : Nat) (kb ku : ClassId) (N : Int32) (cs : List Int32) (h : Heap) (ho : Old G.Z G.n0 h) (A : Arv G.Z h t kb .byte N (cs.map (fun c => Value.int (StrChars.lo8 c))) (.int (0 : Int32))) (B : Arv G.Z h u ku .byte (1 : Int32) [.int (58 : Int32)] (.int (0 : Int32))) (hN : N = Int32.ofNat cs.length) (hc : ∀ c ∈ cs, ¬ c < 0 ∧ ¬ (255 : Int32) < c) (hth : (∃ c0, cs = [c0]) ∨ (∃ c0 c1, cs = [c0, c1]) ∨ (∃ c0 c1 c2, cs = [c0, c1, c2])) :
    Con G (⟨"java/lang/StringLatin1", "indexOf", "([BI[BII)I"⟩ : MethodName) jdk_43_method_25_code 11 (some .int) [] ({ frames := 0, cells := 0, slots := 0, locals := 0 } : Room) #[(.ref t), (.int N), (.ref u), (.int (1 : Int32)), (.int (0 : Int32))] h (vQ fun v h' => ∃ r : Int32, v = .int r ∧ (r < 0 ↔ ¬ (58 : Int32) ∈ cs) ∧ h = h') := by
  refine Con.intro H.el ho (plainFor_of_name pn13) (Ls := #[.val (.ref t), .val (.int N), .val (.ref u), .val (.int (1 : Int32)), .val (.int (0 : Int32)), .unset, .unset, .unset, .unset, .unset, .unset]) (fun m => by first | (simp [entryFrame, mkF, argsToLocals, Value.category]; done) | rfl) ?_
  intro X vm T w
  rcases hth with ⟨c0, rfl⟩ | ⟨c0, c1, rfl⟩ | ⟨c0, c1, c2, rfl⟩
  ·
    obtain rfl : N = (1 : Int32) := hN
    have l0 := lo58 (hc c0 (by simp))
    refine w.aloadN (q := 1) d12_0 rfl rfl rfl ?_
    refine w.iconst (q := 2) (0 : Int32) d12_1 rfl rfl ?_
    refine w.baload (q := 3) (x := (58 : Int32)) d12_2 B ⟨by decide, by decide⟩ rfl rfl ?_
    refine w.istore (q := 5) (L2 := #[.val (.ref t), .val (.int (1 : Int32)), .val (.ref u), .val (.int (1 : Int32)), .val (.int (0 : Int32)), .val (.int (58 : Int32)), .unset, .unset, .unset, .unset, .unset]) d12_3 rfl rfl ?_
    refine w.iloadN (q := 6) d12_5 rfl rfl ?_
    refine w.iloadN (q := 7) d12_6 rfl rfl ?_
    refine w.isub (q := 8) d12_7 rfl ?_
    refine w.istore (q := 10) (L2 := #[.val (.ref t), .val (.int (1 : Int32)), .val (.ref u), .val (.int (1 : Int32)), .val (.int (0 : Int32)), .val (.int (58 : Int32)), .val (.int ((1 : Int32) - (1 : Int32))), .unset, .unset, .unset, .unset]) d12_8 rfl rfl ?_
    refine w.iload (q := 12) d12_10 rfl rfl ?_
    refine w.istore (q := 14) (L2 := #[.val (.ref t), .val (.int (1 : Int32)), .val (.ref u), .val (.int (1 : Int32)), .val (.int (0 : Int32)), .val (.int (58 : Int32)), .val (.int ((1 : Int32) - (1 : Int32))), .val (.int (0 : Int32)), .unset, .unset, .unset]) d12_12 rfl rfl ?_
    refine w.iload (q := 16) d12_14 rfl rfl ?_
    refine w.iload (q := 18) d12_16 rfl rfl ?_
    refine w.icN (q := 21) d12_18 ((flt (by decide)).2.2.1) rfl ?_
    refine w.aloadN (q := 22) d12_21 rfl rfl rfl ?_
    refine w.iload (q := 24) d12_22 rfl rfl ?_
    refine w.baload (q := 25) (x := (StrChars.lo8 c0)) d12_24 A ⟨by decide, by decide⟩ rfl rfl ?_
    refine w.iload (q := 27) d12_25 rfl rfl ?_
    by_cases e0 : (StrChars.lo8 c0) = (58 : Int32)
    ·
      refine w.icY (q := 52) d12_27 ((teq e0).1) (by decide) (by decide) ?_
      refine w.iload (q := 54) d12_52 rfl rfl ?_
      refine w.iload (q := 56) d12_54 rfl rfl ?_
      refine w.icN (q := 59) d12_56 ((flt (by decide)).2.2.1) rfl ?_
      refine w.iload (q := 61) d12_59 rfl rfl ?_
      refine w.iconst (q := 62) (1 : Int32) d12_61 rfl rfl ?_
      refine w.iadd (q := 63) d12_62 rfl ?_
      refine w.istore (q := 65) (L2 := #[.val (.ref t), .val (.int (1 : Int32)), .val (.ref u), .val (.int (1 : Int32)), .val (.int (0 : Int32)), .val (.int (58 : Int32)), .val (.int ((1 : Int32) - (1 : Int32))), .val (.int (0 : Int32)), .val (.int ((0 : Int32) + (1 : Int32))), .unset, .unset]) d12_63 rfl rfl ?_
      refine w.iload (q := 67) d12_65 rfl rfl ?_
      refine w.iloadN (q := 68) d12_67 rfl rfl ?_
      refine w.iadd (q := 69) d12_68 rfl ?_
      refine w.iconst (q := 70) (1 : Int32) d12_69 rfl rfl ?_
      refine w.isub (q := 71) d12_70 rfl ?_
      refine w.istore (q := 73) (L2 := #[.val (.ref t), .val (.int (1 : Int32)), .val (.ref u), .val (.int (1 : Int32)), .val (.int (0 : Int32)), .val (.int (58 : Int32)), .val (.int ((1 : Int32) - (1 : Int32))), .val (.int (0 : Int32)), .val (.int ((0 : Int32) + (1 : Int32))), .val (.int ((((0 : Int32) + (1 : Int32)) + (1 : Int32)) - (1 : Int32))), .unset]) d12_71 rfl rfl ?_
      refine w.iconst (q := 74) (1 : Int32) d12_73 rfl rfl ?_
      refine w.istore (q := 76) (L2 := #[.val (.ref t), .val (.int (1 : Int32)), .val (.ref u), .val (.int (1 : Int32)), .val (.int (0 : Int32)), .val (.int (58 : Int32)), .val (.int ((1 : Int32) - (1 : Int32))), .val (.int (0 : Int32)), .val (.int ((0 : Int32) + (1 : Int32))), .val (.int ((((0 : Int32) + (1 : Int32)) + (1 : Int32)) - (1 : Int32))), .val (.int (1 : Int32))]) d12_74 rfl rfl ?_
      refine w.iload (q := 78) d12_76 rfl rfl ?_
      refine w.iload (q := 80) d12_78 rfl rfl ?_
      refine w.icY (q := 103) d12_80 ((flt (by decide)).2.1) (by decide) (by decide) ?_
      refine w.iload (q := 105) d12_103 rfl rfl ?_
      refine w.iload (q := 107) d12_105 rfl rfl ?_
      refine w.icN (q := 110) d12_107 ((teq (by decide)).2) rfl ?_
      refine w.iload (q := 112) d12_110 rfl rfl ?_
      exact w.retI d12_112 rfl (by decide) (by decide) ⟨_, rfl, _, rfl, ⟨fun q => absurd q (by decide), fun q => absurd (by simp [l0.mp e0]) q⟩, rfl⟩
    ·
      refine w.icN (q := 30) d12_27 ((feq e0).1) rfl ?_
      refine w.iinc (q := 33) (L2 := #[.val (.ref t), .val (.int (1 : Int32)), .val (.ref u), .val (.int (1 : Int32)), .val (.int (0 : Int32)), .val (.int (58 : Int32)), .val (.int ((1 : Int32) - (1 : Int32))), .val (.int ((0 : Int32) + (1 : Int32))), .unset, .unset, .unset]) (1 : Int32) d12_30 rfl rfl rfl rfl ?_
      refine w.iload (q := 35) d12_33 rfl rfl ?_
      refine w.iload (q := 37) d12_35 rfl rfl ?_
      refine w.icY (q := 52) d12_37 ((tlt (by decide)).2.2.1) (by decide) (by decide) ?_
      refine w.iload (q := 54) d12_52 rfl rfl ?_
      refine w.iload (q := 56) d12_54 rfl rfl ?_
      refine w.icY (q := 113) d12_56 ((tlt (by decide)).2.2.1) (by decide) (by decide) ?_
      refine w.iinc (q := 116) (L2 := #[.val (.ref t), .val (.int (1 : Int32)), .val (.ref u), .val (.int (1 : Int32)), .val (.int (0 : Int32)), .val (.int (58 : Int32)), .val (.int ((1 : Int32) - (1 : Int32))), .val (.int (((0 : Int32) + (1 : Int32)) + (1 : Int32))), .unset, .unset, .unset]) (1 : Int32) d12_113 rfl rfl rfl rfl ?_
      refine w.goto (q := 14) d12_116 (by decide) (by decide) ?_
      refine w.iload (q := 16) d12_14 rfl rfl ?_
      refine w.iload (q := 18) d12_16 rfl rfl ?_
      refine w.icY (q := 119) d12_18 ((tlt (by decide)).2.2.1) (by decide) (by decide) ?_
      refine w.iconst (q := 120) (-1 : Int32) d12_119 rfl rfl ?_
      exact w.retI d12_120 rfl (by decide) (by decide) ⟨_, rfl, _, rfl, ⟨fun _ q => by simp only [List.mem_cons, List.not_mem_nil, or_false] at q; exact e0 (l0.mpr q.symm), fun _ => by decide⟩, rfl⟩
  ·
    obtain rfl : N = (2 : Int32) := hN
    have l0 := lo58 (hc c0 (by simp))
    have l1 := lo58 (hc c1 (by simp))
    refine w.aloadN (q := 1) d12_0 rfl rfl rfl ?_
    refine w.iconst (q := 2) (0 : Int32) d12_1 rfl rfl ?_
    refine w.baload (q := 3) (x := (58 : Int32)) d12_2 B ⟨by decide, by decide⟩ rfl rfl ?_
    refine w.istore (q := 5) (L2 := #[.val (.ref t), .val (.int (2 : Int32)), .val (.ref u), .val (.int (1 : Int32)), .val (.int (0 : Int32)), .val (.int (58 : Int32)), .unset, .unset, .unset, .unset, .unset]) d12_3 rfl rfl ?_
    refine w.iloadN (q := 6) d12_5 rfl rfl ?_
    refine w.iloadN (q := 7) d12_6 rfl rfl ?_
    refine w.isub (q := 8) d12_7 rfl ?_
    refine w.istore (q := 10) (L2 := #[.val (.ref t), .val (.int (2 : Int32)), .val (.ref u), .val (.int (1 : Int32)), .val (.int (0 : Int32)), .val (.int (58 : Int32)), .val (.int ((2 : Int32) - (1 : Int32))), .unset, .unset, .unset, .unset]) d12_8 rfl rfl ?_
    refine w.iload (q := 12) d12_10 rfl rfl ?_
    refine w.istore (q := 14) (L2 := #[.val (.ref t), .val (.int (2 : Int32)), .val (.ref u), .val (.int (1 : Int32)), .val (.int (0 : Int32)), .val (.int (58 : Int32)), .val (.int ((2 : Int32) - (1 : Int32))), .val (.int (0 : Int32)), .unset, .unset, .unset]) d12_12 rfl rfl ?_
    refine w.iload (q := 16) d12_14 rfl rfl ?_
    refine w.iload (q := 18) d12_16 rfl rfl ?_
    refine w.icN (q := 21) d12_18 ((flt (by decide)).2.2.1) rfl ?_
    refine w.aloadN (q := 22) d12_21 rfl rfl rfl ?_
    refine w.iload (q := 24) d12_22 rfl rfl ?_
    refine w.baload (q := 25) (x := (StrChars.lo8 c0)) d12_24 A ⟨by decide, by decide⟩ rfl rfl ?_
    refine w.iload (q := 27) d12_25 rfl rfl ?_
    by_cases e0 : (StrChars.lo8 c0) = (58 : Int32)
    ·
      refine w.icY (q := 52) d12_27 ((teq e0).1) (by decide) (by decide) ?_
      refine w.iload (q := 54) d12_52 rfl rfl ?_
      refine w.iload (q := 56) d12_54 rfl rfl ?_
      refine w.icN (q := 59) d12_56 ((flt (by decide)).2.2.1) rfl ?_
      refine w.iload (q := 61) d12_59 rfl rfl ?_
      refine w.iconst (q := 62) (1 : Int32) d12_61 rfl rfl ?_
      refine w.iadd (q := 63) d12_62 rfl ?_
      refine w.istore (q := 65) (L2 := #[.val (.ref t), .val (.int (2 : Int32)), .val (.ref u), .val (.int (1 : Int32)), .val (.int (0 : Int32)), .val (.int (58 : Int32)), .val (.int ((2 : Int32) - (1 : Int32))), .val (.int (0 : Int32)), .val (.int ((0 : Int32) + (1 : Int32))), .unset, .unset]) d12_63 rfl rfl ?_
      refine w.iload (q := 67) d12_65 rfl rfl ?_
      refine w.iloadN (q := 68) d12_67 rfl rfl ?_
      refine w.iadd (q := 69) d12_68 rfl ?_
      refine w.iconst (q := 70) (1 : Int32) d12_69 rfl rfl ?_
      refine w.isub (q := 71) d12_70 rfl ?_
      refine w.istore (q := 73) (L2 := #[.val (.ref t), .val (.int (2 : Int32)), .val (.ref u), .val (.int (1 : Int32)), .val (.int (0 : Int32)), .val (.int (58 : Int32)), .val (.int ((2 : Int32) - (1 : Int32))), .val (.int (0 : Int32)), .val (.int ((0 : Int32) + (1 : Int32))), .val (.int ((((0 : Int32) + (1 : Int32)) + (1 : Int32)) - (1 : Int32))), .unset]) d12_71 rfl rfl ?_
      refine w.iconst (q := 74) (1 : Int32) d12_73 rfl rfl ?_
      refine w.istore (q := 76) (L2 := #[.val (.ref t), .val (.int (2 : Int32)), .val (.ref u), .val (.int (1 : Int32)), .val (.int (0 : Int32)), .val (.int (58 : Int32)), .val (.int ((2 : Int32) - (1 : Int32))), .val (.int (0 : Int32)), .val (.int ((0 : Int32) + (1 : Int32))), .val (.int ((((0 : Int32) + (1 : Int32)) + (1 : Int32)) - (1 : Int32))), .val (.int (1 : Int32))]) d12_74 rfl rfl ?_
      refine w.iload (q := 78) d12_76 rfl rfl ?_
      refine w.iload (q := 80) d12_78 rfl rfl ?_
      refine w.icY (q := 103) d12_80 ((flt (by decide)).2.1) (by decide) (by decide) ?_
      refine w.iload (q := 105) d12_103 rfl rfl ?_
      refine w.iload (q := 107) d12_105 rfl rfl ?_
      refine w.icN (q := 110) d12_107 ((teq (by decide)).2) rfl ?_
      refine w.iload (q := 112) d12_110 rfl rfl ?_
      exact w.retI d12_112 rfl (by decide) (by decide) ⟨_, rfl, _, rfl, ⟨fun q => absurd q (by decide), fun q => absurd (by simp [l0.mp e0]) q⟩, rfl⟩
    ·
      refine w.icN (q := 30) d12_27 ((feq e0).1) rfl ?_
      refine w.iinc (q := 33) (L2 := #[.val (.ref t), .val (.int (2 : Int32)), .val (.ref u), .val (.int (1 : Int32)), .val (.int (0 : Int32)), .val (.int (58 : Int32)), .val (.int ((2 : Int32) - (1 : Int32))), .val (.int ((0 : Int32) + (1 : Int32))), .unset, .unset, .unset]) (1 : Int32) d12_30 rfl rfl rfl rfl ?_
      refine w.iload (q := 35) d12_33 rfl rfl ?_
      refine w.iload (q := 37) d12_35 rfl rfl ?_
      refine w.icN (q := 40) d12_37 ((flt (by decide)).2.2.1) rfl ?_
      refine w.aloadN (q := 41) d12_40 rfl rfl rfl ?_
      refine w.iload (q := 43) d12_41 rfl rfl ?_
      refine w.baload (q := 44) (x := (StrChars.lo8 c1)) d12_43 A ⟨by decide, by decide⟩ rfl rfl ?_
      refine w.iload (q := 46) d12_44 rfl rfl ?_
      by_cases e1 : (StrChars.lo8 c1) = (58 : Int32)
      ·
        refine w.icY (q := 52) d12_46 ((teq e1).1) (by decide) (by decide) ?_
        refine w.iload (q := 54) d12_52 rfl rfl ?_
        refine w.iload (q := 56) d12_54 rfl rfl ?_
        refine w.icN (q := 59) d12_56 ((flt (by decide)).2.2.1) rfl ?_
        refine w.iload (q := 61) d12_59 rfl rfl ?_
        refine w.iconst (q := 62) (1 : Int32) d12_61 rfl rfl ?_
        refine w.iadd (q := 63) d12_62 rfl ?_
        refine w.istore (q := 65) (L2 := #[.val (.ref t), .val (.int (2 : Int32)), .val (.ref u), .val (.int (1 : Int32)), .val (.int (0 : Int32)), .val (.int (58 : Int32)), .val (.int ((2 : Int32) - (1 : Int32))), .val (.int ((0 : Int32) + (1 : Int32))), .val (.int (((0 : Int32) + (1 : Int32)) + (1 : Int32))), .unset, .unset]) d12_63 rfl rfl ?_
        refine w.iload (q := 67) d12_65 rfl rfl ?_
        refine w.iloadN (q := 68) d12_67 rfl rfl ?_
        refine w.iadd (q := 69) d12_68 rfl ?_
        refine w.iconst (q := 70) (1 : Int32) d12_69 rfl rfl ?_
        refine w.isub (q := 71) d12_70 rfl ?_
        refine w.istore (q := 73) (L2 := #[.val (.ref t), .val (.int (2 : Int32)), .val (.ref u), .val (.int (1 : Int32)), .val (.int (0 : Int32)), .val (.int (58 : Int32)), .val (.int ((2 : Int32) - (1 : Int32))), .val (.int ((0 : Int32) + (1 : Int32))), .val (.int (((0 : Int32) + (1 : Int32)) + (1 : Int32))), .val (.int (((((0 : Int32) + (1 : Int32)) + (1 : Int32)) + (1 : Int32)) - (1 : Int32))), .unset]) d12_71 rfl rfl ?_
        refine w.iconst (q := 74) (1 : Int32) d12_73 rfl rfl ?_
        refine w.istore (q := 76) (L2 := #[.val (.ref t), .val (.int (2 : Int32)), .val (.ref u), .val (.int (1 : Int32)), .val (.int (0 : Int32)), .val (.int (58 : Int32)), .val (.int ((2 : Int32) - (1 : Int32))), .val (.int ((0 : Int32) + (1 : Int32))), .val (.int (((0 : Int32) + (1 : Int32)) + (1 : Int32))), .val (.int (((((0 : Int32) + (1 : Int32)) + (1 : Int32)) + (1 : Int32)) - (1 : Int32))), .val (.int (1 : Int32))]) d12_74 rfl rfl ?_
        refine w.iload (q := 78) d12_76 rfl rfl ?_
        refine w.iload (q := 80) d12_78 rfl rfl ?_
        refine w.icY (q := 103) d12_80 ((flt (by decide)).2.1) (by decide) (by decide) ?_
        refine w.iload (q := 105) d12_103 rfl rfl ?_
        refine w.iload (q := 107) d12_105 rfl rfl ?_
        refine w.icN (q := 110) d12_107 ((teq (by decide)).2) rfl ?_
        refine w.iload (q := 112) d12_110 rfl rfl ?_
        exact w.retI d12_112 rfl (by decide) (by decide) ⟨_, rfl, _, rfl, ⟨fun q => absurd q (by decide), fun q => absurd (by simp [l1.mp e1]) q⟩, rfl⟩
      ·
        refine w.icN (q := 49) d12_46 ((feq e1).1) rfl ?_
        refine w.goto (q := 30) d12_49 (by decide) (by decide) ?_
        refine w.iinc (q := 33) (L2 := #[.val (.ref t), .val (.int (2 : Int32)), .val (.ref u), .val (.int (1 : Int32)), .val (.int (0 : Int32)), .val (.int (58 : Int32)), .val (.int ((2 : Int32) - (1 : Int32))), .val (.int (((0 : Int32) + (1 : Int32)) + (1 : Int32))), .unset, .unset, .unset]) (1 : Int32) d12_30 rfl rfl rfl rfl ?_
        refine w.iload (q := 35) d12_33 rfl rfl ?_
        refine w.iload (q := 37) d12_35 rfl rfl ?_
        refine w.icY (q := 52) d12_37 ((tlt (by decide)).2.2.1) (by decide) (by decide) ?_
        refine w.iload (q := 54) d12_52 rfl rfl ?_
        refine w.iload (q := 56) d12_54 rfl rfl ?_
        refine w.icY (q := 113) d12_56 ((tlt (by decide)).2.2.1) (by decide) (by decide) ?_
        refine w.iinc (q := 116) (L2 := #[.val (.ref t), .val (.int (2 : Int32)), .val (.ref u), .val (.int (1 : Int32)), .val (.int (0 : Int32)), .val (.int (58 : Int32)), .val (.int ((2 : Int32) - (1 : Int32))), .val (.int ((((0 : Int32) + (1 : Int32)) + (1 : Int32)) + (1 : Int32))), .unset, .unset, .unset]) (1 : Int32) d12_113 rfl rfl rfl rfl ?_
        refine w.goto (q := 14) d12_116 (by decide) (by decide) ?_
        refine w.iload (q := 16) d12_14 rfl rfl ?_
        refine w.iload (q := 18) d12_16 rfl rfl ?_
        refine w.icY (q := 119) d12_18 ((tlt (by decide)).2.2.1) (by decide) (by decide) ?_
        refine w.iconst (q := 120) (-1 : Int32) d12_119 rfl rfl ?_
        exact w.retI d12_120 rfl (by decide) (by decide) ⟨_, rfl, _, rfl, ⟨fun _ q => by simp only [List.mem_cons, List.not_mem_nil, or_false] at q; rcases q with q | q; exact e0 (l0.mpr q.symm); exact e1 (l1.mpr q.symm), fun _ => by decide⟩, rfl⟩
  ·
    obtain rfl : N = (3 : Int32) := hN
    have l0 := lo58 (hc c0 (by simp))
    have l1 := lo58 (hc c1 (by simp))
    have l2 := lo58 (hc c2 (by simp))
    refine w.aloadN (q := 1) d12_0 rfl rfl rfl ?_
    refine w.iconst (q := 2) (0 : Int32) d12_1 rfl rfl ?_
    refine w.baload (q := 3) (x := (58 : Int32)) d12_2 B ⟨by decide, by decide⟩ rfl rfl ?_
    refine w.istore (q := 5) (L2 := #[.val (.ref t), .val (.int (3 : Int32)), .val (.ref u), .val (.int (1 : Int32)), .val (.int (0 : Int32)), .val (.int (58 : Int32)), .unset, .unset, .unset, .unset, .unset]) d12_3 rfl rfl ?_
    refine w.iloadN (q := 6) d12_5 rfl rfl ?_
    refine w.iloadN (q := 7) d12_6 rfl rfl ?_
    refine w.isub (q := 8) d12_7 rfl ?_
    refine w.istore (q := 10) (L2 := #[.val (.ref t), .val (.int (3 : Int32)), .val (.ref u), .val (.int (1 : Int32)), .val (.int (0 : Int32)), .val (.int (58 : Int32)), .val (.int ((3 : Int32) - (1 : Int32))), .unset, .unset, .unset, .unset]) d12_8 rfl rfl ?_
    refine w.iload (q := 12) d12_10 rfl rfl ?_
    refine w.istore (q := 14) (L2 := #[.val (.ref t), .val (.int (3 : Int32)), .val (.ref u), .val (.int (1 : Int32)), .val (.int (0 : Int32)), .val (.int (58 : Int32)), .val (.int ((3 : Int32) - (1 : Int32))), .val (.int (0 : Int32)), .unset, .unset, .unset]) d12_12 rfl rfl ?_
    refine w.iload (q := 16) d12_14 rfl rfl ?_
    refine w.iload (q := 18) d12_16 rfl rfl ?_
    refine w.icN (q := 21) d12_18 ((flt (by decide)).2.2.1) rfl ?_
    refine w.aloadN (q := 22) d12_21 rfl rfl rfl ?_
    refine w.iload (q := 24) d12_22 rfl rfl ?_
    refine w.baload (q := 25) (x := (StrChars.lo8 c0)) d12_24 A ⟨by decide, by decide⟩ rfl rfl ?_
    refine w.iload (q := 27) d12_25 rfl rfl ?_
    by_cases e0 : (StrChars.lo8 c0) = (58 : Int32)
    ·
      refine w.icY (q := 52) d12_27 ((teq e0).1) (by decide) (by decide) ?_
      refine w.iload (q := 54) d12_52 rfl rfl ?_
      refine w.iload (q := 56) d12_54 rfl rfl ?_
      refine w.icN (q := 59) d12_56 ((flt (by decide)).2.2.1) rfl ?_
      refine w.iload (q := 61) d12_59 rfl rfl ?_
      refine w.iconst (q := 62) (1 : Int32) d12_61 rfl rfl ?_
      refine w.iadd (q := 63) d12_62 rfl ?_
      refine w.istore (q := 65) (L2 := #[.val (.ref t), .val (.int (3 : Int32)), .val (.ref u), .val (.int (1 : Int32)), .val (.int (0 : Int32)), .val (.int (58 : Int32)), .val (.int ((3 : Int32) - (1 : Int32))), .val (.int (0 : Int32)), .val (.int ((0 : Int32) + (1 : Int32))), .unset, .unset]) d12_63 rfl rfl ?_
      refine w.iload (q := 67) d12_65 rfl rfl ?_
      refine w.iloadN (q := 68) d12_67 rfl rfl ?_
      refine w.iadd (q := 69) d12_68 rfl ?_
      refine w.iconst (q := 70) (1 : Int32) d12_69 rfl rfl ?_
      refine w.isub (q := 71) d12_70 rfl ?_
      refine w.istore (q := 73) (L2 := #[.val (.ref t), .val (.int (3 : Int32)), .val (.ref u), .val (.int (1 : Int32)), .val (.int (0 : Int32)), .val (.int (58 : Int32)), .val (.int ((3 : Int32) - (1 : Int32))), .val (.int (0 : Int32)), .val (.int ((0 : Int32) + (1 : Int32))), .val (.int ((((0 : Int32) + (1 : Int32)) + (1 : Int32)) - (1 : Int32))), .unset]) d12_71 rfl rfl ?_
      refine w.iconst (q := 74) (1 : Int32) d12_73 rfl rfl ?_
      refine w.istore (q := 76) (L2 := #[.val (.ref t), .val (.int (3 : Int32)), .val (.ref u), .val (.int (1 : Int32)), .val (.int (0 : Int32)), .val (.int (58 : Int32)), .val (.int ((3 : Int32) - (1 : Int32))), .val (.int (0 : Int32)), .val (.int ((0 : Int32) + (1 : Int32))), .val (.int ((((0 : Int32) + (1 : Int32)) + (1 : Int32)) - (1 : Int32))), .val (.int (1 : Int32))]) d12_74 rfl rfl ?_
      refine w.iload (q := 78) d12_76 rfl rfl ?_
      refine w.iload (q := 80) d12_78 rfl rfl ?_
      refine w.icY (q := 103) d12_80 ((flt (by decide)).2.1) (by decide) (by decide) ?_
      refine w.iload (q := 105) d12_103 rfl rfl ?_
      refine w.iload (q := 107) d12_105 rfl rfl ?_
      refine w.icN (q := 110) d12_107 ((teq (by decide)).2) rfl ?_
      refine w.iload (q := 112) d12_110 rfl rfl ?_
      exact w.retI d12_112 rfl (by decide) (by decide) ⟨_, rfl, _, rfl, ⟨fun q => absurd q (by decide), fun q => absurd (by simp [l0.mp e0]) q⟩, rfl⟩
    ·
      refine w.icN (q := 30) d12_27 ((feq e0).1) rfl ?_
      refine w.iinc (q := 33) (L2 := #[.val (.ref t), .val (.int (3 : Int32)), .val (.ref u), .val (.int (1 : Int32)), .val (.int (0 : Int32)), .val (.int (58 : Int32)), .val (.int ((3 : Int32) - (1 : Int32))), .val (.int ((0 : Int32) + (1 : Int32))), .unset, .unset, .unset]) (1 : Int32) d12_30 rfl rfl rfl rfl ?_
      refine w.iload (q := 35) d12_33 rfl rfl ?_
      refine w.iload (q := 37) d12_35 rfl rfl ?_
      refine w.icN (q := 40) d12_37 ((flt (by decide)).2.2.1) rfl ?_
      refine w.aloadN (q := 41) d12_40 rfl rfl rfl ?_
      refine w.iload (q := 43) d12_41 rfl rfl ?_
      refine w.baload (q := 44) (x := (StrChars.lo8 c1)) d12_43 A ⟨by decide, by decide⟩ rfl rfl ?_
      refine w.iload (q := 46) d12_44 rfl rfl ?_
      by_cases e1 : (StrChars.lo8 c1) = (58 : Int32)
      ·
        refine w.icY (q := 52) d12_46 ((teq e1).1) (by decide) (by decide) ?_
        refine w.iload (q := 54) d12_52 rfl rfl ?_
        refine w.iload (q := 56) d12_54 rfl rfl ?_
        refine w.icN (q := 59) d12_56 ((flt (by decide)).2.2.1) rfl ?_
        refine w.iload (q := 61) d12_59 rfl rfl ?_
        refine w.iconst (q := 62) (1 : Int32) d12_61 rfl rfl ?_
        refine w.iadd (q := 63) d12_62 rfl ?_
        refine w.istore (q := 65) (L2 := #[.val (.ref t), .val (.int (3 : Int32)), .val (.ref u), .val (.int (1 : Int32)), .val (.int (0 : Int32)), .val (.int (58 : Int32)), .val (.int ((3 : Int32) - (1 : Int32))), .val (.int ((0 : Int32) + (1 : Int32))), .val (.int (((0 : Int32) + (1 : Int32)) + (1 : Int32))), .unset, .unset]) d12_63 rfl rfl ?_
        refine w.iload (q := 67) d12_65 rfl rfl ?_
        refine w.iloadN (q := 68) d12_67 rfl rfl ?_
        refine w.iadd (q := 69) d12_68 rfl ?_
        refine w.iconst (q := 70) (1 : Int32) d12_69 rfl rfl ?_
        refine w.isub (q := 71) d12_70 rfl ?_
        refine w.istore (q := 73) (L2 := #[.val (.ref t), .val (.int (3 : Int32)), .val (.ref u), .val (.int (1 : Int32)), .val (.int (0 : Int32)), .val (.int (58 : Int32)), .val (.int ((3 : Int32) - (1 : Int32))), .val (.int ((0 : Int32) + (1 : Int32))), .val (.int (((0 : Int32) + (1 : Int32)) + (1 : Int32))), .val (.int (((((0 : Int32) + (1 : Int32)) + (1 : Int32)) + (1 : Int32)) - (1 : Int32))), .unset]) d12_71 rfl rfl ?_
        refine w.iconst (q := 74) (1 : Int32) d12_73 rfl rfl ?_
        refine w.istore (q := 76) (L2 := #[.val (.ref t), .val (.int (3 : Int32)), .val (.ref u), .val (.int (1 : Int32)), .val (.int (0 : Int32)), .val (.int (58 : Int32)), .val (.int ((3 : Int32) - (1 : Int32))), .val (.int ((0 : Int32) + (1 : Int32))), .val (.int (((0 : Int32) + (1 : Int32)) + (1 : Int32))), .val (.int (((((0 : Int32) + (1 : Int32)) + (1 : Int32)) + (1 : Int32)) - (1 : Int32))), .val (.int (1 : Int32))]) d12_74 rfl rfl ?_
        refine w.iload (q := 78) d12_76 rfl rfl ?_
        refine w.iload (q := 80) d12_78 rfl rfl ?_
        refine w.icY (q := 103) d12_80 ((flt (by decide)).2.1) (by decide) (by decide) ?_
        refine w.iload (q := 105) d12_103 rfl rfl ?_
        refine w.iload (q := 107) d12_105 rfl rfl ?_
        refine w.icN (q := 110) d12_107 ((teq (by decide)).2) rfl ?_
        refine w.iload (q := 112) d12_110 rfl rfl ?_
        exact w.retI d12_112 rfl (by decide) (by decide) ⟨_, rfl, _, rfl, ⟨fun q => absurd q (by decide), fun q => absurd (by simp [l1.mp e1]) q⟩, rfl⟩
      ·
        refine w.icN (q := 49) d12_46 ((feq e1).1) rfl ?_
        refine w.goto (q := 30) d12_49 (by decide) (by decide) ?_
        refine w.iinc (q := 33) (L2 := #[.val (.ref t), .val (.int (3 : Int32)), .val (.ref u), .val (.int (1 : Int32)), .val (.int (0 : Int32)), .val (.int (58 : Int32)), .val (.int ((3 : Int32) - (1 : Int32))), .val (.int (((0 : Int32) + (1 : Int32)) + (1 : Int32))), .unset, .unset, .unset]) (1 : Int32) d12_30 rfl rfl rfl rfl ?_
        refine w.iload (q := 35) d12_33 rfl rfl ?_
        refine w.iload (q := 37) d12_35 rfl rfl ?_
        refine w.icN (q := 40) d12_37 ((flt (by decide)).2.2.1) rfl ?_
        refine w.aloadN (q := 41) d12_40 rfl rfl rfl ?_
        refine w.iload (q := 43) d12_41 rfl rfl ?_
        refine w.baload (q := 44) (x := (StrChars.lo8 c2)) d12_43 A ⟨by decide, by decide⟩ rfl rfl ?_
        refine w.iload (q := 46) d12_44 rfl rfl ?_
        by_cases e2 : (StrChars.lo8 c2) = (58 : Int32)
        ·
          refine w.icY (q := 52) d12_46 ((teq e2).1) (by decide) (by decide) ?_
          refine w.iload (q := 54) d12_52 rfl rfl ?_
          refine w.iload (q := 56) d12_54 rfl rfl ?_
          refine w.icN (q := 59) d12_56 ((flt (by decide)).2.2.1) rfl ?_
          refine w.iload (q := 61) d12_59 rfl rfl ?_
          refine w.iconst (q := 62) (1 : Int32) d12_61 rfl rfl ?_
          refine w.iadd (q := 63) d12_62 rfl ?_
          refine w.istore (q := 65) (L2 := #[.val (.ref t), .val (.int (3 : Int32)), .val (.ref u), .val (.int (1 : Int32)), .val (.int (0 : Int32)), .val (.int (58 : Int32)), .val (.int ((3 : Int32) - (1 : Int32))), .val (.int (((0 : Int32) + (1 : Int32)) + (1 : Int32))), .val (.int ((((0 : Int32) + (1 : Int32)) + (1 : Int32)) + (1 : Int32))), .unset, .unset]) d12_63 rfl rfl ?_
          refine w.iload (q := 67) d12_65 rfl rfl ?_
          refine w.iloadN (q := 68) d12_67 rfl rfl ?_
          refine w.iadd (q := 69) d12_68 rfl ?_
          refine w.iconst (q := 70) (1 : Int32) d12_69 rfl rfl ?_
          refine w.isub (q := 71) d12_70 rfl ?_
          refine w.istore (q := 73) (L2 := #[.val (.ref t), .val (.int (3 : Int32)), .val (.ref u), .val (.int (1 : Int32)), .val (.int (0 : Int32)), .val (.int (58 : Int32)), .val (.int ((3 : Int32) - (1 : Int32))), .val (.int (((0 : Int32) + (1 : Int32)) + (1 : Int32))), .val (.int ((((0 : Int32) + (1 : Int32)) + (1 : Int32)) + (1 : Int32))), .val (.int ((((((0 : Int32) + (1 : Int32)) + (1 : Int32)) + (1 : Int32)) + (1 : Int32)) - (1 : Int32))), .unset]) d12_71 rfl rfl ?_
          refine w.iconst (q := 74) (1 : Int32) d12_73 rfl rfl ?_
          refine w.istore (q := 76) (L2 := #[.val (.ref t), .val (.int (3 : Int32)), .val (.ref u), .val (.int (1 : Int32)), .val (.int (0 : Int32)), .val (.int (58 : Int32)), .val (.int ((3 : Int32) - (1 : Int32))), .val (.int (((0 : Int32) + (1 : Int32)) + (1 : Int32))), .val (.int ((((0 : Int32) + (1 : Int32)) + (1 : Int32)) + (1 : Int32))), .val (.int ((((((0 : Int32) + (1 : Int32)) + (1 : Int32)) + (1 : Int32)) + (1 : Int32)) - (1 : Int32))), .val (.int (1 : Int32))]) d12_74 rfl rfl ?_
          refine w.iload (q := 78) d12_76 rfl rfl ?_
          refine w.iload (q := 80) d12_78 rfl rfl ?_
          refine w.icY (q := 103) d12_80 ((flt (by decide)).2.1) (by decide) (by decide) ?_
          refine w.iload (q := 105) d12_103 rfl rfl ?_
          refine w.iload (q := 107) d12_105 rfl rfl ?_
          refine w.icN (q := 110) d12_107 ((teq (by decide)).2) rfl ?_
          refine w.iload (q := 112) d12_110 rfl rfl ?_
          exact w.retI d12_112 rfl (by decide) (by decide) ⟨_, rfl, _, rfl, ⟨fun q => absurd q (by decide), fun q => absurd (by simp [l2.mp e2]) q⟩, rfl⟩
        ·
          refine w.icN (q := 49) d12_46 ((feq e2).1) rfl ?_
          refine w.goto (q := 30) d12_49 (by decide) (by decide) ?_
          refine w.iinc (q := 33) (L2 := #[.val (.ref t), .val (.int (3 : Int32)), .val (.ref u), .val (.int (1 : Int32)), .val (.int (0 : Int32)), .val (.int (58 : Int32)), .val (.int ((3 : Int32) - (1 : Int32))), .val (.int ((((0 : Int32) + (1 : Int32)) + (1 : Int32)) + (1 : Int32))), .unset, .unset, .unset]) (1 : Int32) d12_30 rfl rfl rfl rfl ?_
          refine w.iload (q := 35) d12_33 rfl rfl ?_
          refine w.iload (q := 37) d12_35 rfl rfl ?_
          refine w.icY (q := 52) d12_37 ((tlt (by decide)).2.2.1) (by decide) (by decide) ?_
          refine w.iload (q := 54) d12_52 rfl rfl ?_
          refine w.iload (q := 56) d12_54 rfl rfl ?_
          refine w.icY (q := 113) d12_56 ((tlt (by decide)).2.2.1) (by decide) (by decide) ?_
          refine w.iinc (q := 116) (L2 := #[.val (.ref t), .val (.int (3 : Int32)), .val (.ref u), .val (.int (1 : Int32)), .val (.int (0 : Int32)), .val (.int (58 : Int32)), .val (.int ((3 : Int32) - (1 : Int32))), .val (.int (((((0 : Int32) + (1 : Int32)) + (1 : Int32)) + (1 : Int32)) + (1 : Int32))), .unset, .unset, .unset]) (1 : Int32) d12_113 rfl rfl rfl rfl ?_
          refine w.goto (q := 14) d12_116 (by decide) (by decide) ?_
          refine w.iload (q := 16) d12_14 rfl rfl ?_
          refine w.iload (q := 18) d12_16 rfl rfl ?_
          refine w.icY (q := 119) d12_18 ((tlt (by decide)).2.2.1) (by decide) (by decide) ?_
          refine w.iconst (q := 120) (-1 : Int32) d12_119 rfl rfl ?_
          exact w.retI d12_120 rfl (by decide) (by decide) ⟨_, rfl, _, rfl, ⟨fun _ q => by simp only [List.mem_cons, List.not_mem_nil, or_false] at q; rcases q with q | q | q; exact e0 (l0.mpr q.symm); exact e1 (l1.mpr q.symm); exact e2 (l2.mpr q.symm), fun _ => by decide⟩, rfl⟩
theorem d14_0 : decode jdk_43_method_24_code 0 = .ok (.aload_n 1, 1) := by decide +kernel
theorem d14_1 : decode jdk_43_method_24_code 1 = .ok (.arraylength, 1) := by decide +kernel
theorem d14_2 : decode jdk_43_method_24_code 2 = .ok (.ifCond .ne 5, 3) := by decide +kernel
theorem d14_7 : decode jdk_43_method_24_code 7 = .ok (.aload_n 0, 1) := by decide +kernel
theorem d14_8 : decode jdk_43_method_24_code 8 = .ok (.arraylength, 1) := by decide +kernel
theorem d14_9 : decode jdk_43_method_24_code 9 = .ok (.ifCond .ne 5, 3) := by decide +kernel
theorem d14_14 : decode jdk_43_method_24_code 14 = .ok (.aload_n 0, 1) := by decide +kernel
theorem d14_15 : decode jdk_43_method_24_code 15 = .ok (.aload_n 0, 1) := by decide +kernel
theorem d14_16 : decode jdk_43_method_24_code 16 = .ok (.arraylength, 1) := by decide +kernel
theorem d14_17 : decode jdk_43_method_24_code 17 = .ok (.aload_n 1, 1) := by decide +kernel
theorem d14_18 : decode jdk_43_method_24_code 18 = .ok (.aload_n 1, 1) := by decide +kernel
theorem d14_19 : decode jdk_43_method_24_code 19 = .ok (.arraylength, 1) := by decide +kernel
theorem d14_20 : decode jdk_43_method_24_code 20 = .ok (.iconst 0, 1) := by decide +kernel
theorem d14_21 : decode jdk_43_method_24_code 21 = .ok (.invokestatic 99, 3) := by decide +kernel
theorem pd15 : parseMethodDescriptor "([BI[BII)I" = some ⟨[(.array .byte), .int, (.array .byte), .int, .int], some .int⟩ := by decide +kernel
theorem d14_24 : decode jdk_43_method_24_code 24 = .ok (.ireturn, 1) := by decide +kernel
set_option maxRecDepth 65536 in
set_option maxHeartbeats 40000000 in
theorem con_ix2 (G : Gx) (H : Hyp G) (t u : Nat) (kb ku : ClassId) (N : Int32) (cs : List Int32) (h : Heap) (ho : Old G.Z G.n0 h) (A : Arv G.Z h t kb .byte N (cs.map (fun c => Value.int (StrChars.lo8 c))) (.int (0 : Int32))) (B : Arv G.Z h u ku .byte (1 : Int32) [.int (58 : Int32)] (.int (0 : Int32))) (hN : N = Int32.ofNat cs.length) (hc : ∀ c ∈ cs, ¬ c < 0 ∧ ¬ (255 : Int32) < c) (hth : (∃ c0, cs = [c0]) ∨ (∃ c0 c1, cs = [c0, c1]) ∨ (∃ c0 c1 c2, cs = [c0, c1, c2])) :
    Con G (⟨"java/lang/StringLatin1", "indexOf", "([B[B)I"⟩ : MethodName) jdk_43_method_24_code 2 (some .int) [] ({ frames := 1, cells := 0, slots := 0, locals := 22 } : Room) #[(.ref t), (.ref u)] h (vQ fun v h' => ∃ r : Int32, v = .int r ∧ (r < 0 ↔ ¬ (58 : Int32) ∈ cs) ∧ h = h') := by
  refine Con.intro H.el ho (plainFor_of_name pn13) (Ls := #[.val (.ref t), .val (.ref u)]) (fun m => by first | (simp [entryFrame, mkF, argsToLocals, Value.category]; done) | rfl) ?_
  intro X vm T w
  refine w.aloadN (q := 1) d14_0 rfl rfl rfl ?_
  refine w.alen (q := 2) d14_1 B rfl ?_
  refine w.ifY (q := 7) d14_2 ((if0 _ _).trans (feq (by decide)).2) (by decide) (by decide) ?_
  refine w.aloadN (q := 8) d14_7 rfl rfl rfl ?_
  refine w.alen (q := 9) d14_8 A rfl ?_
  refine w.ifY (q := 14) d14_9 ((if0 _ _).trans (feq (by rw [hN]; exact ofne (m := 0) (by rcases hth with ⟨c0, rfl⟩ | ⟨c0, c1, rfl⟩ | ⟨c0, c1, c2, rfl⟩ <;> simp) (by rcases hth with ⟨c0, rfl⟩ | ⟨c0, c1, rfl⟩ | ⟨c0, c1, c2, rfl⟩ <;> simp) (by decide))).2) (by decide) (by decide) ?_
  refine w.aloadN (q := 15) d14_14 rfl rfl rfl ?_
  refine w.aloadN (q := 16) d14_15 rfl rfl rfl ?_
  refine w.alen (q := 17) d14_16 A rfl ?_
  refine w.aloadN (q := 18) d14_17 rfl rfl rfl ?_
  refine w.aloadN (q := 19) d14_18 rfl rfl rfl ?_
  refine w.alen (q := 20) d14_19 B rfl ?_
  refine w.iconst (q := 21) (0 : Int32) d14_20 rfl rfl ?_
  refine w.callS (q := 24) d14_21 (H.tw 116 rfl) (H.tw 117 rfl) (H.tw 114 rfl) (H.tw 118 rfl) (by decide) (argsL := [(.ref t), (.int N), (.ref u), (.int (1 : Int32)), (.int (0 : Int32))]) (rest := []) rfl (lenOf pd15 rfl) rfl (W := 0) (Nat.le_of_eq rfl) ((con_ix5 G H t u kb ku N cs h ho A B hN hc hth).pay w (H.tw 118 rfl) (H.tw 114 rfl) (by decide) (by decide)) (by decide) (by decide) rfl fun vm1 T1 h1 v1 w1 q1 => ?_
  obtain ⟨_, rfl, ⟨r1, rfl, hr1, rfl⟩⟩ := q1
  show Go _ _ _ _ (T1.setTop (mkF X.m 24 #[.val (.ref t), .val (.ref u)] [(.int r1)]))
  exact w1.retI d14_24 rfl (by decide) (by decide) ⟨_, rfl, _, rfl, hr1, rfl⟩
theorem d16_0 : decode jdk_42_method_84_code 0 = .ok (.aload_n 0, 1) := by decide +kernel
theorem d16_1 : decode jdk_42_method_84_code 1 = .ok (.invokevirtual 335, 3) := by decide +kernel
theorem pd17 : parseMethodDescriptor "()B" = some ⟨[], some .byte⟩ := by decide +kernel
theorem d16_4 : decode jdk_42_method_84_code 4 = .ok (.istore_n 2, 1) := by decide +kernel
theorem d16_5 : decode jdk_42_method_84_code 5 = .ok (.iload_n 2, 1) := by decide +kernel
theorem d16_6 : decode jdk_42_method_84_code 6 = .ok (.aload_n 1, 1) := by decide +kernel
theorem d16_7 : decode jdk_42_method_84_code 7 = .ok (.invokevirtual 335, 3) := by decide +kernel
theorem d16_10 : decode jdk_42_method_84_code 10 = .ok (.if_icmp .ne 36, 3) := by decide +kernel
theorem d16_13 : decode jdk_42_method_84_code 13 = .ok (.aload_n 0, 1) := by decide +kernel
theorem d16_14 : decode jdk_42_method_84_code 14 = .ok (.invokevirtual 492, 3) := by decide +kernel
theorem pd18 : parseMethodDescriptor "()Z" = some ⟨[], some .boolean⟩ := by decide +kernel
theorem d16_17 : decode jdk_42_method_84_code 17 = .ok (.ifCond .eq 17, 3) := by decide +kernel
theorem d16_20 : decode jdk_42_method_84_code 20 = .ok (.aload_n 0, 1) := by decide +kernel
theorem d16_21 : decode jdk_42_method_84_code 21 = .ok (.getfield 9, 3) := by decide +kernel
theorem d16_24 : decode jdk_42_method_84_code 24 = .ok (.aload_n 1, 1) := by decide +kernel
theorem d16_25 : decode jdk_42_method_84_code 25 = .ok (.getfield 9, 3) := by decide +kernel
theorem d16_28 : decode jdk_42_method_84_code 28 = .ok (.invokestatic 647, 3) := by decide +kernel
theorem pd19 : parseMethodDescriptor "([B[B)I" = some ⟨[(.array .byte), (.array .byte)], some .int⟩ := by decide +kernel
theorem d16_31 : decode jdk_42_method_84_code 31 = .ok (.goto 14, 3) := by decide +kernel
theorem d16_45 : decode jdk_42_method_84_code 45 = .ok (.ireturn, 1) := by decide +kernel
set_option maxRecDepth 65536 in
set_option maxHeartbeats 40000000 in
theorem con_ixs (G : Gx) (H : Hyp G) (s u : Nat) (cs : List Int32) (h : Heap) (ho : Old G.Z G.n0 h) (S : StrAt G.Z h s 0 cs) (U : StrAt G.Z h u 0 [58]) (hth : (∃ c0, cs = [c0]) ∨ (∃ c0 c1, cs = [c0, c1]) ∨ (∃ c0 c1 c2, cs = [c0, c1, c2])) :
    Con G (⟨"java/lang/String", "indexOf", "(Ljava/lang/String;)I"⟩ : MethodName) jdk_42_method_84_code 3 (some .int) [] ({ frames := 2, cells := 0, slots := 0, locals := 35 } : Room) #[(.ref s), (.ref u)] h (vQ fun v h' => ∃ r : Int32, v = .int r ∧ (r < 0 ↔ ¬ (58 : Int32) ∈ cs) ∧ h = h') := by
  refine Con.intro H.el ho (plainFor_of_name pn3) (Ls := #[.val (.ref s), .val (.ref u), .unset]) (fun m => by first | (simp [entryFrame, mkF, argsToLocals, Value.category]; done) | rfl) ?_
  intro X vm T w
  obtain ⟨t1, kb, Es, Fv, Fc, A, hc⟩ := S.open0
  obtain ⟨t2, ku, Eu, Gv, Gc, B, -⟩ := U.open0
  refine w.aloadN (q := 1) d16_0 rfl rfl rfl ?_
  refine w.callV (q := 4) d16_1 (H.tw 102 rfl) (H.tw 103 rfl) (notFace_of_selects (C := "java/lang/String") (args := G.a0) (H.tw 105 rfl)) (H.tw 105 rfl) (H.tw 104 rfl) (by decide) Es (argsL := []) (rest := []) rfl (lenOf pd17 rfl) rfl (W := 0) (Nat.le_of_eq rfl) ((con_coder G H s h ho Fc).pay w (H.tw 106 rfl) (H.tw 6 rfl) (by decide) (by decide)) (by decide) (by decide) rfl fun vm1 T1 h1 v1 w1 q1 => ?_
  obtain ⟨_, rfl, rfl, rfl⟩ := q1
  show Go _ _ _ _ (T1.setTop (mkF X.m 4 #[.val (.ref s), .val (.ref u), .unset] [(.int (0 : Int32))]))
  refine w1.istoreN (q := 5) (L2 := #[.val (.ref s), .val (.ref u), .val (.int (0 : Int32))]) d16_4 rfl rfl ?_
  refine w1.iloadN (q := 6) d16_5 rfl rfl ?_
  refine w1.aloadN (q := 7) d16_6 rfl rfl rfl ?_
  refine w1.callV (q := 10) d16_7 (H.tw 102 rfl) (H.tw 103 rfl) (notFace_of_selects (C := "java/lang/String") (args := G.a0) (H.tw 105 rfl)) (H.tw 105 rfl) (H.tw 104 rfl) (by decide) Eu (argsL := []) (rest := [(.int (0 : Int32))]) rfl (lenOf pd17 rfl) rfl (W := 1) (Nat.le_of_eq rfl) ((con_coder G H u h w1.old Gc).pay w1 (H.tw 106 rfl) (H.tw 6 rfl) (by decide) (by decide)) (by decide) (by decide) rfl fun vm2 T2 h2 v2 w2 q2 => ?_
  obtain ⟨_, rfl, rfl, rfl⟩ := q2
  show Go _ _ _ _ (T2.setTop (mkF X.m 10 #[.val (.ref s), .val (.ref u), .val (.int (0 : Int32))] [(.int (0 : Int32)), (.int (0 : Int32))]))
  refine w2.icN (q := 13) d16_10 ((teq rfl).2) rfl ?_
  refine w2.aloadN (q := 14) d16_13 rfl rfl rfl ?_
  refine w2.callV (q := 17) d16_14 (H.tw 107 rfl) (H.tw 108 rfl) (notFace_of_selects (C := "java/lang/String") (args := G.a0) (H.tw 110 rfl)) (H.tw 110 rfl) (H.tw 109 rfl) (by decide) Es (argsL := []) (rest := []) rfl (lenOf pd18 rfl) rfl (W := 0) (Nat.le_of_eq rfl) ((con_lat G H s h w2.old Fc).pay w2 (H.tw 111 rfl) (H.tw 6 rfl) (by decide) (by decide)) (by decide) (by decide) rfl fun vm3 T3 h3 v3 w3 q3 => ?_
  obtain ⟨_, rfl, rfl, rfl⟩ := q3
  show Go _ _ _ _ (T3.setTop (mkF X.m 17 #[.val (.ref s), .val (.ref u), .val (.int (0 : Int32))] [(.int (1 : Int32))]))
  refine w3.ifN (q := 20) d16_17 ((if0 _ _).trans (feq (by decide)).1) rfl ?_
  refine w3.aloadN (q := 21) d16_20 rfl rfl rfl ?_
  refine w3.getF (q := 24) d16_21 (H.tw 32 rfl) Via.refl Fv rfl fun T4 w4 => ?_
  refine w4.aloadN (q := 25) d16_24 rfl rfl rfl ?_
  refine w4.getF (q := 28) d16_25 (H.tw 32 rfl) Via.refl Gv rfl fun T5 w5 => ?_
  refine w5.callS (q := 31) d16_28 (H.tw 112 rfl) (H.tw 113 rfl) (H.tw 114 rfl) (H.tw 115 rfl) (by decide) (argsL := [(.ref t1), (.ref t2)]) (rest := []) rfl (lenOf pd19 rfl) rfl (W := 0) (Nat.le_of_eq rfl) ((con_ix2 G H t1 t2 kb ku _ cs h w5.old A B rfl hc hth).pay w5 (H.tw 115 rfl) (H.tw 114 rfl) (by decide) (by decide)) (by decide) (by decide) rfl fun vm6 T6 h6 v6 w6 q6 => ?_
  obtain ⟨_, rfl, ⟨r6, rfl, hr6, rfl⟩⟩ := q6
  show Go _ _ _ _ (T6.setTop (mkF X.m 31 #[.val (.ref s), .val (.ref u), .val (.int (0 : Int32))] [(.int r6)]))
  refine w6.goto (q := 45) d16_31 (by decide) (by decide) ?_
  exact w6.retI d16_45 rfl (by decide) (by decide) ⟨_, rfl, _, rfl, hr6, rfl⟩
theorem d20_0 : decode jdk_42_method_97_code 0 = .ok (.aload_n 0, 1) := by decide +kernel
theorem d20_1 : decode jdk_42_method_97_code 1 = .ok (.aload_n 1, 1) := by decide +kernel
theorem d20_2 : decode jdk_42_method_97_code 2 = .ok (.invokeinterface 710 1, 5) := by decide +kernel
theorem pd21 : parseMethodDescriptor "()Ljava/lang/String;" = some ⟨[], some (.object "java/lang/String")⟩ := by decide +kernel
theorem d20_7 : decode jdk_42_method_97_code 7 = .ok (.invokevirtual 711, 3) := by decide +kernel
theorem pd22 : parseMethodDescriptor "(Ljava/lang/String;)I" = some ⟨[(.object "java/lang/String")], some .int⟩ := by decide +kernel
theorem d20_10 : decode jdk_42_method_97_code 10 = .ok (.ifCond .lt 7, 3) := by decide +kernel
theorem d20_17 : decode jdk_42_method_97_code 17 = .ok (.iconst 0, 1) := by decide +kernel
theorem d20_18 : decode jdk_42_method_97_code 18 = .ok (.ireturn, 1) := by decide +kernel
theorem d20_13 : decode jdk_42_method_97_code 13 = .ok (.iconst 1, 1) := by decide +kernel
theorem d20_14 : decode jdk_42_method_97_code 14 = .ok (.goto 4, 3) := by decide +kernel
set_option maxRecDepth 65536 in
set_option maxHeartbeats 40000000 in
theorem con_has (G : Gx) (H : Hyp G) (s u : Nat) (cs : List Int32) (h : Heap) (ho : Old G.Z G.n0 h) (S : StrAt G.Z h s 0 cs) (U : StrAt G.Z h u 0 [58]) (hth : (∃ c0, cs = [c0]) ∨ (∃ c0 c1, cs = [c0, c1]) ∨ (∃ c0 c1 c2, cs = [c0, c1, c2])) :
    Con G (⟨"java/lang/String", "contains", "(Ljava/lang/CharSequence;)Z"⟩ : MethodName) jdk_42_method_97_code 2 (some .boolean) [] ({ frames := 3, cells := 0, slots := 0, locals := 49 } : Room) #[(.ref s), (.ref u)] h (vQ fun v h' => v = .int (if (58 : Int32) ∈ cs then (1 : Int32) else 0) ∧ h = h') := by
  refine Con.intro H.el ho (plainFor_of_name pn3) (Ls := #[.val (.ref s), .val (.ref u)]) (fun m => by first | (simp [entryFrame, mkF, argsToLocals, Value.category]; done) | rfl) ?_
  intro X vm T w
  refine w.aloadN (q := 1) d20_0 rfl rfl rfl ?_
  refine w.aloadN (q := 2) d20_1 rfl rfl rfl ?_
  refine w.callI (q := 7) d20_2 (H.tw 88 rfl) (H.tw 89 rfl) (H.tw 90 rfl) (H.tw 91 rfl) (H.tw 92 rfl) (H.tw 93 rfl) (H.tw 94 rfl) (H.tw 95 rfl) (by decide) U.exa (argsL := []) (rest := [(.ref s)]) rfl (lenOf pd21 rfl) rfl (W := 1) (Nat.le_of_eq rfl) ((con_sts G H u h ho).pay w (H.tw 96 rfl) (H.tw 6 rfl) (by decide) (by decide)) (by decide) (by decide) rfl fun vm1 T1 h1 v1 w1 q1 => ?_
  obtain ⟨_, rfl, rfl, rfl⟩ := q1
  show Go _ _ _ _ (T1.setTop (mkF X.m 7 #[.val (.ref s), .val (.ref u)] [(.ref u), (.ref s)]))
  refine w1.callV (q := 10) d20_7 (H.tw 97 rfl) (H.tw 98 rfl) (notFace_of_selects (C := "java/lang/String") (args := G.a0) (H.tw 100 rfl)) (H.tw 100 rfl) (H.tw 99 rfl) (by decide) S.exa (argsL := [(.ref u)]) (rest := []) rfl (lenOf pd22 rfl) rfl (W := 0) (Nat.le_of_eq rfl) ((con_ixs G H s u cs h w1.old S U hth).pay w1 (H.tw 101 rfl) (H.tw 6 rfl) (by decide) (by decide)) (by decide) (by decide) rfl fun vm2 T2 h2 v2 w2 q2 => ?_
  obtain ⟨_, rfl, ⟨r2, rfl, hr2, rfl⟩⟩ := q2
  show Go _ _ _ _ (T2.setTop (mkF X.m 10 #[.val (.ref s), .val (.ref u)] [(.int r2)]))
  by_cases cr : r2 < (0 : Int32)
  ·
    refine w2.ifY (q := 17) d20_10 ((if0 _ _).trans (tlt cr).1) (by decide) (by decide) ?_
    refine w2.iconst (q := 18) (0 : Int32) d20_17 rfl rfl ?_
    exact w2.retZ d20_18 (t := .boolean) rfl (by decide) rfl (by decide) (by decide) ⟨_, rfl, ⟨congrArg Value.int (if_neg (hr2.mp cr)).symm, rfl⟩⟩
  ·
    refine w2.ifN (q := 13) d20_10 ((if0 _ _).trans (flt cr).1) rfl ?_
    refine w2.iconst (q := 14) (1 : Int32) d20_13 rfl rfl ?_
    refine w2.goto (q := 18) d20_14 (by decide) (by decide) ?_
    exact w2.retZ d20_18 (t := .boolean) rfl (by decide) rfl (by decide) (by decide) ⟨_, rfl, ⟨congrArg Value.int (if_pos (Classical.byContradiction fun q => cr (hr2.mpr q))).symm, rfl⟩⟩
theorem d23_0 : decode jdk_68_method_9_code 0 = .ok (.aload_n 0, 1) := by decide +kernel
theorem d23_1 : decode jdk_68_method_9_code 1 = .ok (.getfield 15, 3) := by decide +kernel
theorem d23_4 : decode jdk_68_method_9_code 4 = .ok (.arraylength, 1) := by decide +kernel
theorem d23_5 : decode jdk_68_method_9_code 5 = .ok (.aload_n 0, 1) := by decide +kernel
theorem d23_6 : decode jdk_68_method_9_code 6 = .ok (.getfield 22, 3) := by decide +kernel
theorem d23_9 : decode jdk_68_method_9_code 9 = .ok (.ishr, 1) := by decide +kernel
theorem d23_10 : decode jdk_68_method_9_code 10 = .ok (.istore_n 2, 1) := by decide +kernel
theorem d23_11 : decode jdk_68_method_9_code 11 = .ok (.iload_n 1, 1) := by decide +kernel
theorem d23_12 : decode jdk_68_method_9_code 12 = .ok (.iload_n 2, 1) := by decide +kernel
theorem d23_13 : decode jdk_68_method_9_code 13 = .ok (.isub, 1) := by decide +kernel
theorem d23_14 : decode jdk_68_method_9_code 14 = .ok (.ifCond .le 24, 3) := by decide +kernel
theorem d23_38 : decode jdk_68_method_9_code 38 = .ok (.return_, 1) := by decide +kernel
set_option maxRecDepth 65536 in
set_option maxHeartbeats 40000000 in
theorem con_ens (G : Gx) (H : Hyp G) (b ar mm : Nat) (kc : ClassId) (vs : List Value) (h : Heap) (ho : Old G.Z G.n0 h) (Fv : Fld G.Z h b "java/lang/AbstractStringBuilder" "value" "[B" (.ref ar)) (Fc : Fld G.Z h b "java/lang/AbstractStringBuilder" "coder" "B" (.int (0 : Int32))) (A : Arv G.Z h ar kc .byte (16 : Int32) vs (.int (0 : Int32))) (hm : mm ≤ 16) :
    Con G (⟨"java/lang/AbstractStringBuilder", "ensureCapacityInternal", "(I)V"⟩ : MethodName) jdk_68_method_9_code 3 none [] ({ frames := 0, cells := 0, slots := 0, locals := 0 } : Room) #[(.ref b), (.int (Int32.ofNat mm))] h (nQ fun h' => h = h') := by
  refine Con.intro H.el ho (plainFor_of_name pn6) (Ls := #[.val (.ref b), .val (.int (Int32.ofNat mm)), .unset]) (fun m => by first | (simp [entryFrame, mkF, argsToLocals, Value.category]; done) | rfl) ?_
  intro X vm T w
  refine w.aloadN (q := 1) d23_0 rfl rfl rfl ?_
  refine w.getF (q := 4) d23_1 (H.tw 76 rfl) Via.refl Fv rfl fun T1 w1 => ?_
  refine w1.alen (q := 5) d23_4 A rfl ?_
  refine w1.aloadN (q := 6) d23_5 rfl rfl rfl ?_
  refine w1.getF (q := 9) d23_6 (H.tw 78 rfl) Via.refl Fc rfl fun T2 w2 => ?_
  refine w2.ishr (q := 10) d23_9 rfl ?_
  refine w2.istoreN (q := 11) (L2 := #[.val (.ref b), .val (.int (Int32.ofNat mm)), .val (.int ((16 : Int32) >>> ((0 : Int32) &&& 31)))]) d23_10 rfl rfl ?_
  refine w2.iloadN (q := 12) d23_11 rfl rfl ?_
  refine w2.iloadN (q := 13) d23_12 rfl rfl ?_
  refine w2.isub (q := 14) d23_13 rfl ?_
  refine w2.ifY (q := 38) d23_14 ((if0 _ _).trans (flt (by rw [show ((16 : Int32) >>> ((0 : Int32) &&& 31)) = 16 from by decide]; exact ens_ok hm)).2.2.2) (by decide) (by decide) ?_
  exact w2.retV d23_38 rfl (by decide) (by decide) ⟨rfl, rfl⟩
theorem d24_0 : decode jdk_68_method_71_code 0 = .ok (.getstatic 18, 3) := by decide +kernel
theorem d24_3 : decode jdk_68_method_71_code 3 = .ok (.ifCond .eq 18, 3) := by decide +kernel
theorem d24_6 : decode jdk_68_method_71_code 6 = .ok (.aload_n 0, 1) := by decide +kernel
theorem d24_7 : decode jdk_68_method_71_code 7 = .ok (.getfield 22, 3) := by decide +kernel
theorem d24_10 : decode jdk_68_method_71_code 10 = .ok (.aload_n 1, 1) := by decide +kernel
theorem d24_11 : decode jdk_68_method_71_code 11 = .ok (.invokevirtual 40, 3) := by decide +kernel
theorem d24_14 : decode jdk_68_method_71_code 14 = .ok (.if_icmp .eq 7, 3) := by decide +kernel
theorem d24_21 : decode jdk_68_method_71_code 21 = .ok (.return_, 1) := by decide +kernel
set_option maxRecDepth 65536 in
set_option maxHeartbeats 40000000 in
theorem con_inf (G : Gx) (H : Hyp G) (b s : Nat) (h : Heap) (ho : Old G.Z G.n0 h) (Fc : Fld G.Z h b "java/lang/AbstractStringBuilder" "coder" "B" (.int (0 : Int32))) (Es : Exa G.Z h s "java/lang/String") (Gc : Fld G.Z h s "java/lang/String" "coder" "B" (.int (0 : Int32))) :
    Con G (⟨"java/lang/AbstractStringBuilder", "inflateIfNeededFor", "(Ljava/lang/String;)V"⟩ : MethodName) jdk_68_method_71_code 2 none [] ({ frames := 1, cells := 0, slots := 0, locals := 13 } : Room) #[(.ref b), (.ref s)] h (nQ fun h' => h = h') := by
  refine Con.intro H.el ho (plainFor_of_name pn6) (Ls := #[.val (.ref b), .val (.ref s)]) (fun m => by first | (simp [entryFrame, mkF, argsToLocals, Value.category]; done) | rfl) ?_
  intro X vm T w
  obtain ⟨cz, nz, Sz⟩ := H.cz
  refine w.getS (q := 3) d24_0 (H.tw 75 rfl) Via.refl Sz rfl fun T1 w1 => ?_
  refine w1.ifN (q := 6) d24_3 ((if0 _ _).trans (feq nz).1) rfl ?_
  refine w1.aloadN (q := 7) d24_6 rfl rfl rfl ?_
  refine w1.getF (q := 10) d24_7 (H.tw 78 rfl) Via.refl Fc rfl fun T2 w2 => ?_
  refine w2.aloadN (q := 11) d24_10 rfl rfl rfl ?_
  refine w2.callV (q := 14) d24_11 (H.tw 152 rfl) (H.tw 103 rfl) (notFace_of_selects (C := "java/lang/String") (args := G.a0) (H.tw 105 rfl)) (H.tw 105 rfl) (H.tw 104 rfl) (by decide) Es (argsL := []) (rest := [(.int (0 : Int32))]) rfl (lenOf pd17 rfl) rfl (W := 1) (Nat.le_of_eq rfl) ((con_coder G H s h w2.old Gc).pay w2 (H.tw 106 rfl) (H.tw 6 rfl) (by decide) (by decide)) (by decide) (by decide) rfl fun vm3 T3 h3 v3 w3 q3 => ?_
  obtain ⟨_, rfl, rfl, rfl⟩ := q3
  show Go _ _ _ _ (T3.setTop (mkF X.m 14 #[.val (.ref b), .val (.ref s)] [(.int (0 : Int32)), (.int (0 : Int32))]))
  refine w3.icY (q := 21) d24_14 ((teq rfl).1) (by decide) (by decide) ?_
  exact w3.retV d24_21 rfl (by decide) (by decide) ⟨rfl, rfl⟩
theorem d25_0 : decode jdk_42_method_147_code 0 = .ok (.aload_n 0, 1) := by decide +kernel
theorem d25_1 : decode jdk_42_method_147_code 1 = .ok (.invokevirtual 335, 3) := by decide +kernel
theorem d25_4 : decode jdk_42_method_147_code 4 = .ok (.iload_n 3, 1) := by decide +kernel
theorem d25_5 : decode jdk_42_method_147_code 5 = .ok (.if_icmp .ne 23, 3) := by decide +kernel
theorem d25_8 : decode jdk_42_method_147_code 8 = .ok (.aload_n 0, 1) := by decide +kernel
theorem d25_9 : decode jdk_42_method_147_code 9 = .ok (.getfield 9, 3) := by decide +kernel
theorem d25_12 : decode jdk_42_method_147_code 12 = .ok (.iconst 0, 1) := by decide +kernel
theorem d25_13 : decode jdk_42_method_147_code 13 = .ok (.aload_n 1, 1) := by decide +kernel
theorem d25_14 : decode jdk_42_method_147_code 14 = .ok (.iload_n 2, 1) := by decide +kernel
theorem d25_15 : decode jdk_42_method_147_code 15 = .ok (.iload_n 3, 1) := by decide +kernel
theorem d25_16 : decode jdk_42_method_147_code 16 = .ok (.ishl, 1) := by decide +kernel
theorem d25_17 : decode jdk_42_method_147_code 17 = .ok (.aload_n 0, 1) := by decide +kernel
theorem d25_18 : decode jdk_42_method_147_code 18 = .ok (.getfield 9, 3) := by decide +kernel
theorem d25_21 : decode jdk_42_method_147_code 21 = .ok (.arraylength, 1) := by decide +kernel
theorem d25_22 : decode jdk_42_method_147_code 22 = .ok (.invokestatic 212, 3) := by decide +kernel
theorem d25_25 : decode jdk_42_method_147_code 25 = .ok (.goto 18, 3) := by decide +kernel
theorem d25_43 : decode jdk_42_method_147_code 43 = .ok (.return_, 1) := by decide +kernel
set_option maxRecDepth 65536 in
set_option maxHeartbeats 40000000 in
theorem con_gb (G : Gx) (H : Hyp G) (s t ar pn : Nat) (kb kc : ClassId) (vs vd : List Value) (h : Heap) (ho : Old G.Z G.n0 h) (Es : Exa G.Z h s "java/lang/String") (Gv : Fld G.Z h s "java/lang/String" "value" "[B" (.ref t)) (Gc : Fld G.Z h s "java/lang/String" "coder" "B" (.int (0 : Int32))) (A : Arv G.Z h t kb .byte (Int32.ofNat vs.length) vs (.int (0 : Int32))) (B : Arv G.Z h ar kc .byte (16 : Int32) vd (.int (0 : Int32))) (hl : vd.length = 16) (hp : pn + vs.length ≤ 16) (g : G.n0 ≤ ar) :
    Con G (⟨"java/lang/String", "getBytes", "([BIB)V"⟩ : MethodName) jdk_42_method_147_code 4 none [] ({ frames := 1, cells := 0, slots := 0, locals := 18 } : Room) #[(.ref s), (.ref ar), (.int (Int32.ofNat pn)), (.int (0 : Int32))] h (nQ fun h' => Keep h h' [ar] ∧ Arv G.Z h' ar kc .byte (16 : Int32) (vd.take pn ++ vs ++ vd.drop (pn + vs.length)) (.int (0 : Int32))) := by
  refine Con.intro H.el ho (plainFor_of_name pn3) (Ls := #[.val (.ref s), .val (.ref ar), .val (.int (Int32.ofNat pn)), .val (.int (0 : Int32))]) (fun m => by first | (simp [entryFrame, mkF, argsToLocals, Value.category]; done) | rfl) ?_
  intro X vm T w
  refine w.aloadN (q := 1) d25_0 rfl rfl rfl ?_
  refine w.callV (q := 4) d25_1 (H.tw 102 rfl) (H.tw 103 rfl) (notFace_of_selects (C := "java/lang/String") (args := G.a0) (H.tw 105 rfl)) (H.tw 105 rfl) (H.tw 104 rfl) (by decide) Es (argsL := []) (rest := []) rfl (lenOf pd17 rfl) rfl (W := 0) (Nat.le_of_eq rfl) ((con_coder G H s h ho Gc).pay w (H.tw 106 rfl) (H.tw 6 rfl) (by decide) (by decide)) (by decide) (by decide) rfl fun vm1 T1 h1 v1 w1 q1 => ?_
  obtain ⟨_, rfl, rfl, rfl⟩ := q1
  show Go _ _ _ _ (T1.setTop (mkF X.m 4 #[.val (.ref s), .val (.ref ar), .val (.int (Int32.ofNat pn)), .val (.int (0 : Int32))] [(.int (0 : Int32))]))
  refine w1.iloadN (q := 5) d25_4 rfl rfl ?_
  refine w1.icN (q := 8) d25_5 ((teq rfl).2) rfl ?_
  refine w1.aloadN (q := 9) d25_8 rfl rfl rfl ?_
  refine w1.getF (q := 12) d25_9 (H.tw 32 rfl) Via.refl Gv rfl fun T2 w2 => ?_
  refine w2.iconst (q := 13) (0 : Int32) d25_12 rfl rfl ?_
  refine w2.aloadN (q := 14) d25_13 rfl rfl rfl ?_
  refine w2.iloadN (q := 15) d25_14 rfl rfl ?_
  refine w2.iloadN (q := 16) d25_15 rfl rfl ?_
  refine w2.ishl (q := 17) d25_16 rfl ?_
  refine w2.aloadN (q := 18) d25_17 rfl rfl rfl ?_
  rw [show ((Int32.ofNat pn) <<< ((0 : Int32) &&& 31)) = (Int32.ofNat pn) from shl0 _]
  refine w2.getF (q := 21) d25_18 (H.tw 32 rfl) Via.refl Gv rfl fun T3 w3 => ?_
  refine w3.alen (q := 22) d25_21 A rfl ?_
  have ep : (Int32.ofNat pn).toNatClampNeg = pn := cln (by omega)
  have el : (Int32.ofNat vs.length).toNatClampNeg = vs.length := cln (by omega)
  have e16 : (16 : Int32).toNatClampNeg = 16 := by decide
  have e0 : (0 : Int32).toNatClampNeg = 0 := by decide
  refine w3.acopy (q := 25) (W := 0) (us := vs) d25_22 (H.tw 158 rfl) (H.tw 161 rfl) (H.tw 159 rfl) (H.tw 160 rfl) A B rfl (by decide) (nn0 (by omega)) (nn0 (by omega)) (by rw [e0]; omega) (by rw [ep, el, e16]; exact hp) (by rw [el, e0]; exact us_all vs _) (by rw [ep, el]; omega) g (w3.sfL B H.ne16) rfl (by decide) (Nat.le_of_eq rfl) (by decide) rfl fun T4 h4 w4 K4 A4 => ?_
  have sz4 : h.size ≤ h4.size := K4.1
  rw [ep, el] at A4
  refine w4.goto (q := 43) d25_25 (by decide) (by decide) ?_
  exact w4.retV d25_43 rfl (by decide) (by decide) ⟨rfl, K4, A4⟩
theorem d26_0 : decode jdk_68_method_73_code 0 = .ok (.aload_n 0, 1) := by decide +kernel
theorem d26_1 : decode jdk_68_method_73_code 1 = .ok (.aload_n 2, 1) := by decide +kernel
theorem d26_2 : decode jdk_68_method_73_code 2 = .ok (.invokevirtual 397, 3) := by decide +kernel
theorem pd27 : parseMethodDescriptor "(Ljava/lang/String;)V" = some ⟨[(.object "java/lang/String")], none⟩ := by decide +kernel
theorem d26_5 : decode jdk_68_method_73_code 5 = .ok (.aload_n 2, 1) := by decide +kernel
theorem d26_6 : decode jdk_68_method_73_code 6 = .ok (.aload_n 0, 1) := by decide +kernel
theorem d26_7 : decode jdk_68_method_73_code 7 = .ok (.getfield 15, 3) := by decide +kernel
theorem d26_10 : decode jdk_68_method_73_code 10 = .ok (.iload_n 1, 1) := by decide +kernel
theorem d26_11 : decode jdk_68_method_73_code 11 = .ok (.aload_n 0, 1) := by decide +kernel
theorem d26_12 : decode jdk_68_method_73_code 12 = .ok (.getfield 22, 3) := by decide +kernel
theorem d26_15 : decode jdk_68_method_73_code 15 = .ok (.invokevirtual 399, 3) := by decide +kernel
theorem pd28 : parseMethodDescriptor "([BIB)V" = some ⟨[(.array .byte), .int, .byte], none⟩ := by decide +kernel
theorem d26_18 : decode jdk_68_method_73_code 18 = .ok (.return_, 1) := by decide +kernel
set_option maxRecDepth 65536 in
set_option maxHeartbeats 40000000 in
theorem con_psa (G : Gx) (H : Hyp G) (b s t ar pn : Nat) (kb kc : ClassId) (vs vd : List Value) (h : Heap) (ho : Old G.Z G.n0 h) (E : Exa G.Z h b "java/lang/StringBuilder") (Fv : Fld G.Z h b "java/lang/AbstractStringBuilder" "value" "[B" (.ref ar)) (Fc : Fld G.Z h b "java/lang/AbstractStringBuilder" "coder" "B" (.int (0 : Int32))) (Es : Exa G.Z h s "java/lang/String") (Gv : Fld G.Z h s "java/lang/String" "value" "[B" (.ref t)) (Gc : Fld G.Z h s "java/lang/String" "coder" "B" (.int (0 : Int32))) (A : Arv G.Z h t kb .byte (Int32.ofNat vs.length) vs (.int (0 : Int32))) (B : Arv G.Z h ar kc .byte (16 : Int32) vd (.int (0 : Int32))) (hl : vd.length = 16) (hp : pn + vs.length ≤ 16) (g : G.n0 ≤ ar) :
    Con G (⟨"java/lang/AbstractStringBuilder", "putStringAt", "(ILjava/lang/String;)V"⟩ : MethodName) jdk_68_method_73_code 3 none [] ({ frames := 2, cells := 0, slots := 0, locals := 33 } : Room) #[(.ref b), (.int (Int32.ofNat pn)), (.ref s)] h (nQ fun h' => Keep h h' [ar] ∧ Arv G.Z h' ar kc .byte (16 : Int32) (vd.take pn ++ vs ++ vd.drop (pn + vs.length)) (.int (0 : Int32))) := by
  refine Con.intro H.el ho (plainFor_of_name pn6) (Ls := #[.val (.ref b), .val (.int (Int32.ofNat pn)), .val (.ref s)]) (fun m => by first | (simp [entryFrame, mkF, argsToLocals, Value.category]; done) | rfl) ?_
  intro X vm T w
  refine w.aloadN (q := 1) d26_0 rfl rfl rfl ?_
  refine w.aloadN (q := 2) d26_1 rfl rfl rfl ?_
  refine w.callPs (q := 5) d26_2 (H.tw 147 rfl) (H.tw 148 rfl) (H.tw 149 rfl) (H.tw 151 rfl) (H.tw 150 rfl) (by decide) E (argsL := [(.ref s)]) (rest := []) rfl (lenOf pd27 rfl) rfl (W := 0) (Nat.le_of_eq rfl) ((con_inf G H b s h ho Fc Es Gc).pay w (H.tw 151 rfl) (H.tw 72 rfl) (by decide) (by decide)) (by decide) (by decide) rfl fun vm1 T1 h1 v1 w1 q1 => ?_
  obtain ⟨rfl, rfl⟩ := q1
  show Go _ _ _ _ (T1.setTop (mkF X.m 5 #[.val (.ref b), .val (.int (Int32.ofNat pn)), .val (.ref s)] []))
  refine w1.aloadN (q := 6) d26_5 rfl rfl rfl ?_
  refine w1.aloadN (q := 7) d26_6 rfl rfl rfl ?_
  refine w1.getF (q := 10) d26_7 (H.tw 76 rfl) Via.refl Fv rfl fun T2 w2 => ?_
  refine w2.iloadN (q := 11) d26_10 rfl rfl ?_
  refine w2.aloadN (q := 12) d26_11 rfl rfl rfl ?_
  refine w2.getF (q := 15) d26_12 (H.tw 78 rfl) Via.refl Fc rfl fun T3 w3 => ?_
  refine w3.callV (q := 18) d26_15 (H.tw 153 rfl) (H.tw 154 rfl) (notFace_of_selects (C := "java/lang/String") (args := G.a0) (H.tw 156 rfl)) (H.tw 156 rfl) (H.tw 155 rfl) (by decide) Es (argsL := [(.ref ar), (.int (Int32.ofNat pn)), (.int (0 : Int32))]) (rest := []) rfl (lenOf pd28 rfl) rfl (W := 0) (Nat.le_of_eq rfl) ((con_gb G H s t ar pn kb kc vs vd h w3.old Es Gv Gc A B hl hp g).pay w3 (H.tw 157 rfl) (H.tw 6 rfl) (by decide) (by decide)) (by decide) (by decide) rfl fun vm4 T4 h4 v4 w4 q4 => ?_
  obtain ⟨rfl, K4, A4⟩ := q4
  show Go _ _ _ _ (T4.setTop (mkF X.m 18 #[.val (.ref b), .val (.int (Int32.ofNat pn)), .val (.ref s)] []))
  exact w4.retV d26_18 rfl (by decide) (by decide) ⟨rfl, K4, A4⟩
theorem d29_0 : decode jdk_68_method_22_code 0 = .ok (.aload_n 1, 1) := by decide +kernel
theorem d29_1 : decode jdk_68_method_22_code 1 = .ok (.ifnonnull 8, 3) := by decide +kernel
theorem d29_9 : decode jdk_68_method_22_code 9 = .ok (.aload_n 1, 1) := by decide +kernel
theorem d29_10 : decode jdk_68_method_22_code 10 = .ok (.invokevirtual 32, 3) := by decide +kernel
theorem pd30 : parseMethodDescriptor "()I" = some ⟨[], some .int⟩ := by decide +kernel
theorem d29_13 : decode jdk_68_method_22_code 13 = .ok (.istore_n 2, 1) := by decide +kernel
theorem d29_14 : decode jdk_68_method_22_code 14 = .ok (.aload_n 0, 1) := by decide +kernel
theorem d29_15 : decode jdk_68_method_22_code 15 = .ok (.aload_n 0, 1) := by decide +kernel
theorem d29_16 : decode jdk_68_method_22_code 16 = .ok (.getfield 79, 3) := by decide +kernel
theorem d29_19 : decode jdk_68_method_22_code 19 = .ok (.iload_n 2, 1) := by decide +kernel
theorem d29_20 : decode jdk_68_method_22_code 20 = .ok (.iadd, 1) := by decide +kernel
theorem d29_21 : decode jdk_68_method_22_code 21 = .ok (.invokevirtual 100, 3) := by decide +kernel
theorem d29_24 : decode jdk_68_method_22_code 24 = .ok (.aload_n 0, 1) := by decide +kernel
theorem d29_25 : decode jdk_68_method_22_code 25 = .ok (.aload_n 0, 1) := by decide +kernel
theorem d29_26 : decode jdk_68_method_22_code 26 = .ok (.getfield 79, 3) := by decide +kernel
theorem d29_29 : decode jdk_68_method_22_code 29 = .ok (.aload_n 1, 1) := by decide +kernel
theorem d29_30 : decode jdk_68_method_22_code 30 = .ok (.invokevirtual 208, 3) := by decide +kernel
theorem pd31 : parseMethodDescriptor "(ILjava/lang/String;)V" = some ⟨[.int, (.object "java/lang/String")], none⟩ := by decide +kernel
theorem d29_33 : decode jdk_68_method_22_code 33 = .ok (.aload_n 0, 1) := by decide +kernel
theorem d29_34 : decode jdk_68_method_22_code 34 = .ok (.dup, 1) := by decide +kernel
theorem d29_35 : decode jdk_68_method_22_code 35 = .ok (.getfield 79, 3) := by decide +kernel
theorem d29_38 : decode jdk_68_method_22_code 38 = .ok (.iload_n 2, 1) := by decide +kernel
theorem d29_39 : decode jdk_68_method_22_code 39 = .ok (.iadd, 1) := by decide +kernel
theorem d29_40 : decode jdk_68_method_22_code 40 = .ok (.putfield 79, 3) := by decide +kernel
theorem d29_43 : decode jdk_68_method_22_code 43 = .ok (.aload_n 0, 1) := by decide +kernel
theorem d29_44 : decode jdk_68_method_22_code 44 = .ok (.areturn, 1) := by decide +kernel
set_option maxRecDepth 65536 in
set_option maxHeartbeats 40000000 in
theorem con_aap (G : Gx) (H : Hyp G) (b s ar : Nat) (kc : ClassId) (cs ds : List Int32) (h : Heap) (ho : Old G.Z G.n0 h) (B : SBd G.Z h b ar kc cs) (S : StrAt G.Z h s 0 ds) (hl : cs.length + ds.length ≤ 16) (g : G.n0 ≤ b) (g2 : G.n0 ≤ ar) :
    Con G (⟨"java/lang/AbstractStringBuilder", "append", "(Ljava/lang/String;)Ljava/lang/AbstractStringBuilder;"⟩ : MethodName) jdk_68_method_22_code 3 (some (.object "java/lang/AbstractStringBuilder")) [] ({ frames := 3, cells := 0, slots := 0, locals := 47 } : Room) #[(.ref b), (.ref s)] h (vQ fun v h' => v = .ref b ∧ Keep h h' [b, ar] ∧ SBd G.Z h' b ar kc (cs ++ ds)) := by
  refine Con.intro H.el ho (plainFor_of_name pn6) (Ls := #[.val (.ref b), .val (.ref s), .unset]) (fun m => by first | (simp [entryFrame, mkF, argsToLocals, Value.category]; done) | rfl) ?_
  intro X vm T w
  obtain ⟨t, kb, Es, Gv, Gc, A, hlat⟩ := S.open0
  obtain ⟨E, Fv, Fc, Fn, tl, htl, B⟩ := B
  have nba : b ≠ ar := Exa.neArv E B (H.tw 63 rfl)
  refine w.aloadN (q := 1) d29_0 rfl rfl rfl ?_
  refine w.nnY (q := 9) d29_1 (by decide) (by decide) ?_
  refine w.aloadN (q := 10) d29_9 rfl rfl rfl ?_
  refine w.callV (q := 13) d29_10 (H.tw 130 rfl) (H.tw 131 rfl) (notFace_of_selects (C := "java/lang/String") (args := G.a0) (H.tw 133 rfl)) (H.tw 133 rfl) (H.tw 132 rfl) (by decide) Es (argsL := []) (rest := []) rfl (lenOf pd30 rfl) rfl (W := 0) (Nat.le_of_eq rfl) (pay_len w H.wl (H.tw 5 rfl) H.cz S (by decide) (by decide)) (by decide) (by decide) rfl fun vm1 T1 h1 v1 w1 q1 => ?_
  obtain ⟨_, rfl, rfl, rfl⟩ := q1
  show Go _ _ _ _ (T1.setTop (mkF X.m 13 #[.val (.ref b), .val (.ref s), .unset] [(.int (Int32.ofNat ds.length))]))
  refine w1.istoreN (q := 14) (L2 := #[.val (.ref b), .val (.ref s), .val (.int (Int32.ofNat ds.length))]) d29_13 rfl rfl ?_
  refine w1.aloadN (q := 15) d29_14 rfl rfl rfl ?_
  refine w1.aloadN (q := 16) d29_15 rfl rfl rfl ?_
  refine w1.getF (q := 19) d29_16 (H.tw 135 rfl) Via.refl Fn rfl fun T2 w2 => ?_
  refine w2.iloadN (q := 20) d29_19 rfl rfl ?_
  refine w2.iadd (q := 21) d29_20 rfl ?_
  rw [show ((Int32.ofNat cs.length) + (Int32.ofNat ds.length)) = (Int32.ofNat (cs.length + ds.length)) from ofadd _ _]
  refine w2.callPs (q := 24) d29_21 (H.tw 137 rfl) (H.tw 138 rfl) (H.tw 139 rfl) (H.tw 141 rfl) (H.tw 140 rfl) (by decide) E (argsL := [(.int (Int32.ofNat (cs.length + ds.length)))]) (rest := []) rfl (lenOf pd10 rfl) rfl (W := 0) (Nat.le_of_eq rfl) ((con_ens G H b ar (cs.length + ds.length) kc _ h w2.old Fv Fc B hl).pay w2 (H.tw 141 rfl) (H.tw 72 rfl) (by decide) (by decide)) (by decide) (by decide) rfl fun vm3 T3 h3 v3 w3 q3 => ?_
  obtain ⟨rfl, rfl⟩ := q3
  show Go _ _ _ _ (T3.setTop (mkF X.m 24 #[.val (.ref b), .val (.ref s), .val (.int (Int32.ofNat ds.length))] []))
  refine w3.aloadN (q := 25) d29_24 rfl rfl rfl ?_
  refine w3.aloadN (q := 26) d29_25 rfl rfl rfl ?_
  refine w3.getF (q := 29) d29_26 (H.tw 135 rfl) Via.refl Fn rfl fun T4 w4 => ?_
  refine w4.aloadN (q := 30) d29_29 rfl rfl rfl ?_
  have el : (ds.map (fun c => Value.int (StrChars.lo8 c))).length = ds.length := List.length_map _
  refine w4.callPs (q := 33) d29_30 (H.tw 142 rfl) (H.tw 143 rfl) (H.tw 144 rfl) (H.tw 146 rfl) (H.tw 145 rfl) (by decide) E (argsL := [(.int (Int32.ofNat cs.length)), (.ref s)]) (rest := []) rfl (lenOf pd31 rfl) rfl (W := 0) (Nat.le_of_eq rfl) ((con_psa G H b s t ar cs.length kb kc (ds.map (fun c => Value.int (StrChars.lo8 c))) _ h w4.old E Fv Fc Es Gv Gc (by rw [el]; exact A) B (by rw [List.length_append, List.length_map]; exact htl) (by rw [el]; exact hl) g2).pay w4 (H.tw 146 rfl) (H.tw 72 rfl) (by decide) (by decide)) (by decide) (by decide) rfl fun vm5 T5 h5 v5 w5 q5 => ?_
  obtain ⟨rfl, K5, A5⟩ := q5
  show Go _ _ _ _ (T5.setTop (mkF X.m 33 #[.val (.ref b), .val (.ref s), .val (.int (Int32.ofNat ds.length))] []))
  replace E := E.keep K5
  replace Fv := Fv.keep K5 (nin1 nba)
  replace Fc := Fc.keep K5 (nin1 nba)
  replace Fn := Fn.keep K5 (nin1 nba)
  refine w5.aloadN (q := 34) d29_33 rfl rfl rfl ?_
  refine w5.dup (q := 35) d29_34 rfl rfl ?_
  refine w5.getF (q := 38) d29_35 (H.tw 135 rfl) Via.refl Fn rfl fun T6 w6 => ?_
  refine w6.iloadN (q := 39) d29_38 rfl rfl ?_
  refine w6.iadd (q := 40) d29_39 rfl ?_
  rw [show ((Int32.ofNat cs.length) + (Int32.ofNat ds.length)) = (Int32.ofNat (cs.length + ds.length)) from ofadd _ _]
  refine w6.putF (q := 43) d29_40 (H.tw 135 rfl) Via.refl Fn E (Or.inl (H.tw 136 rfl)) (H.tw 63 rfl) (ty := .int) (by decide) rfl rfl g (w6.sfE E (by decide) (by decide)) rfl fun T7 h7 w7 W7 sf7 => ?_
  have sz7 : h5.size ≤ h7.size := (Keep.of_wr W7).1
  replace E := E.wr W7
  replace Fv := Fv.other W7 (Or.inr (slot_ne (Or.inl (H.tw 77 rfl)) (Or.inl (H.tw 136 rfl)) (by decide) (t := (.array .byte)) (t' := .int) (by decide) (by decide)))
  replace Fc := Fc.other W7 (Or.inr (slot_ne (Or.inl (H.tw 79 rfl)) (Or.inl (H.tw 136 rfl)) (by decide) (t := .byte) (t' := .int) (by decide) (by decide)))
  replace Fn := Fn.same W7
  replace A5 := A5.other W7 (Ne.symm nba)
  have K9 : Keep h h7 [b, ar] := ((Keep.refl h [b, ar]).trans K5 (fun x hx => Or.inl (List.mem_cons_of_mem _ hx))).wr W7 (Or.inl List.mem_cons_self)
  refine w7.aloadN (q := 44) d29_43 rfl rfl rfl ?_
  exact w7.retA d29_44 (t := (.object "java/lang/AbstractStringBuilder")) rfl rfl rfl (by decide) (by decide) ⟨_, rfl, rfl, K9, E, Fv, Fc, (by rw [List.length_append]; exact Fn), tl.drop ds.length, (by rw [List.length_append, List.length_drop]; omega), (by rw [← app_list]; exact A5)⟩
theorem d32_0 : decode jdk_67_method_7_code 0 = .ok (.aload_n 0, 1) := by decide +kernel
theorem d32_1 : decode jdk_67_method_7_code 1 = .ok (.aload_n 1, 1) := by decide +kernel
theorem d32_2 : decode jdk_67_method_7_code 2 = .ok (.invokespecial 29, 3) := by decide +kernel
theorem pd33 : parseMethodDescriptor "(Ljava/lang/String;)Ljava/lang/AbstractStringBuilder;" = some ⟨[(.object "java/lang/String")], some (.object "java/lang/AbstractStringBuilder")⟩ := by decide +kernel
theorem d32_5 : decode jdk_67_method_7_code 5 = .ok (.pop, 1) := by decide +kernel
theorem d32_6 : decode jdk_67_method_7_code 6 = .ok (.aload_n 0, 1) := by decide +kernel
theorem d32_7 : decode jdk_67_method_7_code 7 = .ok (.areturn, 1) := by decide +kernel
set_option maxRecDepth 65536 in
set_option maxHeartbeats 40000000 in
theorem con_sap (G : Gx) (H : Hyp G) (b s ar : Nat) (kc : ClassId) (cs ds : List Int32) (h : Heap) (ho : Old G.Z G.n0 h) (B : SBd G.Z h b ar kc cs) (S : StrAt G.Z h s 0 ds) (hl : cs.length + ds.length ≤ 16) (g : G.n0 ≤ b) (g2 : G.n0 ≤ ar) :
    Con G (⟨"java/lang/StringBuilder", "append", "(Ljava/lang/String;)Ljava/lang/StringBuilder;"⟩ : MethodName) jdk_67_method_7_code 2 (some (.object "java/lang/StringBuilder")) [] ({ frames := 4, cells := 0, slots := 0, locals := 61 } : Room) #[(.ref b), (.ref s)] h (vQ fun v h' => v = .ref b ∧ Keep h h' [b, ar] ∧ SBd G.Z h' b ar kc (cs ++ ds)) := by
  refine Con.intro H.el ho (plainFor_of_name pn11) (Ls := #[.val (.ref b), .val (.ref s)]) (fun m => by first | (simp [entryFrame, mkF, argsToLocals, Value.category]; done) | rfl) ?_
  intro X vm T w
  have E := B.1
  refine w.aloadN (q := 1) d32_0 rfl rfl rfl ?_
  refine w.aloadN (q := 2) d32_1 rfl rfl rfl ?_
  refine w.callSup (C := "java/lang/StringBuilder") (q := 5) d32_2 (H.tw 125 rfl) (same_of_named (H.tw 129 rfl) (H.tw 140 rfl) rfl (by decide)) (H.tw 126 rfl) (H.tw 127 rfl) (by decide) (H.tw 129 rfl) (Ins.self E) (a := b) (argsL := [(.ref s)]) (rest := []) rfl (lenOf pd33 rfl) rfl (W := 0) (Nat.le_of_eq rfl) ((con_aap G H b s ar kc cs ds h ho B S hl g g2).pay w (H.tw 129 rfl) (H.tw 72 rfl) (by decide) (by decide)) (by decide) (by decide) rfl fun vm1 T1 h1 v1 w1 q1 => ?_
  obtain ⟨_, rfl, rfl, K1, B1⟩ := q1
  show Go _ _ _ _ (T1.setTop (mkF X.m 5 #[.val (.ref b), .val (.ref s)] [(.ref b)]))
  refine w1.pop (q := 6) d32_5 rfl rfl ?_
  refine w1.aloadN (q := 7) d32_6 rfl rfl rfl ?_
  exact w1.retA d32_7 (t := (.object "java/lang/StringBuilder")) rfl rfl rfl (by decide) (by decide) ⟨_, rfl, rfl, K1, B1⟩
theorem d34_0 : decode jdk_33_method_13_code 0 = .ok (.iconst 1, 1) := by decide +kernel
theorem d34_1 : decode jdk_33_method_13_code 1 = .ok (.istore_n 1, 1) := by decide +kernel
theorem d34_2 : decode jdk_33_method_13_code 2 = .ok (.iload_n 0, 1) := by decide +kernel
theorem d34_3 : decode jdk_33_method_13_code 3 = .ok (.ifCond .lt 8, 3) := by decide +kernel
theorem d34_6 : decode jdk_33_method_13_code 6 = .ok (.iconst 0, 1) := by decide +kernel
theorem d34_7 : decode jdk_33_method_13_code 7 = .ok (.istore_n 1, 1) := by decide +kernel
theorem d34_8 : decode jdk_33_method_13_code 8 = .ok (.iload_n 0, 1) := by decide +kernel
theorem d34_9 : decode jdk_33_method_13_code 9 = .ok (.ineg, 1) := by decide +kernel
theorem d34_10 : decode jdk_33_method_13_code 10 = .ok (.istore_n 0, 1) := by decide +kernel
theorem d34_11 : decode jdk_33_method_13_code 11 = .ok (.bipush (-10), 2) := by decide +kernel
theorem d34_13 : decode jdk_33_method_13_code 13 = .ok (.istore_n 2, 1) := by decide +kernel
theorem d34_14 : decode jdk_33_method_13_code 14 = .ok (.iconst 1, 1) := by decide +kernel
theorem d34_15 : decode jdk_33_method_13_code 15 = .ok (.istore_n 3, 1) := by decide +kernel
theorem d34_16 : decode jdk_33_method_13_code 16 = .ok (.iload_n 3, 1) := by decide +kernel
theorem d34_17 : decode jdk_33_method_13_code 17 = .ok (.bipush 10, 2) := by decide +kernel
theorem d34_19 : decode jdk_33_method_13_code 19 = .ok (.if_icmp .ge 23, 3) := by decide +kernel
theorem d34_22 : decode jdk_33_method_13_code 22 = .ok (.iload_n 0, 1) := by decide +kernel
theorem d34_23 : decode jdk_33_method_13_code 23 = .ok (.iload_n 2, 1) := by decide +kernel
theorem d34_24 : decode jdk_33_method_13_code 24 = .ok (.if_icmp .le 7, 3) := by decide +kernel
theorem d34_27 : decode jdk_33_method_13_code 27 = .ok (.iload_n 3, 1) := by decide +kernel
theorem d34_28 : decode jdk_33_method_13_code 28 = .ok (.iload_n 1, 1) := by decide +kernel
theorem d34_29 : decode jdk_33_method_13_code 29 = .ok (.iadd, 1) := by decide +kernel
theorem d34_30 : decode jdk_33_method_13_code 30 = .ok (.ireturn, 1) := by decide +kernel
theorem d34_31 : decode jdk_33_method_13_code 31 = .ok (.bipush 10, 2) := by decide +kernel
theorem d34_33 : decode jdk_33_method_13_code 33 = .ok (.iload_n 2, 1) := by decide +kernel
theorem d34_34 : decode jdk_33_method_13_code 34 = .ok (.imul, 1) := by decide +kernel
theorem d34_35 : decode jdk_33_method_13_code 35 = .ok (.istore_n 2, 1) := by decide +kernel
theorem d34_36 : decode jdk_33_method_13_code 36 = .ok (.iinc 3 1, 3) := by decide +kernel
theorem d34_39 : decode jdk_33_method_13_code 39 = .ok (.goto (-23), 3) := by decide +kernel
theorem pn35 : plainName "java/lang/Integer" = true := by first | (simp [plainName, overriddenIn]; done) | decide +kernel
set_option maxRecDepth 65536 in
set_option maxHeartbeats 40000000 in
theorem con_ssz (G : Gx) (H : Hyp G) (m0 : Nat) (h : Heap) (ho : Old G.Z G.n0 h) (hm : m0 ≤ 65535) :
    Con G (⟨"java/lang/Integer", "stringSize", "(I)I"⟩ : MethodName) jdk_33_method_13_code 4 (some .int) [] ({ frames := 0, cells := 0, slots := 0, locals := 0 } : Room) #[(.int (Int32.ofNat m0))] h (vQ fun v h' => v = .int (Int32.ofNat (dig m0).length) ∧ h = h') := by
  refine Con.intro H.el ho (plainFor_of_name pn35) (Ls := #[.val (.int (Int32.ofNat m0)), .unset, .unset, .unset]) (fun m => by first | (simp [entryFrame, mkF, argsToLocals, Value.category]; done) | rfl) ?_
  intro X vm T w
  refine w.iconst (q := 1) (1 : Int32) d34_0 rfl rfl ?_
  refine w.istoreN (q := 2) (L2 := #[.val (.int (Int32.ofNat m0)), .val (.int (1 : Int32)), .unset, .unset]) d34_1 rfl rfl ?_
  refine w.iloadN (q := 3) d34_2 rfl rfl ?_
  refine w.ifN (q := 6) d34_3 ((if0 _ _).trans (flt (nn0 (by omega))).1) rfl ?_
  refine w.iconst (q := 7) (0 : Int32) d34_6 rfl rfl ?_
  refine w.istoreN (q := 8) (L2 := #[.val (.int (Int32.ofNat m0)), .val (.int (0 : Int32)), .unset, .unset]) d34_7 rfl rfl ?_
  refine w.iloadN (q := 9) d34_8 rfl rfl ?_
  refine w.ineg (q := 10) d34_9 rfl ?_
  refine w.istoreN (q := 11) (L2 := #[.val (.int (-(Int32.ofNat m0))), .val (.int (0 : Int32)), .unset, .unset]) d34_10 rfl rfl ?_
  refine w.bipush (q := 13) (-10 : Int32) d34_11 rfl rfl ?_
  refine w.istoreN (q := 14) (L2 := #[.val (.int (-(Int32.ofNat m0))), .val (.int (0 : Int32)), .val (.int (-10 : Int32)), .unset]) d34_13 rfl rfl ?_
  refine w.iconst (q := 15) (1 : Int32) d34_14 rfl rfl ?_
  refine w.istoreN (q := 16) (L2 := #[.val (.int (-(Int32.ofNat m0))), .val (.int (0 : Int32)), .val (.int (-10 : Int32)), .val (.int (1 : Int32))]) d34_15 rfl rfl ?_
  refine w.iloadN (q := 17) d34_16 rfl rfl ?_
  refine w.bipush (q := 19) (10 : Int32) d34_17 rfl rfl ?_
  refine w.icN (q := 22) d34_19 ((tlt (by decide)).2.1) rfl ?_
  refine w.iloadN (q := 23) d34_22 rfl rfl ?_
  refine w.iloadN (q := 24) d34_23 rfl rfl ?_
  by_cases c1 : m0 < 10
  ·
    refine w.icN (q := 27) d34_24 ((tlt (by rw [show (-10 : Int32) = -(Int32.ofNat 10) from by decide]; exact neglt (by omega) (by omega) c1)).2.2.2) rfl ?_
    refine w.iloadN (q := 28) d34_27 rfl rfl ?_
    refine w.iloadN (q := 29) d34_28 rfl rfl ?_
    refine w.iadd (q := 30) d34_29 rfl ?_
    have ed : (dig m0).length = 1 := by simp [dig, c1]
    exact w.retI d34_30 rfl (by decide) (by decide) ⟨_, rfl, ⟨congrArg Value.int (by rw [ed]; decide), rfl⟩⟩
  ·
    refine w.icY (q := 31) d34_24 ((flt (by rw [show (-10 : Int32) = -(Int32.ofNat 10) from by decide]; exact negge (by omega) (by omega) (by omega))).2.2.2) (by decide) (by decide) ?_
    refine w.bipush (q := 33) (10 : Int32) d34_31 rfl rfl ?_
    refine w.iloadN (q := 34) d34_33 rfl rfl ?_
    refine w.imul (q := 35) d34_34 rfl ?_
    refine w.istoreN (q := 36) (L2 := #[.val (.int (-(Int32.ofNat m0))), .val (.int (0 : Int32)), .val (.int ((10 : Int32) * (-10 : Int32))), .val (.int (1 : Int32))]) d34_35 rfl rfl ?_
    refine w.iinc (q := 39) (L2 := #[.val (.int (-(Int32.ofNat m0))), .val (.int (0 : Int32)), .val (.int ((10 : Int32) * (-10 : Int32))), .val (.int ((1 : Int32) + (1 : Int32)))]) (1 : Int32) d34_36 rfl rfl rfl rfl ?_
    refine w.goto (q := 16) d34_39 (by decide) (by decide) ?_
    refine w.iloadN (q := 17) d34_16 rfl rfl ?_
    refine w.bipush (q := 19) (10 : Int32) d34_17 rfl rfl ?_
    refine w.icN (q := 22) d34_19 ((tlt (by decide)).2.1) rfl ?_
    refine w.iloadN (q := 23) d34_22 rfl rfl ?_
    refine w.iloadN (q := 24) d34_23 rfl rfl ?_
    by_cases c2 : m0 < 100
    ·
      refine w.icN (q := 27) d34_24 ((tlt (by rw [show ((10 : Int32) * (-10 : Int32)) = -(Int32.ofNat 100) from by decide]; exact neglt (by omega) (by omega) c2)).2.2.2) rfl ?_
      refine w.iloadN (q := 28) d34_27 rfl rfl ?_
      refine w.iloadN (q := 29) d34_28 rfl rfl ?_
      refine w.iadd (q := 30) d34_29 rfl ?_
      have ed : (dig m0).length = 2 := by simp [dig, c1, c2]
      exact w.retI d34_30 rfl (by decide) (by decide) ⟨_, rfl, ⟨congrArg Value.int (by rw [ed]; decide), rfl⟩⟩
    ·
      refine w.icY (q := 31) d34_24 ((flt (by rw [show ((10 : Int32) * (-10 : Int32)) = -(Int32.ofNat 100) from by decide]; exact negge (by omega) (by omega) (by omega))).2.2.2) (by decide) (by decide) ?_
      refine w.bipush (q := 33) (10 : Int32) d34_31 rfl rfl ?_
      refine w.iloadN (q := 34) d34_33 rfl rfl ?_
      refine w.imul (q := 35) d34_34 rfl ?_
      refine w.istoreN (q := 36) (L2 := #[.val (.int (-(Int32.ofNat m0))), .val (.int (0 : Int32)), .val (.int ((10 : Int32) * ((10 : Int32) * (-10 : Int32)))), .val (.int ((1 : Int32) + (1 : Int32)))]) d34_35 rfl rfl ?_
      refine w.iinc (q := 39) (L2 := #[.val (.int (-(Int32.ofNat m0))), .val (.int (0 : Int32)), .val (.int ((10 : Int32) * ((10 : Int32) * (-10 : Int32)))), .val (.int (((1 : Int32) + (1 : Int32)) + (1 : Int32)))]) (1 : Int32) d34_36 rfl rfl rfl rfl ?_
      refine w.goto (q := 16) d34_39 (by decide) (by decide) ?_
      refine w.iloadN (q := 17) d34_16 rfl rfl ?_
      refine w.bipush (q := 19) (10 : Int32) d34_17 rfl rfl ?_
      refine w.icN (q := 22) d34_19 ((tlt (by decide)).2.1) rfl ?_
      refine w.iloadN (q := 23) d34_22 rfl rfl ?_
      refine w.iloadN (q := 24) d34_23 rfl rfl ?_
      by_cases c3 : m0 < 1000
      ·
        refine w.icN (q := 27) d34_24 ((tlt (by rw [show ((10 : Int32) * ((10 : Int32) * (-10 : Int32))) = -(Int32.ofNat 1000) from by decide]; exact neglt (by omega) (by omega) c3)).2.2.2) rfl ?_
        refine w.iloadN (q := 28) d34_27 rfl rfl ?_
        refine w.iloadN (q := 29) d34_28 rfl rfl ?_
        refine w.iadd (q := 30) d34_29 rfl ?_
        have ed : (dig m0).length = 3 := by simp [dig, c1, c2, c3]
        exact w.retI d34_30 rfl (by decide) (by decide) ⟨_, rfl, ⟨congrArg Value.int (by rw [ed]; decide), rfl⟩⟩
      ·
        refine w.icY (q := 31) d34_24 ((flt (by rw [show ((10 : Int32) * ((10 : Int32) * (-10 : Int32))) = -(Int32.ofNat 1000) from by decide]; exact negge (by omega) (by omega) (by omega))).2.2.2) (by decide) (by decide) ?_
        refine w.bipush (q := 33) (10 : Int32) d34_31 rfl rfl ?_
        refine w.iloadN (q := 34) d34_33 rfl rfl ?_
        refine w.imul (q := 35) d34_34 rfl ?_
        refine w.istoreN (q := 36) (L2 := #[.val (.int (-(Int32.ofNat m0))), .val (.int (0 : Int32)), .val (.int ((10 : Int32) * ((10 : Int32) * ((10 : Int32) * (-10 : Int32))))), .val (.int (((1 : Int32) + (1 : Int32)) + (1 : Int32)))]) d34_35 rfl rfl ?_
        refine w.iinc (q := 39) (L2 := #[.val (.int (-(Int32.ofNat m0))), .val (.int (0 : Int32)), .val (.int ((10 : Int32) * ((10 : Int32) * ((10 : Int32) * (-10 : Int32))))), .val (.int ((((1 : Int32) + (1 : Int32)) + (1 : Int32)) + (1 : Int32)))]) (1 : Int32) d34_36 rfl rfl rfl rfl ?_
        refine w.goto (q := 16) d34_39 (by decide) (by decide) ?_
        refine w.iloadN (q := 17) d34_16 rfl rfl ?_
        refine w.bipush (q := 19) (10 : Int32) d34_17 rfl rfl ?_
        refine w.icN (q := 22) d34_19 ((tlt (by decide)).2.1) rfl ?_
        refine w.iloadN (q := 23) d34_22 rfl rfl ?_
        refine w.iloadN (q := 24) d34_23 rfl rfl ?_
        by_cases c4 : m0 < 10000
        ·
          refine w.icN (q := 27) d34_24 ((tlt (by rw [show ((10 : Int32) * ((10 : Int32) * ((10 : Int32) * (-10 : Int32)))) = -(Int32.ofNat 10000) from by decide]; exact neglt (by omega) (by omega) c4)).2.2.2) rfl ?_
          refine w.iloadN (q := 28) d34_27 rfl rfl ?_
          refine w.iloadN (q := 29) d34_28 rfl rfl ?_
          refine w.iadd (q := 30) d34_29 rfl ?_
          have ed : (dig m0).length = 4 := by simp [dig, c1, c2, c3, c4]
          exact w.retI d34_30 rfl (by decide) (by decide) ⟨_, rfl, ⟨congrArg Value.int (by rw [ed]; decide), rfl⟩⟩
        ·
          refine w.icY (q := 31) d34_24 ((flt (by rw [show ((10 : Int32) * ((10 : Int32) * ((10 : Int32) * (-10 : Int32)))) = -(Int32.ofNat 10000) from by decide]; exact negge (by omega) (by omega) (by omega))).2.2.2) (by decide) (by decide) ?_
          refine w.bipush (q := 33) (10 : Int32) d34_31 rfl rfl ?_
          refine w.iloadN (q := 34) d34_33 rfl rfl ?_
          refine w.imul (q := 35) d34_34 rfl ?_
          refine w.istoreN (q := 36) (L2 := #[.val (.int (-(Int32.ofNat m0))), .val (.int (0 : Int32)), .val (.int ((10 : Int32) * ((10 : Int32) * ((10 : Int32) * ((10 : Int32) * (-10 : Int32)))))), .val (.int ((((1 : Int32) + (1 : Int32)) + (1 : Int32)) + (1 : Int32)))]) d34_35 rfl rfl ?_
          refine w.iinc (q := 39) (L2 := #[.val (.int (-(Int32.ofNat m0))), .val (.int (0 : Int32)), .val (.int ((10 : Int32) * ((10 : Int32) * ((10 : Int32) * ((10 : Int32) * (-10 : Int32)))))), .val (.int (((((1 : Int32) + (1 : Int32)) + (1 : Int32)) + (1 : Int32)) + (1 : Int32)))]) (1 : Int32) d34_36 rfl rfl rfl rfl ?_
          refine w.goto (q := 16) d34_39 (by decide) (by decide) ?_
          refine w.iloadN (q := 17) d34_16 rfl rfl ?_
          refine w.bipush (q := 19) (10 : Int32) d34_17 rfl rfl ?_
          refine w.icN (q := 22) d34_19 ((tlt (by decide)).2.1) rfl ?_
          refine w.iloadN (q := 23) d34_22 rfl rfl ?_
          refine w.iloadN (q := 24) d34_23 rfl rfl ?_
          have c5 : m0 < 100000 := by omega
          refine w.icN (q := 27) d34_24 ((tlt (by rw [show ((10 : Int32) * ((10 : Int32) * ((10 : Int32) * ((10 : Int32) * (-10 : Int32))))) = -(Int32.ofNat 100000) from by decide]; exact neglt (by omega) (by omega) c5)).2.2.2) rfl ?_
          refine w.iloadN (q := 28) d34_27 rfl rfl ?_
          refine w.iloadN (q := 29) d34_28 rfl rfl ?_
          refine w.iadd (q := 30) d34_29 rfl ?_
          have ed : (dig m0).length = 5 := by simp [dig, c1, c2, c3, c4, c5]
          exact w.retI d34_30 rfl (by decide) (by decide) ⟨_, rfl, ⟨congrArg Value.int (by rw [ed]; decide), rfl⟩⟩
theorem d36_0 : decode jdk_33_method_12_code 0 = .ok (.iload_n 1, 1) := by decide +kernel
theorem d36_1 : decode jdk_33_method_12_code 1 = .ok (.istore 5, 2) := by decide +kernel
theorem d36_3 : decode jdk_33_method_12_code 3 = .ok (.iload_n 0, 1) := by decide +kernel
theorem d36_4 : decode jdk_33_method_12_code 4 = .ok (.ifCond .ge 7, 3) := by decide +kernel
theorem d36_11 : decode jdk_33_method_12_code 11 = .ok (.iconst 0, 1) := by decide +kernel
theorem d36_12 : decode jdk_33_method_12_code 12 = .ok (.istore 6, 2) := by decide +kernel
theorem d36_14 : decode jdk_33_method_12_code 14 = .ok (.iload 6, 2) := by decide +kernel
theorem d36_16 : decode jdk_33_method_12_code 16 = .ok (.ifCond .ne 6, 3) := by decide +kernel
theorem d36_19 : decode jdk_33_method_12_code 19 = .ok (.iload_n 0, 1) := by decide +kernel
theorem d36_20 : decode jdk_33_method_12_code 20 = .ok (.ineg, 1) := by decide +kernel
theorem d36_21 : decode jdk_33_method_12_code 21 = .ok (.istore_n 0, 1) := by decide +kernel
theorem d36_22 : decode jdk_33_method_12_code 22 = .ok (.iload_n 0, 1) := by decide +kernel
theorem d36_23 : decode jdk_33_method_12_code 23 = .ok (.bipush (-100), 2) := by decide +kernel
theorem d36_25 : decode jdk_33_method_12_code 25 = .ok (.if_icmp .gt 47, 3) := by decide +kernel
theorem d36_72 : decode jdk_33_method_12_code 72 = .ok (.aload_n 2, 1) := by decide +kernel
theorem d36_73 : decode jdk_33_method_12_code 73 = .ok (.iinc 5 (-1), 3) := by decide +kernel
theorem d36_76 : decode jdk_33_method_12_code 76 = .ok (.iload 5, 2) := by decide +kernel
theorem d36_78 : decode jdk_33_method_12_code 78 = .ok (.getstatic 83, 3) := by decide +kernel
theorem d36_81 : decode jdk_33_method_12_code 81 = .ok (.iload_n 0, 1) := by decide +kernel
theorem d36_82 : decode jdk_33_method_12_code 82 = .ok (.ineg, 1) := by decide +kernel
theorem d36_83 : decode jdk_33_method_12_code 83 = .ok (.baload, 1) := by decide +kernel
theorem d36_84 : decode jdk_33_method_12_code 84 = .ok (.bastore, 1) := by decide +kernel
theorem d36_85 : decode jdk_33_method_12_code 85 = .ok (.iload_n 0, 1) := by decide +kernel
theorem d36_86 : decode jdk_33_method_12_code 86 = .ok (.bipush (-9), 2) := by decide +kernel
theorem d36_88 : decode jdk_33_method_12_code 88 = .ok (.if_icmp .ge 16, 3) := by decide +kernel
theorem d36_104 : decode jdk_33_method_12_code 104 = .ok (.iload 6, 2) := by decide +kernel
theorem d36_106 : decode jdk_33_method_12_code 106 = .ok (.ifCond .eq 12, 3) := by decide +kernel
theorem d36_118 : decode jdk_33_method_12_code 118 = .ok (.iload 5, 2) := by decide +kernel
theorem d36_120 : decode jdk_33_method_12_code 120 = .ok (.ireturn, 1) := by decide +kernel
theorem d36_91 : decode jdk_33_method_12_code 91 = .ok (.aload_n 2, 1) := by decide +kernel
theorem d36_92 : decode jdk_33_method_12_code 92 = .ok (.iinc 5 (-1), 3) := by decide +kernel
theorem d36_95 : decode jdk_33_method_12_code 95 = .ok (.iload 5, 2) := by decide +kernel
theorem d36_97 : decode jdk_33_method_12_code 97 = .ok (.getstatic 87, 3) := by decide +kernel
theorem d36_100 : decode jdk_33_method_12_code 100 = .ok (.iload_n 0, 1) := by decide +kernel
theorem d36_101 : decode jdk_33_method_12_code 101 = .ok (.ineg, 1) := by decide +kernel
theorem d36_102 : decode jdk_33_method_12_code 102 = .ok (.baload, 1) := by decide +kernel
theorem d36_103 : decode jdk_33_method_12_code 103 = .ok (.bastore, 1) := by decide +kernel
theorem d36_28 : decode jdk_33_method_12_code 28 = .ok (.iload_n 0, 1) := by decide +kernel
theorem d36_29 : decode jdk_33_method_12_code 29 = .ok (.bipush 100, 2) := by decide +kernel
theorem d36_31 : decode jdk_33_method_12_code 31 = .ok (.idiv, 1) := by decide +kernel
theorem d36_32 : decode jdk_33_method_12_code 32 = .ok (.istore_n 3, 1) := by decide +kernel
theorem d36_33 : decode jdk_33_method_12_code 33 = .ok (.iload_n 3, 1) := by decide +kernel
theorem d36_34 : decode jdk_33_method_12_code 34 = .ok (.bipush 100, 2) := by decide +kernel
theorem d36_36 : decode jdk_33_method_12_code 36 = .ok (.imul, 1) := by decide +kernel
theorem d36_37 : decode jdk_33_method_12_code 37 = .ok (.iload_n 0, 1) := by decide +kernel
theorem d36_38 : decode jdk_33_method_12_code 38 = .ok (.isub, 1) := by decide +kernel
theorem d36_39 : decode jdk_33_method_12_code 39 = .ok (.istore 4, 2) := by decide +kernel
theorem d36_41 : decode jdk_33_method_12_code 41 = .ok (.iload_n 3, 1) := by decide +kernel
theorem d36_42 : decode jdk_33_method_12_code 42 = .ok (.istore_n 0, 1) := by decide +kernel
theorem d36_43 : decode jdk_33_method_12_code 43 = .ok (.aload_n 2, 1) := by decide +kernel
theorem d36_44 : decode jdk_33_method_12_code 44 = .ok (.iinc 5 (-1), 3) := by decide +kernel
theorem d36_47 : decode jdk_33_method_12_code 47 = .ok (.iload 5, 2) := by decide +kernel
theorem d36_49 : decode jdk_33_method_12_code 49 = .ok (.getstatic 83, 3) := by decide +kernel
theorem d36_52 : decode jdk_33_method_12_code 52 = .ok (.iload 4, 2) := by decide +kernel
theorem d36_54 : decode jdk_33_method_12_code 54 = .ok (.baload, 1) := by decide +kernel
theorem d36_55 : decode jdk_33_method_12_code 55 = .ok (.bastore, 1) := by decide +kernel
theorem d36_56 : decode jdk_33_method_12_code 56 = .ok (.aload_n 2, 1) := by decide +kernel
theorem d36_57 : decode jdk_33_method_12_code 57 = .ok (.iinc 5 (-1), 3) := by decide +kernel
theorem d36_60 : decode jdk_33_method_12_code 60 = .ok (.iload 5, 2) := by decide +kernel
theorem d36_62 : decode jdk_33_method_12_code 62 = .ok (.getstatic 87, 3) := by decide +kernel
theorem d36_65 : decode jdk_33_method_12_code 65 = .ok (.iload 4, 2) := by decide +kernel
theorem d36_67 : decode jdk_33_method_12_code 67 = .ok (.baload, 1) := by decide +kernel
theorem d36_68 : decode jdk_33_method_12_code 68 = .ok (.bastore, 1) := by decide +kernel
theorem d36_69 : decode jdk_33_method_12_code 69 = .ok (.goto (-47), 3) := by decide +kernel
set_option maxRecDepth 65536 in
set_option maxHeartbeats 40000000 in
theorem con_gch (G : Gx) (H : Hyp G) (ar m0 : Nat) (kc : ClassId) (p tl : List Value) (h : Heap) (ho : Old G.Z G.n0 h) (A : Arv G.Z h ar kc .byte (16 : Int32) (p ++ tl) (.int (0 : Int32))) (hm : m0 ≤ 65535) (hl : p.length + tl.length = 16) (hd : (dig m0).length ≤ tl.length) (g : G.n0 ≤ ar) :
    Con G (⟨"java/lang/Integer", "getChars", "(II[B)I"⟩ : MethodName) jdk_33_method_12_code 7 (some .int) [] ({ frames := 0, cells := 0, slots := 0, locals := 0 } : Room) #[(.int (Int32.ofNat m0)), (.int (Int32.ofNat (p.length + (dig m0).length))), (.ref ar)] h (vQ fun v h' => ∃ r : Int32, v = .int r ∧ Keep h h' [ar] ∧ Arv G.Z h' ar kc .byte (16 : Int32) (p ++ (dig m0).map (fun c => Value.int (StrChars.lo8 c)) ++ tl.drop (dig m0).length) (.int (0 : Int32))) := by
  refine Con.intro H.el ho (plainFor_of_name pn35) (Ls := #[.val (.int (Int32.ofNat m0)), .val (.int (Int32.ofNat (p.length + (dig m0).length))), .val (.ref ar), .unset, .unset, .unset, .unset]) (fun m => by first | (simp [entryFrame, mkF, argsToLocals, Value.category]; done) | rfl) ?_
  intro X vm T w
  obtain ⟨-, ⟨d1, kd1, v1, Sd1, Ad1, hd1⟩, ⟨d2, kd2, v2, Sd2, Ad2, hd2⟩⟩ := H.mo
  by_cases c1 : m0 < 10
  ·
    have ed : dig m0 = [D (m0)] := by simp [dig, c1]
    rw [ed] at hd ⊢
    simp only [List.length_cons, List.length_nil, Nat.zero_add] at hd
    obtain ⟨t0, r, rfl⟩ := c1_ (l := tl) hd
    simp only [List.length_cons] at hl
    show Go _ _ _ _ (T.setTop (mkF X.m 0 #[.val (.int (Int32.ofNat m0)), .val (.int (Int32.ofNat (p.length + 1))), .val (.ref ar), .unset, .unset, .unset, .unset] []))
    refine w.iloadN (q := 1) d36_0 rfl rfl ?_
    refine w.istore (q := 3) (L2 := #[.val (.int (Int32.ofNat m0)), .val (.int (Int32.ofNat (p.length + 1))), .val (.ref ar), .unset, .unset, .val (.int (Int32.ofNat (p.length + 1))), .unset]) d36_1 rfl rfl ?_
    refine w.iloadN (q := 4) d36_3 rfl rfl ?_
    refine w.ifY (q := 11) d36_4 ((if0 _ _).trans (flt (nn0 (by omega))).2.1) (by decide) (by decide) ?_
    refine w.iconst (q := 12) (0 : Int32) d36_11 rfl rfl ?_
    refine w.istore (q := 14) (L2 := #[.val (.int (Int32.ofNat m0)), .val (.int (Int32.ofNat (p.length + 1))), .val (.ref ar), .unset, .unset, .val (.int (Int32.ofNat (p.length + 1))), .val (.int (0 : Int32))]) d36_12 rfl rfl ?_
    refine w.iload (q := 16) d36_14 rfl rfl ?_
    refine w.ifN (q := 19) d36_16 ((if0 _ _).trans (teq rfl).2) rfl ?_
    refine w.iloadN (q := 20) d36_19 rfl rfl ?_
    refine w.ineg (q := 21) d36_20 rfl ?_
    refine w.istoreN (q := 22) (L2 := #[.val (.int (-(Int32.ofNat m0))), .val (.int (Int32.ofNat (p.length + 1))), .val (.ref ar), .unset, .unset, .val (.int (Int32.ofNat (p.length + 1))), .val (.int (0 : Int32))]) d36_21 rfl rfl ?_
    refine w.iloadN (q := 23) d36_22 rfl rfl ?_
    refine w.bipush (q := 25) (-100 : Int32) d36_23 rfl rfl ?_
    refine w.icY (q := 72) d36_25 ((tlt (by rw [show (-100 : Int32) = -(Int32.ofNat 100) from by decide]; exact neglt (by omega) (by omega) (by omega))).2.2.1) (by decide) (by decide) ?_
    refine w.aloadN (q := 73) d36_72 rfl rfl rfl ?_
    refine w.iinc (q := 76) (L2 := #[.val (.int (-(Int32.ofNat m0))), .val (.int (Int32.ofNat (p.length + 1))), .val (.ref ar), .unset, .unset, .val (.int ((Int32.ofNat (p.length + 1)) + (-1 : Int32))), .val (.int (0 : Int32))]) (-1 : Int32) d36_73 rfl rfl rfl rfl ?_
    refine w.iload (q := 78) d36_76 rfl rfl ?_
    rw [show ((Int32.ofNat (p.length + 1)) + (-1 : Int32)) = (Int32.ofNat (p.length + 0)) from ofpred _]
    refine w.getS (q := 81) d36_78 (H.tw 225 rfl) Via.refl Sd1 rfl fun T1 w1 => ?_
    refine w1.iloadN (q := 82) d36_81 rfl rfl ?_
    refine w1.ineg (q := 83) d36_82 rfl ?_
    rw [show (-(-(Int32.ofNat m0))) = (Int32.ofNat m0) from negneg _]
    refine w1.baload (q := 84) (x := (Int32.ofNat (48 + (m0) % 10))) d36_83 (Ad1.ext w1.old.2) ⟨nn0 (by omega), oflt (m := 100) (by omega) (by decide)⟩ (by rw [cln (by omega)]; exact hd1 _ (by omega)) rfl ?_
    refine w1.bastore (q := 85) (p.length + 0) d36_84 A g (w1.sfL A H.ne16) ⟨nn0 (by omega), oflt (m := 16) (by omega) (by decide)⟩ (cln (by omega)) (by simp only [List.length_append, List.length_cons]; omega) rfl fun T2 h2 w2 K2 sf2 A2 => ?_
    have sz2 : h.size ≤ h2.size := K2.1
    have f2 : Int32.ofNat (48 + (m0) % 10) = D (m0) := by unfold D; first | rfl | (congr 1; omega)
    replace A2 : Arv G.Z h2 ar kc .byte (16 : Int32) (p ++ Value.int (StrChars.lo8 (D (m0))) :: r) (.int (0 : Int32)) := by rw [set_at, f2] at A2; exact A2
    refine w2.iloadN (q := 86) d36_85 rfl rfl ?_
    refine w2.bipush (q := 88) (-9 : Int32) d36_86 rfl rfl ?_
    refine w2.icY (q := 104) d36_88 ((flt (by rw [show (-9 : Int32) = -(Int32.ofNat 9) from by decide]; exact negge (by omega) (by omega) (by omega))).2.1) (by decide) (by decide) ?_
    refine w2.iload (q := 106) d36_104 rfl rfl ?_
    refine w2.ifY (q := 118) d36_106 ((if0 _ _).trans (teq rfl).1) (by decide) (by decide) ?_
    refine w2.iload (q := 120) d36_118 rfl rfl ?_
    exact w2.retI d36_120 rfl (by decide) (by decide) ⟨_, rfl, _, rfl, K2, (by rw [List.append_assoc]; exact A2)⟩
  ·
    by_cases c2 : m0 < 100
    ·
      have ed : dig m0 = [D (m0 / 10), D (m0)] := by simp [dig, c1, c2]
      rw [ed] at hd ⊢
      simp only [List.length_cons, List.length_nil, Nat.zero_add] at hd
      obtain ⟨t0, t1, r, rfl⟩ := c2_ (l := tl) hd
      simp only [List.length_cons] at hl
      show Go _ _ _ _ (T.setTop (mkF X.m 0 #[.val (.int (Int32.ofNat m0)), .val (.int (Int32.ofNat (p.length + 2))), .val (.ref ar), .unset, .unset, .unset, .unset] []))
      refine w.iloadN (q := 1) d36_0 rfl rfl ?_
      refine w.istore (q := 3) (L2 := #[.val (.int (Int32.ofNat m0)), .val (.int (Int32.ofNat (p.length + 2))), .val (.ref ar), .unset, .unset, .val (.int (Int32.ofNat (p.length + 2))), .unset]) d36_1 rfl rfl ?_
      refine w.iloadN (q := 4) d36_3 rfl rfl ?_
      refine w.ifY (q := 11) d36_4 ((if0 _ _).trans (flt (nn0 (by omega))).2.1) (by decide) (by decide) ?_
      refine w.iconst (q := 12) (0 : Int32) d36_11 rfl rfl ?_
      refine w.istore (q := 14) (L2 := #[.val (.int (Int32.ofNat m0)), .val (.int (Int32.ofNat (p.length + 2))), .val (.ref ar), .unset, .unset, .val (.int (Int32.ofNat (p.length + 2))), .val (.int (0 : Int32))]) d36_12 rfl rfl ?_
      refine w.iload (q := 16) d36_14 rfl rfl ?_
      refine w.ifN (q := 19) d36_16 ((if0 _ _).trans (teq rfl).2) rfl ?_
      refine w.iloadN (q := 20) d36_19 rfl rfl ?_
      refine w.ineg (q := 21) d36_20 rfl ?_
      refine w.istoreN (q := 22) (L2 := #[.val (.int (-(Int32.ofNat m0))), .val (.int (Int32.ofNat (p.length + 2))), .val (.ref ar), .unset, .unset, .val (.int (Int32.ofNat (p.length + 2))), .val (.int (0 : Int32))]) d36_21 rfl rfl ?_
      refine w.iloadN (q := 23) d36_22 rfl rfl ?_
      refine w.bipush (q := 25) (-100 : Int32) d36_23 rfl rfl ?_
      refine w.icY (q := 72) d36_25 ((tlt (by rw [show (-100 : Int32) = -(Int32.ofNat 100) from by decide]; exact neglt (by omega) (by omega) (by omega))).2.2.1) (by decide) (by decide) ?_
      refine w.aloadN (q := 73) d36_72 rfl rfl rfl ?_
      refine w.iinc (q := 76) (L2 := #[.val (.int (-(Int32.ofNat m0))), .val (.int (Int32.ofNat (p.length + 2))), .val (.ref ar), .unset, .unset, .val (.int ((Int32.ofNat (p.length + 2)) + (-1 : Int32))), .val (.int (0 : Int32))]) (-1 : Int32) d36_73 rfl rfl rfl rfl ?_
      refine w.iload (q := 78) d36_76 rfl rfl ?_
      rw [show ((Int32.ofNat (p.length + 2)) + (-1 : Int32)) = (Int32.ofNat (p.length + 1)) from ofpred _]
      refine w.getS (q := 81) d36_78 (H.tw 225 rfl) Via.refl Sd1 rfl fun T3 w3 => ?_
      refine w3.iloadN (q := 82) d36_81 rfl rfl ?_
      refine w3.ineg (q := 83) d36_82 rfl ?_
      rw [show (-(-(Int32.ofNat m0))) = (Int32.ofNat m0) from negneg _]
      refine w3.baload (q := 84) (x := (Int32.ofNat (48 + (m0) % 10))) d36_83 (Ad1.ext w3.old.2) ⟨nn0 (by omega), oflt (m := 100) (by omega) (by decide)⟩ (by rw [cln (by omega)]; exact hd1 _ (by omega)) rfl ?_
      refine w3.bastore (q := 85) (p.length + 1) d36_84 A g (w3.sfL A H.ne16) ⟨nn0 (by omega), oflt (m := 16) (by omega) (by decide)⟩ (cln (by omega)) (by simp only [List.length_append, List.length_cons]; omega) rfl fun T4 h4 w4 K4 sf4 A4 => ?_
      have sz4 : h.size ≤ h4.size := K4.1
      have f4 : Int32.ofNat (48 + (m0) % 10) = D (m0) := by unfold D; first | rfl | (congr 1; omega)
      replace A4 : Arv G.Z h4 ar kc .byte (16 : Int32) (p ++ t0 :: Value.int (StrChars.lo8 (D (m0))) :: r) (.int (0 : Int32)) := by rw [set_at, f4] at A4; exact A4
      refine w4.iloadN (q := 86) d36_85 rfl rfl ?_
      refine w4.bipush (q := 88) (-9 : Int32) d36_86 rfl rfl ?_
      refine w4.icN (q := 91) d36_88 ((tlt (by rw [show (-9 : Int32) = -(Int32.ofNat 9) from by decide]; exact neglt (by omega) (by omega) (by omega))).2.1) rfl ?_
      refine w4.aloadN (q := 92) d36_91 rfl rfl rfl ?_
      refine w4.iinc (q := 95) (L2 := #[.val (.int (-(Int32.ofNat m0))), .val (.int (Int32.ofNat (p.length + 2))), .val (.ref ar), .unset, .unset, .val (.int ((Int32.ofNat (p.length + 1)) + (-1 : Int32))), .val (.int (0 : Int32))]) (-1 : Int32) d36_92 rfl rfl rfl rfl ?_
      refine w4.iload (q := 97) d36_95 rfl rfl ?_
      rw [show ((Int32.ofNat (p.length + 1)) + (-1 : Int32)) = (Int32.ofNat (p.length + 0)) from ofpred _]
      refine w4.getS (q := 100) d36_97 (H.tw 246 rfl) Via.refl Sd2 rfl fun T5 w5 => ?_
      refine w5.iloadN (q := 101) d36_100 rfl rfl ?_
      refine w5.ineg (q := 102) d36_101 rfl ?_
      rw [show (-(-(Int32.ofNat m0))) = (Int32.ofNat m0) from negneg _]
      refine w5.baload (q := 103) (x := (Int32.ofNat (48 + (m0) / 10))) d36_102 (Ad2.ext w5.old.2) ⟨nn0 (by omega), oflt (m := 100) (by omega) (by decide)⟩ (by rw [cln (by omega)]; exact hd2 _ (by omega)) rfl ?_
      refine w5.bastore (q := 104) (p.length + 0) d36_103 A4 g (w5.sfL A4 H.ne16) ⟨nn0 (by omega), oflt (m := 16) (by omega) (by decide)⟩ (cln (by omega)) (by simp only [List.length_append, List.length_cons]; omega) rfl fun T6 h6 w6 K6 sf6 A6 => ?_
      have sz6 : h4.size ≤ h6.size := K6.1
      have f6 : Int32.ofNat (48 + (m0) / 10) = D (m0 / 10) := by unfold D; first | rfl | (congr 1; omega)
      replace A6 : Arv G.Z h6 ar kc .byte (16 : Int32) (p ++ Value.int (StrChars.lo8 (D (m0 / 10))) :: Value.int (StrChars.lo8 (D (m0))) :: r) (.int (0 : Int32)) := by rw [set_at, f6] at A6; exact A6
      refine w6.iload (q := 106) d36_104 rfl rfl ?_
      refine w6.ifY (q := 118) d36_106 ((if0 _ _).trans (teq rfl).1) (by decide) (by decide) ?_
      refine w6.iload (q := 120) d36_118 rfl rfl ?_
      exact w6.retI d36_120 rfl (by decide) (by decide) ⟨_, rfl, _, rfl, (K4.trans K6 (fun x hx => Or.inl hx)), (by rw [List.append_assoc]; exact A6)⟩
    ·
      by_cases c3 : m0 < 1000
      ·
        have ed : dig m0 = [D (m0 / 100), D (m0 / 10), D (m0)] := by simp [dig, c1, c2, c3]
        rw [ed] at hd ⊢
        simp only [List.length_cons, List.length_nil, Nat.zero_add] at hd
        obtain ⟨t0, t1, t2, r, rfl⟩ := c3_ (l := tl) hd
        simp only [List.length_cons] at hl
        show Go _ _ _ _ (T.setTop (mkF X.m 0 #[.val (.int (Int32.ofNat m0)), .val (.int (Int32.ofNat (p.length + 3))), .val (.ref ar), .unset, .unset, .unset, .unset] []))
        refine w.iloadN (q := 1) d36_0 rfl rfl ?_
        refine w.istore (q := 3) (L2 := #[.val (.int (Int32.ofNat m0)), .val (.int (Int32.ofNat (p.length + 3))), .val (.ref ar), .unset, .unset, .val (.int (Int32.ofNat (p.length + 3))), .unset]) d36_1 rfl rfl ?_
        refine w.iloadN (q := 4) d36_3 rfl rfl ?_
        refine w.ifY (q := 11) d36_4 ((if0 _ _).trans (flt (nn0 (by omega))).2.1) (by decide) (by decide) ?_
        refine w.iconst (q := 12) (0 : Int32) d36_11 rfl rfl ?_
        refine w.istore (q := 14) (L2 := #[.val (.int (Int32.ofNat m0)), .val (.int (Int32.ofNat (p.length + 3))), .val (.ref ar), .unset, .unset, .val (.int (Int32.ofNat (p.length + 3))), .val (.int (0 : Int32))]) d36_12 rfl rfl ?_
        refine w.iload (q := 16) d36_14 rfl rfl ?_
        refine w.ifN (q := 19) d36_16 ((if0 _ _).trans (teq rfl).2) rfl ?_
        refine w.iloadN (q := 20) d36_19 rfl rfl ?_
        refine w.ineg (q := 21) d36_20 rfl ?_
        refine w.istoreN (q := 22) (L2 := #[.val (.int (-(Int32.ofNat m0))), .val (.int (Int32.ofNat (p.length + 3))), .val (.ref ar), .unset, .unset, .val (.int (Int32.ofNat (p.length + 3))), .val (.int (0 : Int32))]) d36_21 rfl rfl ?_
        refine w.iloadN (q := 23) d36_22 rfl rfl ?_
        refine w.bipush (q := 25) (-100 : Int32) d36_23 rfl rfl ?_
        refine w.icN (q := 28) d36_25 ((flt (by rw [show (-100 : Int32) = -(Int32.ofNat 100) from by decide]; exact negge (by omega) (by omega) (by omega))).2.2.1) rfl ?_
        refine w.iloadN (q := 29) d36_28 rfl rfl ?_
        refine w.bipush (q := 31) (100 : Int32) d36_29 rfl rfl ?_
        refine w.idiv (q := 32) d36_31 (by decide) rfl ?_
        rw [show ((-(Int32.ofNat m0)) / (100 : Int32)) = (-(Int32.ofNat (m0 / 100))) from divh (by omega)]
        refine w.istoreN (q := 33) (L2 := #[.val (.int (-(Int32.ofNat m0))), .val (.int (Int32.ofNat (p.length + 3))), .val (.ref ar), .val (.int (-(Int32.ofNat (m0 / 100)))), .unset, .val (.int (Int32.ofNat (p.length + 3))), .val (.int (0 : Int32))]) d36_32 rfl rfl ?_
        refine w.iloadN (q := 34) d36_33 rfl rfl ?_
        refine w.bipush (q := 36) (100 : Int32) d36_34 rfl rfl ?_
        refine w.imul (q := 37) d36_36 rfl ?_
        refine w.iloadN (q := 38) d36_37 rfl rfl ?_
        refine w.isub (q := 39) d36_38 rfl ?_
        rw [show (((-(Int32.ofNat (m0 / 100))) * (100 : Int32)) - (-(Int32.ofNat m0))) = (Int32.ofNat (m0 % 100)) from remh (by omega)]
        refine w.istore (q := 41) (L2 := #[.val (.int (-(Int32.ofNat m0))), .val (.int (Int32.ofNat (p.length + 3))), .val (.ref ar), .val (.int (-(Int32.ofNat (m0 / 100)))), .val (.int (Int32.ofNat (m0 % 100))), .val (.int (Int32.ofNat (p.length + 3))), .val (.int (0 : Int32))]) d36_39 rfl rfl ?_
        refine w.iloadN (q := 42) d36_41 rfl rfl ?_
        refine w.istoreN (q := 43) (L2 := #[.val (.int (-(Int32.ofNat (m0 / 100)))), .val (.int (Int32.ofNat (p.length + 3))), .val (.ref ar), .val (.int (-(Int32.ofNat (m0 / 100)))), .val (.int (Int32.ofNat (m0 % 100))), .val (.int (Int32.ofNat (p.length + 3))), .val (.int (0 : Int32))]) d36_42 rfl rfl ?_
        refine w.aloadN (q := 44) d36_43 rfl rfl rfl ?_
        refine w.iinc (q := 47) (L2 := #[.val (.int (-(Int32.ofNat (m0 / 100)))), .val (.int (Int32.ofNat (p.length + 3))), .val (.ref ar), .val (.int (-(Int32.ofNat (m0 / 100)))), .val (.int (Int32.ofNat (m0 % 100))), .val (.int ((Int32.ofNat (p.length + 3)) + (-1 : Int32))), .val (.int (0 : Int32))]) (-1 : Int32) d36_44 rfl rfl rfl rfl ?_
        refine w.iload (q := 49) d36_47 rfl rfl ?_
        rw [show ((Int32.ofNat (p.length + 3)) + (-1 : Int32)) = (Int32.ofNat (p.length + 2)) from ofpred _]
        refine w.getS (q := 52) d36_49 (H.tw 225 rfl) Via.refl Sd1 rfl fun T7 w7 => ?_
        refine w7.iload (q := 54) d36_52 rfl rfl ?_
        refine w7.baload (q := 55) (x := (Int32.ofNat (48 + (m0 % 100) % 10))) d36_54 (Ad1.ext w7.old.2) ⟨nn0 (by omega), oflt (m := 100) (by omega) (by decide)⟩ (by rw [cln (by omega)]; exact hd1 _ (by omega)) rfl ?_
        refine w7.bastore (q := 56) (p.length + 2) d36_55 A g (w7.sfL A H.ne16) ⟨nn0 (by omega), oflt (m := 16) (by omega) (by decide)⟩ (cln (by omega)) (by simp only [List.length_append, List.length_cons]; omega) rfl fun T8 h8 w8 K8 sf8 A8 => ?_
        have sz8 : h.size ≤ h8.size := K8.1
        have f8 : Int32.ofNat (48 + (m0 % 100) % 10) = D (m0) := by unfold D; first | rfl | (congr 1; omega)
        replace A8 : Arv G.Z h8 ar kc .byte (16 : Int32) (p ++ t0 :: t1 :: Value.int (StrChars.lo8 (D (m0))) :: r) (.int (0 : Int32)) := by rw [set_at, f8] at A8; exact A8
        refine w8.aloadN (q := 57) d36_56 rfl rfl rfl ?_
        refine w8.iinc (q := 60) (L2 := #[.val (.int (-(Int32.ofNat (m0 / 100)))), .val (.int (Int32.ofNat (p.length + 3))), .val (.ref ar), .val (.int (-(Int32.ofNat (m0 / 100)))), .val (.int (Int32.ofNat (m0 % 100))), .val (.int ((Int32.ofNat (p.length + 2)) + (-1 : Int32))), .val (.int (0 : Int32))]) (-1 : Int32) d36_57 rfl rfl rfl rfl ?_
        refine w8.iload (q := 62) d36_60 rfl rfl ?_
        rw [show ((Int32.ofNat (p.length + 2)) + (-1 : Int32)) = (Int32.ofNat (p.length + 1)) from ofpred _]
        refine w8.getS (q := 65) d36_62 (H.tw 246 rfl) Via.refl Sd2 rfl fun T9 w9 => ?_
        refine w9.iload (q := 67) d36_65 rfl rfl ?_
        refine w9.baload (q := 68) (x := (Int32.ofNat (48 + (m0 % 100) / 10))) d36_67 (Ad2.ext w9.old.2) ⟨nn0 (by omega), oflt (m := 100) (by omega) (by decide)⟩ (by rw [cln (by omega)]; exact hd2 _ (by omega)) rfl ?_
        refine w9.bastore (q := 69) (p.length + 1) d36_68 A8 g (w9.sfL A8 H.ne16) ⟨nn0 (by omega), oflt (m := 16) (by omega) (by decide)⟩ (cln (by omega)) (by simp only [List.length_append, List.length_cons]; omega) rfl fun T10 h10 w10 K10 sf10 A10 => ?_
        have sz10 : h8.size ≤ h10.size := K10.1
        have f10 : Int32.ofNat (48 + (m0 % 100) / 10) = D (m0 / 10) := by unfold D; first | rfl | (congr 1; omega)
        replace A10 : Arv G.Z h10 ar kc .byte (16 : Int32) (p ++ t0 :: Value.int (StrChars.lo8 (D (m0 / 10))) :: Value.int (StrChars.lo8 (D (m0))) :: r) (.int (0 : Int32)) := by rw [set_at, f10] at A10; exact A10
        refine w10.goto (q := 22) d36_69 (by decide) (by decide) ?_
        refine w10.iloadN (q := 23) d36_22 rfl rfl ?_
        refine w10.bipush (q := 25) (-100 : Int32) d36_23 rfl rfl ?_
        refine w10.icY (q := 72) d36_25 ((tlt (by rw [show (-100 : Int32) = -(Int32.ofNat 100) from by decide]; exact neglt (by omega) (by omega) (by omega))).2.2.1) (by decide) (by decide) ?_
        refine w10.aloadN (q := 73) d36_72 rfl rfl rfl ?_
        refine w10.iinc (q := 76) (L2 := #[.val (.int (-(Int32.ofNat (m0 / 100)))), .val (.int (Int32.ofNat (p.length + 3))), .val (.ref ar), .val (.int (-(Int32.ofNat (m0 / 100)))), .val (.int (Int32.ofNat (m0 % 100))), .val (.int ((Int32.ofNat (p.length + 1)) + (-1 : Int32))), .val (.int (0 : Int32))]) (-1 : Int32) d36_73 rfl rfl rfl rfl ?_
        refine w10.iload (q := 78) d36_76 rfl rfl ?_
        rw [show ((Int32.ofNat (p.length + 1)) + (-1 : Int32)) = (Int32.ofNat (p.length + 0)) from ofpred _]
        refine w10.getS (q := 81) d36_78 (H.tw 225 rfl) Via.refl Sd1 rfl fun T11 w11 => ?_
        refine w11.iloadN (q := 82) d36_81 rfl rfl ?_
        refine w11.ineg (q := 83) d36_82 rfl ?_
        rw [show (-(-(Int32.ofNat (m0 / 100)))) = (Int32.ofNat (m0 / 100)) from negneg _]
        refine w11.baload (q := 84) (x := (Int32.ofNat (48 + (m0 / 100) % 10))) d36_83 (Ad1.ext w11.old.2) ⟨nn0 (by omega), oflt (m := 100) (by omega) (by decide)⟩ (by rw [cln (by omega)]; exact hd1 _ (by omega)) rfl ?_
        refine w11.bastore (q := 85) (p.length + 0) d36_84 A10 g (w11.sfL A10 H.ne16) ⟨nn0 (by omega), oflt (m := 16) (by omega) (by decide)⟩ (cln (by omega)) (by simp only [List.length_append, List.length_cons]; omega) rfl fun T12 h12 w12 K12 sf12 A12 => ?_
        have sz12 : h10.size ≤ h12.size := K12.1
        have f12 : Int32.ofNat (48 + (m0 / 100) % 10) = D (m0 / 100) := by unfold D; first | rfl | (congr 1; omega)
        replace A12 : Arv G.Z h12 ar kc .byte (16 : Int32) (p ++ Value.int (StrChars.lo8 (D (m0 / 100))) :: Value.int (StrChars.lo8 (D (m0 / 10))) :: Value.int (StrChars.lo8 (D (m0))) :: r) (.int (0 : Int32)) := by rw [set_at, f12] at A12; exact A12
        refine w12.iloadN (q := 86) d36_85 rfl rfl ?_
        refine w12.bipush (q := 88) (-9 : Int32) d36_86 rfl rfl ?_
        refine w12.icY (q := 104) d36_88 ((flt (by rw [show (-9 : Int32) = -(Int32.ofNat 9) from by decide]; exact negge (by omega) (by omega) (by omega))).2.1) (by decide) (by decide) ?_
        refine w12.iload (q := 106) d36_104 rfl rfl ?_
        refine w12.ifY (q := 118) d36_106 ((if0 _ _).trans (teq rfl).1) (by decide) (by decide) ?_
        refine w12.iload (q := 120) d36_118 rfl rfl ?_
        exact w12.retI d36_120 rfl (by decide) (by decide) ⟨_, rfl, _, rfl, ((K8.trans K10 (fun x hx => Or.inl hx)).trans K12 (fun x hx => Or.inl hx)), (by rw [List.append_assoc]; exact A12)⟩
      ·
        by_cases c4 : m0 < 10000
        ·
          have ed : dig m0 = [D (m0 / 1000), D (m0 / 100), D (m0 / 10), D (m0)] := by simp [dig, c1, c2, c3, c4]
          rw [ed] at hd ⊢
          simp only [List.length_cons, List.length_nil, Nat.zero_add] at hd
          obtain ⟨t0, t1, t2, t3, r, rfl⟩ := c4_ (l := tl) hd
          simp only [List.length_cons] at hl
          show Go _ _ _ _ (T.setTop (mkF X.m 0 #[.val (.int (Int32.ofNat m0)), .val (.int (Int32.ofNat (p.length + 4))), .val (.ref ar), .unset, .unset, .unset, .unset] []))
          refine w.iloadN (q := 1) d36_0 rfl rfl ?_
          refine w.istore (q := 3) (L2 := #[.val (.int (Int32.ofNat m0)), .val (.int (Int32.ofNat (p.length + 4))), .val (.ref ar), .unset, .unset, .val (.int (Int32.ofNat (p.length + 4))), .unset]) d36_1 rfl rfl ?_
          refine w.iloadN (q := 4) d36_3 rfl rfl ?_
          refine w.ifY (q := 11) d36_4 ((if0 _ _).trans (flt (nn0 (by omega))).2.1) (by decide) (by decide) ?_
          refine w.iconst (q := 12) (0 : Int32) d36_11 rfl rfl ?_
          refine w.istore (q := 14) (L2 := #[.val (.int (Int32.ofNat m0)), .val (.int (Int32.ofNat (p.length + 4))), .val (.ref ar), .unset, .unset, .val (.int (Int32.ofNat (p.length + 4))), .val (.int (0 : Int32))]) d36_12 rfl rfl ?_
          refine w.iload (q := 16) d36_14 rfl rfl ?_
          refine w.ifN (q := 19) d36_16 ((if0 _ _).trans (teq rfl).2) rfl ?_
          refine w.iloadN (q := 20) d36_19 rfl rfl ?_
          refine w.ineg (q := 21) d36_20 rfl ?_
          refine w.istoreN (q := 22) (L2 := #[.val (.int (-(Int32.ofNat m0))), .val (.int (Int32.ofNat (p.length + 4))), .val (.ref ar), .unset, .unset, .val (.int (Int32.ofNat (p.length + 4))), .val (.int (0 : Int32))]) d36_21 rfl rfl ?_
          refine w.iloadN (q := 23) d36_22 rfl rfl ?_
          refine w.bipush (q := 25) (-100 : Int32) d36_23 rfl rfl ?_
          refine w.icN (q := 28) d36_25 ((flt (by rw [show (-100 : Int32) = -(Int32.ofNat 100) from by decide]; exact negge (by omega) (by omega) (by omega))).2.2.1) rfl ?_
          refine w.iloadN (q := 29) d36_28 rfl rfl ?_
          refine w.bipush (q := 31) (100 : Int32) d36_29 rfl rfl ?_
          refine w.idiv (q := 32) d36_31 (by decide) rfl ?_
          rw [show ((-(Int32.ofNat m0)) / (100 : Int32)) = (-(Int32.ofNat (m0 / 100))) from divh (by omega)]
          refine w.istoreN (q := 33) (L2 := #[.val (.int (-(Int32.ofNat m0))), .val (.int (Int32.ofNat (p.length + 4))), .val (.ref ar), .val (.int (-(Int32.ofNat (m0 / 100)))), .unset, .val (.int (Int32.ofNat (p.length + 4))), .val (.int (0 : Int32))]) d36_32 rfl rfl ?_
          refine w.iloadN (q := 34) d36_33 rfl rfl ?_
          refine w.bipush (q := 36) (100 : Int32) d36_34 rfl rfl ?_
          refine w.imul (q := 37) d36_36 rfl ?_
          refine w.iloadN (q := 38) d36_37 rfl rfl ?_
          refine w.isub (q := 39) d36_38 rfl ?_
          rw [show (((-(Int32.ofNat (m0 / 100))) * (100 : Int32)) - (-(Int32.ofNat m0))) = (Int32.ofNat (m0 % 100)) from remh (by omega)]
          refine w.istore (q := 41) (L2 := #[.val (.int (-(Int32.ofNat m0))), .val (.int (Int32.ofNat (p.length + 4))), .val (.ref ar), .val (.int (-(Int32.ofNat (m0 / 100)))), .val (.int (Int32.ofNat (m0 % 100))), .val (.int (Int32.ofNat (p.length + 4))), .val (.int (0 : Int32))]) d36_39 rfl rfl ?_
          refine w.iloadN (q := 42) d36_41 rfl rfl ?_
          refine w.istoreN (q := 43) (L2 := #[.val (.int (-(Int32.ofNat (m0 / 100)))), .val (.int (Int32.ofNat (p.length + 4))), .val (.ref ar), .val (.int (-(Int32.ofNat (m0 / 100)))), .val (.int (Int32.ofNat (m0 % 100))), .val (.int (Int32.ofNat (p.length + 4))), .val (.int (0 : Int32))]) d36_42 rfl rfl ?_
          refine w.aloadN (q := 44) d36_43 rfl rfl rfl ?_
          refine w.iinc (q := 47) (L2 := #[.val (.int (-(Int32.ofNat (m0 / 100)))), .val (.int (Int32.ofNat (p.length + 4))), .val (.ref ar), .val (.int (-(Int32.ofNat (m0 / 100)))), .val (.int (Int32.ofNat (m0 % 100))), .val (.int ((Int32.ofNat (p.length + 4)) + (-1 : Int32))), .val (.int (0 : Int32))]) (-1 : Int32) d36_44 rfl rfl rfl rfl ?_
          refine w.iload (q := 49) d36_47 rfl rfl ?_
          rw [show ((Int32.ofNat (p.length + 4)) + (-1 : Int32)) = (Int32.ofNat (p.length + 3)) from ofpred _]
          refine w.getS (q := 52) d36_49 (H.tw 225 rfl) Via.refl Sd1 rfl fun T13 w13 => ?_
          refine w13.iload (q := 54) d36_52 rfl rfl ?_
          refine w13.baload (q := 55) (x := (Int32.ofNat (48 + (m0 % 100) % 10))) d36_54 (Ad1.ext w13.old.2) ⟨nn0 (by omega), oflt (m := 100) (by omega) (by decide)⟩ (by rw [cln (by omega)]; exact hd1 _ (by omega)) rfl ?_
          refine w13.bastore (q := 56) (p.length + 3) d36_55 A g (w13.sfL A H.ne16) ⟨nn0 (by omega), oflt (m := 16) (by omega) (by decide)⟩ (cln (by omega)) (by simp only [List.length_append, List.length_cons]; omega) rfl fun T14 h14 w14 K14 sf14 A14 => ?_
          have sz14 : h.size ≤ h14.size := K14.1
          have f14 : Int32.ofNat (48 + (m0 % 100) % 10) = D (m0) := by unfold D; first | rfl | (congr 1; omega)
          replace A14 : Arv G.Z h14 ar kc .byte (16 : Int32) (p ++ t0 :: t1 :: t2 :: Value.int (StrChars.lo8 (D (m0))) :: r) (.int (0 : Int32)) := by rw [set_at, f14] at A14; exact A14
          refine w14.aloadN (q := 57) d36_56 rfl rfl rfl ?_
          refine w14.iinc (q := 60) (L2 := #[.val (.int (-(Int32.ofNat (m0 / 100)))), .val (.int (Int32.ofNat (p.length + 4))), .val (.ref ar), .val (.int (-(Int32.ofNat (m0 / 100)))), .val (.int (Int32.ofNat (m0 % 100))), .val (.int ((Int32.ofNat (p.length + 3)) + (-1 : Int32))), .val (.int (0 : Int32))]) (-1 : Int32) d36_57 rfl rfl rfl rfl ?_
          refine w14.iload (q := 62) d36_60 rfl rfl ?_
          rw [show ((Int32.ofNat (p.length + 3)) + (-1 : Int32)) = (Int32.ofNat (p.length + 2)) from ofpred _]
          refine w14.getS (q := 65) d36_62 (H.tw 246 rfl) Via.refl Sd2 rfl fun T15 w15 => ?_
          refine w15.iload (q := 67) d36_65 rfl rfl ?_
          refine w15.baload (q := 68) (x := (Int32.ofNat (48 + (m0 % 100) / 10))) d36_67 (Ad2.ext w15.old.2) ⟨nn0 (by omega), oflt (m := 100) (by omega) (by decide)⟩ (by rw [cln (by omega)]; exact hd2 _ (by omega)) rfl ?_
          refine w15.bastore (q := 69) (p.length + 2) d36_68 A14 g (w15.sfL A14 H.ne16) ⟨nn0 (by omega), oflt (m := 16) (by omega) (by decide)⟩ (cln (by omega)) (by simp only [List.length_append, List.length_cons]; omega) rfl fun T16 h16 w16 K16 sf16 A16 => ?_
          have sz16 : h14.size ≤ h16.size := K16.1
          have f16 : Int32.ofNat (48 + (m0 % 100) / 10) = D (m0 / 10) := by unfold D; first | rfl | (congr 1; omega)
          replace A16 : Arv G.Z h16 ar kc .byte (16 : Int32) (p ++ t0 :: t1 :: Value.int (StrChars.lo8 (D (m0 / 10))) :: Value.int (StrChars.lo8 (D (m0))) :: r) (.int (0 : Int32)) := by rw [set_at, f16] at A16; exact A16
          refine w16.goto (q := 22) d36_69 (by decide) (by decide) ?_
          refine w16.iloadN (q := 23) d36_22 rfl rfl ?_
          refine w16.bipush (q := 25) (-100 : Int32) d36_23 rfl rfl ?_
          refine w16.icY (q := 72) d36_25 ((tlt (by rw [show (-100 : Int32) = -(Int32.ofNat 100) from by decide]; exact neglt (by omega) (by omega) (by omega))).2.2.1) (by decide) (by decide) ?_
          refine w16.aloadN (q := 73) d36_72 rfl rfl rfl ?_
          refine w16.iinc (q := 76) (L2 := #[.val (.int (-(Int32.ofNat (m0 / 100)))), .val (.int (Int32.ofNat (p.length + 4))), .val (.ref ar), .val (.int (-(Int32.ofNat (m0 / 100)))), .val (.int (Int32.ofNat (m0 % 100))), .val (.int ((Int32.ofNat (p.length + 2)) + (-1 : Int32))), .val (.int (0 : Int32))]) (-1 : Int32) d36_73 rfl rfl rfl rfl ?_
          refine w16.iload (q := 78) d36_76 rfl rfl ?_
          rw [show ((Int32.ofNat (p.length + 2)) + (-1 : Int32)) = (Int32.ofNat (p.length + 1)) from ofpred _]
          refine w16.getS (q := 81) d36_78 (H.tw 225 rfl) Via.refl Sd1 rfl fun T17 w17 => ?_
          refine w17.iloadN (q := 82) d36_81 rfl rfl ?_
          refine w17.ineg (q := 83) d36_82 rfl ?_
          rw [show (-(-(Int32.ofNat (m0 / 100)))) = (Int32.ofNat (m0 / 100)) from negneg _]
          refine w17.baload (q := 84) (x := (Int32.ofNat (48 + (m0 / 100) % 10))) d36_83 (Ad1.ext w17.old.2) ⟨nn0 (by omega), oflt (m := 100) (by omega) (by decide)⟩ (by rw [cln (by omega)]; exact hd1 _ (by omega)) rfl ?_
          refine w17.bastore (q := 85) (p.length + 1) d36_84 A16 g (w17.sfL A16 H.ne16) ⟨nn0 (by omega), oflt (m := 16) (by omega) (by decide)⟩ (cln (by omega)) (by simp only [List.length_append, List.length_cons]; omega) rfl fun T18 h18 w18 K18 sf18 A18 => ?_
          have sz18 : h16.size ≤ h18.size := K18.1
          have f18 : Int32.ofNat (48 + (m0 / 100) % 10) = D (m0 / 100) := by unfold D; first | rfl | (congr 1; omega)
          replace A18 : Arv G.Z h18 ar kc .byte (16 : Int32) (p ++ t0 :: Value.int (StrChars.lo8 (D (m0 / 100))) :: Value.int (StrChars.lo8 (D (m0 / 10))) :: Value.int (StrChars.lo8 (D (m0))) :: r) (.int (0 : Int32)) := by rw [set_at, f18] at A18; exact A18
          refine w18.iloadN (q := 86) d36_85 rfl rfl ?_
          refine w18.bipush (q := 88) (-9 : Int32) d36_86 rfl rfl ?_
          refine w18.icN (q := 91) d36_88 ((tlt (by rw [show (-9 : Int32) = -(Int32.ofNat 9) from by decide]; exact neglt (by omega) (by omega) (by omega))).2.1) rfl ?_
          refine w18.aloadN (q := 92) d36_91 rfl rfl rfl ?_
          refine w18.iinc (q := 95) (L2 := #[.val (.int (-(Int32.ofNat (m0 / 100)))), .val (.int (Int32.ofNat (p.length + 4))), .val (.ref ar), .val (.int (-(Int32.ofNat (m0 / 100)))), .val (.int (Int32.ofNat (m0 % 100))), .val (.int ((Int32.ofNat (p.length + 1)) + (-1 : Int32))), .val (.int (0 : Int32))]) (-1 : Int32) d36_92 rfl rfl rfl rfl ?_
          refine w18.iload (q := 97) d36_95 rfl rfl ?_
          rw [show ((Int32.ofNat (p.length + 1)) + (-1 : Int32)) = (Int32.ofNat (p.length + 0)) from ofpred _]
          refine w18.getS (q := 100) d36_97 (H.tw 246 rfl) Via.refl Sd2 rfl fun T19 w19 => ?_
          refine w19.iloadN (q := 101) d36_100 rfl rfl ?_
          refine w19.ineg (q := 102) d36_101 rfl ?_
          rw [show (-(-(Int32.ofNat (m0 / 100)))) = (Int32.ofNat (m0 / 100)) from negneg _]
          refine w19.baload (q := 103) (x := (Int32.ofNat (48 + (m0 / 100) / 10))) d36_102 (Ad2.ext w19.old.2) ⟨nn0 (by omega), oflt (m := 100) (by omega) (by decide)⟩ (by rw [cln (by omega)]; exact hd2 _ (by omega)) rfl ?_
          refine w19.bastore (q := 104) (p.length + 0) d36_103 A18 g (w19.sfL A18 H.ne16) ⟨nn0 (by omega), oflt (m := 16) (by omega) (by decide)⟩ (cln (by omega)) (by simp only [List.length_append, List.length_cons]; omega) rfl fun T20 h20 w20 K20 sf20 A20 => ?_
          have sz20 : h18.size ≤ h20.size := K20.1
          have f20 : Int32.ofNat (48 + (m0 / 100) / 10) = D (m0 / 1000) := by unfold D; first | rfl | (congr 1; omega)
          replace A20 : Arv G.Z h20 ar kc .byte (16 : Int32) (p ++ Value.int (StrChars.lo8 (D (m0 / 1000))) :: Value.int (StrChars.lo8 (D (m0 / 100))) :: Value.int (StrChars.lo8 (D (m0 / 10))) :: Value.int (StrChars.lo8 (D (m0))) :: r) (.int (0 : Int32)) := by rw [set_at, f20] at A20; exact A20
          refine w20.iload (q := 106) d36_104 rfl rfl ?_
          refine w20.ifY (q := 118) d36_106 ((if0 _ _).trans (teq rfl).1) (by decide) (by decide) ?_
          refine w20.iload (q := 120) d36_118 rfl rfl ?_
          exact w20.retI d36_120 rfl (by decide) (by decide) ⟨_, rfl, _, rfl, (((K14.trans K16 (fun x hx => Or.inl hx)).trans K18 (fun x hx => Or.inl hx)).trans K20 (fun x hx => Or.inl hx)), (by rw [List.append_assoc]; exact A20)⟩
        ·
          have ed : dig m0 = [D (m0 / 10000), D (m0 / 1000), D (m0 / 100), D (m0 / 10), D (m0)] := by simp [dig, c1, c2, c3, c4]
          rw [ed] at hd ⊢
          simp only [List.length_cons, List.length_nil, Nat.zero_add] at hd
          obtain ⟨t0, t1, t2, t3, t4, r, rfl⟩ := c5_ (l := tl) hd
          simp only [List.length_cons] at hl
          show Go _ _ _ _ (T.setTop (mkF X.m 0 #[.val (.int (Int32.ofNat m0)), .val (.int (Int32.ofNat (p.length + 5))), .val (.ref ar), .unset, .unset, .unset, .unset] []))
          refine w.iloadN (q := 1) d36_0 rfl rfl ?_
          refine w.istore (q := 3) (L2 := #[.val (.int (Int32.ofNat m0)), .val (.int (Int32.ofNat (p.length + 5))), .val (.ref ar), .unset, .unset, .val (.int (Int32.ofNat (p.length + 5))), .unset]) d36_1 rfl rfl ?_
          refine w.iloadN (q := 4) d36_3 rfl rfl ?_
          refine w.ifY (q := 11) d36_4 ((if0 _ _).trans (flt (nn0 (by omega))).2.1) (by decide) (by decide) ?_
          refine w.iconst (q := 12) (0 : Int32) d36_11 rfl rfl ?_
          refine w.istore (q := 14) (L2 := #[.val (.int (Int32.ofNat m0)), .val (.int (Int32.ofNat (p.length + 5))), .val (.ref ar), .unset, .unset, .val (.int (Int32.ofNat (p.length + 5))), .val (.int (0 : Int32))]) d36_12 rfl rfl ?_
          refine w.iload (q := 16) d36_14 rfl rfl ?_
          refine w.ifN (q := 19) d36_16 ((if0 _ _).trans (teq rfl).2) rfl ?_
          refine w.iloadN (q := 20) d36_19 rfl rfl ?_
          refine w.ineg (q := 21) d36_20 rfl ?_
          refine w.istoreN (q := 22) (L2 := #[.val (.int (-(Int32.ofNat m0))), .val (.int (Int32.ofNat (p.length + 5))), .val (.ref ar), .unset, .unset, .val (.int (Int32.ofNat (p.length + 5))), .val (.int (0 : Int32))]) d36_21 rfl rfl ?_
          refine w.iloadN (q := 23) d36_22 rfl rfl ?_
          refine w.bipush (q := 25) (-100 : Int32) d36_23 rfl rfl ?_
          refine w.icN (q := 28) d36_25 ((flt (by rw [show (-100 : Int32) = -(Int32.ofNat 100) from by decide]; exact negge (by omega) (by omega) (by omega))).2.2.1) rfl ?_
          refine w.iloadN (q := 29) d36_28 rfl rfl ?_
          refine w.bipush (q := 31) (100 : Int32) d36_29 rfl rfl ?_
          refine w.idiv (q := 32) d36_31 (by decide) rfl ?_
          rw [show ((-(Int32.ofNat m0)) / (100 : Int32)) = (-(Int32.ofNat (m0 / 100))) from divh (by omega)]
          refine w.istoreN (q := 33) (L2 := #[.val (.int (-(Int32.ofNat m0))), .val (.int (Int32.ofNat (p.length + 5))), .val (.ref ar), .val (.int (-(Int32.ofNat (m0 / 100)))), .unset, .val (.int (Int32.ofNat (p.length + 5))), .val (.int (0 : Int32))]) d36_32 rfl rfl ?_
          refine w.iloadN (q := 34) d36_33 rfl rfl ?_
          refine w.bipush (q := 36) (100 : Int32) d36_34 rfl rfl ?_
          refine w.imul (q := 37) d36_36 rfl ?_
          refine w.iloadN (q := 38) d36_37 rfl rfl ?_
          refine w.isub (q := 39) d36_38 rfl ?_
          rw [show (((-(Int32.ofNat (m0 / 100))) * (100 : Int32)) - (-(Int32.ofNat m0))) = (Int32.ofNat (m0 % 100)) from remh (by omega)]
          refine w.istore (q := 41) (L2 := #[.val (.int (-(Int32.ofNat m0))), .val (.int (Int32.ofNat (p.length + 5))), .val (.ref ar), .val (.int (-(Int32.ofNat (m0 / 100)))), .val (.int (Int32.ofNat (m0 % 100))), .val (.int (Int32.ofNat (p.length + 5))), .val (.int (0 : Int32))]) d36_39 rfl rfl ?_
          refine w.iloadN (q := 42) d36_41 rfl rfl ?_
          refine w.istoreN (q := 43) (L2 := #[.val (.int (-(Int32.ofNat (m0 / 100)))), .val (.int (Int32.ofNat (p.length + 5))), .val (.ref ar), .val (.int (-(Int32.ofNat (m0 / 100)))), .val (.int (Int32.ofNat (m0 % 100))), .val (.int (Int32.ofNat (p.length + 5))), .val (.int (0 : Int32))]) d36_42 rfl rfl ?_
          refine w.aloadN (q := 44) d36_43 rfl rfl rfl ?_
          refine w.iinc (q := 47) (L2 := #[.val (.int (-(Int32.ofNat (m0 / 100)))), .val (.int (Int32.ofNat (p.length + 5))), .val (.ref ar), .val (.int (-(Int32.ofNat (m0 / 100)))), .val (.int (Int32.ofNat (m0 % 100))), .val (.int ((Int32.ofNat (p.length + 5)) + (-1 : Int32))), .val (.int (0 : Int32))]) (-1 : Int32) d36_44 rfl rfl rfl rfl ?_
          refine w.iload (q := 49) d36_47 rfl rfl ?_
          rw [show ((Int32.ofNat (p.length + 5)) + (-1 : Int32)) = (Int32.ofNat (p.length + 4)) from ofpred _]
          refine w.getS (q := 52) d36_49 (H.tw 225 rfl) Via.refl Sd1 rfl fun T21 w21 => ?_
          refine w21.iload (q := 54) d36_52 rfl rfl ?_
          refine w21.baload (q := 55) (x := (Int32.ofNat (48 + (m0 % 100) % 10))) d36_54 (Ad1.ext w21.old.2) ⟨nn0 (by omega), oflt (m := 100) (by omega) (by decide)⟩ (by rw [cln (by omega)]; exact hd1 _ (by omega)) rfl ?_
          refine w21.bastore (q := 56) (p.length + 4) d36_55 A g (w21.sfL A H.ne16) ⟨nn0 (by omega), oflt (m := 16) (by omega) (by decide)⟩ (cln (by omega)) (by simp only [List.length_append, List.length_cons]; omega) rfl fun T22 h22 w22 K22 sf22 A22 => ?_
          have sz22 : h.size ≤ h22.size := K22.1
          have f22 : Int32.ofNat (48 + (m0 % 100) % 10) = D (m0) := by unfold D; first | rfl | (congr 1; omega)
          replace A22 : Arv G.Z h22 ar kc .byte (16 : Int32) (p ++ t0 :: t1 :: t2 :: t3 :: Value.int (StrChars.lo8 (D (m0))) :: r) (.int (0 : Int32)) := by rw [set_at, f22] at A22; exact A22
          refine w22.aloadN (q := 57) d36_56 rfl rfl rfl ?_
          refine w22.iinc (q := 60) (L2 := #[.val (.int (-(Int32.ofNat (m0 / 100)))), .val (.int (Int32.ofNat (p.length + 5))), .val (.ref ar), .val (.int (-(Int32.ofNat (m0 / 100)))), .val (.int (Int32.ofNat (m0 % 100))), .val (.int ((Int32.ofNat (p.length + 4)) + (-1 : Int32))), .val (.int (0 : Int32))]) (-1 : Int32) d36_57 rfl rfl rfl rfl ?_
          refine w22.iload (q := 62) d36_60 rfl rfl ?_
          rw [show ((Int32.ofNat (p.length + 4)) + (-1 : Int32)) = (Int32.ofNat (p.length + 3)) from ofpred _]
          refine w22.getS (q := 65) d36_62 (H.tw 246 rfl) Via.refl Sd2 rfl fun T23 w23 => ?_
          refine w23.iload (q := 67) d36_65 rfl rfl ?_
          refine w23.baload (q := 68) (x := (Int32.ofNat (48 + (m0 % 100) / 10))) d36_67 (Ad2.ext w23.old.2) ⟨nn0 (by omega), oflt (m := 100) (by omega) (by decide)⟩ (by rw [cln (by omega)]; exact hd2 _ (by omega)) rfl ?_
          refine w23.bastore (q := 69) (p.length + 3) d36_68 A22 g (w23.sfL A22 H.ne16) ⟨nn0 (by omega), oflt (m := 16) (by omega) (by decide)⟩ (cln (by omega)) (by simp only [List.length_append, List.length_cons]; omega) rfl fun T24 h24 w24 K24 sf24 A24 => ?_
          have sz24 : h22.size ≤ h24.size := K24.1
          have f24 : Int32.ofNat (48 + (m0 % 100) / 10) = D (m0 / 10) := by unfold D; first | rfl | (congr 1; omega)
          replace A24 : Arv G.Z h24 ar kc .byte (16 : Int32) (p ++ t0 :: t1 :: t2 :: Value.int (StrChars.lo8 (D (m0 / 10))) :: Value.int (StrChars.lo8 (D (m0))) :: r) (.int (0 : Int32)) := by rw [set_at, f24] at A24; exact A24
          refine w24.goto (q := 22) d36_69 (by decide) (by decide) ?_
          refine w24.iloadN (q := 23) d36_22 rfl rfl ?_
          refine w24.bipush (q := 25) (-100 : Int32) d36_23 rfl rfl ?_
          refine w24.icN (q := 28) d36_25 ((flt (by rw [show (-100 : Int32) = -(Int32.ofNat 100) from by decide]; exact negge (by omega) (by omega) (by omega))).2.2.1) rfl ?_
          refine w24.iloadN (q := 29) d36_28 rfl rfl ?_
          refine w24.bipush (q := 31) (100 : Int32) d36_29 rfl rfl ?_
          refine w24.idiv (q := 32) d36_31 (by decide) rfl ?_
          rw [show ((-(Int32.ofNat (m0 / 100))) / (100 : Int32)) = (-(Int32.ofNat (m0 / 100 / 100))) from divh (by omega)]
          refine w24.istoreN (q := 33) (L2 := #[.val (.int (-(Int32.ofNat (m0 / 100)))), .val (.int (Int32.ofNat (p.length + 5))), .val (.ref ar), .val (.int (-(Int32.ofNat (m0 / 100 / 100)))), .val (.int (Int32.ofNat (m0 % 100))), .val (.int (Int32.ofNat (p.length + 3))), .val (.int (0 : Int32))]) d36_32 rfl rfl ?_
          refine w24.iloadN (q := 34) d36_33 rfl rfl ?_
          refine w24.bipush (q := 36) (100 : Int32) d36_34 rfl rfl ?_
          refine w24.imul (q := 37) d36_36 rfl ?_
          refine w24.iloadN (q := 38) d36_37 rfl rfl ?_
          refine w24.isub (q := 39) d36_38 rfl ?_
          rw [show (((-(Int32.ofNat (m0 / 100 / 100))) * (100 : Int32)) - (-(Int32.ofNat (m0 / 100)))) = (Int32.ofNat (m0 / 100 % 100)) from remh (by omega)]
          refine w24.istore (q := 41) (L2 := #[.val (.int (-(Int32.ofNat (m0 / 100)))), .val (.int (Int32.ofNat (p.length + 5))), .val (.ref ar), .val (.int (-(Int32.ofNat (m0 / 100 / 100)))), .val (.int (Int32.ofNat (m0 / 100 % 100))), .val (.int (Int32.ofNat (p.length + 3))), .val (.int (0 : Int32))]) d36_39 rfl rfl ?_
          refine w24.iloadN (q := 42) d36_41 rfl rfl ?_
          refine w24.istoreN (q := 43) (L2 := #[.val (.int (-(Int32.ofNat (m0 / 100 / 100)))), .val (.int (Int32.ofNat (p.length + 5))), .val (.ref ar), .val (.int (-(Int32.ofNat (m0 / 100 / 100)))), .val (.int (Int32.ofNat (m0 / 100 % 100))), .val (.int (Int32.ofNat (p.length + 3))), .val (.int (0 : Int32))]) d36_42 rfl rfl ?_
          refine w24.aloadN (q := 44) d36_43 rfl rfl rfl ?_
          refine w24.iinc (q := 47) (L2 := #[.val (.int (-(Int32.ofNat (m0 / 100 / 100)))), .val (.int (Int32.ofNat (p.length + 5))), .val (.ref ar), .val (.int (-(Int32.ofNat (m0 / 100 / 100)))), .val (.int (Int32.ofNat (m0 / 100 % 100))), .val (.int ((Int32.ofNat (p.length + 3)) + (-1 : Int32))), .val (.int (0 : Int32))]) (-1 : Int32) d36_44 rfl rfl rfl rfl ?_
          refine w24.iload (q := 49) d36_47 rfl rfl ?_
          rw [show ((Int32.ofNat (p.length + 3)) + (-1 : Int32)) = (Int32.ofNat (p.length + 2)) from ofpred _]
          refine w24.getS (q := 52) d36_49 (H.tw 225 rfl) Via.refl Sd1 rfl fun T25 w25 => ?_
          refine w25.iload (q := 54) d36_52 rfl rfl ?_
          refine w25.baload (q := 55) (x := (Int32.ofNat (48 + (m0 / 100 % 100) % 10))) d36_54 (Ad1.ext w25.old.2) ⟨nn0 (by omega), oflt (m := 100) (by omega) (by decide)⟩ (by rw [cln (by omega)]; exact hd1 _ (by omega)) rfl ?_
          refine w25.bastore (q := 56) (p.length + 2) d36_55 A24 g (w25.sfL A24 H.ne16) ⟨nn0 (by omega), oflt (m := 16) (by omega) (by decide)⟩ (cln (by omega)) (by simp only [List.length_append, List.length_cons]; omega) rfl fun T26 h26 w26 K26 sf26 A26 => ?_
          have sz26 : h24.size ≤ h26.size := K26.1
          have f26 : Int32.ofNat (48 + (m0 / 100 % 100) % 10) = D (m0 / 100) := by unfold D; first | rfl | (congr 1; omega)
          replace A26 : Arv G.Z h26 ar kc .byte (16 : Int32) (p ++ t0 :: t1 :: Value.int (StrChars.lo8 (D (m0 / 100))) :: Value.int (StrChars.lo8 (D (m0 / 10))) :: Value.int (StrChars.lo8 (D (m0))) :: r) (.int (0 : Int32)) := by rw [set_at, f26] at A26; exact A26
          refine w26.aloadN (q := 57) d36_56 rfl rfl rfl ?_
          refine w26.iinc (q := 60) (L2 := #[.val (.int (-(Int32.ofNat (m0 / 100 / 100)))), .val (.int (Int32.ofNat (p.length + 5))), .val (.ref ar), .val (.int (-(Int32.ofNat (m0 / 100 / 100)))), .val (.int (Int32.ofNat (m0 / 100 % 100))), .val (.int ((Int32.ofNat (p.length + 2)) + (-1 : Int32))), .val (.int (0 : Int32))]) (-1 : Int32) d36_57 rfl rfl rfl rfl ?_
          refine w26.iload (q := 62) d36_60 rfl rfl ?_
          rw [show ((Int32.ofNat (p.length + 2)) + (-1 : Int32)) = (Int32.ofNat (p.length + 1)) from ofpred _]
          refine w26.getS (q := 65) d36_62 (H.tw 246 rfl) Via.refl Sd2 rfl fun T27 w27 => ?_
          refine w27.iload (q := 67) d36_65 rfl rfl ?_
          refine w27.baload (q := 68) (x := (Int32.ofNat (48 + (m0 / 100 % 100) / 10))) d36_67 (Ad2.ext w27.old.2) ⟨nn0 (by omega), oflt (m := 100) (by omega) (by decide)⟩ (by rw [cln (by omega)]; exact hd2 _ (by omega)) rfl ?_
          refine w27.bastore (q := 69) (p.length + 1) d36_68 A26 g (w27.sfL A26 H.ne16) ⟨nn0 (by omega), oflt (m := 16) (by omega) (by decide)⟩ (cln (by omega)) (by simp only [List.length_append, List.length_cons]; omega) rfl fun T28 h28 w28 K28 sf28 A28 => ?_
          have sz28 : h26.size ≤ h28.size := K28.1
          have f28 : Int32.ofNat (48 + (m0 / 100 % 100) / 10) = D (m0 / 1000) := by unfold D; first | rfl | (congr 1; omega)
          replace A28 : Arv G.Z h28 ar kc .byte (16 : Int32) (p ++ t0 :: Value.int (StrChars.lo8 (D (m0 / 1000))) :: Value.int (StrChars.lo8 (D (m0 / 100))) :: Value.int (StrChars.lo8 (D (m0 / 10))) :: Value.int (StrChars.lo8 (D (m0))) :: r) (.int (0 : Int32)) := by rw [set_at, f28] at A28; exact A28
          refine w28.goto (q := 22) d36_69 (by decide) (by decide) ?_
          refine w28.iloadN (q := 23) d36_22 rfl rfl ?_
          refine w28.bipush (q := 25) (-100 : Int32) d36_23 rfl rfl ?_
          refine w28.icY (q := 72) d36_25 ((tlt (by rw [show (-100 : Int32) = -(Int32.ofNat 100) from by decide]; exact neglt (by omega) (by omega) (by omega))).2.2.1) (by decide) (by decide) ?_
          refine w28.aloadN (q := 73) d36_72 rfl rfl rfl ?_
          refine w28.iinc (q := 76) (L2 := #[.val (.int (-(Int32.ofNat (m0 / 100 / 100)))), .val (.int (Int32.ofNat (p.length + 5))), .val (.ref ar), .val (.int (-(Int32.ofNat (m0 / 100 / 100)))), .val (.int (Int32.ofNat (m0 / 100 % 100))), .val (.int ((Int32.ofNat (p.length + 1)) + (-1 : Int32))), .val (.int (0 : Int32))]) (-1 : Int32) d36_73 rfl rfl rfl rfl ?_
          refine w28.iload (q := 78) d36_76 rfl rfl ?_
          rw [show ((Int32.ofNat (p.length + 1)) + (-1 : Int32)) = (Int32.ofNat (p.length + 0)) from ofpred _]
          refine w28.getS (q := 81) d36_78 (H.tw 225 rfl) Via.refl Sd1 rfl fun T29 w29 => ?_
          refine w29.iloadN (q := 82) d36_81 rfl rfl ?_
          refine w29.ineg (q := 83) d36_82 rfl ?_
          rw [show (-(-(Int32.ofNat (m0 / 100 / 100)))) = (Int32.ofNat (m0 / 100 / 100)) from negneg _]
          refine w29.baload (q := 84) (x := (Int32.ofNat (48 + (m0 / 100 / 100) % 10))) d36_83 (Ad1.ext w29.old.2) ⟨nn0 (by omega), oflt (m := 100) (by omega) (by decide)⟩ (by rw [cln (by omega)]; exact hd1 _ (by omega)) rfl ?_
          refine w29.bastore (q := 85) (p.length + 0) d36_84 A28 g (w29.sfL A28 H.ne16) ⟨nn0 (by omega), oflt (m := 16) (by omega) (by decide)⟩ (cln (by omega)) (by simp only [List.length_append, List.length_cons]; omega) rfl fun T30 h30 w30 K30 sf30 A30 => ?_
          have sz30 : h28.size ≤ h30.size := K30.1
          have f30 : Int32.ofNat (48 + (m0 / 100 / 100) % 10) = D (m0 / 10000) := by unfold D; first | rfl | (congr 1; omega)
          replace A30 : Arv G.Z h30 ar kc .byte (16 : Int32) (p ++ Value.int (StrChars.lo8 (D (m0 / 10000))) :: Value.int (StrChars.lo8 (D (m0 / 1000))) :: Value.int (StrChars.lo8 (D (m0 / 100))) :: Value.int (StrChars.lo8 (D (m0 / 10))) :: Value.int (StrChars.lo8 (D (m0))) :: r) (.int (0 : Int32)) := by rw [set_at, f30] at A30; exact A30
          refine w30.iloadN (q := 86) d36_85 rfl rfl ?_
          refine w30.bipush (q := 88) (-9 : Int32) d36_86 rfl rfl ?_
          refine w30.icY (q := 104) d36_88 ((flt (by rw [show (-9 : Int32) = -(Int32.ofNat 9) from by decide]; exact negge (by omega) (by omega) (by omega))).2.1) (by decide) (by decide) ?_
          refine w30.iload (q := 106) d36_104 rfl rfl ?_
          refine w30.ifY (q := 118) d36_106 ((if0 _ _).trans (teq rfl).1) (by decide) (by decide) ?_
          refine w30.iload (q := 120) d36_118 rfl rfl ?_
          exact w30.retI d36_120 rfl (by decide) (by decide) ⟨_, rfl, _, rfl, ((((K22.trans K24 (fun x hx => Or.inl hx)).trans K26 (fun x hx => Or.inl hx)).trans K28 (fun x hx => Or.inl hx)).trans K30 (fun x hx => Or.inl hx)), (by rw [List.append_assoc]; exact A30)⟩
theorem d37_0 : decode jdk_68_method_32_code 0 = .ok (.aload_n 0, 1) := by decide +kernel
theorem d37_1 : decode jdk_68_method_32_code 1 = .ok (.getfield 79, 3) := by decide +kernel
theorem d37_4 : decode jdk_68_method_32_code 4 = .ok (.istore_n 2, 1) := by decide +kernel
theorem d37_5 : decode jdk_68_method_32_code 5 = .ok (.iload_n 2, 1) := by decide +kernel
theorem d37_6 : decode jdk_68_method_32_code 6 = .ok (.iload_n 1, 1) := by decide +kernel
theorem d37_7 : decode jdk_68_method_32_code 7 = .ok (.invokestatic 245, 3) := by decide +kernel
theorem pd38 : parseMethodDescriptor "(I)I" = some ⟨[.int], some .int⟩ := by decide +kernel
theorem d37_10 : decode jdk_68_method_32_code 10 = .ok (.iadd, 1) := by decide +kernel
theorem d37_11 : decode jdk_68_method_32_code 11 = .ok (.istore_n 3, 1) := by decide +kernel
theorem d37_12 : decode jdk_68_method_32_code 12 = .ok (.aload_n 0, 1) := by decide +kernel
theorem d37_13 : decode jdk_68_method_32_code 13 = .ok (.iload_n 3, 1) := by decide +kernel
theorem d37_14 : decode jdk_68_method_32_code 14 = .ok (.invokevirtual 100, 3) := by decide +kernel
theorem d37_17 : decode jdk_68_method_32_code 17 = .ok (.aload_n 0, 1) := by decide +kernel
theorem d37_18 : decode jdk_68_method_32_code 18 = .ok (.invokevirtual 83, 3) := by decide +kernel
theorem d37_21 : decode jdk_68_method_32_code 21 = .ok (.ifCond .eq 16, 3) := by decide +kernel
theorem d37_24 : decode jdk_68_method_32_code 24 = .ok (.iload_n 1, 1) := by decide +kernel
theorem d37_25 : decode jdk_68_method_32_code 25 = .ok (.iload_n 3, 1) := by decide +kernel
theorem d37_26 : decode jdk_68_method_32_code 26 = .ok (.aload_n 0, 1) := by decide +kernel
theorem d37_27 : decode jdk_68_method_32_code 27 = .ok (.getfield 15, 3) := by decide +kernel
theorem d37_30 : decode jdk_68_method_32_code 30 = .ok (.invokestatic 248, 3) := by decide +kernel
theorem pd39 : parseMethodDescriptor "(II[B)I" = some ⟨[.int, .int, (.array .byte)], some .int⟩ := by decide +kernel
theorem d37_33 : decode jdk_68_method_32_code 33 = .ok (.pop, 1) := by decide +kernel
theorem d37_34 : decode jdk_68_method_32_code 34 = .ok (.goto 14, 3) := by decide +kernel
theorem d37_48 : decode jdk_68_method_32_code 48 = .ok (.aload_n 0, 1) := by decide +kernel
theorem d37_49 : decode jdk_68_method_32_code 49 = .ok (.iload_n 3, 1) := by decide +kernel
theorem d37_50 : decode jdk_68_method_32_code 50 = .ok (.putfield 79, 3) := by decide +kernel
theorem d37_53 : decode jdk_68_method_32_code 53 = .ok (.aload_n 0, 1) := by decide +kernel
theorem d37_54 : decode jdk_68_method_32_code 54 = .ok (.areturn, 1) := by decide +kernel
set_option maxRecDepth 65536 in
set_option maxHeartbeats 40000000 in
theorem con_aai (G : Gx) (H : Hyp G) (b ar m0 : Nat) (kc : ClassId) (cs : List Int32) (h : Heap) (ho : Old G.Z G.n0 h) (B : SBd G.Z h b ar kc cs) (hm : m0 ≤ 65535) (hl : cs.length + 5 ≤ 16) (g : G.n0 ≤ b) (g2 : G.n0 ≤ ar) :
    Con G (⟨"java/lang/AbstractStringBuilder", "append", "(I)Ljava/lang/AbstractStringBuilder;"⟩ : MethodName) jdk_68_method_32_code 4 (some (.object "java/lang/AbstractStringBuilder")) [] ({ frames := 1, cells := 0, slots := 0, locals := 18 } : Room) #[(.ref b), (.int (Int32.ofNat m0))] h (vQ fun v h' => v = .ref b ∧ Keep h h' [b, ar] ∧ SBd G.Z h' b ar kc (cs ++ dig m0)) := by
  refine Con.intro H.el ho (plainFor_of_name pn6) (Ls := #[.val (.ref b), .val (.int (Int32.ofNat m0)), .unset, .unset]) (fun m => by first | (simp [entryFrame, mkF, argsToLocals, Value.category]; done) | rfl) ?_
  intro X vm T w
  have dl := dig_len m0
  obtain ⟨E, Fv, Fc, Fn, tl, htl, B⟩ := B
  have nba : b ≠ ar := Exa.neArv E B (H.tw 63 rfl)
  refine w.aloadN (q := 1) d37_0 rfl rfl rfl ?_
  refine w.getF (q := 4) d37_1 (H.tw 135 rfl) Via.refl Fn rfl fun T1 w1 => ?_
  refine w1.istoreN (q := 5) (L2 := #[.val (.ref b), .val (.int (Int32.ofNat m0)), .val (.int (Int32.ofNat cs.length)), .unset]) d37_4 rfl rfl ?_
  refine w1.iloadN (q := 6) d37_5 rfl rfl ?_
  refine w1.iloadN (q := 7) d37_6 rfl rfl ?_
  refine w1.callS (q := 10) d37_7 (H.tw 217 rfl) (H.tw 218 rfl) (H.tw 219 rfl) (H.tw 220 rfl) (by decide) (argsL := [(.int (Int32.ofNat m0))]) (rest := [(.int (Int32.ofNat cs.length))]) rfl (lenOf pd38 rfl) rfl (W := 1) (Nat.le_of_eq rfl) ((con_ssz G H m0 h w1.old hm).pay w1 (H.tw 220 rfl) (H.tw 219 rfl) (by decide) (by decide)) (by decide) (by decide) rfl fun vm2 T2 h2 v2 w2 q2 => ?_
  obtain ⟨_, rfl, rfl, rfl⟩ := q2
  show Go _ _ _ _ (T2.setTop (mkF X.m 10 #[.val (.ref b), .val (.int (Int32.ofNat m0)), .val (.int (Int32.ofNat cs.length)), .unset] [(.int (Int32.ofNat (dig m0).length)), (.int (Int32.ofNat cs.length))]))
  refine w2.iadd (q := 11) d37_10 rfl ?_
  rw [show ((Int32.ofNat cs.length) + (Int32.ofNat (dig m0).length)) = (Int32.ofNat (cs.length + (dig m0).length)) from ofadd _ _]
  refine w2.istoreN (q := 12) (L2 := #[.val (.ref b), .val (.int (Int32.ofNat m0)), .val (.int (Int32.ofNat cs.length)), .val (.int (Int32.ofNat (cs.length + (dig m0).length)))]) d37_11 rfl rfl ?_
  refine w2.aloadN (q := 13) d37_12 rfl rfl rfl ?_
  refine w2.iloadN (q := 14) d37_13 rfl rfl ?_
  refine w2.callPs (q := 17) d37_14 (H.tw 137 rfl) (H.tw 138 rfl) (H.tw 139 rfl) (H.tw 141 rfl) (H.tw 140 rfl) (by decide) E (argsL := [(.int (Int32.ofNat (cs.length + (dig m0).length)))]) (rest := []) rfl (lenOf pd10 rfl) rfl (W := 0) (Nat.le_of_eq rfl) ((con_ens G H b ar (cs.length + (dig m0).length) kc _ h w2.old Fv Fc B (by omega)).pay w2 (H.tw 141 rfl) (H.tw 72 rfl) (by decide) (by decide)) (by decide) (by decide) rfl fun vm3 T3 h3 v3 w3 q3 => ?_
  obtain ⟨rfl, rfl⟩ := q3
  show Go _ _ _ _ (T3.setTop (mkF X.m 17 #[.val (.ref b), .val (.int (Int32.ofNat m0)), .val (.int (Int32.ofNat cs.length)), .val (.int (Int32.ofNat (cs.length + (dig m0).length)))] []))
  refine w3.aloadN (q := 18) d37_17 rfl rfl rfl ?_
  refine w3.callV (q := 21) d37_18 (H.tw 221 rfl) (H.tw 189 rfl) (notFace_of_selects (C := "java/lang/StringBuilder") (args := G.a0) (H.tw 191 rfl)) (H.tw 191 rfl) (H.tw 190 rfl) (by decide) E (argsL := []) (rest := []) rfl (lenOf pd18 rfl) rfl (W := 0) (Nat.le_of_eq rfl) ((con_blat G H b h w3.old Fc).pay w3 (H.tw 192 rfl) (H.tw 72 rfl) (by decide) (by decide)) (by decide) (by decide) rfl fun vm4 T4 h4 v4 w4 q4 => ?_
  obtain ⟨_, rfl, rfl, rfl⟩ := q4
  show Go _ _ _ _ (T4.setTop (mkF X.m 21 #[.val (.ref b), .val (.int (Int32.ofNat m0)), .val (.int (Int32.ofNat cs.length)), .val (.int (Int32.ofNat (cs.length + (dig m0).length)))] [(.int (1 : Int32))]))
  refine w4.ifN (q := 24) d37_21 ((if0 _ _).trans (feq (by decide)).1) rfl ?_
  refine w4.iloadN (q := 25) d37_24 rfl rfl ?_
  refine w4.iloadN (q := 26) d37_25 rfl rfl ?_
  refine w4.aloadN (q := 27) d37_26 rfl rfl rfl ?_
  refine w4.getF (q := 30) d37_27 (H.tw 76 rfl) Via.refl Fv rfl fun T5 w5 => ?_
  have el : (cs.map (fun c => Value.int (StrChars.lo8 c))).length = cs.length := List.length_map _
  rw [show (Int32.ofNat (cs.length + (dig m0).length)) = (Int32.ofNat ((cs.map (fun c => Value.int (StrChars.lo8 c))).length + (dig m0).length)) from (by rw [el])]
  refine w5.callS (q := 33) d37_30 (H.tw 222 rfl) (H.tw 223 rfl) (H.tw 219 rfl) (H.tw 224 rfl) (by decide) (argsL := [(.int (Int32.ofNat m0)), (.int (Int32.ofNat ((cs.map (fun c => Value.int (StrChars.lo8 c))).length + (dig m0).length))), (.ref ar)]) (rest := []) rfl (lenOf pd39 rfl) rfl (W := 0) (Nat.le_of_eq rfl) ((con_gch G H ar m0 kc (cs.map (fun c => Value.int (StrChars.lo8 c))) tl h w5.old B hm (by rw [el]; exact htl) (by omega) g2).pay w5 (H.tw 224 rfl) (H.tw 219 rfl) (by decide) (by decide)) (by decide) (by decide) rfl fun vm6 T6 h6 v6 w6 q6 => ?_
  obtain ⟨_, rfl, ⟨r6, rfl, K6, A6⟩⟩ := q6
  show Go _ _ _ _ (T6.setTop (mkF X.m 33 #[.val (.ref b), .val (.int (Int32.ofNat m0)), .val (.int (Int32.ofNat cs.length)), .val (.int (Int32.ofNat ((cs.map (fun c => Value.int (StrChars.lo8 c))).length + (dig m0).length)))] [(.int r6)]))
  replace E := E.keep K6
  replace Fv := Fv.keep K6 (nin1 nba)
  replace Fc := Fc.keep K6 (nin1 nba)
  replace Fn := Fn.keep K6 (nin1 nba)
  refine w6.pop (q := 34) d37_33 rfl rfl ?_
  refine w6.goto (q := 48) d37_34 (by decide) (by decide) ?_
  refine w6.aloadN (q := 49) d37_48 rfl rfl rfl ?_
  refine w6.iloadN (q := 50) d37_49 rfl rfl ?_
  rw [show (Int32.ofNat ((cs.map (fun c => Value.int (StrChars.lo8 c))).length + (dig m0).length)) = (Int32.ofNat (cs.length + (dig m0).length)) from (by rw [el])]
  refine w6.putF (q := 53) d37_50 (H.tw 135 rfl) Via.refl Fn E (Or.inl (H.tw 136 rfl)) (H.tw 63 rfl) (ty := .int) (by decide) rfl rfl g (w6.sfE E (by decide) (by decide)) rfl fun T7 h7 w7 W7 sf7 => ?_
  have sz7 : h6.size ≤ h7.size := (Keep.of_wr W7).1
  replace E := E.wr W7
  replace Fv := Fv.other W7 (Or.inr (slot_ne (Or.inl (H.tw 77 rfl)) (Or.inl (H.tw 136 rfl)) (by decide) (t := (.array .byte)) (t' := .int) (by decide) (by decide)))
  replace Fc := Fc.other W7 (Or.inr (slot_ne (Or.inl (H.tw 79 rfl)) (Or.inl (H.tw 136 rfl)) (by decide) (t := .byte) (t' := .int) (by decide) (by decide)))
  replace Fn := Fn.same W7
  replace A6 := A6.other W7 (Ne.symm nba)
  have K9 : Keep h h7 [b, ar] := ((Keep.refl h [b, ar]).trans K6 (fun x hx => Or.inl (List.mem_cons_of_mem _ hx))).wr W7 (Or.inl List.mem_cons_self)
  refine w7.aloadN (q := 54) d37_53 rfl rfl rfl ?_
  exact w7.retA d37_54 (t := (.object "java/lang/AbstractStringBuilder")) rfl rfl rfl (by decide) (by decide) ⟨_, rfl, rfl, K9, E, Fv, Fc, (by rw [List.length_append]; exact Fn), tl.drop (dig m0).length, (by rw [List.length_append, List.length_drop]; omega), (by rw [List.map_append]; exact A6)⟩
theorem d40_0 : decode jdk_67_method_15_code 0 = .ok (.aload_n 0, 1) := by decide +kernel
theorem d40_1 : decode jdk_67_method_15_code 1 = .ok (.iload_n 1, 1) := by decide +kernel
theorem d40_2 : decode jdk_67_method_15_code 2 = .ok (.invokespecial 53, 3) := by decide +kernel
theorem pd41 : parseMethodDescriptor "(I)Ljava/lang/AbstractStringBuilder;" = some ⟨[.int], some (.object "java/lang/AbstractStringBuilder")⟩ := by decide +kernel
theorem d40_5 : decode jdk_67_method_15_code 5 = .ok (.pop, 1) := by decide +kernel
theorem d40_6 : decode jdk_67_method_15_code 6 = .ok (.aload_n 0, 1) := by decide +kernel
theorem d40_7 : decode jdk_67_method_15_code 7 = .ok (.areturn, 1) := by decide +kernel
set_option maxRecDepth 65536 in
set_option maxHeartbeats 40000000 in
theorem con_sai (G : Gx) (H : Hyp G) (b ar m0 : Nat) (kc : ClassId) (cs : List Int32) (h : Heap) (ho : Old G.Z G.n0 h) (B : SBd G.Z h b ar kc cs) (hm : m0 ≤ 65535) (hl : cs.length + 5 ≤ 16) (g : G.n0 ≤ b) (g2 : G.n0 ≤ ar) :
    Con G (⟨"java/lang/StringBuilder", "append", "(I)Ljava/lang/StringBuilder;"⟩ : MethodName) jdk_67_method_15_code 2 (some (.object "java/lang/StringBuilder")) [] ({ frames := 2, cells := 0, slots := 0, locals := 33 } : Room) #[(.ref b), (.int (Int32.ofNat m0))] h (vQ fun v h' => v = .ref b ∧ Keep h h' [b, ar] ∧ SBd G.Z h' b ar kc (cs ++ dig m0)) := by
  refine Con.intro H.el ho (plainFor_of_name pn11) (Ls := #[.val (.ref b), .val (.int (Int32.ofNat m0))]) (fun m => by first | (simp [entryFrame, mkF, argsToLocals, Value.category]; done) | rfl) ?_
  intro X vm T w
  have E := B.1
  refine w.aloadN (q := 1) d40_0 rfl rfl rfl ?_
  refine w.iloadN (q := 2) d40_1 rfl rfl ?_
  refine w.callSup (C := "java/lang/StringBuilder") (q := 5) d40_2 (H.tw 213 rfl) (same_of_named (H.tw 216 rfl) (H.tw 140 rfl) rfl (by decide)) (H.tw 214 rfl) (H.tw 127 rfl) (by decide) (H.tw 216 rfl) (Ins.self E) (a := b) (argsL := [(.int (Int32.ofNat m0))]) (rest := []) rfl (lenOf pd41 rfl) rfl (W := 0) (Nat.le_of_eq rfl) ((con_aai G H b ar m0 kc cs h ho B hm hl g g2).pay w (H.tw 216 rfl) (H.tw 72 rfl) (by decide) (by decide)) (by decide) (by decide) rfl fun vm1 T1 h1 v1 w1 q1 => ?_
  obtain ⟨_, rfl, rfl, K1, B1⟩ := q1
  show Go _ _ _ _ (T1.setTop (mkF X.m 5 #[.val (.ref b), .val (.int (Int32.ofNat m0))] [(.ref b)]))
  refine w1.pop (q := 6) d40_5 rfl rfl ?_
  refine w1.aloadN (q := 7) d40_6 rfl rfl rfl ?_
  exact w1.retA d40_7 (t := (.object "java/lang/StringBuilder")) rfl rfl rfl (by decide) (by decide) ⟨_, rfl, rfl, K1, B1⟩
theorem d42_0 : decode jdk_65_method_131_code 0 = .ok (.iload_n 1, 1) := by decide +kernel
theorem d42_1 : decode jdk_65_method_131_code 1 = .ok (.iload_n 0, 1) := by decide +kernel
theorem d42_2 : decode jdk_65_method_131_code 2 = .ok (.if_icmp .ge 35, 3) := by decide +kernel
theorem d42_37 : decode jdk_65_method_131_code 37 = .ok (.return_, 1) := by decide +kernel
theorem pn43 : plainName "java/util/Arrays" = true := by first | (simp [plainName, overriddenIn]; done) | decide +kernel
set_option maxRecDepth 65536 in
set_option maxHeartbeats 40000000 in
theorem con_chk (G : Gx) (H : Hyp G) (n0 : Nat) (h : Heap) (ho : Old G.Z G.n0 h) (hn : n0 < 16) :
    Con G (⟨"java/util/Arrays", "checkLength", "(II)V"⟩ : MethodName) jdk_65_method_131_code 2 none [] ({ frames := 0, cells := 0, slots := 0, locals := 0 } : Room) #[(.int (0 : Int32)), (.int (Int32.ofNat n0))] h (nQ fun h' => h = h') := by
  refine Con.intro H.el ho (plainFor_of_name pn43) (Ls := #[.val (.int (0 : Int32)), .val (.int (Int32.ofNat n0))]) (fun m => by first | (simp [entryFrame, mkF, argsToLocals, Value.category]; done) | rfl) ?_
  intro X vm T w
  refine w.iloadN (q := 1) d42_0 rfl rfl ?_
  refine w.iloadN (q := 2) d42_1 rfl rfl ?_
  refine w.icY (q := 37) d42_2 ((flt (nn0 (by omega))).2.1) (by decide) (by decide) ?_
  exact w.retV d42_37 rfl (by decide) (by decide) ⟨rfl, rfl⟩
theorem d44_0 : decode jdk_29_method_69_code 0 = .ok (.iload_n 0, 1) := by decide +kernel
theorem d44_1 : decode jdk_29_method_69_code 1 = .ok (.iload_n 1, 1) := by decide +kernel
theorem d44_2 : decode jdk_29_method_69_code 2 = .ok (.if_icmp .gt 7, 3) := by decide +kernel
theorem d44_9 : decode jdk_29_method_69_code 9 = .ok (.iload_n 1, 1) := by decide +kernel
theorem d44_10 : decode jdk_29_method_69_code 10 = .ok (.ireturn, 1) := by decide +kernel
set_option maxRecDepth 65536 in
set_option maxHeartbeats 40000000 in
theorem con_min (G : Gx) (H : Hyp G) (x y : Int32) (h : Heap) (ho : Old G.Z G.n0 h) (hn : y < x) :
    Con G (⟨"java/lang/Math", "min", "(II)I"⟩ : MethodName) jdk_29_method_69_code 2 (some .int) [] ({ frames := 0, cells := 0, slots := 0, locals := 0 } : Room) #[(.int x), (.int y)] h (vQ fun v h' => v = .int y ∧ h = h') := by
  refine Con.intro H.el ho (by decide +kernel) (Ls := #[.val (.int x), .val (.int y)]) (fun m => by first | (simp [entryFrame, mkF, argsToLocals, Value.category]; done) | rfl) ?_
  intro X vm T w
  refine w.iloadN (q := 1) d44_0 rfl rfl ?_
  refine w.iloadN (q := 2) d44_1 rfl rfl ?_
  refine w.icY (q := 9) d44_2 ((tlt hn).2.2.1) (by decide) (by decide) ?_
  refine w.iloadN (q := 10) d44_9 rfl rfl ?_
  exact w.retI d44_10 rfl (by decide) (by decide) ⟨_, rfl, ⟨rfl, rfl⟩⟩
theorem d45_0 : decode jdk_65_method_133_code 0 = .ok (.iload_n 1, 1) := by decide +kernel
theorem d45_1 : decode jdk_65_method_133_code 1 = .ok (.iload_n 2, 1) := by decide +kernel
theorem d45_2 : decode jdk_65_method_133_code 2 = .ok (.invokestatic 343, 3) := by decide +kernel
theorem pd46 : parseMethodDescriptor "(II)V" = some ⟨[.int, .int], none⟩ := by decide +kernel
theorem d45_5 : decode jdk_65_method_133_code 5 = .ok (.iload_n 2, 1) := by decide +kernel
theorem d45_6 : decode jdk_65_method_133_code 6 = .ok (.iload_n 1, 1) := by decide +kernel
theorem d45_7 : decode jdk_65_method_133_code 7 = .ok (.isub, 1) := by decide +kernel
theorem d45_8 : decode jdk_65_method_133_code 8 = .ok (.istore_n 3, 1) := by decide +kernel
theorem d45_9 : decode jdk_65_method_133_code 9 = .ok (.iload_n 3, 1) := by decide +kernel
theorem d45_10 : decode jdk_65_method_133_code 10 = .ok (.newarray .byte, 2) := by decide +kernel
theorem d45_12 : decode jdk_65_method_133_code 12 = .ok (.astore 4, 2) := by decide +kernel
theorem d45_14 : decode jdk_65_method_133_code 14 = .ok (.aload_n 0, 1) := by decide +kernel
theorem d45_15 : decode jdk_65_method_133_code 15 = .ok (.iload_n 1, 1) := by decide +kernel
theorem d45_16 : decode jdk_65_method_133_code 16 = .ok (.aload 4, 2) := by decide +kernel
theorem d45_18 : decode jdk_65_method_133_code 18 = .ok (.iconst 0, 1) := by decide +kernel
theorem d45_19 : decode jdk_65_method_133_code 19 = .ok (.aload_n 0, 1) := by decide +kernel
theorem d45_20 : decode jdk_65_method_133_code 20 = .ok (.arraylength, 1) := by decide +kernel
theorem d45_21 : decode jdk_65_method_133_code 21 = .ok (.iload_n 1, 1) := by decide +kernel
theorem d45_22 : decode jdk_65_method_133_code 22 = .ok (.isub, 1) := by decide +kernel
theorem d45_23 : decode jdk_65_method_133_code 23 = .ok (.iload_n 3, 1) := by decide +kernel
theorem d45_24 : decode jdk_65_method_133_code 24 = .ok (.invokestatic 304, 3) := by decide +kernel
theorem pd47 : parseMethodDescriptor "(II)I" = some ⟨[.int, .int], some .int⟩ := by decide +kernel
theorem d45_27 : decode jdk_65_method_133_code 27 = .ok (.invokestatic 150, 3) := by decide +kernel
theorem d45_30 : decode jdk_65_method_133_code 30 = .ok (.aload 4, 2) := by decide +kernel
theorem d45_32 : decode jdk_65_method_133_code 32 = .ok (.areturn, 1) := by decide +kernel
set_option maxRecDepth 65536 in
set_option maxHeartbeats 40000000 in
theorem con_crb (G : Gx) (H : Hyp G) (ar n0 : Nat) (kc : ClassId) (vs : List Value) (h : Heap) (ho : Old G.Z G.n0 h) (A : Arv G.Z h ar kc .byte (16 : Int32) vs (.int (0 : Int32))) (hn : 2 ≤ n0 ∧ n0 < 16) (hv : vs.length = 16) :
    Con G (⟨"java/util/Arrays", "copyOfRangeByte", "([BII)[B"⟩ : MethodName) jdk_65_method_133_code 5 (some (.array .byte)) [] ({ frames := 1, cells := 1, slots := 16, locals := 18 } : Room) #[(.ref ar), (.int (0 : Int32)), (.int (Int32.ofNat n0))] h (vQ fun v h' => ∃ (t : Nat) (kt : ClassId), v = .ref t ∧ Ext h h' ∧ h.size ≤ t ∧ Arv G.Z h' t kt .byte (Int32.ofNat n0) (vs.take n0) (.int (0 : Int32))) := by
  refine Con.intro H.el ho (plainFor_of_name pn43) (Ls := #[.val (.ref ar), .val (.int (0 : Int32)), .val (.int (Int32.ofNat n0)), .unset, .unset]) (fun m => by first | (simp [entryFrame, mkF, argsToLocals, Value.category]; done) | rfl) ?_
  intro X vm T w
  refine w.iloadN (q := 1) d45_0 rfl rfl ?_
  refine w.iloadN (q := 2) d45_1 rfl rfl ?_
  refine w.callS (q := 5) d45_2 (H.tw 200 rfl) (H.tw 201 rfl) (H.tw 195 rfl) (H.tw 202 rfl) (by decide) (argsL := [(.int (0 : Int32)), (.int (Int32.ofNat n0))]) (rest := []) rfl (lenOf pd46 rfl) rfl (W := 0) (Nat.le_of_eq rfl) ((con_chk G H n0 h ho hn.2).pay w (H.tw 202 rfl) (H.tw 195 rfl) (by decide) (by decide)) (by decide) (by decide) rfl fun vm1 T1 h1 v1 w1 q1 => ?_
  obtain ⟨rfl, rfl⟩ := q1
  show Go _ _ _ _ (T1.setTop (mkF X.m 5 #[.val (.ref ar), .val (.int (0 : Int32)), .val (.int (Int32.ofNat n0)), .unset, .unset] []))
  refine w1.iloadN (q := 6) d45_5 rfl rfl ?_
  refine w1.iloadN (q := 7) d45_6 rfl rfl ?_
  refine w1.isub (q := 8) d45_7 rfl ?_
  rw [show ((Int32.ofNat n0) - (0 : Int32)) = (Int32.ofNat n0) from sub0 _]
  refine w1.istoreN (q := 9) (L2 := #[.val (.ref ar), .val (.int (0 : Int32)), .val (.int (Int32.ofNat n0)), .val (.int (Int32.ofNat n0)), .unset]) d45_8 rfl rfl ?_
  refine w1.iloadN (q := 10) d45_9 rfl rfl ?_
  have en : (Int32.ofNat n0).toNatClampNeg = n0 := cln (by omega)
  have e16 : (16 : Int32).toNatClampNeg = 16 := by decide
  have e0 : (0 : Int32).toNatClampNeg = 0 := by decide
  refine w1.newP (q := 12) 16 d45_10 (H.tw 23 rfl) (nn0 (by omega)) (by rw [en]; omega) (by decide) (by decide) (by decide) rfl fun T2 h2 b2 kc2 e2 w2 E2 A2 => ?_
  replace A2 : Arv G.Z h2 b2 kc2 .byte (Int32.ofNat n0) (List.replicate (n0) (.int (0 : Int32))) (.int (0 : Int32)) := A2.pad (pad_rep [] (.int (0 : Int32)) (n0))
  have lt2 : b2 < h2.size := A2.lt
  have sz2 : h.size ≤ h2.size := E2.1
  replace A := A.ext E2
  have g2 : G.n0 ≤ b2 := by have := ho.2.1; have := ho.1; omega
  refine w2.astore (q := 14) (L2 := #[.val (.ref ar), .val (.int (0 : Int32)), .val (.int (Int32.ofNat n0)), .val (.int (Int32.ofNat n0)), .val (.ref b2)]) d45_12 rfl rfl rfl ?_
  refine w2.aloadN (q := 15) d45_14 rfl rfl rfl ?_
  refine w2.iloadN (q := 16) d45_15 rfl rfl ?_
  refine w2.aload (q := 18) d45_16 rfl rfl rfl ?_
  refine w2.iconst (q := 19) (0 : Int32) d45_18 rfl rfl ?_
  refine w2.aloadN (q := 20) d45_19 rfl rfl rfl ?_
  refine w2.alen (q := 21) d45_20 A rfl ?_
  refine w2.iloadN (q := 22) d45_21 rfl rfl ?_
  refine w2.isub (q := 23) d45_22 rfl ?_
  refine w2.iloadN (q := 24) d45_23 rfl rfl ?_
  refine w2.callS (q := 27) d45_24 (H.tw 203 rfl) (H.tw 204 rfl) (H.tw 205 rfl) (H.tw 206 rfl) (by decide) (argsL := [(.int ((16 : Int32) - (0 : Int32))), (.int (Int32.ofNat n0))]) (rest := [(.int (0 : Int32)), (.ref b2), (.int (0 : Int32)), (.ref ar)]) rfl (lenOf pd47 rfl) rfl (W := 4) (Nat.le_of_eq rfl) ((con_min G H _ (Int32.ofNat n0) h2 w2.old (by rw [sub0]; exact oflt (m := 16) hn.2 (by decide))).pay w2 (H.tw 206 rfl) (H.tw 205 rfl) (by decide) (by decide)) (by decide) (by decide) rfl fun vm3 T3 h3 v3 w3 q3 => ?_
  obtain ⟨_, rfl, rfl, rfl⟩ := q3
  show Go _ _ _ _ (T3.setTop (mkF X.m 27 #[.val (.ref ar), .val (.int (0 : Int32)), .val (.int (Int32.ofNat n0)), .val (.int (Int32.ofNat n0)), .val (.ref b2)] [(.int (Int32.ofNat n0)), (.int (0 : Int32)), (.ref b2), (.int (0 : Int32)), (.ref ar)]))
  refine w3.acopy (q := 30) (W := 0) (us := (vs.take n0)) d45_27 (H.tw 207 rfl) (H.tw 161 rfl) (H.tw 159 rfl) (H.tw 160 rfl) A A2 rfl (by decide) (by decide) (nn0 (by omega)) (by rw [e0, en, e16]; omega) (by rw [e0, en]; omega) (by rw [en, e0]; exact us_take vs _ n0 (by omega)) (by rw [e0, en, List.length_replicate]; omega) g2 (w3.sfL A2 (fun p hp tx ht => by rw [H.len1 p hp tx ht, en]; omega)) rfl (by decide) (Nat.le_of_eq rfl) (by decide) rfl fun T4 h4 w4 K4 A4 => ?_
  have sz4 : h2.size ≤ h4.size := K4.1
  rw [e0, en] at A4
  have X1 : Ext h h4 := xkp E2 K4 (all1 (by omega))
  refine w4.aload (q := 32) d45_30 rfl rfl rfl ?_
  exact w4.retA d45_32 (t := (.array .byte)) rfl rfl rfl (by decide) (by decide) ⟨_, rfl, b2, kc2, rfl, X1, by omega, (by simpa using A4)⟩
theorem d48_0 : decode jdk_65_method_132_code 0 = .ok (.iload_n 1, 1) := by decide +kernel
theorem d48_1 : decode jdk_65_method_132_code 1 = .ok (.ifCond .ne 9, 3) := by decide +kernel
theorem d48_4 : decode jdk_65_method_132_code 4 = .ok (.iload_n 2, 1) := by decide +kernel
theorem d48_5 : decode jdk_65_method_132_code 5 = .ok (.aload_n 0, 1) := by decide +kernel
theorem d48_6 : decode jdk_65_method_132_code 6 = .ok (.arraylength, 1) := by decide +kernel
theorem d48_7 : decode jdk_65_method_132_code 7 = .ok (.if_icmp .eq 10, 3) := by decide +kernel
theorem d48_10 : decode jdk_65_method_132_code 10 = .ok (.aload_n 0, 1) := by decide +kernel
theorem d48_11 : decode jdk_65_method_132_code 11 = .ok (.iload_n 1, 1) := by decide +kernel
theorem d48_12 : decode jdk_65_method_132_code 12 = .ok (.iload_n 2, 1) := by decide +kernel
theorem d48_13 : decode jdk_65_method_132_code 13 = .ok (.invokestatic 339, 3) := by decide +kernel
theorem pd49 : parseMethodDescriptor "([BII)[B" = some ⟨[(.array .byte), .int, .int], some (.array .byte)⟩ := by decide +kernel
theorem d48_16 : decode jdk_65_method_132_code 16 = .ok (.areturn, 1) := by decide +kernel
set_option maxRecDepth 65536 in
set_option maxHeartbeats 40000000 in
theorem con_cr (G : Gx) (H : Hyp G) (ar n0 : Nat) (kc : ClassId) (vs : List Value) (h : Heap) (ho : Old G.Z G.n0 h) (A : Arv G.Z h ar kc .byte (16 : Int32) vs (.int (0 : Int32))) (hn : 2 ≤ n0 ∧ n0 < 16) (hv : vs.length = 16) :
    Con G (⟨"java/util/Arrays", "copyOfRange", "([BII)[B"⟩ : MethodName) jdk_65_method_132_code 3 (some (.array .byte)) [] ({ frames := 2, cells := 1, slots := 16, locals := 34 } : Room) #[(.ref ar), (.int (0 : Int32)), (.int (Int32.ofNat n0))] h (vQ fun v h' => ∃ (t : Nat) (kt : ClassId), v = .ref t ∧ Ext h h' ∧ h.size ≤ t ∧ Arv G.Z h' t kt .byte (Int32.ofNat n0) (vs.take n0) (.int (0 : Int32))) := by
  refine Con.intro H.el ho (plainFor_of_name pn43) (Ls := #[.val (.ref ar), .val (.int (0 : Int32)), .val (.int (Int32.ofNat n0))]) (fun m => by first | (simp [entryFrame, mkF, argsToLocals, Value.category]; done) | rfl) ?_
  intro X vm T w
  refine w.iloadN (q := 1) d48_0 rfl rfl ?_
  refine w.ifN (q := 4) d48_1 ((if0 _ _).trans (teq rfl).2) rfl ?_
  refine w.iloadN (q := 5) d48_4 rfl rfl ?_
  refine w.aloadN (q := 6) d48_5 rfl rfl rfl ?_
  refine w.alen (q := 7) d48_6 A rfl ?_
  refine w.icN (q := 10) d48_7 ((feq (ofne (m := 16) (by omega) (by omega) (by decide))).1) rfl ?_
  refine w.aloadN (q := 11) d48_10 rfl rfl rfl ?_
  refine w.iloadN (q := 12) d48_11 rfl rfl ?_
  refine w.iloadN (q := 13) d48_12 rfl rfl ?_
  refine w.callS (q := 16) d48_13 (H.tw 197 rfl) (H.tw 198 rfl) (H.tw 195 rfl) (H.tw 199 rfl) (by decide) (argsL := [(.ref ar), (.int (0 : Int32)), (.int (Int32.ofNat n0))]) (rest := []) rfl (lenOf pd49 rfl) rfl (W := 0) (Nat.le_of_eq rfl) ((con_crb G H ar n0 kc vs h w.old A hn hv).pay w (H.tw 199 rfl) (H.tw 195 rfl) (by decide) (by decide)) (by decide) (by decide) rfl fun vm1 T1 h1 v1 w1 q1 => ?_
  obtain ⟨_, rfl, ⟨t1, kt1, rfl, X1, z1, A1⟩⟩ := q1
  show Go _ _ _ _ (T1.setTop (mkF X.m 16 #[.val (.ref ar), .val (.int (0 : Int32)), .val (.int (Int32.ofNat n0))] [(.ref t1)]))
  exact w1.retA d48_16 (t := (.array .byte)) rfl rfl rfl (by decide) (by decide) ⟨_, rfl, t1, kt1, rfl, X1, z1, A1⟩
theorem d50_0 : decode jdk_68_method_64_code 0 = .ok (.aload_n 0, 1) := by decide +kernel
theorem d50_1 : decode jdk_68_method_64_code 1 = .ok (.getfield 15, 3) := by decide +kernel
theorem d50_4 : decode jdk_68_method_64_code 4 = .ok (.areturn, 1) := by decide +kernel
set_option maxRecDepth 65536 in
set_option maxHeartbeats 40000000 in
theorem con_gv (G : Gx) (H : Hyp G) (a : Nat) (v : Value) (hv : v.isRef = true) (h : Heap) (ho : Old G.Z G.n0 h) (F : Fld G.Z h a "java/lang/AbstractStringBuilder" "value" "[B" v) :
    Con G (⟨"java/lang/AbstractStringBuilder", "getValue", "()[B"⟩ : MethodName) jdk_68_method_64_code 1 (some (.array .byte)) [] ({ frames := 0, cells := 0, slots := 0, locals := 0 } : Room) #[(.ref a)] h (vQ fun v' h' => v' = v ∧ h = h') := by
  refine Con.intro H.el ho (plainFor_of_name pn6) (Ls := #[.val (.ref a)]) (fun m => by first | (simp [entryFrame, mkF, argsToLocals, Value.category]; done) | rfl) ?_
  intro X vm T w
  refine w.aloadN (q := 1) d50_0 rfl rfl rfl ?_
  refine w.getF (q := 4) d50_1 (H.tw 76 rfl) Via.refl F rfl fun T1 w1 => ?_
  exact w1.retA d50_4 (t := (.array .byte)) rfl rfl hv (by decide) (by decide) ⟨_, rfl, ⟨rfl, rfl⟩⟩
theorem d51_0 : decode jdk_68_method_6_code 0 = .ok (.aload_n 0, 1) := by decide +kernel
theorem d51_1 : decode jdk_68_method_6_code 1 = .ok (.getfield 79, 3) := by decide +kernel
theorem d51_4 : decode jdk_68_method_6_code 4 = .ok (.ireturn, 1) := by decide +kernel
set_option maxRecDepth 65536 in
set_option maxHeartbeats 40000000 in
theorem con_aln (G : Gx) (H : Hyp G) (a : Nat) (x : Int32) (h : Heap) (ho : Old G.Z G.n0 h) (F : Fld G.Z h a "java/lang/AbstractStringBuilder" "count" "I" (.int x)) :
    Con G (⟨"java/lang/AbstractStringBuilder", "length", "()I"⟩ : MethodName) jdk_68_method_6_code 1 (some .int) [] ({ frames := 0, cells := 0, slots := 0, locals := 0 } : Room) #[(.ref a)] h (vQ fun v' h' => v' = (.int x) ∧ h = h') := by
  refine Con.intro H.el ho (plainFor_of_name pn6) (Ls := #[.val (.ref a)]) (fun m => by first | (simp [entryFrame, mkF, argsToLocals, Value.category]; done) | rfl) ?_
  intro X vm T w
  refine w.aloadN (q := 1) d51_0 rfl rfl rfl ?_
  refine w.getF (q := 4) d51_1 (H.tw 135 rfl) Via.refl F rfl fun T1 w1 => ?_
  exact w1.retI d51_4 rfl (by decide) (by decide) ⟨_, rfl, ⟨rfl, rfl⟩⟩
theorem d52_0 : decode jdk_67_method_93_code 0 = .ok (.aload_n 0, 1) := by decide +kernel
theorem d52_1 : decode jdk_67_method_93_code 1 = .ok (.invokespecial 343, 3) := by decide +kernel
theorem d52_4 : decode jdk_67_method_93_code 4 = .ok (.ireturn, 1) := by decide +kernel
set_option maxRecDepth 65536 in
set_option maxHeartbeats 40000000 in
theorem con_sln (G : Gx) (H : Hyp G) (a : Nat) (x : Int32) (h : Heap) (ho : Old G.Z G.n0 h) (E : Exa G.Z h a "java/lang/StringBuilder") (F : Fld G.Z h a "java/lang/AbstractStringBuilder" "count" "I" (.int x)) :
    Con G (⟨"java/lang/StringBuilder", "length", "()I"⟩ : MethodName) jdk_67_method_93_code 1 (some .int) [] ({ frames := 1, cells := 0, slots := 0, locals := 12 } : Room) #[(.ref a)] h (vQ fun v h' => v = .int x ∧ h = h') := by
  refine Con.intro H.el ho (plainFor_of_name pn11) (Ls := #[.val (.ref a)]) (fun m => by first | (simp [entryFrame, mkF, argsToLocals, Value.category]; done) | rfl) ?_
  intro X vm T w
  refine w.aloadN (q := 1) d52_0 rfl rfl rfl ?_
  refine w.callSup (C := "java/lang/StringBuilder") (q := 4) d52_1 (H.tw 186 rfl) (same_of_named (H.tw 187 rfl) (H.tw 140 rfl) rfl (by decide)) (H.tw 182 rfl) (H.tw 127 rfl) (by decide) (H.tw 187 rfl) (Ins.self E) (a := a) (argsL := []) (rest := []) rfl (lenOf pd30 rfl) rfl (W := 0) (Nat.le_of_eq rfl) ((con_aln G H a x h ho F).pay w (H.tw 187 rfl) (H.tw 72 rfl) (by decide) (by decide)) (by decide) (by decide) rfl fun vm1 T1 h1 v1 w1 q1 => ?_
  obtain ⟨_, rfl, rfl, rfl⟩ := q1
  show Go _ _ _ _ (T1.setTop (mkF X.m 4 #[.val (.ref a)] [(.int x)]))
  exact w1.retI d52_4 rfl (by decide) (by decide) ⟨_, rfl, ⟨rfl, rfl⟩⟩
theorem d53_0 : decode jdk_42_method_150_code 0 = .ok (.aload_n 0, 1) := by decide +kernel
theorem d53_1 : decode jdk_42_method_150_code 1 = .ok (.invokespecial 1, 3) := by decide +kernel
theorem d53_4 : decode jdk_42_method_150_code 4 = .ok (.aload_n 1, 1) := by decide +kernel
theorem d53_5 : decode jdk_42_method_150_code 5 = .ok (.invokevirtual 552, 3) := by decide +kernel
theorem pd54 : parseMethodDescriptor "()[B" = some ⟨[], some (.array .byte)⟩ := by decide +kernel
theorem d53_8 : decode jdk_42_method_150_code 8 = .ok (.astore_n 3, 1) := by decide +kernel
theorem d53_9 : decode jdk_42_method_150_code 9 = .ok (.aload_n 1, 1) := by decide +kernel
theorem d53_10 : decode jdk_42_method_150_code 10 = .ok (.invokevirtual 549, 3) := by decide +kernel
theorem d53_13 : decode jdk_42_method_150_code 13 = .ok (.istore 4, 2) := by decide +kernel
theorem d53_15 : decode jdk_42_method_150_code 15 = .ok (.aload_n 1, 1) := by decide +kernel
theorem d53_16 : decode jdk_42_method_150_code 16 = .ok (.invokevirtual 1047, 3) := by decide +kernel
theorem d53_19 : decode jdk_42_method_150_code 19 = .ok (.ifCond .eq 22, 3) := by decide +kernel
theorem d53_22 : decode jdk_42_method_150_code 22 = .ok (.aload_n 0, 1) := by decide +kernel
theorem d53_23 : decode jdk_42_method_150_code 23 = .ok (.iconst 0, 1) := by decide +kernel
theorem d53_24 : decode jdk_42_method_150_code 24 = .ok (.putfield 15, 3) := by decide +kernel
theorem d53_27 : decode jdk_42_method_150_code 27 = .ok (.aload_n 0, 1) := by decide +kernel
theorem d53_28 : decode jdk_42_method_150_code 28 = .ok (.aload_n 3, 1) := by decide +kernel
theorem d53_29 : decode jdk_42_method_150_code 29 = .ok (.iconst 0, 1) := by decide +kernel
theorem d53_30 : decode jdk_42_method_150_code 30 = .ok (.iload 4, 2) := by decide +kernel
theorem d53_32 : decode jdk_42_method_150_code 32 = .ok (.invokestatic 54, 3) := by decide +kernel
theorem d53_35 : decode jdk_42_method_150_code 35 = .ok (.putfield 9, 3) := by decide +kernel
theorem d53_38 : decode jdk_42_method_150_code 38 = .ok (.goto 59, 3) := by decide +kernel
theorem d53_97 : decode jdk_42_method_150_code 97 = .ok (.return_, 1) := by decide +kernel
set_option maxRecDepth 65536 in
set_option maxHeartbeats 40000000 in
theorem con_si2 (G : Gx) (H : Hyp G) (x b ar : Nat) (kc : ClassId) (cs : List Int32) (h : Heap) (ho : Old G.Z G.n0 h) (E : Exa G.Z h x "java/lang/String") (V : Fld G.Z h x "java/lang/String" "value" "[B" .null) (Cc : Fld G.Z h x "java/lang/String" "coder" "B" (.int (0 : Int32))) (g : G.n0 ≤ x) (B : SBd G.Z h b ar kc cs) (hlat : ∀ c ∈ cs, ¬ c < 0 ∧ ¬ (255 : Int32) < c) (hn : 2 ≤ cs.length ∧ cs.length < 16) :
    Con G (⟨"java/lang/String", "<init>", "(Ljava/lang/AbstractStringBuilder;Ljava/lang/Void;)V"⟩ : MethodName) jdk_42_method_150_code 5 none [] ({ frames := 3, cells := 1, slots := 16, locals := 49 } : Room) #[(.ref x), (.ref b), .null] h (nQ fun h' => Keep h h' [x] ∧ StrAt G.Z h' x 0 cs) := by
  refine Con.intro H.el ho (plainFor_of_name pn3) (Ls := #[.val (.ref x), .val (.ref b), .val .null, .unset, .unset]) (fun m => by first | (simp [entryFrame, mkF, argsToLocals, Value.category]; done) | rfl) ?_
  intro X vm T w
  have ltx : x < h.size := E.lt
  obtain ⟨Eb, Fv, Fc, Fn, tl, htl, A⟩ := B
  have nxa : x ≠ ar := Exa.neArv E A (H.tw 5 rfl)
  refine w.aloadN (q := 1) d53_0 rfl rfl rfl ?_
  refine w.initO (q := 4) (W := 0) d53_1 (H.tw 15 rfl) (H.tw 16 rfl) (H.tw 17 rfl) rfl (by decide) (Nat.le_of_eq rfl) (by decide) rfl fun T1 w1 => ?_
  refine w1.aloadN (q := 5) d53_4 rfl rfl rfl ?_
  refine w1.callV (q := 8) d53_5 (H.tw 175 rfl) (H.tw 176 rfl) (notFace_of_selects (C := "java/lang/StringBuilder") (args := G.a0) (H.tw 178 rfl)) (H.tw 178 rfl) (H.tw 177 rfl) (by decide) Eb (argsL := []) (rest := []) rfl (lenOf pd54 rfl) rfl (W := 0) (Nat.le_of_eq rfl) ((con_gv G H b (.ref ar) rfl h w1.old Fv).pay w1 (H.tw 179 rfl) (H.tw 72 rfl) (by decide) (by decide)) (by decide) (by decide) rfl fun vm2 T2 h2 v2 w2 q2 => ?_
  obtain ⟨_, rfl, rfl, rfl⟩ := q2
  show Go _ _ _ _ (T2.setTop (mkF X.m 8 #[.val (.ref x), .val (.ref b), .val .null, .unset, .unset] [(.ref ar)]))
  refine w2.astoreN (q := 9) (L2 := #[.val (.ref x), .val (.ref b), .val .null, .val (.ref ar), .unset]) d53_8 rfl rfl rfl ?_
  refine w2.aloadN (q := 10) d53_9 rfl rfl rfl ?_
  refine w2.callV (q := 13) d53_10 (H.tw 180 rfl) (H.tw 181 rfl) (notFace_of_cls (H.tw 140 rfl) rfl) (H.tw 183 rfl) (H.tw 184 rfl) (by decide) Eb (argsL := []) (rest := []) rfl (lenOf pd30 rfl) rfl (W := 0) (Nat.le_of_eq rfl) ((con_sln G H b _ h w2.old Eb Fn).pay w2 (H.tw 185 rfl) (H.tw 64 rfl) (by decide) (by decide)) (by decide) (by decide) rfl fun vm3 T3 h3 v3 w3 q3 => ?_
  obtain ⟨_, rfl, rfl, rfl⟩ := q3
  show Go _ _ _ _ (T3.setTop (mkF X.m 13 #[.val (.ref x), .val (.ref b), .val .null, .val (.ref ar), .unset] [(.int (Int32.ofNat cs.length))]))
  refine w3.istore (q := 15) (L2 := #[.val (.ref x), .val (.ref b), .val .null, .val (.ref ar), .val (.int (Int32.ofNat cs.length))]) d53_13 rfl rfl ?_
  refine w3.aloadN (q := 16) d53_15 rfl rfl rfl ?_
  refine w3.callV (q := 19) d53_16 (H.tw 188 rfl) (H.tw 189 rfl) (notFace_of_selects (C := "java/lang/StringBuilder") (args := G.a0) (H.tw 191 rfl)) (H.tw 191 rfl) (H.tw 190 rfl) (by decide) Eb (argsL := []) (rest := []) rfl (lenOf pd18 rfl) rfl (W := 0) (Nat.le_of_eq rfl) ((con_blat G H b h w3.old Fc).pay w3 (H.tw 192 rfl) (H.tw 72 rfl) (by decide) (by decide)) (by decide) (by decide) rfl fun vm4 T4 h4 v4 w4 q4 => ?_
  obtain ⟨_, rfl, rfl, rfl⟩ := q4
  show Go _ _ _ _ (T4.setTop (mkF X.m 19 #[.val (.ref x), .val (.ref b), .val .null, .val (.ref ar), .val (.int (Int32.ofNat cs.length))] [(.int (1 : Int32))]))
  refine w4.ifN (q := 22) d53_19 ((if0 _ _).trans (feq (by decide)).1) rfl ?_
  refine w4.aloadN (q := 23) d53_22 rfl rfl rfl ?_
  refine w4.iconst (q := 24) (0 : Int32) d53_23 rfl rfl ?_
  refine w4.putF (q := 27) d53_24 (H.tw 30 rfl) Via.refl Cc E (Or.inr ⟨(H.tw 31 rfl), rfl, rfl⟩) (H.tw 5 rfl) (ty := .byte) (by decide) rfl rfl g (w4.sfB E V) rfl fun T5 h5 w5 W5 sf5 => ?_
  have sz5 : h.size ≤ h5.size := (Keep.of_wr W5).1
  replace E := E.wr W5
  replace V := V.other W5 (Or.inr (slot_ne (Or.inr (H.tw 33 rfl)) (Or.inr (H.tw 31 rfl)) (by decide) (t := (.array .byte)) (t' := .byte) (by decide) (by decide)))
  replace Cc := Cc.same W5
  replace A := A.other W5 (Ne.symm nxa)
  refine w5.aloadN (q := 28) d53_27 rfl rfl rfl ?_
  refine w5.aloadN (q := 29) d53_28 rfl rfl rfl ?_
  refine w5.iconst (q := 30) (0 : Int32) d53_29 rfl rfl ?_
  refine w5.iload (q := 32) d53_30 rfl rfl ?_
  refine w5.callS (q := 35) d53_32 (H.tw 193 rfl) (H.tw 194 rfl) (H.tw 195 rfl) (H.tw 196 rfl) (by decide) (argsL := [(.ref ar), (.int (0 : Int32)), (.int (Int32.ofNat cs.length))]) (rest := [(.ref x)]) rfl (lenOf pd49 rfl) rfl (W := 1) (Nat.le_of_eq rfl) ((con_cr G H ar cs.length kc _ h5 w5.old A hn (by rw [List.length_append, List.length_map]; exact htl)).pay w5 (H.tw 196 rfl) (H.tw 195 rfl) (by decide) (by decide)) (by decide) (by decide) rfl fun vm6 T6 h6 v6 w6 q6 => ?_
  obtain ⟨_, rfl, ⟨t6, kt6, rfl, X6, z6, A6⟩⟩ := q6
  show Go _ _ _ _ (T6.setTop (mkF X.m 35 #[.val (.ref x), .val (.ref b), .val .null, .val (.ref ar), .val (.int (Int32.ofNat cs.length))] [(.ref t6), (.ref x)]))
  replace E := E.ext X6
  replace V := V.ext X6
  replace Cc := Cc.ext X6
  refine w6.putF (q := 38) d53_35 (H.tw 32 rfl) Via.refl V E (Or.inr ⟨(H.tw 33 rfl), rfl, rfl⟩) (H.tw 5 rfl) (ty := (.array .byte)) (by decide) rfl rfl g (w6.sfB E V) rfl fun T7 h7 w7 W7 sf7 => ?_
  have sz7 : h6.size ≤ h7.size := (Keep.of_wr W7).1
  replace E := E.wr W7
  replace Cc := Cc.other W7 (Or.inr (slot_ne (Or.inr (H.tw 31 rfl)) (Or.inr (H.tw 33 rfl)) (by decide) (t := .byte) (t' := (.array .byte)) (by decide) (by decide)))
  have V2 := V.same W7
  replace A6 := A6.other W7 (neN (by have := sz5; omega))
  have K1 : Keep h h7 [x] := ((Keep.of_wr W5).ext X6).wr W7 (Or.inl (List.mem_singleton.mpr rfl))
  refine w7.goto (q := 97) d53_38 (by decide) (by decide) ?_
  have et : ((cs.map (fun c => Value.int (StrChars.lo8 c))) ++ tl).take cs.length = cs.map (fun c => Value.int (StrChars.lo8 c)) := by rw [List.take_append_of_le_length (by rw [List.length_map]; exact Nat.le_refl _), List.take_of_length_le (by rw [List.length_map]; exact Nat.le_refl _)]
  rw [et] at A6
  exact w7.retV d53_97 rfl (by decide) (by decide) ⟨rfl, K1, StrAt.lit cs E Cc V2 A6 rfl rfl hlat (by omega)⟩
theorem d55_0 : decode jdk_42_method_53_code 0 = .ok (.aload_n 0, 1) := by decide +kernel
theorem d55_1 : decode jdk_42_method_53_code 1 = .ok (.aload_n 1, 1) := by decide +kernel
theorem d55_2 : decode jdk_42_method_53_code 2 = .ok (.aconst_null, 1) := by decide +kernel
theorem d55_3 : decode jdk_42_method_53_code 3 = .ok (.invokespecial 489, 3) := by decide +kernel
theorem pd56 : parseMethodDescriptor "(Ljava/lang/AbstractStringBuilder;Ljava/lang/Void;)V" = some ⟨[(.object "java/lang/AbstractStringBuilder"), (.object "java/lang/Void")], none⟩ := by decide +kernel
theorem d55_6 : decode jdk_42_method_53_code 6 = .ok (.return_, 1) := by decide +kernel
set_option maxRecDepth 65536 in
set_option maxHeartbeats 40000000 in
theorem con_si1 (G : Gx) (H : Hyp G) (x b ar : Nat) (kc : ClassId) (cs : List Int32) (h : Heap) (ho : Old G.Z G.n0 h) (E : Exa G.Z h x "java/lang/String") (V : Fld G.Z h x "java/lang/String" "value" "[B" .null) (Cc : Fld G.Z h x "java/lang/String" "coder" "B" (.int (0 : Int32))) (g : G.n0 ≤ x) (B : SBd G.Z h b ar kc cs) (hlat : ∀ c ∈ cs, ¬ c < 0 ∧ ¬ (255 : Int32) < c) (hn : 2 ≤ cs.length ∧ cs.length < 16) :
    Con G (⟨"java/lang/String", "<init>", "(Ljava/lang/StringBuilder;)V"⟩ : MethodName) jdk_42_method_53_code 2 none [] ({ frames := 4, cells := 1, slots := 16, locals := 65 } : Room) #[(.ref x), (.ref b)] h (nQ fun h' => Keep h h' [x] ∧ StrAt G.Z h' x 0 cs) := by
  refine Con.intro H.el ho (plainFor_of_name pn3) (Ls := #[.val (.ref x), .val (.ref b)]) (fun m => by first | (simp [entryFrame, mkF, argsToLocals, Value.category]; done) | rfl) ?_
  intro X vm T w
  refine w.aloadN (q := 1) d55_0 rfl rfl rfl ?_
  refine w.aloadN (q := 2) d55_1 rfl rfl rfl ?_
  refine w.aconst (q := 3) d55_2 rfl ?_
  refine w.callC (q := 6) d55_3 rfl (H.tw 172 rfl) (H.tw 173 rfl) (H.tw 174 rfl) (by decide) (a := x) (argsL := [(.ref b), .null]) (rest := []) rfl (lenOf pd56 rfl) rfl (W := 0) (Nat.le_of_eq rfl) ((con_si2 G H x b ar kc cs h ho E V Cc g B hlat hn).pay w (H.tw 174 rfl) (H.tw 6 rfl) (by decide) (by decide)) (by decide) (by decide) rfl fun vm1 T1 h1 v1 w1 q1 => ?_
  obtain ⟨rfl, K1, S1⟩ := q1
  show Go _ _ _ _ (T1.setTop (mkF X.m 6 #[.val (.ref x), .val (.ref b)] []))
  exact w1.retV d55_6 rfl (by decide) (by decide) ⟨rfl, K1, S1⟩
theorem d57_0 : decode jdk_67_method_42_code 0 = .ok (.new 18, 3) := by decide +kernel
theorem d57_3 : decode jdk_67_method_42_code 3 = .ok (.dup, 1) := by decide +kernel
theorem d57_4 : decode jdk_67_method_42_code 4 = .ok (.aload_n 0, 1) := by decide +kernel
theorem d57_5 : decode jdk_67_method_42_code 5 = .ok (.invokespecial 137, 3) := by decide +kernel
theorem pd58 : parseMethodDescriptor "(Ljava/lang/StringBuilder;)V" = some ⟨[(.object "java/lang/StringBuilder")], none⟩ := by decide +kernel
theorem d57_8 : decode jdk_67_method_42_code 8 = .ok (.areturn, 1) := by decide +kernel
set_option maxRecDepth 65536 in
set_option maxHeartbeats 40000000 in
theorem con_bts (G : Gx) (H : Hyp G) (b ar : Nat) (kc : ClassId) (cs : List Int32) (h : Heap) (ho : Old G.Z G.n0 h) (B : SBd G.Z h b ar kc cs) (hlat : ∀ c ∈ cs, ¬ c < 0 ∧ ¬ (255 : Int32) < c) (hn : 2 ≤ cs.length ∧ cs.length < 16) :
    Con G (⟨"java/lang/StringBuilder", "toString", "()Ljava/lang/String;"⟩ : MethodName) jdk_67_method_42_code 1 (some (.object "java/lang/String")) [] ({ frames := 5, cells := 2, slots := 20, locals := 79 } : Room) #[(.ref b)] h (vQ fun v h' => ∃ r : Nat, v = .ref r ∧ Ext h h' ∧ h.size ≤ r ∧ StrAt G.Z h' r 0 cs) := by
  refine Con.intro H.el ho (plainFor_of_name pn11) (Ls := #[.val (.ref b)]) (fun m => by first | (simp [entryFrame, mkF, argsToLocals, Value.category]; done) | rfl) ?_
  intro X vm T w
  refine w.newO (q := 3) d57_0 (H.tw 168 rfl) (H.tw 5 rfl) (H.tw 6 rfl) (by decide) (by decide) rfl fun T1 h1 b1 e1 w1 E1 A1 D1 U1 => ?_
  have lt1 : b1 < h1.size := A1.lt
  have sz1 : h.size ≤ h1.size := E1.1
  have F1_value : Fld G.Z h1 b1 "java/lang/String" "value" "[B" .null := D1 (Or.inr (H.tw 33 rfl)) (ty := (.array .byte)) (by decide)
  have F1_coder : Fld G.Z h1 b1 "java/lang/String" "coder" "B" (.int (0 : Int32)) := D1 (Or.inr (H.tw 31 rfl)) (ty := .byte) (by decide)
  have g1 : G.n0 ≤ b1 := by have := ho.2.1; have := ho.1; omega
  refine w1.dup (q := 4) d57_3 rfl rfl ?_
  refine w1.aloadN (q := 5) d57_4 rfl rfl rfl ?_
  refine w1.callC (q := 8) d57_5 rfl (H.tw 169 rfl) (H.tw 170 rfl) (H.tw 171 rfl) (by decide) (a := b1) (argsL := [(.ref b)]) (rest := [(.ref b1)]) rfl (lenOf pd58 rfl) rfl (W := 1) (Nat.le_of_eq rfl) ((con_si1 G H b1 b ar kc cs h1 w1.old A1 F1_value F1_coder g1 (B.ext E1) hlat hn).pay w1 (H.tw 171 rfl) (H.tw 6 rfl) (by decide) (by decide)) (by decide) (by decide) rfl fun vm2 T2 h2 v2 w2 q2 => ?_
  obtain ⟨rfl, K2, S2⟩ := q2
  show Go _ _ _ _ (T2.setTop (mkF X.m 8 #[.val (.ref b)] [(.ref b1)]))
  have X2 : Ext h h2 := xkp E1 K2 (all1 (by omega))
  exact w2.retA d57_8 (t := (.object "java/lang/String")) rfl rfl rfl (by decide) (by decide) ⟨_, rfl, b1, rfl, X2, by omega, S2⟩
theorem d59_0 : decode prog_4_method_1_code 0 = .ok (.aload_n 0, 1) := by decide +kernel
theorem d59_1 : decode prog_4_method_1_code 1 = .ok (.invokespecial 1, 3) := by decide +kernel
theorem pd60 : parseMethodDescriptor "()V" = some ⟨[], none⟩ := by decide +kernel
theorem d59_4 : decode prog_4_method_1_code 4 = .ok (.aload_n 1, 1) := by decide +kernel
theorem d59_5 : decode prog_4_method_1_code 5 = .ok (.invokevirtual 7, 3) := by decide +kernel
theorem d59_8 : decode prog_4_method_1_code 8 = .ok (.ifCond .eq 13, 3) := by decide +kernel
theorem d59_21 : decode prog_4_method_1_code 21 = .ok (.iload_n 2, 1) := by decide +kernel
theorem d59_22 : decode prog_4_method_1_code 22 = .ok (.ifCond .lt 9, 3) := by decide +kernel
theorem d59_25 : decode prog_4_method_1_code 25 = .ok (.iload_n 2, 1) := by decide +kernel
theorem d59_26 : decode prog_4_method_1_code 26 = .ok (.ldc 20, 2) := by decide +kernel
theorem d59_28 : decode prog_4_method_1_code 28 = .ok (.if_icmp .le 35, 3) := by decide +kernel
theorem d59_63 : decode prog_4_method_1_code 63 = .ok (.aload_n 0, 1) := by decide +kernel
theorem d59_64 : decode prog_4_method_1_code 64 = .ok (.aload_n 1, 1) := by decide +kernel
theorem d59_65 : decode prog_4_method_1_code 65 = .ok (.putfield 39, 3) := by decide +kernel
theorem d59_68 : decode prog_4_method_1_code 68 = .ok (.aload_n 0, 1) := by decide +kernel
theorem d59_69 : decode prog_4_method_1_code 69 = .ok (.iload_n 2, 1) := by decide +kernel
theorem d59_70 : decode prog_4_method_1_code 70 = .ok (.putfield 45, 3) := by decide +kernel
theorem d59_73 : decode prog_4_method_1_code 73 = .ok (.return_, 1) := by decide +kernel
theorem pn61 : plainName "com/example/bytesluice/bytesluice/config/HostPort" = true := by first | (simp [plainName, overriddenIn]; done) | decide +kernel
set_option maxRecDepth 65536 in
set_option maxHeartbeats 40000000 in
theorem con_hp (G : Gx) (H : Hyp G) (a s m0 : Nat) (cs : List Int32) (h : Heap) (ho : Old G.Z G.n0 h) (E : Exa G.Z h a "com/example/bytesluice/bytesluice/config/HostPort") (Fh : Fld G.Z h a "com/example/bytesluice/bytesluice/config/HostPort" "host" "Ljava/lang/String;" .null) (Fp : Fld G.Z h a "com/example/bytesluice/bytesluice/config/HostPort" "port" "I" (.int (0 : Int32))) (g : G.n0 ≤ a) (S : StrAt G.Z h s 0 cs) (hcs : ¬ cs.length = 0) (hm : m0 ≤ 65535) :
    Con G (⟨"com/example/bytesluice/bytesluice/config/HostPort", "<init>", "(Ljava/lang/String;I)V"⟩ : MethodName) prog_4_method_1_code 3 none [] ({ frames := 2, cells := 0, slots := 0, locals := 24 } : Room) #[(.ref a), (.ref s), (.int (Int32.ofNat m0))] h (nQ fun h' => Keep h h' [a] ∧ Exa G.Z h' a "com/example/bytesluice/bytesluice/config/HostPort" ∧ Fld G.Z h' a "com/example/bytesluice/bytesluice/config/HostPort" "host" "Ljava/lang/String;" (.ref s) ∧ Fld G.Z h' a "com/example/bytesluice/bytesluice/config/HostPort" "port" "I" (.int (Int32.ofNat m0))) := by
  refine Con.intro H.el ho (plainFor_of_name pn61) (Ls := #[.val (.ref a), .val (.ref s), .val (.int (Int32.ofNat m0))]) (fun m => by first | (simp [entryFrame, mkF, argsToLocals, Value.category]; done) | rfl) ?_
  intro X vm T w
  refine w.aloadN (q := 1) d59_0 rfl rfl rfl ?_
  refine w.callC (q := 4) d59_1 rfl (H.tw 41 rfl) (H.tw 42 rfl) (H.tw 45 rfl) (by decide) (a := a) (argsL := []) (rest := []) rfl (lenOf pd60 rfl) rfl (W := 0) (Nat.le_of_eq rfl) ((con_recinit G H a h ho).pay w (H.tw 45 rfl) (H.tw 44 rfl) (by decide) (by decide)) (by decide) (by decide) rfl fun vm1 T1 h1 v1 w1 q1 => ?_
  obtain ⟨rfl, rfl⟩ := q1
  show Go _ _ _ _ (T1.setTop (mkF X.m 4 #[.val (.ref a), .val (.ref s), .val (.int (Int32.ofNat m0))] []))
  refine w1.aloadN (q := 5) d59_4 rfl rfl rfl ?_
  refine w1.callV (q := 8) d59_5 (H.tw 47 rfl) (H.tw 48 rfl) (notFace_of_selects (C := "java/lang/String") (args := G.a0) (H.tw 50 rfl)) (H.tw 50 rfl) (H.tw 49 rfl) (by decide) S.exa (argsL := []) (rest := []) rfl (lenOf pd18 rfl) rfl (W := 0) (Nat.le_of_eq rfl) (pay_emp w1 H.we (H.tw 5 rfl) S (by decide) (by decide)) (by decide) (by decide) rfl fun vm2 T2 h2 v2 w2 q2 => ?_
  obtain ⟨_, rfl, rfl, rfl⟩ := q2
  show Go _ _ _ _ (T2.setTop (mkF X.m 8 #[.val (.ref a), .val (.ref s), .val (.int (Int32.ofNat m0))] [(.int (if cs.length = 0 then (1 : Int32) else 0))]))
  refine w2.ifY (q := 21) d59_8 ((if0 _ _).trans (teq (if_neg hcs)).1) (by decide) (by decide) ?_
  refine w2.iloadN (q := 22) d59_21 rfl rfl ?_
  refine w2.ifN (q := 25) d59_22 ((if0 _ _).trans (flt (nn0 (by omega))).1) rfl ?_
  refine w2.iloadN (q := 26) d59_25 rfl rfl ?_
  refine w2.ldcI (q := 28) d59_26 (H.tw 52 rfl) rfl ?_
  refine w2.icY (q := 63) d59_28 ((flt (ofnlt (m := 65535) hm (by decide))).2.2.2) (by decide) (by decide) ?_
  refine w2.aloadN (q := 64) d59_63 rfl rfl rfl ?_
  refine w2.aloadN (q := 65) d59_64 rfl rfl rfl ?_
  refine w2.putF (q := 68) d59_65 (H.tw 53 rfl) Via.refl Fh E (Or.inr ⟨(H.tw 54 rfl), rfl, rfl⟩) (H.tw 36 rfl) (ty := (.object "java/lang/String")) (by decide) rfl rfl g (w2.sfE E (by decide) (by decide)) rfl fun T3 h3 w3 W3 sf3 => ?_
  have sz3 : h.size ≤ h3.size := (Keep.of_wr W3).1
  replace E := E.wr W3
  replace Fp := Fp.other W3 (Or.inr (slot_ne (Or.inr (H.tw 56 rfl)) (Or.inr (H.tw 54 rfl)) (by decide) (t := .int) (t' := (.object "java/lang/String")) (by decide) (by decide)))
  have Fh2 := Fh.same W3
  refine w3.aloadN (q := 69) d59_68 rfl rfl rfl ?_
  refine w3.iloadN (q := 70) d59_69 rfl rfl ?_
  refine w3.putF (q := 73) d59_70 (H.tw 55 rfl) Via.refl Fp E (Or.inr ⟨(H.tw 56 rfl), rfl, rfl⟩) (H.tw 36 rfl) (ty := .int) (by decide) rfl rfl g (w3.sfE E (by decide) (by decide)) rfl fun T4 h4 w4 W4 sf4 => ?_
  have sz4 : h3.size ≤ h4.size := (Keep.of_wr W4).1
  replace E := E.wr W4
  replace Fh2 := Fh2.other W4 (Or.inr (slot_ne (Or.inr (H.tw 54 rfl)) (Or.inr (H.tw 56 rfl)) (by decide) (t := (.object "java/lang/String")) (t' := .int) (by decide) (by decide)))
  have Fp2 := Fp.same W4
  exact w4.retV d59_73 rfl (by decide) (by decide) ⟨rfl, (Keep.of_wr W3).trans (Keep.of_wr W4) (fun x hx => Or.inl hx), E, Fh2, Fp2⟩
theorem d62_0 : decode prog_4_method_5_code 0 = .ok (.new 21, 3) := by decide +kernel
theorem d62_3 : decode prog_4_method_5_code 3 = .ok (.dup, 1) := by decide +kernel
theorem d62_4 : decode prog_4_method_5_code 4 = .ok (.invokespecial 23, 3) := by decide +kernel
theorem d62_7 : decode prog_4_method_5_code 7 = .ok (.aload_n 0, 1) := by decide +kernel
theorem d62_8 : decode prog_4_method_5_code 8 = .ok (.getfield 39, 3) := by decide +kernel
theorem d62_11 : decode prog_4_method_5_code 11 = .ok (.ldc 76, 2) := by decide +kernel
theorem d62_13 : decode prog_4_method_5_code 13 = .ok (.invokevirtual 78, 3) := by decide +kernel
theorem pd63 : parseMethodDescriptor "(Ljava/lang/CharSequence;)Z" = some ⟨[(.object "java/lang/CharSequence")], some .boolean⟩ := by decide +kernel
theorem d62_16 : decode prog_4_method_5_code 16 = .ok (.ifCond .eq 33, 3) := by decide +kernel
theorem d62_19 : decode prog_4_method_5_code 19 = .ok (.new 21, 3) := by decide +kernel
theorem d62_22 : decode prog_4_method_5_code 22 = .ok (.dup, 1) := by decide +kernel
theorem d62_23 : decode prog_4_method_5_code 23 = .ok (.invokespecial 23, 3) := by decide +kernel
theorem d62_26 : decode prog_4_method_5_code 26 = .ok (.ldc 65, 2) := by decide +kernel
theorem d62_28 : decode prog_4_method_5_code 28 = .ok (.invokevirtual 26, 3) := by decide +kernel
theorem pd64 : parseMethodDescriptor "(Ljava/lang/String;)Ljava/lang/StringBuilder;" = some ⟨[(.object "java/lang/String")], some (.object "java/lang/StringBuilder")⟩ := by decide +kernel
theorem d62_31 : decode prog_4_method_5_code 31 = .ok (.aload_n 0, 1) := by decide +kernel
theorem d62_32 : decode prog_4_method_5_code 32 = .ok (.getfield 39, 3) := by decide +kernel
theorem d62_35 : decode prog_4_method_5_code 35 = .ok (.invokevirtual 26, 3) := by decide +kernel
theorem d62_38 : decode prog_4_method_5_code 38 = .ok (.ldc 71, 2) := by decide +kernel
theorem d62_40 : decode prog_4_method_5_code 40 = .ok (.invokevirtual 26, 3) := by decide +kernel
theorem d62_43 : decode prog_4_method_5_code 43 = .ok (.invokevirtual 35, 3) := by decide +kernel
theorem d62_46 : decode prog_4_method_5_code 46 = .ok (.goto 7, 3) := by decide +kernel
theorem d62_53 : decode prog_4_method_5_code 53 = .ok (.invokevirtual 26, 3) := by decide +kernel
theorem d62_56 : decode prog_4_method_5_code 56 = .ok (.ldc 76, 2) := by decide +kernel
theorem d62_58 : decode prog_4_method_5_code 58 = .ok (.invokevirtual 26, 3) := by decide +kernel
theorem d62_61 : decode prog_4_method_5_code 61 = .ok (.aload_n 0, 1) := by decide +kernel
theorem d62_62 : decode prog_4_method_5_code 62 = .ok (.getfield 45, 3) := by decide +kernel
theorem d62_65 : decode prog_4_method_5_code 65 = .ok (.invokevirtual 30, 3) := by decide +kernel
theorem pd65 : parseMethodDescriptor "(I)Ljava/lang/StringBuilder;" = some ⟨[.int], some (.object "java/lang/StringBuilder")⟩ := by decide +kernel
theorem d62_68 : decode prog_4_method_5_code 68 = .ok (.invokevirtual 35, 3) := by decide +kernel
theorem d62_71 : decode prog_4_method_5_code 71 = .ok (.areturn, 1) := by decide +kernel
theorem d62_49 : decode prog_4_method_5_code 49 = .ok (.aload_n 0, 1) := by decide +kernel
theorem d62_50 : decode prog_4_method_5_code 50 = .ok (.getfield 39, 3) := by decide +kernel
set_option maxRecDepth 65536 in
set_option maxHeartbeats 40000000 in
theorem con_hts (G : Gx) (H : Hyp G) (a s m0 : Nat) (cs : List Int32) (h : Heap) (ho : Old G.Z G.n0 h) (Fh : Fld G.Z h a "com/example/bytesluice/bytesluice/config/HostPort" "host" "Ljava/lang/String;" (.ref s)) (Fp : Fld G.Z h a "com/example/bytesluice/bytesluice/config/HostPort" "port" "I" (.int (Int32.ofNat m0))) (S : StrAt G.Z h s 0 cs) (hth : (∃ c0, cs = [c0]) ∨ (∃ c0 c1, cs = [c0, c1]) ∨ (∃ c0 c1 c2, cs = [c0, c1, c2])) (hm : m0 ≤ 65535) :
    Con G (⟨"com/example/bytesluice/bytesluice/config/HostPort", "toString", "()Ljava/lang/String;"⟩ : MethodName) prog_4_method_5_code 1 (some (.object "java/lang/String")) [] ({ frames := 6, cells := 16, slots := 112, locals := 92 } : Room) #[(.ref a)] h (vQ fun v h' => ∃ r : Nat, v = .ref r ∧ Ext h h' ∧ StrAt G.Z h' r 0 (hp cs m0)) := by
  refine Con.intro H.el ho (plainFor_of_name pn61) (Ls := #[.val (.ref a)]) (fun m => by first | (simp [entryFrame, mkF, argsToLocals, Value.category]; done) | rfl) ?_
  intro X vm T w
  obtain ⟨_, _, -, -, -, -, hlat⟩ := S.open0
  have lc : 1 ≤ cs.length ∧ cs.length ≤ 3 := by rcases hth with ⟨_, rfl⟩ | ⟨_, _, rfl⟩ | ⟨_, _, _, rfl⟩ <;> simp
  have dl := dig_len m0
  have no := ho.2.1
  have no2 := ho.1
  refine w.newO (q := 3) d62_0 (H.tw 62 rfl) (H.tw 63 rfl) (H.tw 64 rfl) (by decide) (by decide) rfl fun T1 h1 b1 e1 w1 E1 A1 D1 U1 => ?_
  have lt1 : b1 < h1.size := A1.lt
  have sz1 : h.size ≤ h1.size := E1.1
  have F1_value : Fld G.Z h1 b1 "java/lang/AbstractStringBuilder" "value" "[B" .null := D1 (Or.inl (H.tw 77 rfl)) (ty := (.array .byte)) (by decide)
  have F1_coder : Fld G.Z h1 b1 "java/lang/AbstractStringBuilder" "coder" "B" (.int (0 : Int32)) := D1 (Or.inl (H.tw 79 rfl)) (ty := .byte) (by decide)
  have F1_count : Fld G.Z h1 b1 "java/lang/AbstractStringBuilder" "count" "I" (.int (0 : Int32)) := D1 (Or.inl (H.tw 136 rfl)) (ty := .int) (by decide)
  have gb1 : G.n0 ≤ b1 := by omega
  refine w1.dup (q := 4) d62_3 rfl rfl ?_
  refine w1.callC (q := 7) d62_4 rfl (H.tw 65 rfl) (H.tw 66 rfl) (H.tw 67 rfl) (by decide) (a := b1) (argsL := []) (rest := [(.ref b1)]) rfl (lenOf pd60 rfl) rfl (W := 1) (Nat.le_of_eq rfl) ((con_sb G H b1 h1 w1.old A1 F1_value F1_coder F1_count gb1).pay w1 (H.tw 67 rfl) (H.tw 64 rfl) (by decide) (by decide)) (by decide) (by decide) rfl fun vm2 T2 h2 v2 w2 q2 => ?_
  obtain ⟨rfl, K2, ar1, kc1, za1, B1⟩ := q2
  show Go _ _ _ _ (T2.setTop (mkF X.m 7 #[.val (.ref a)] [(.ref b1)]))
  have sz2 : h1.size ≤ h2.size := K2.1
  have ga1 : G.n0 ≤ ar1 := by omega
  have lb1 := B1.lt
  have la1 := B1.lt2
  have xs2 : Ext h h2 := xkp E1 K2 (all1 (by omega))
  have xx2 : Ext h h2 := xs2
  refine w2.aloadN (q := 8) d62_7 rfl rfl rfl ?_
  refine w2.getF (q := 11) d62_8 (H.tw 53 rfl) Via.refl (Fh.ext xx2) rfl fun T3 w3 => ?_
  refine w3.ldcS (q := 13) (sz := 4) (vs := [(.int (58 : Int32))]) (z := 1) d62_11 H.wd (H.tw 80 rfl) H.sa (H.mem (by decide)) ⟨by decide, rfl⟩ (by decide) rfl (by decide) (by decide) (by decide) (by decide) rfl fun vm4 T4 h4 a4 bb4 kb4 w4 X4 ch4 A1_4 A2_4 A3_4 A4_4 => ?_
  have sz4 : h2.size ≤ h4.size := X4.1
  have S4 : StrAt G.Z h4 a4 0 [58] := StrAt.lit _ A1_4 A2_4 A3_4 A4_4 rfl rfl (by decide) (by decide)
  replace B1 := B1.ext X4
  have xx4 : Ext h h4 := xtr xx2 X4
  refine w4.callV (q := 16) d62_13 (H.tw 83 rfl) (H.tw 84 rfl) (notFace_of_selects (C := "java/lang/String") (args := G.a0) (H.tw 86 rfl)) (H.tw 86 rfl) (H.tw 85 rfl) (by decide) (S.ext xx4).exa (argsL := [(.ref a4)]) (rest := [(.ref b1)]) rfl (lenOf pd63 rfl) rfl (W := 1) (Nat.le_of_eq rfl) ((con_has G H s a4 cs h4 w4.old (S.ext xx4) S4 hth).pay w4 (H.tw 87 rfl) (H.tw 6 rfl) (by decide) (by decide)) (by decide) (by decide) rfl fun vm5 T5 h5 v5 w5 q5 => ?_
  obtain ⟨_, rfl, rfl, rfl⟩ := q5
  show Go _ _ _ _ (T5.setTop (mkF X.m 16 #[.val (.ref a)] [(.int (if (58 : Int32) ∈ cs then (1 : Int32) else 0)), (.ref b1)]))
  by_cases h58 : (58 : Int32) ∈ cs
  ·
    refine w5.ifN (q := 19) d62_16 ((if0 _ _).trans (feq (by rw [if_pos h58]; decide)).1) rfl ?_
    have latb : ∀ c ∈ ((([] ++ [91]) ++ cs) ++ [93] : List Int32), ¬ c < 0 ∧ ¬ (255 : Int32) < c := lat_app (lat_app (by decide) hlat) (by decide)
    refine w5.newO (q := 22) d62_19 (H.tw 62 rfl) (H.tw 63 rfl) (H.tw 64 rfl) (by decide) (by decide) rfl fun T6 h6 b6 e6 w6 E6 A6 D6 U6 => ?_
    have lt6 : b6 < h6.size := A6.lt
    have sz6 : h4.size ≤ h6.size := E6.1
    have F6_value : Fld G.Z h6 b6 "java/lang/AbstractStringBuilder" "value" "[B" .null := D6 (Or.inl (H.tw 77 rfl)) (ty := (.array .byte)) (by decide)
    have F6_coder : Fld G.Z h6 b6 "java/lang/AbstractStringBuilder" "coder" "B" (.int (0 : Int32)) := D6 (Or.inl (H.tw 79 rfl)) (ty := .byte) (by decide)
    have F6_count : Fld G.Z h6 b6 "java/lang/AbstractStringBuilder" "count" "I" (.int (0 : Int32)) := D6 (Or.inl (H.tw 136 rfl)) (ty := .int) (by decide)
    have gb2 : G.n0 ≤ b6 := by omega
    refine w6.dup (q := 23) d62_22 rfl rfl ?_
    refine w6.callC (q := 26) d62_23 rfl (H.tw 65 rfl) (H.tw 66 rfl) (H.tw 67 rfl) (by decide) (a := b6) (argsL := []) (rest := [(.ref b6), (.ref b1)]) rfl (lenOf pd60 rfl) rfl (W := 2) (Nat.le_of_eq rfl) ((con_sb G H b6 h6 w6.old A6 F6_value F6_coder F6_count gb2).pay w6 (H.tw 67 rfl) (H.tw 64 rfl) (by decide) (by decide)) (by decide) (by decide) rfl fun vm7 T7 h7 v7 w7 q7 => ?_
    obtain ⟨rfl, K7, ar2, kc2, za2, B2⟩ := q7
    show Go _ _ _ _ (T7.setTop (mkF X.m 26 #[.val (.ref a)] [(.ref b6), (.ref b1)]))
    have sz7 : h6.size ≤ h7.size := K7.1
    have ga2 : G.n0 ≤ ar2 := by omega
    have lb2 := B2.lt
    have la2 := B2.lt2
    have xs7 : Ext h4 h7 := xkp E6 K7 (all1 (by omega))
    replace B1 := B1.ext xs7
    have xx7 : Ext h h7 := xtr xx4 xs7
    refine w7.ldcS (q := 28) (sz := 4) (vs := [(.int (91 : Int32))]) (z := 1) d62_26 H.wd (H.tw 119 rfl) H.sa (H.mem (by decide)) ⟨by decide, rfl⟩ (by decide) rfl (by decide) (by decide) (by decide) (by decide) rfl fun vm8 T8 h8 a8 bb8 kb8 w8 X8 ch8 A1_8 A2_8 A3_8 A4_8 => ?_
    have sz8 : h7.size ≤ h8.size := X8.1
    have S8 : StrAt G.Z h8 a8 0 [91] := StrAt.lit _ A1_8 A2_8 A3_8 A4_8 rfl rfl (by decide) (by decide)
    replace B1 := B1.ext X8
    replace B2 := B2.ext X8
    have xx8 : Ext h h8 := xtr xx7 X8
    refine w8.callV (q := 31) d62_28 (H.tw 120 rfl) (H.tw 121 rfl) (notFace_of_selects (C := "java/lang/StringBuilder") (args := G.a0) (H.tw 123 rfl)) (H.tw 123 rfl) (H.tw 122 rfl) (by decide) B2.1 (argsL := [(.ref a8)]) (rest := [(.ref b1)]) rfl (lenOf pd64 rfl) rfl (W := 1) (Nat.le_of_eq rfl) ((con_sap G H b6 a8 ar2 kc2 ([]) ([91]) h8 w8.old B2 S8 (by decide) gb2 ga2).pay w8 (H.tw 124 rfl) (H.tw 64 rfl) (by decide) (by decide)) (by decide) (by decide) rfl fun vm9 T9 h9 v9 w9 q9 => ?_
    obtain ⟨_, rfl, rfl, K9, Bx9⟩ := q9
    show Go _ _ _ _ (T9.setTop (mkF X.m 31 #[.val (.ref a)] [(.ref b6), (.ref b1)]))
    have sz9 := K9.1
    clear B2
    have B2 := Bx9
    replace B1 := B1.keep K9 (nin2 (by omega)) (nin2 (by omega))
    have xx9 : Ext h h9 := xkp xx8 K9 (all2 (by omega) (by omega))
    refine w9.aloadN (q := 32) d62_31 rfl rfl rfl ?_
    refine w9.getF (q := 35) d62_32 (H.tw 53 rfl) Via.refl (Fh.ext xx9) rfl fun T10 w10 => ?_
    refine w10.callV (q := 38) d62_35 (H.tw 120 rfl) (H.tw 121 rfl) (notFace_of_selects (C := "java/lang/StringBuilder") (args := G.a0) (H.tw 123 rfl)) (H.tw 123 rfl) (H.tw 122 rfl) (by decide) B2.1 (argsL := [(.ref s)]) (rest := [(.ref b1)]) rfl (lenOf pd64 rfl) rfl (W := 1) (Nat.le_of_eq rfl) ((con_sap G H b6 s ar2 kc2 ([] ++ [91]) (cs) h9 w10.old B2 (S.ext xx9) (by simp only [List.length_append, List.length_cons, List.length_nil]; omega) gb2 ga2).pay w10 (H.tw 124 rfl) (H.tw 64 rfl) (by decide) (by decide)) (by decide) (by decide) rfl fun vm11 T11 h11 v11 w11 q11 => ?_
    obtain ⟨_, rfl, rfl, K11, Bx11⟩ := q11
    show Go _ _ _ _ (T11.setTop (mkF X.m 38 #[.val (.ref a)] [(.ref b6), (.ref b1)]))
    have sz11 := K11.1
    clear B2
    have B2 := Bx11
    replace B1 := B1.keep K11 (nin2 (by omega)) (nin2 (by omega))
    have xx11 : Ext h h11 := xkp xx9 K11 (all2 (by omega) (by omega))
    refine w11.ldcS (q := 40) (sz := 4) (vs := [(.int (93 : Int32))]) (z := 1) d62_38 H.wd (H.tw 162 rfl) H.sa (H.mem (by decide)) ⟨by decide, rfl⟩ (by decide) rfl (by decide) (by decide) (by decide) (by decide) rfl fun vm12 T12 h12 a12 bb12 kb12 w12 X12 ch12 A1_12 A2_12 A3_12 A4_12 => ?_
    have sz12 : h11.size ≤ h12.size := X12.1
    have S12 : StrAt G.Z h12 a12 0 [93] := StrAt.lit _ A1_12 A2_12 A3_12 A4_12 rfl rfl (by decide) (by decide)
    replace B1 := B1.ext X12
    replace B2 := B2.ext X12
    have xx12 : Ext h h12 := xtr xx11 X12
    refine w12.callV (q := 43) d62_40 (H.tw 120 rfl) (H.tw 121 rfl) (notFace_of_selects (C := "java/lang/StringBuilder") (args := G.a0) (H.tw 123 rfl)) (H.tw 123 rfl) (H.tw 122 rfl) (by decide) B2.1 (argsL := [(.ref a12)]) (rest := [(.ref b1)]) rfl (lenOf pd64 rfl) rfl (W := 1) (Nat.le_of_eq rfl) ((con_sap G H b6 a12 ar2 kc2 (([] ++ [91]) ++ cs) ([93]) h12 w12.old B2 S12 (by simp only [List.length_append, List.length_cons, List.length_nil]; omega) gb2 ga2).pay w12 (H.tw 124 rfl) (H.tw 64 rfl) (by decide) (by decide)) (by decide) (by decide) rfl fun vm13 T13 h13 v13 w13 q13 => ?_
    obtain ⟨_, rfl, rfl, K13, Bx13⟩ := q13
    show Go _ _ _ _ (T13.setTop (mkF X.m 43 #[.val (.ref a)] [(.ref b6), (.ref b1)]))
    have sz13 := K13.1
    clear B2
    have B2 := Bx13
    replace B1 := B1.keep K13 (nin2 (by omega)) (nin2 (by omega))
    have xx13 : Ext h h13 := xkp xx12 K13 (all2 (by omega) (by omega))
    refine w13.callV (q := 46) d62_43 (H.tw 163 rfl) (H.tw 164 rfl) (notFace_of_selects (C := "java/lang/StringBuilder") (args := G.a0) (H.tw 166 rfl)) (H.tw 166 rfl) (H.tw 165 rfl) (by decide) B2.1 (argsL := []) (rest := [(.ref b1)]) rfl (lenOf pd21 rfl) rfl (W := 1) (Nat.le_of_eq rfl) ((con_bts G H b6 ar2 kc2 _ h13 w13.old B2 latb (by simp only [List.length_append, List.length_cons, List.length_nil]; omega)).pay w13 (H.tw 167 rfl) (H.tw 64 rfl) (by decide) (by decide)) (by decide) (by decide) rfl fun vm14 T14 h14 v14 w14 q14 => ?_
    obtain ⟨_, rfl, ⟨r2, rfl, X14, z14, S14⟩⟩ := q14
    show Go _ _ _ _ (T14.setTop (mkF X.m 46 #[.val (.ref a)] [(.ref r2), (.ref b1)]))
    have sz14 := X14.1
    replace B1 := B1.ext X14
    have xx14 : Ext h h14 := xtr xx13 X14
    refine w14.goto (q := 53) d62_46 (by decide) (by decide) ?_
    refine w14.callV (q := 56) d62_53 (H.tw 120 rfl) (H.tw 121 rfl) (notFace_of_selects (C := "java/lang/StringBuilder") (args := G.a0) (H.tw 123 rfl)) (H.tw 123 rfl) (H.tw 122 rfl) (by decide) B1.1 (argsL := [(.ref r2)]) (rest := []) rfl (lenOf pd64 rfl) rfl (W := 0) (Nat.le_of_eq rfl) ((con_sap G H b1 r2 ar1 kc1 ([]) ((([] ++ [91]) ++ cs) ++ [93]) h14 w14.old B1 S14 (by simp only [List.length_append, List.length_cons, List.length_nil]; omega) gb1 ga1).pay w14 (H.tw 124 rfl) (H.tw 64 rfl) (by decide) (by decide)) (by decide) (by decide) rfl fun vm15 T15 h15 v15 w15 q15 => ?_
    obtain ⟨_, rfl, rfl, K15, Bx15⟩ := q15
    show Go _ _ _ _ (T15.setTop (mkF X.m 56 #[.val (.ref a)] [(.ref b1)]))
    have sz15 := K15.1
    clear B1
    have B1 := Bx15
    have xx15 : Ext h h15 := xkp xx14 K15 (all2 (by omega) (by omega))
    refine w15.ldcS (q := 58) (sz := 4) (vs := [(.int (58 : Int32))]) (z := 1) d62_56 H.wd (H.tw 80 rfl) H.sa (H.mem (by decide)) ⟨by decide, rfl⟩ (by decide) rfl (by decide) (by decide) (by decide) (by decide) rfl fun vm16 T16 h16 a16 bb16 kb16 w16 X16 ch16 A1_16 A2_16 A3_16 A4_16 => ?_
    have sz16 : h15.size ≤ h16.size := X16.1
    have S16 : StrAt G.Z h16 a16 0 [58] := StrAt.lit _ A1_16 A2_16 A3_16 A4_16 rfl rfl (by decide) (by decide)
    replace B1 := B1.ext X16
    have xx16 : Ext h h16 := xtr xx15 X16
    refine w16.callV (q := 61) d62_58 (H.tw 120 rfl) (H.tw 121 rfl) (notFace_of_selects (C := "java/lang/StringBuilder") (args := G.a0) (H.tw 123 rfl)) (H.tw 123 rfl) (H.tw 122 rfl) (by decide) B1.1 (argsL := [(.ref a16)]) (rest := []) rfl (lenOf pd64 rfl) rfl (W := 0) (Nat.le_of_eq rfl) ((con_sap G H b1 a16 ar1 kc1 ([] ++ ((([] ++ [91]) ++ cs) ++ [93])) ([58]) h16 w16.old B1 S16 (by simp only [List.length_append, List.length_cons, List.length_nil]; omega) gb1 ga1).pay w16 (H.tw 124 rfl) (H.tw 64 rfl) (by decide) (by decide)) (by decide) (by decide) rfl fun vm17 T17 h17 v17 w17 q17 => ?_
    obtain ⟨_, rfl, rfl, K17, Bx17⟩ := q17
    show Go _ _ _ _ (T17.setTop (mkF X.m 61 #[.val (.ref a)] [(.ref b1)]))
    have sz17 := K17.1
    clear B1
    have B1 := Bx17
    have xx17 : Ext h h17 := xkp xx16 K17 (all2 (by omega) (by omega))
    refine w17.aloadN (q := 62) d62_61 rfl rfl rfl ?_
    refine w17.getF (q := 65) d62_62 (H.tw 55 rfl) Via.refl (Fp.ext xx17) rfl fun T18 w18 => ?_
    refine w18.callV (q := 68) d62_65 (H.tw 208 rfl) (H.tw 209 rfl) (notFace_of_selects (C := "java/lang/StringBuilder") (args := G.a0) (H.tw 211 rfl)) (H.tw 211 rfl) (H.tw 210 rfl) (by decide) B1.1 (argsL := [(.int (Int32.ofNat m0))]) (rest := []) rfl (lenOf pd65 rfl) rfl (W := 0) (Nat.le_of_eq rfl) ((con_sai G H b1 ar1 m0 kc1 (([] ++ ((([] ++ [91]) ++ cs) ++ [93])) ++ [58]) h17 w18.old B1 hm (by simp only [List.length_append, List.length_cons, List.length_nil]; omega) gb1 ga1).pay w18 (H.tw 212 rfl) (H.tw 64 rfl) (by decide) (by decide)) (by decide) (by decide) rfl fun vm19 T19 h19 v19 w19 q19 => ?_
    obtain ⟨_, rfl, rfl, K19, Bx19⟩ := q19
    show Go _ _ _ _ (T19.setTop (mkF X.m 68 #[.val (.ref a)] [(.ref b1)]))
    have sz19 := K19.1
    have xx19 : Ext h h19 := xkp xx17 K19 (all2 (by omega) (by omega))
    refine w19.callV (q := 71) d62_68 (H.tw 163 rfl) (H.tw 164 rfl) (notFace_of_selects (C := "java/lang/StringBuilder") (args := G.a0) (H.tw 166 rfl)) (H.tw 166 rfl) (H.tw 165 rfl) (by decide) Bx19.1 (argsL := []) (rest := []) rfl (lenOf pd21 rfl) rfl (W := 0) (Nat.le_of_eq rfl) ((con_bts G H b1 ar1 kc1 _ h19 w19.old Bx19 (lat_app (lat_app latb (by decide)) (dig_lat m0)) (by simp only [List.length_append, List.length_cons, List.length_nil]; omega)).pay w19 (H.tw 167 rfl) (H.tw 64 rfl) (by decide) (by decide)) (by decide) (by decide) rfl fun vm20 T20 h20 v20 w20 q20 => ?_
    obtain ⟨_, rfl, ⟨r20, rfl, X20, z20, S20⟩⟩ := q20
    show Go _ _ _ _ (T20.setTop (mkF X.m 71 #[.val (.ref a)] [(.ref r20)]))
    exact w20.retA d62_71 (t := (.object "java/lang/String")) rfl rfl rfl (by decide) (by decide) ⟨_, rfl, _, rfl, xtr xx19 X20, (by unfold hp; rw [if_pos h58]; exact S20)⟩
  ·
    refine w5.ifY (q := 49) d62_16 ((if0 _ _).trans (teq (if_neg h58)).1) (by decide) (by decide) ?_
    refine w5.aloadN (q := 50) d62_49 rfl rfl rfl ?_
    refine w5.getF (q := 53) d62_50 (H.tw 53 rfl) Via.refl (Fh.ext xx4) rfl fun T21 w21 => ?_
    refine w21.callV (q := 56) d62_53 (H.tw 120 rfl) (H.tw 121 rfl) (notFace_of_selects (C := "java/lang/StringBuilder") (args := G.a0) (H.tw 123 rfl)) (H.tw 123 rfl) (H.tw 122 rfl) (by decide) B1.1 (argsL := [(.ref s)]) (rest := []) rfl (lenOf pd64 rfl) rfl (W := 0) (Nat.le_of_eq rfl) ((con_sap G H b1 s ar1 kc1 ([]) (cs) h4 w21.old B1 (S.ext xx4) (by simp only [List.length_nil]; omega) gb1 ga1).pay w21 (H.tw 124 rfl) (H.tw 64 rfl) (by decide) (by decide)) (by decide) (by decide) rfl fun vm22 T22 h22 v22 w22 q22 => ?_
    obtain ⟨_, rfl, rfl, K22, Bx22⟩ := q22
    show Go _ _ _ _ (T22.setTop (mkF X.m 56 #[.val (.ref a)] [(.ref b1)]))
    have sz22 := K22.1
    clear B1
    have B1 := Bx22
    have xx22 : Ext h h22 := xkp xx4 K22 (all2 (by omega) (by omega))
    refine w22.ldcS (q := 58) (sz := 4) (vs := [(.int (58 : Int32))]) (z := 1) d62_56 H.wd (H.tw 80 rfl) H.sa (H.mem (by decide)) ⟨by decide, rfl⟩ (by decide) rfl (by decide) (by decide) (by decide) (by decide) rfl fun vm23 T23 h23 a23 bb23 kb23 w23 X23 ch23 A1_23 A2_23 A3_23 A4_23 => ?_
    have sz23 : h22.size ≤ h23.size := X23.1
    have S23 : StrAt G.Z h23 a23 0 [58] := StrAt.lit _ A1_23 A2_23 A3_23 A4_23 rfl rfl (by decide) (by decide)
    replace B1 := B1.ext X23
    have xx23 : Ext h h23 := xtr xx22 X23
    refine w23.callV (q := 61) d62_58 (H.tw 120 rfl) (H.tw 121 rfl) (notFace_of_selects (C := "java/lang/StringBuilder") (args := G.a0) (H.tw 123 rfl)) (H.tw 123 rfl) (H.tw 122 rfl) (by decide) B1.1 (argsL := [(.ref a23)]) (rest := []) rfl (lenOf pd64 rfl) rfl (W := 0) (Nat.le_of_eq rfl) ((con_sap G H b1 a23 ar1 kc1 ([] ++ (cs)) ([58]) h23 w23.old B1 S23 (by simp only [List.length_append, List.length_cons, List.length_nil]; omega) gb1 ga1).pay w23 (H.tw 124 rfl) (H.tw 64 rfl) (by decide) (by decide)) (by decide) (by decide) rfl fun vm24 T24 h24 v24 w24 q24 => ?_
    obtain ⟨_, rfl, rfl, K24, Bx24⟩ := q24
    show Go _ _ _ _ (T24.setTop (mkF X.m 61 #[.val (.ref a)] [(.ref b1)]))
    have sz24 := K24.1
    clear B1
    have B1 := Bx24
    have xx24 : Ext h h24 := xkp xx23 K24 (all2 (by omega) (by omega))
    refine w24.aloadN (q := 62) d62_61 rfl rfl rfl ?_
    refine w24.getF (q := 65) d62_62 (H.tw 55 rfl) Via.refl (Fp.ext xx24) rfl fun T25 w25 => ?_
    refine w25.callV (q := 68) d62_65 (H.tw 208 rfl) (H.tw 209 rfl) (notFace_of_selects (C := "java/lang/StringBuilder") (args := G.a0) (H.tw 211 rfl)) (H.tw 211 rfl) (H.tw 210 rfl) (by decide) B1.1 (argsL := [(.int (Int32.ofNat m0))]) (rest := []) rfl (lenOf pd65 rfl) rfl (W := 0) (Nat.le_of_eq rfl) ((con_sai G H b1 ar1 m0 kc1 (([] ++ (cs)) ++ [58]) h24 w25.old B1 hm (by simp only [List.length_append, List.length_cons, List.length_nil]; omega) gb1 ga1).pay w25 (H.tw 212 rfl) (H.tw 64 rfl) (by decide) (by decide)) (by decide) (by decide) rfl fun vm26 T26 h26 v26 w26 q26 => ?_
    obtain ⟨_, rfl, rfl, K26, Bx26⟩ := q26
    show Go _ _ _ _ (T26.setTop (mkF X.m 68 #[.val (.ref a)] [(.ref b1)]))
    have sz26 := K26.1
    have xx26 : Ext h h26 := xkp xx24 K26 (all2 (by omega) (by omega))
    refine w26.callV (q := 71) d62_68 (H.tw 163 rfl) (H.tw 164 rfl) (notFace_of_selects (C := "java/lang/StringBuilder") (args := G.a0) (H.tw 166 rfl)) (H.tw 166 rfl) (H.tw 165 rfl) (by decide) Bx26.1 (argsL := []) (rest := []) rfl (lenOf pd21 rfl) rfl (W := 0) (Nat.le_of_eq rfl) ((con_bts G H b1 ar1 kc1 _ h26 w26.old Bx26 (lat_app (lat_app hlat (by decide)) (dig_lat m0)) (by simp only [List.length_append, List.length_cons, List.length_nil]; omega)).pay w26 (H.tw 167 rfl) (H.tw 64 rfl) (by decide) (by decide)) (by decide) (by decide) rfl fun vm27 T27 h27 v27 w27 q27 => ?_
    obtain ⟨_, rfl, ⟨r27, rfl, X27, z27, S27⟩⟩ := q27
    show Go _ _ _ _ (T27.setTop (mkF X.m 71 #[.val (.ref a)] [(.ref r27)]))
    exact w27.retA d62_71 (t := (.object "java/lang/String")) rfl rfl rfl (by decide) (by decide) ⟨_, rfl, _, rfl, xtr xx26 X27, (by unfold hp; rw [if_neg h58]; exact S27)⟩
theorem d66_0 : decode method_3_code 0 = .ok (.iload_n 3, 1) := by decide +kernel
theorem d66_1 : decode method_3_code 1 = .ok (.iload_n 1, 1) := by decide +kernel
theorem d66_2 : decode method_3_code 2 = .ok (.if_icmp .ge 14, 3) := by decide +kernel
theorem d66_5 : decode method_3_code 5 = .ok (.aload_n 2, 1) := by decide +kernel
theorem d66_6 : decode method_3_code 6 = .ok (.iload_n 3, 1) := by decide +kernel
theorem d66_7 : decode method_3_code 7 = .ok (.invokevirtual 7, 3) := by decide +kernel
theorem pd67 : parseMethodDescriptor "(I)C" = some ⟨[.int], some .char⟩ := by decide +kernel
theorem d66_10 : decode method_3_code 10 = .ok (.aload_n 0, 1) := by decide +kernel
theorem d66_11 : decode method_3_code 11 = .ok (.iload_n 3, 1) := by decide +kernel
theorem d66_12 : decode method_3_code 12 = .ok (.caload, 1) := by decide +kernel
theorem d66_13 : decode method_3_code 13 = .ok (.if_icmp .ne 7, 3) := by decide +kernel
theorem d66_16 : decode method_3_code 16 = .ok (.iconst 1, 1) := by decide +kernel
theorem d66_17 : decode method_3_code 17 = .ok (.goto 4, 3) := by decide +kernel
theorem d66_21 : decode method_3_code 21 = .ok (.ireturn, 1) := by decide +kernel
theorem pn68 : plainName "com/example/bytesluice/bytesluice/config/HostPortToStringPinLaw" = true := by first | (simp [plainName, overriddenIn]; done) | decide +kernel
set_option maxRecDepth 65536 in
set_option maxHeartbeats 40000000 in
theorem con_at (G : Gx) (H : Hyp G) (e r i0 : Nat) (ke : ClassId) (es : List Int32) (tl : List Value) (h : Heap) (ho : Old G.Z G.n0 h) (A : Arv G.Z h e ke .char (11 : Int32) (es.map Value.int ++ tl) (.int (0 : Int32))) (S : StrAt G.Z h r 0 es) (hi : i0 < 11) (hl : es.length + tl.length = 11) :
    Con G (⟨"com/example/bytesluice/bytesluice/config/HostPortToStringPinLaw", "at", "([CILjava/lang/String;I)Z"⟩ : MethodName) method_3_code 4 (some .boolean) [] ({ frames := 4, cells := 0, slots := 0, locals := 53 } : Room) #[(.ref e), (.int (Int32.ofNat es.length)), (.ref r), (.int (Int32.ofNat i0))] h (vQ fun v h' => v = .int (1 : Int32) ∧ h = h') := by
  refine Con.intro H.el ho (plainFor_of_name pn68) (Ls := #[.val (.ref e), .val (.int (Int32.ofNat es.length)), .val (.ref r), .val (.int (Int32.ofNat i0))]) (fun m => by first | (simp [entryFrame, mkF, argsToLocals, Value.category]; done) | rfl) ?_
  intro X vm T w
  refine w.iloadN (q := 1) d66_0 rfl rfl ?_
  refine w.iloadN (q := 2) d66_1 rfl rfl ?_
  by_cases ci : i0 < es.length
  ·
    refine w.icN (q := 5) d66_2 ((tlt (oflt ci (by omega))).2.1) rfl ?_
    refine w.aloadN (q := 6) d66_5 rfl rfl rfl ?_
    refine w.iloadN (q := 7) d66_6 rfl rfl ?_
    refine w.callV (q := 10) d66_7 (H.tw 230 rfl) (H.tw 231 rfl) (notFace_of_selects (C := "java/lang/String") (args := G.a0) (H.tw 233 rfl)) (H.tw 233 rfl) (H.tw 232 rfl) (by decide) S.exa (argsL := [(.int (Int32.ofNat i0))]) (rest := []) rfl (lenOf pd67 rfl) rfl (W := 0) (Nat.le_of_eq rfl) (pay_chr w H.wc (H.tw 5 rfl) H.cz H.mo.1 S i0 ci rfl (by decide) (by decide)) (by decide) (by decide) rfl fun vm1 T1 h1 v1 w1 q1 => ?_
    obtain ⟨_, rfl, rfl, rfl⟩ := q1
    show Go _ _ _ _ (T1.setTop (mkF X.m 10 #[.val (.ref e), .val (.int (Int32.ofNat es.length)), .val (.ref r), .val (.int (Int32.ofNat i0))] [(.int (es.getD i0 0))]))
    refine w1.aloadN (q := 11) d66_10 rfl rfl rfl ?_
    refine w1.iloadN (q := 12) d66_11 rfl rfl ?_
    refine w1.caload (q := 13) (x := es.getD i0 0) d66_12 A ⟨nn0 (by omega), oflt (m := 11) hi (by decide)⟩ (by rw [cln (by omega)]; exact getD_es ci) rfl ?_
    refine w1.icN (q := 16) d66_13 ((teq rfl).2) rfl ?_
    refine w1.iconst (q := 17) (1 : Int32) d66_16 rfl rfl ?_
    refine w1.goto (q := 21) d66_17 (by decide) (by decide) ?_
    exact w1.retZ d66_21 (t := .boolean) rfl (by decide) rfl (by decide) (by decide) ⟨_, rfl, ⟨rfl, rfl⟩⟩
  ·
    refine w.icY (q := 16) d66_2 ((flt (ofnlt (Nat.le_of_not_lt ci) (by omega))).2.1) (by decide) (by decide) ?_
    refine w.iconst (q := 17) (1 : Int32) d66_16 rfl rfl ?_
    refine w.goto (q := 21) d66_17 (by decide) (by decide) ?_
    exact w.retZ d66_21 (t := .boolean) rfl (by decide) rfl (by decide) (by decide) ⟨_, rfl, ⟨rfl, rfl⟩⟩
theorem d69_0 : decode method_2_code 0 = .ok (.iload_n 0, 1) := by decide +kernel
theorem d69_1 : decode method_2_code 1 = .ok (.bipush 8, 2) := by decide +kernel
theorem d69_3 : decode method_2_code 3 = .ok (.iushr, 1) := by decide +kernel
theorem d69_4 : decode method_2_code 4 = .ok (.iconst 3, 1) := by decide +kernel
theorem d69_5 : decode method_2_code 5 = .ok (.iand, 1) := by decide +kernel
theorem d69_6 : decode method_2_code 6 = .ok (.ifCond .ne 6, 3) := by decide +kernel
theorem d69_9 : decode method_2_code 9 = .ok (.bipush 58, 2) := by decide +kernel
theorem d69_11 : decode method_2_code 11 = .ok (.ireturn, 1) := by decide +kernel
theorem d69_12 : decode method_2_code 12 = .ok (.iload_n 0, 1) := by decide +kernel
theorem d69_13 : decode method_2_code 13 = .ok (.sipush 255, 3) := by decide +kernel
theorem d69_16 : decode method_2_code 16 = .ok (.iand, 1) := by decide +kernel
theorem d69_17 : decode method_2_code 17 = .ok (.i2c, 1) := by decide +kernel
theorem d69_18 : decode method_2_code 18 = .ok (.ireturn, 1) := by decide +kernel
set_option maxRecDepth 65536 in
set_option maxHeartbeats 40000000 in
theorem con_pick (G : Gx) (H : Hyp G) (x0 : Int32) (h : Heap) (ho : Old G.Z G.n0 h)  :
    Con G (⟨"com/example/bytesluice/bytesluice/config/HostPortToStringPinLaw", "pick", "(I)C"⟩ : MethodName) method_2_code 1 (some .char) [] ({ frames := 0, cells := 0, slots := 0, locals := 0 } : Room) #[(.int x0)] h (vQ fun v h' => (∃ c : Int32, v = .int c ∧ Lat c ∧ nar .char c = c) ∧ h = h') := by
  refine Con.intro H.el ho (plainFor_of_name pn68) (Ls := #[.val (.int x0)]) (fun m => by first | (simp [entryFrame, mkF, argsToLocals, Value.category]; done) | rfl) ?_
  intro X vm T w
  refine w.iloadN (q := 1) d69_0 rfl rfl ?_
  refine w.bipush (q := 3) (8 : Int32) d69_1 rfl rfl ?_
  refine w.iushr (q := 4) d69_3 rfl ?_
  refine w.iconst (q := 5) (3 : Int32) d69_4 rfl rfl ?_
  refine w.iand (q := 6) d69_5 rfl ?_
  by_cases cp : (((x0.toUInt32 >>> ((8 : Int32) &&& 31).toUInt32).toInt32) &&& (3 : Int32)) = (0 : Int32)
  ·
    refine w.ifN (q := 9) d69_6 ((if0 _ _).trans (teq cp).2) rfl ?_
    refine w.bipush (q := 11) (58 : Int32) d69_9 rfl rfl ?_
    exact w.retZ d69_11 (t := .char) rfl (by decide) rfl (by decide) (by decide) ⟨_, rfl, ⟨_, rfl, (by unfold Lat; decide), (by decide)⟩, rfl⟩
  ·
    refine w.ifY (q := 12) d69_6 ((if0 _ _).trans (feq cp).2) (by decide) (by decide) ?_
    refine w.iloadN (q := 13) d69_12 rfl rfl ?_
    refine w.sipush (q := 16) (255 : Int32) d69_13 rfl rfl ?_
    refine w.iand (q := 17) d69_16 rfl ?_
    refine w.i2c (q := 18) d69_17 rfl ?_
    exact w.retZ d69_18 (t := .char) rfl (by decide) (congrArg Value.int (nar255 x0)) (by decide) (by decide) ⟨_, rfl, ⟨_, rfl, lat255 x0, nar255 x0⟩, rfl⟩
theorem pd70 : parseMethodDescriptor "(Ljava/lang/String;I)V" = some ⟨[(.object "java/lang/String"), .int], none⟩ := by decide +kernel
theorem pd71 : parseMethodDescriptor "([CILjava/lang/String;I)Z" = some ⟨[(.array .char), .int, (.object "java/lang/String"), .int], some .boolean⟩ := by decide +kernel
theorem pd72 : parseMethodDescriptor "([C)V" = some ⟨[(.array .char)], none⟩ := by decide +kernel
set_option maxRecDepth 65536 in
set_option maxHeartbeats 40000000 in
theorem con_law (G : Gx) (H : Hyp G) (x0 x1 x2 x3 x4 : Int32) (h : Heap) (ho : Old G.Z G.n0 h)  :
    Con G x code maxLocals ret tables_1 room_1 #[(.int x0), (.int x1), (.int x2), (.int x3), (.int x4)] h (vQ fun v _ => v = .int 1) := by
  refine Con.intro H.el ho (plainFor_of_name pn68) (Ls := #[.val (.int x0), .val (.int x1), .val (.int x2), .val (.int x3), .val (.int x4), .unset, .unset, .unset, .unset, .unset, .unset, .unset, .unset, .unset, .unset]) (fun m => by first | (simp [entryFrame, mkF, argsToLocals, Value.category, maxLocals]; done) | rfl) ?_
  intro X vm T w
  refine w.iconst (q := 1) (1 : Int32) at_0 rfl rfl ?_
  refine w.iloadN (q := 2) at_1 rfl rfl ?_
  refine w.iconst (q := 3) (3 : Int32) at_2 rfl rfl ?_
  refine w.iand (q := 4) at_3 rfl ?_
  refine w.iconst (q := 5) (3 : Int32) at_4 rfl rfl ?_
  refine w.irem (q := 6) at_5 (by decide) rfl ?_
  refine w.iadd (q := 7) at_6 rfl ?_
  refine w.istore (q := 9) (L2 := #[.val (.int x0), .val (.int x1), .val (.int x2), .val (.int x3), .val (.int x4), .val (.int ((1 : Int32) + ((x3 &&& (3 : Int32)) % (3 : Int32)))), .unset, .unset, .unset, .unset, .unset, .unset, .unset, .unset, .unset]) at_7 rfl rfl ?_
  refine w.iloadN (q := 10) at_9 rfl rfl ?_
  obtain ⟨n5, e_n5, h5c⟩ := modn x3
  rw [← e_n5]
  refine w.callS (q := 13) at_10 (H.tw 0 rfl) (H.tw 1 rfl) (H.tw 2 rfl) (H.tw 3 rfl) (by decide) (argsL := [(.int x0)]) (rest := []) rfl (lenOf pd67 rfl) rfl (W := 0) (Nat.le_of_eq rfl) ((con_pick G H x0 h w.old).pay w (H.tw 3 rfl) (H.tw 2 rfl) (by decide) (by decide)) (by decide) (by decide) rfl fun vm1 T1 h1 v1 w1 q1 => ?_
  obtain ⟨_, rfl, ⟨c6, rfl, L6, N6⟩, rfl⟩ := q1
  show Go _ _ _ _ (T1.setTop (mkF X.m 13 #[.val (.int x0), .val (.int x1), .val (.int x2), .val (.int x3), .val (.int x4), .val (.int n5), .unset, .unset, .unset, .unset, .unset, .unset, .unset, .unset, .unset] [(.int c6)]))
  refine w1.istore (q := 15) (L2 := #[.val (.int x0), .val (.int x1), .val (.int x2), .val (.int x3), .val (.int x4), .val (.int n5), .val (.int c6), .unset, .unset, .unset, .unset, .unset, .unset, .unset, .unset]) at_13 rfl rfl ?_
  refine w1.iloadN (q := 16) at_15 rfl rfl ?_
  refine w1.callS (q := 19) at_16 (H.tw 0 rfl) (H.tw 1 rfl) (H.tw 2 rfl) (H.tw 3 rfl) (by decide) (argsL := [(.int x1)]) (rest := []) rfl (lenOf pd67 rfl) rfl (W := 0) (Nat.le_of_eq rfl) ((con_pick G H x1 h w1.old).pay w1 (H.tw 3 rfl) (H.tw 2 rfl) (by decide) (by decide)) (by decide) (by decide) rfl fun vm2 T2 h2 v2 w2 q2 => ?_
  obtain ⟨_, rfl, ⟨c7, rfl, L7, N7⟩, rfl⟩ := q2
  show Go _ _ _ _ (T2.setTop (mkF X.m 19 #[.val (.int x0), .val (.int x1), .val (.int x2), .val (.int x3), .val (.int x4), .val (.int n5), .val (.int c6), .unset, .unset, .unset, .unset, .unset, .unset, .unset, .unset] [(.int c7)]))
  refine w2.istore (q := 21) (L2 := #[.val (.int x0), .val (.int x1), .val (.int x2), .val (.int x3), .val (.int x4), .val (.int n5), .val (.int c6), .val (.int c7), .unset, .unset, .unset, .unset, .unset, .unset, .unset]) at_19 rfl rfl ?_
  refine w2.iloadN (q := 22) at_21 rfl rfl ?_
  refine w2.callS (q := 25) at_22 (H.tw 0 rfl) (H.tw 1 rfl) (H.tw 2 rfl) (H.tw 3 rfl) (by decide) (argsL := [(.int x2)]) (rest := []) rfl (lenOf pd67 rfl) rfl (W := 0) (Nat.le_of_eq rfl) ((con_pick G H x2 h w2.old).pay w2 (H.tw 3 rfl) (H.tw 2 rfl) (by decide) (by decide)) (by decide) (by decide) rfl fun vm3 T3 h3 v3 w3 q3 => ?_
  obtain ⟨_, rfl, ⟨c8, rfl, L8, N8⟩, rfl⟩ := q3
  show Go _ _ _ _ (T3.setTop (mkF X.m 25 #[.val (.int x0), .val (.int x1), .val (.int x2), .val (.int x3), .val (.int x4), .val (.int n5), .val (.int c6), .val (.int c7), .unset, .unset, .unset, .unset, .unset, .unset, .unset] [(.int c8)]))
  refine w3.istore (q := 27) (L2 := #[.val (.int x0), .val (.int x1), .val (.int x2), .val (.int x3), .val (.int x4), .val (.int n5), .val (.int c6), .val (.int c7), .val (.int c8), .unset, .unset, .unset, .unset, .unset, .unset]) at_25 rfl rfl ?_
  obtain ⟨m0, hm, em⟩ := mask16 x4
  have no := ho.2.1
  have no2 := ho.1
  have key378 : ∀ (q5 q11 : Int32) (sx e : Nat) (ke : ClassId) (cs es : List Int32) (tl : List Value) (vmk : Vm) (Tk : State) (hk : Heap), Wk G (x.cls, x.name, code, maxLocals, ret) room_1 X vmk Tk hk 4 21 → StrAt G.Z hk sx 0 cs → ((∃ c0, cs = [c0]) ∨ (∃ c0 c1, cs = [c0, c1]) ∨ (∃ c0 c1 c2, cs = [c0, c1, c2])) → Arv G.Z hk e ke .char (11 : Int32) (es.map Value.int ++ tl) (.int (0 : Int32)) → es.length + tl.length = 11 → es = hp cs m0 → Go G room_1 X (vQ fun v _ => v = .int 1) (Tk.setTop (mkF X.m 378 #[.val (.int x0), .val (.int x1), .val (.int x2), .val (.int x3), .val (.int x4), .val (.int q5), .val (.int c6), .val (.int c7), .val (.int c8), .val (.ref sx), .val (.int (Int32.ofNat m0)), .val (.int q11), .val (.ref e), .val (.int (Int32.ofNat es.length)), .unset] [])) := by
    intro q5 q11 sx e ke cs es tl vmk Tk hk wk S hth A hl hes
    have nk := wk.n0le
    have lc : ¬ cs.length = 0 := by rcases hth with ⟨_, rfl⟩ | ⟨_, _, rfl⟩ | ⟨_, _, _, rfl⟩ <;> simp
    refine wk.newO (q := 381) at_378 (H.tw 35 rfl) (H.tw 36 rfl) (H.tw 37 rfl) (by decide) (by decide) rfl fun T4 h4 b4 e4 w4 E4 A4 D4 U4 => ?_
    have lt4 : b4 < h4.size := A4.lt
    have sz4 : hk.size ≤ h4.size := E4.1
    have F4_host : Fld G.Z h4 b4 "com/example/bytesluice/bytesluice/config/HostPort" "host" "Ljava/lang/String;" .null := D4 (Or.inr (H.tw 54 rfl)) (ty := (.object "java/lang/String")) (by decide)
    have F4_port : Fld G.Z h4 b4 "com/example/bytesluice/bytesluice/config/HostPort" "port" "I" (.int (0 : Int32)) := D4 (Or.inr (H.tw 56 rfl)) (ty := .int) (by decide)
    have gh : G.n0 ≤ b4 := by omega
    refine w4.dup (q := 382) at_381 rfl rfl ?_
    refine w4.aload (q := 384) at_382 rfl rfl rfl ?_
    refine w4.iload (q := 386) at_384 rfl rfl ?_
    refine w4.callC (q := 389) at_386 rfl (H.tw 38 rfl) (H.tw 39 rfl) (H.tw 40 rfl) (by decide) (a := b4) (argsL := [(.ref sx), (.int (Int32.ofNat m0))]) (rest := [(.ref b4)]) rfl (lenOf pd70 rfl) rfl (W := 1) (Nat.le_of_eq rfl) ((con_hp G H b4 sx m0 cs h4 w4.old A4 F4_host F4_port gh (S.ext E4) lc hm).pay w4 (H.tw 40 rfl) (H.tw 37 rfl) (by decide) (by decide)) (by decide) (by decide) rfl fun vm5 T5 h5 v5 w5 q5 => ?_
    obtain ⟨rfl, K5, Eh, Fh, Fp⟩ := q5
    show Go _ _ _ _ (T5.setTop (mkF X.m 389 #[.val (.int x0), .val (.int x1), .val (.int x2), .val (.int x3), .val (.int x4), .val (.int q5), .val (.int c6), .val (.int c7), .val (.int c8), .val (.ref sx), .val (.int (Int32.ofNat m0)), .val (.int q11), .val (.ref e), .val (.int (Int32.ofNat es.length)), .unset] [(.ref b4)]))
    have X5 : Ext hk h5 := xkp E4 K5 (all1 (by omega))
    refine w5.callV (q := 392) at_389 (H.tw 57 rfl) (H.tw 58 rfl) (notFace_of_selects (C := "com/example/bytesluice/bytesluice/config/HostPort") (args := G.a0) (H.tw 60 rfl)) (H.tw 60 rfl) (H.tw 59 rfl) (by decide) Eh (argsL := []) (rest := []) rfl (lenOf pd21 rfl) rfl (W := 0) (Nat.le_of_eq rfl) ((con_hts G H b4 sx m0 cs h5 w5.old Fh Fp (S.ext X5) hth hm).pay w5 (H.tw 61 rfl) (H.tw 37 rfl) (by decide) (by decide)) (by decide) (by decide) rfl fun vm6 T6 h6 v6 w6 q6 => ?_
    obtain ⟨_, rfl, ⟨r6, rfl, X6, S6⟩⟩ := q6
    show Go _ _ _ _ (T6.setTop (mkF X.m 392 #[.val (.int x0), .val (.int x1), .val (.int x2), .val (.int x3), .val (.int x4), .val (.int q5), .val (.int c6), .val (.int c7), .val (.int c8), .val (.ref sx), .val (.int (Int32.ofNat m0)), .val (.int q11), .val (.ref e), .val (.int (Int32.ofNat es.length)), .unset] [(.ref r6)]))
    rw [← hes] at S6
    replace A := A.ext (xtr X5 X6)
    refine w6.astore (q := 394) (L2 := #[.val (.int x0), .val (.int x1), .val (.int x2), .val (.int x3), .val (.int x4), .val (.int q5), .val (.int c6), .val (.int c7), .val (.int c8), .val (.ref sx), .val (.int (Int32.ofNat m0)), .val (.int q11), .val (.ref e), .val (.int (Int32.ofNat es.length)), .val (.ref r6)]) at_392 rfl rfl rfl ?_
    refine w6.aload (q := 396) at_394 rfl rfl rfl ?_
    refine w6.callV (q := 399) at_396 (H.tw 226 rfl) (H.tw 131 rfl) (notFace_of_selects (C := "java/lang/String") (args := G.a0) (H.tw 133 rfl)) (H.tw 133 rfl) (H.tw 132 rfl) (by decide) S6.exa (argsL := []) (rest := []) rfl (lenOf pd30 rfl) rfl (W := 0) (Nat.le_of_eq rfl) (pay_len w6 H.wl (H.tw 5 rfl) H.cz S6 (by decide) (by decide)) (by decide) (by decide) rfl fun vm7 T7 h7 v7 w7 q7 => ?_
    obtain ⟨_, rfl, rfl, rfl⟩ := q7
    show Go _ _ _ _ (T7.setTop (mkF X.m 399 #[.val (.int x0), .val (.int x1), .val (.int x2), .val (.int x3), .val (.int x4), .val (.int q5), .val (.int c6), .val (.int c7), .val (.int c8), .val (.ref sx), .val (.int (Int32.ofNat m0)), .val (.int q11), .val (.ref e), .val (.int (Int32.ofNat es.length)), .val (.ref r6)] [(.int (Int32.ofNat es.length))]))
    refine w7.iload (q := 401) at_399 rfl rfl ?_
    refine w7.icY (q := 406) at_401 ((teq rfl).1) (by decide) (by decide) ?_
    refine w7.aload (q := 408) at_406 rfl rfl rfl ?_
    refine w7.iload (q := 410) at_408 rfl rfl ?_
    refine w7.aload (q := 412) at_410 rfl rfl rfl ?_
    refine w7.iconst (q := 413) (0 : Int32) at_412 rfl rfl ?_
    refine w7.callS (q := 416) at_413 (H.tw 227 rfl) (H.tw 228 rfl) (H.tw 2 rfl) (H.tw 229 rfl) (by decide) (argsL := [(.ref e), (.int (Int32.ofNat es.length)), (.ref r6), (.int (0 : Int32))]) (rest := []) rfl (lenOf pd71 rfl) rfl (W := 0) (Nat.le_of_eq rfl) ((con_at G H e r6 0 ke es tl h6 w7.old A S6 (by decide) hl).pay w7 (H.tw 229 rfl) (H.tw 2 rfl) (by decide) (by decide)) (by decide) (by decide) rfl fun vm8 T8 h8 v8 w8 q8 => ?_
    obtain ⟨_, rfl, rfl, rfl⟩ := q8
    show Go _ _ _ _ (T8.setTop (mkF X.m 416 #[.val (.int x0), .val (.int x1), .val (.int x2), .val (.int x3), .val (.int x4), .val (.int q5), .val (.int c6), .val (.int c7), .val (.int c8), .val (.ref sx), .val (.int (Int32.ofNat m0)), .val (.int q11), .val (.ref e), .val (.int (Int32.ofNat es.length)), .val (.ref r6)] [(.int (1 : Int32))]))
    refine w8.ifN (q := 419) at_416 ((if0 _ _).trans (feq (by decide)).1) rfl ?_
    refine w8.aload (q := 421) at_419 rfl rfl rfl ?_
    refine w8.iload (q := 423) at_421 rfl rfl ?_
    refine w8.aload (q := 425) at_423 rfl rfl rfl ?_
    refine w8.iconst (q := 426) (1 : Int32) at_425 rfl rfl ?_
    refine w8.callS (q := 429) at_426 (H.tw 227 rfl) (H.tw 228 rfl) (H.tw 2 rfl) (H.tw 229 rfl) (by decide) (argsL := [(.ref e), (.int (Int32.ofNat es.length)), (.ref r6), (.int (1 : Int32))]) (rest := []) rfl (lenOf pd71 rfl) rfl (W := 0) (Nat.le_of_eq rfl) ((con_at G H e r6 1 ke es tl h6 w8.old A S6 (by decide) hl).pay w8 (H.tw 229 rfl) (H.tw 2 rfl) (by decide) (by decide)) (by decide) (by decide) rfl fun vm9 T9 h9 v9 w9 q9 => ?_
    obtain ⟨_, rfl, rfl, rfl⟩ := q9
    show Go _ _ _ _ (T9.setTop (mkF X.m 429 #[.val (.int x0), .val (.int x1), .val (.int x2), .val (.int x3), .val (.int x4), .val (.int q5), .val (.int c6), .val (.int c7), .val (.int c8), .val (.ref sx), .val (.int (Int32.ofNat m0)), .val (.int q11), .val (.ref e), .val (.int (Int32.ofNat es.length)), .val (.ref r6)] [(.int (1 : Int32))]))
    refine w9.ifN (q := 432) at_429 ((if0 _ _).trans (feq (by decide)).1) rfl ?_
    refine w9.aload (q := 434) at_432 rfl rfl rfl ?_
    refine w9.iload (q := 436) at_434 rfl rfl ?_
    refine w9.aload (q := 438) at_436 rfl rfl rfl ?_
    refine w9.iconst (q := 439) (2 : Int32) at_438 rfl rfl ?_
    refine w9.callS (q := 442) at_439 (H.tw 227 rfl) (H.tw 228 rfl) (H.tw 2 rfl) (H.tw 229 rfl) (by decide) (argsL := [(.ref e), (.int (Int32.ofNat es.length)), (.ref r6), (.int (2 : Int32))]) (rest := []) rfl (lenOf pd71 rfl) rfl (W := 0) (Nat.le_of_eq rfl) ((con_at G H e r6 2 ke es tl h6 w9.old A S6 (by decide) hl).pay w9 (H.tw 229 rfl) (H.tw 2 rfl) (by decide) (by decide)) (by decide) (by decide) rfl fun vm10 T10 h10 v10 w10 q10 => ?_
    obtain ⟨_, rfl, rfl, rfl⟩ := q10
    show Go _ _ _ _ (T10.setTop (mkF X.m 442 #[.val (.int x0), .val (.int x1), .val (.int x2), .val (.int x3), .val (.int x4), .val (.int q5), .val (.int c6), .val (.int c7), .val (.int c8), .val (.ref sx), .val (.int (Int32.ofNat m0)), .val (.int q11), .val (.ref e), .val (.int (Int32.ofNat es.length)), .val (.ref r6)] [(.int (1 : Int32))]))
    refine w10.ifN (q := 445) at_442 ((if0 _ _).trans (feq (by decide)).1) rfl ?_
    refine w10.aload (q := 447) at_445 rfl rfl rfl ?_
    refine w10.iload (q := 449) at_447 rfl rfl ?_
    refine w10.aload (q := 451) at_449 rfl rfl rfl ?_
    refine w10.iconst (q := 452) (3 : Int32) at_451 rfl rfl ?_
    refine w10.callS (q := 455) at_452 (H.tw 227 rfl) (H.tw 228 rfl) (H.tw 2 rfl) (H.tw 229 rfl) (by decide) (argsL := [(.ref e), (.int (Int32.ofNat es.length)), (.ref r6), (.int (3 : Int32))]) (rest := []) rfl (lenOf pd71 rfl) rfl (W := 0) (Nat.le_of_eq rfl) ((con_at G H e r6 3 ke es tl h6 w10.old A S6 (by decide) hl).pay w10 (H.tw 229 rfl) (H.tw 2 rfl) (by decide) (by decide)) (by decide) (by decide) rfl fun vm11 T11 h11 v11 w11 q11 => ?_
    obtain ⟨_, rfl, rfl, rfl⟩ := q11
    show Go _ _ _ _ (T11.setTop (mkF X.m 455 #[.val (.int x0), .val (.int x1), .val (.int x2), .val (.int x3), .val (.int x4), .val (.int q5), .val (.int c6), .val (.int c7), .val (.int c8), .val (.ref sx), .val (.int (Int32.ofNat m0)), .val (.int q11), .val (.ref e), .val (.int (Int32.ofNat es.length)), .val (.ref r6)] [(.int (1 : Int32))]))
    refine w11.ifN (q := 458) at_455 ((if0 _ _).trans (feq (by decide)).1) rfl ?_
    refine w11.aload (q := 460) at_458 rfl rfl rfl ?_
    refine w11.iload (q := 462) at_460 rfl rfl ?_
    refine w11.aload (q := 464) at_462 rfl rfl rfl ?_
    refine w11.iconst (q := 465) (4 : Int32) at_464 rfl rfl ?_
    refine w11.callS (q := 468) at_465 (H.tw 227 rfl) (H.tw 228 rfl) (H.tw 2 rfl) (H.tw 229 rfl) (by decide) (argsL := [(.ref e), (.int (Int32.ofNat es.length)), (.ref r6), (.int (4 : Int32))]) (rest := []) rfl (lenOf pd71 rfl) rfl (W := 0) (Nat.le_of_eq rfl) ((con_at G H e r6 4 ke es tl h6 w11.old A S6 (by decide) hl).pay w11 (H.tw 229 rfl) (H.tw 2 rfl) (by decide) (by decide)) (by decide) (by decide) rfl fun vm12 T12 h12 v12 w12 q12 => ?_
    obtain ⟨_, rfl, rfl, rfl⟩ := q12
    show Go _ _ _ _ (T12.setTop (mkF X.m 468 #[.val (.int x0), .val (.int x1), .val (.int x2), .val (.int x3), .val (.int x4), .val (.int q5), .val (.int c6), .val (.int c7), .val (.int c8), .val (.ref sx), .val (.int (Int32.ofNat m0)), .val (.int q11), .val (.ref e), .val (.int (Int32.ofNat es.length)), .val (.ref r6)] [(.int (1 : Int32))]))
    refine w12.ifN (q := 471) at_468 ((if0 _ _).trans (feq (by decide)).1) rfl ?_
    refine w12.aload (q := 473) at_471 rfl rfl rfl ?_
    refine w12.iload (q := 475) at_473 rfl rfl ?_
    refine w12.aload (q := 477) at_475 rfl rfl rfl ?_
    refine w12.iconst (q := 478) (5 : Int32) at_477 rfl rfl ?_
    refine w12.callS (q := 481) at_478 (H.tw 227 rfl) (H.tw 228 rfl) (H.tw 2 rfl) (H.tw 229 rfl) (by decide) (argsL := [(.ref e), (.int (Int32.ofNat es.length)), (.ref r6), (.int (5 : Int32))]) (rest := []) rfl (lenOf pd71 rfl) rfl (W := 0) (Nat.le_of_eq rfl) ((con_at G H e r6 5 ke es tl h6 w12.old A S6 (by decide) hl).pay w12 (H.tw 229 rfl) (H.tw 2 rfl) (by decide) (by decide)) (by decide) (by decide) rfl fun vm13 T13 h13 v13 w13 q13 => ?_
    obtain ⟨_, rfl, rfl, rfl⟩ := q13
    show Go _ _ _ _ (T13.setTop (mkF X.m 481 #[.val (.int x0), .val (.int x1), .val (.int x2), .val (.int x3), .val (.int x4), .val (.int q5), .val (.int c6), .val (.int c7), .val (.int c8), .val (.ref sx), .val (.int (Int32.ofNat m0)), .val (.int q11), .val (.ref e), .val (.int (Int32.ofNat es.length)), .val (.ref r6)] [(.int (1 : Int32))]))
    refine w13.ifN (q := 484) at_481 ((if0 _ _).trans (feq (by decide)).1) rfl ?_
    refine w13.aload (q := 486) at_484 rfl rfl rfl ?_
    refine w13.iload (q := 488) at_486 rfl rfl ?_
    refine w13.aload (q := 490) at_488 rfl rfl rfl ?_
    refine w13.bipush (q := 492) (6 : Int32) at_490 rfl rfl ?_
    refine w13.callS (q := 495) at_492 (H.tw 227 rfl) (H.tw 228 rfl) (H.tw 2 rfl) (H.tw 229 rfl) (by decide) (argsL := [(.ref e), (.int (Int32.ofNat es.length)), (.ref r6), (.int (6 : Int32))]) (rest := []) rfl (lenOf pd71 rfl) rfl (W := 0) (Nat.le_of_eq rfl) ((con_at G H e r6 6 ke es tl h6 w13.old A S6 (by decide) hl).pay w13 (H.tw 229 rfl) (H.tw 2 rfl) (by decide) (by decide)) (by decide) (by decide) rfl fun vm14 T14 h14 v14 w14 q14 => ?_
    obtain ⟨_, rfl, rfl, rfl⟩ := q14
    show Go _ _ _ _ (T14.setTop (mkF X.m 495 #[.val (.int x0), .val (.int x1), .val (.int x2), .val (.int x3), .val (.int x4), .val (.int q5), .val (.int c6), .val (.int c7), .val (.int c8), .val (.ref sx), .val (.int (Int32.ofNat m0)), .val (.int q11), .val (.ref e), .val (.int (Int32.ofNat es.length)), .val (.ref r6)] [(.int (1 : Int32))]))
    refine w14.ifN (q := 498) at_495 ((if0 _ _).trans (feq (by decide)).1) rfl ?_
    refine w14.aload (q := 500) at_498 rfl rfl rfl ?_
    refine w14.iload (q := 502) at_500 rfl rfl ?_
    refine w14.aload (q := 504) at_502 rfl rfl rfl ?_
    refine w14.bipush (q := 506) (7 : Int32) at_504 rfl rfl ?_
    refine w14.callS (q := 509) at_506 (H.tw 227 rfl) (H.tw 228 rfl) (H.tw 2 rfl) (H.tw 229 rfl) (by decide) (argsL := [(.ref e), (.int (Int32.ofNat es.length)), (.ref r6), (.int (7 : Int32))]) (rest := []) rfl (lenOf pd71 rfl) rfl (W := 0) (Nat.le_of_eq rfl) ((con_at G H e r6 7 ke es tl h6 w14.old A S6 (by decide) hl).pay w14 (H.tw 229 rfl) (H.tw 2 rfl) (by decide) (by decide)) (by decide) (by decide) rfl fun vm15 T15 h15 v15 w15 q15 => ?_
    obtain ⟨_, rfl, rfl, rfl⟩ := q15
    show Go _ _ _ _ (T15.setTop (mkF X.m 509 #[.val (.int x0), .val (.int x1), .val (.int x2), .val (.int x3), .val (.int x4), .val (.int q5), .val (.int c6), .val (.int c7), .val (.int c8), .val (.ref sx), .val (.int (Int32.ofNat m0)), .val (.int q11), .val (.ref e), .val (.int (Int32.ofNat es.length)), .val (.ref r6)] [(.int (1 : Int32))]))
    refine w15.ifN (q := 512) at_509 ((if0 _ _).trans (feq (by decide)).1) rfl ?_
    refine w15.aload (q := 514) at_512 rfl rfl rfl ?_
    refine w15.iload (q := 516) at_514 rfl rfl ?_
    refine w15.aload (q := 518) at_516 rfl rfl rfl ?_
    refine w15.bipush (q := 520) (8 : Int32) at_518 rfl rfl ?_
    refine w15.callS (q := 523) at_520 (H.tw 227 rfl) (H.tw 228 rfl) (H.tw 2 rfl) (H.tw 229 rfl) (by decide) (argsL := [(.ref e), (.int (Int32.ofNat es.length)), (.ref r6), (.int (8 : Int32))]) (rest := []) rfl (lenOf pd71 rfl) rfl (W := 0) (Nat.le_of_eq rfl) ((con_at G H e r6 8 ke es tl h6 w15.old A S6 (by decide) hl).pay w15 (H.tw 229 rfl) (H.tw 2 rfl) (by decide) (by decide)) (by decide) (by decide) rfl fun vm16 T16 h16 v16 w16 q16 => ?_
    obtain ⟨_, rfl, rfl, rfl⟩ := q16
    show Go _ _ _ _ (T16.setTop (mkF X.m 523 #[.val (.int x0), .val (.int x1), .val (.int x2), .val (.int x3), .val (.int x4), .val (.int q5), .val (.int c6), .val (.int c7), .val (.int c8), .val (.ref sx), .val (.int (Int32.ofNat m0)), .val (.int q11), .val (.ref e), .val (.int (Int32.ofNat es.length)), .val (.ref r6)] [(.int (1 : Int32))]))
    refine w16.ifN (q := 526) at_523 ((if0 _ _).trans (feq (by decide)).1) rfl ?_
    refine w16.aload (q := 528) at_526 rfl rfl rfl ?_
    refine w16.iload (q := 530) at_528 rfl rfl ?_
    refine w16.aload (q := 532) at_530 rfl rfl rfl ?_
    refine w16.bipush (q := 534) (9 : Int32) at_532 rfl rfl ?_
    refine w16.callS (q := 537) at_534 (H.tw 227 rfl) (H.tw 228 rfl) (H.tw 2 rfl) (H.tw 229 rfl) (by decide) (argsL := [(.ref e), (.int (Int32.ofNat es.length)), (.ref r6), (.int (9 : Int32))]) (rest := []) rfl (lenOf pd71 rfl) rfl (W := 0) (Nat.le_of_eq rfl) ((con_at G H e r6 9 ke es tl h6 w16.old A S6 (by decide) hl).pay w16 (H.tw 229 rfl) (H.tw 2 rfl) (by decide) (by decide)) (by decide) (by decide) rfl fun vm17 T17 h17 v17 w17 q17 => ?_
    obtain ⟨_, rfl, rfl, rfl⟩ := q17
    show Go _ _ _ _ (T17.setTop (mkF X.m 537 #[.val (.int x0), .val (.int x1), .val (.int x2), .val (.int x3), .val (.int x4), .val (.int q5), .val (.int c6), .val (.int c7), .val (.int c8), .val (.ref sx), .val (.int (Int32.ofNat m0)), .val (.int q11), .val (.ref e), .val (.int (Int32.ofNat es.length)), .val (.ref r6)] [(.int (1 : Int32))]))
    refine w17.ifN (q := 540) at_537 ((if0 _ _).trans (feq (by decide)).1) rfl ?_
    refine w17.aload (q := 542) at_540 rfl rfl rfl ?_
    refine w17.iload (q := 544) at_542 rfl rfl ?_
    refine w17.aload (q := 546) at_544 rfl rfl rfl ?_
    refine w17.bipush (q := 548) (10 : Int32) at_546 rfl rfl ?_
    refine w17.callS (q := 551) at_548 (H.tw 227 rfl) (H.tw 228 rfl) (H.tw 2 rfl) (H.tw 229 rfl) (by decide) (argsL := [(.ref e), (.int (Int32.ofNat es.length)), (.ref r6), (.int (10 : Int32))]) (rest := []) rfl (lenOf pd71 rfl) rfl (W := 0) (Nat.le_of_eq rfl) ((con_at G H e r6 10 ke es tl h6 w17.old A S6 (by decide) hl).pay w17 (H.tw 229 rfl) (H.tw 2 rfl) (by decide) (by decide)) (by decide) (by decide) rfl fun vm18 T18 h18 v18 w18 q18 => ?_
    obtain ⟨_, rfl, rfl, rfl⟩ := q18
    show Go _ _ _ _ (T18.setTop (mkF X.m 551 #[.val (.int x0), .val (.int x1), .val (.int x2), .val (.int x3), .val (.int x4), .val (.int q5), .val (.int c6), .val (.int c7), .val (.int c8), .val (.ref sx), .val (.int (Int32.ofNat m0)), .val (.int q11), .val (.ref e), .val (.int (Int32.ofNat es.length)), .val (.ref r6)] [(.int (1 : Int32))]))
    refine w18.ifN (q := 554) at_551 ((if0 _ _).trans (feq (by decide)).1) rfl ?_
    refine w18.iconst (q := 555) (1 : Int32) at_554 rfl rfl ?_
    refine w18.goto (q := 559) at_555 (by decide) (by decide) ?_
    exact w18.retZ at_559 (t := .boolean) rfl (by decide) rfl (by decide) (by decide) ⟨_, rfl, rfl⟩
  have key249 : ∀ (q5 q11 : Int32) (sx e : Nat) (ke : ClassId) (cs es : List Int32) (tl : List Value) (vmk : Vm) (Tk : State) (hx hk : Heap), Wk G (x.cls, x.name, code, maxLocals, ret) room_1 X vmk Tk hk 4 21 → StrAt G.Z hx sx 0 cs → Ext hx hk → hx.size ≤ e → G.n0 ≤ e → ((∃ c0, cs = [c0]) ∨ (∃ c0 c1, cs = [c0, c1]) ∨ (∃ c0 c1 c2, cs = [c0, c1, c2])) → Arv G.Z hk e ke .char (11 : Int32) (es.map Value.int ++ tl) (.int (0 : Int32)) → es.length + tl.length = 11 → es.length ≤ 6 → es ++ dig m0 = hp cs m0 → Go G room_1 X (vQ fun v _ => v = .int 1) (Tk.setTop (mkF X.m 249 #[.val (.int x0), .val (.int x1), .val (.int x2), .val (.int x3), .val (.int x4), .val (.int q5), .val (.int c6), .val (.int c7), .val (.int c8), .val (.ref sx), .val (.int (Int32.ofNat m0)), .val (.int q11), .val (.ref e), .val (.int (Int32.ofNat (es.length + 0))), .unset] [])) := by
    intro q5 q11 sx e ke cs es tl vmk Tk hx hk wk S Xe ze ge hth A hl h6 hes
    refine wk.iload (q := 251) at_249 rfl rfl ?_
    refine wk.sipush (q := 254) (10000 : Int32) at_251 rfl rfl ?_
    by_cases d1 : m0 < 10
    ·
      have ed : dig m0 = [D (m0)] := by simp [dig, d1]
      rw [ed] at hes
      obtain ⟨u0, r, rfl⟩ := c1_ (l := tl) (by omega)
      simp only [List.length_cons] at hl
      refine wk.icY (q := 278) at_254 ((tlt (oflt (m := 10000) (by omega) (by decide))).1) (by decide) (by decide) ?_
      refine wk.iload (q := 280) at_278 rfl rfl ?_
      refine wk.sipush (q := 283) (1000 : Int32) at_280 rfl rfl ?_
      refine wk.icY (q := 307) at_283 ((tlt (oflt (m := 1000) (by omega) (by decide))).1) (by decide) (by decide) ?_
      refine wk.iload (q := 309) at_307 rfl rfl ?_
      refine wk.bipush (q := 311) (100 : Int32) at_309 rfl rfl ?_
      refine wk.icY (q := 334) at_311 ((tlt (oflt (m := 100) (by omega) (by decide))).1) (by decide) (by decide) ?_
      refine wk.iload (q := 336) at_334 rfl rfl ?_
      refine wk.bipush (q := 338) (10 : Int32) at_336 rfl rfl ?_
      refine wk.icY (q := 361) at_338 ((tlt (oflt (m := 10) (by omega) (by decide))).1) (by decide) (by decide) ?_
      refine wk.aload (q := 363) at_361 rfl rfl rfl ?_
      refine wk.iload (q := 365) at_363 rfl rfl ?_
      refine wk.bipush (q := 367) (48 : Int32) at_365 rfl rfl ?_
      refine wk.iload (q := 369) at_367 rfl rfl ?_
      refine wk.bipush (q := 371) (10 : Int32) at_369 rfl rfl ?_
      refine wk.irem (q := 372) at_371 (by decide) rfl ?_
      refine wk.iadd (q := 373) at_372 rfl ?_
      refine wk.i2c (q := 374) at_373 rfl ?_
      rw [show ((48 : Int32) + ((Int32.ofNat m0) % (10 : Int32))).toUInt32.toUInt16.toUInt32.toInt32 = (D (m0)) from (by rw [modof (by omega)]; exact dchr _)]
      refine wk.castore (q := 375) (es.length + 0) at_374 A ge ⟨nn0 (by omega), oflt (m := 11) (by omega) (by decide)⟩ (cln (by omega)) (by simp only [List.length_append, List.length_map, List.length_cons]; omega) rfl fun T19 h19 w19 K19 A19 => ?_
      replace A19 : Arv G.Z h19 e ke .char (11 : Int32) (es.map Value.int ++ .int (D (m0)) :: r) (.int (0 : Int32)) := by rw [set_es, nar_D] at A19; exact A19
      have xe19 := xkp Xe K19 (all1 ze)
      refine w19.iinc (q := 378) (L2 := #[.val (.int x0), .val (.int x1), .val (.int x2), .val (.int x3), .val (.int x4), .val (.int q5), .val (.int c6), .val (.int c7), .val (.int c8), .val (.ref sx), .val (.int (Int32.ofNat m0)), .val (.int q11), .val (.ref e), .val (.int ((Int32.ofNat (es.length + 0)) + (1 : Int32))), .unset]) (1 : Int32) at_375 rfl rfl rfl rfl ?_
      rw [show ((Int32.ofNat (es.length + 0)) + (1 : Int32)) = (Int32.ofNat (es.length + 1)) from ofsucc _]
      have fin := key378 q5 q11 sx e ke cs (es ++ [D (m0)]) r _ _ _ (w19.mono (by decide) (by decide)) (S.ext xe19) hth (by rw [List.map_append, List.append_assoc]; exact A19) (by simp only [List.length_append, List.length_cons, List.length_nil]; omega) hes
      rw [List.length_append] at fin
      exact fin
    ·
      by_cases d2 : m0 < 100
      ·
        have ed : dig m0 = [D (m0 / 10), D (m0)] := by simp [dig, d1, d2]
        rw [ed] at hes
        obtain ⟨u0, u1, r, rfl⟩ := c2_ (l := tl) (by omega)
        simp only [List.length_cons] at hl
        refine wk.icY (q := 278) at_254 ((tlt (oflt (m := 10000) (by omega) (by decide))).1) (by decide) (by decide) ?_
        refine wk.iload (q := 280) at_278 rfl rfl ?_
        refine wk.sipush (q := 283) (1000 : Int32) at_280 rfl rfl ?_
        refine wk.icY (q := 307) at_283 ((tlt (oflt (m := 1000) (by omega) (by decide))).1) (by decide) (by decide) ?_
        refine wk.iload (q := 309) at_307 rfl rfl ?_
        refine wk.bipush (q := 311) (100 : Int32) at_309 rfl rfl ?_
        refine wk.icY (q := 334) at_311 ((tlt (oflt (m := 100) (by omega) (by decide))).1) (by decide) (by decide) ?_
        refine wk.iload (q := 336) at_334 rfl rfl ?_
        refine wk.bipush (q := 338) (10 : Int32) at_336 rfl rfl ?_
        refine wk.icN (q := 341) at_338 ((flt (ofnlt (n := 10) (by omega) (by omega))).1) rfl ?_
        refine wk.aload (q := 343) at_341 rfl rfl rfl ?_
        refine wk.iload (q := 345) at_343 rfl rfl ?_
        refine wk.bipush (q := 347) (48 : Int32) at_345 rfl rfl ?_
        refine wk.iload (q := 349) at_347 rfl rfl ?_
        refine wk.bipush (q := 351) (10 : Int32) at_349 rfl rfl ?_
        refine wk.idiv (q := 352) at_351 (by decide) rfl ?_
        refine wk.bipush (q := 354) (10 : Int32) at_352 rfl rfl ?_
        refine wk.irem (q := 355) at_354 (by decide) rfl ?_
        refine wk.iadd (q := 356) at_355 rfl ?_
        refine wk.i2c (q := 357) at_356 rfl ?_
        rw [show ((48 : Int32) + (((Int32.ofNat m0) / (10 : Int32)) % (10 : Int32))).toUInt32.toUInt16.toUInt32.toInt32 = (D (m0 / 10)) from (dchr2 (K := 10) (by omega) (by decide) (by decide))]
        refine wk.castore (q := 358) (es.length + 0) at_357 A ge ⟨nn0 (by omega), oflt (m := 11) (by omega) (by decide)⟩ (cln (by omega)) (by simp only [List.length_append, List.length_map, List.length_cons]; omega) rfl fun T20 h20 w20 K20 A20 => ?_
        replace A20 : Arv G.Z h20 e ke .char (11 : Int32) (es.map Value.int ++ .int (D (m0 / 10)) :: u1 :: r) (.int (0 : Int32)) := by rw [set_es, nar_D] at A20; exact A20
        have xe20 := xkp Xe K20 (all1 ze)
        refine w20.iinc (q := 361) (L2 := #[.val (.int x0), .val (.int x1), .val (.int x2), .val (.int x3), .val (.int x4), .val (.int q5), .val (.int c6), .val (.int c7), .val (.int c8), .val (.ref sx), .val (.int (Int32.ofNat m0)), .val (.int q11), .val (.ref e), .val (.int ((Int32.ofNat (es.length + 0)) + (1 : Int32))), .unset]) (1 : Int32) at_358 rfl rfl rfl rfl ?_
        rw [show ((Int32.ofNat (es.length + 0)) + (1 : Int32)) = (Int32.ofNat (es.length + 1)) from ofsucc _]
        refine w20.aload (q := 363) at_361 rfl rfl rfl ?_
        refine w20.iload (q := 365) at_363 rfl rfl ?_
        refine w20.bipush (q := 367) (48 : Int32) at_365 rfl rfl ?_
        refine w20.iload (q := 369) at_367 rfl rfl ?_
        refine w20.bipush (q := 371) (10 : Int32) at_369 rfl rfl ?_
        refine w20.irem (q := 372) at_371 (by decide) rfl ?_
        refine w20.iadd (q := 373) at_372 rfl ?_
        refine w20.i2c (q := 374) at_373 rfl ?_
        rw [show ((48 : Int32) + ((Int32.ofNat m0) % (10 : Int32))).toUInt32.toUInt16.toUInt32.toInt32 = (D (m0)) from (by rw [modof (by omega)]; exact dchr _)]
        refine w20.castore (q := 375) (es.length + 1) at_374 A20 ge ⟨nn0 (by omega), oflt (m := 11) (by omega) (by decide)⟩ (cln (by omega)) (by simp only [List.length_append, List.length_map, List.length_cons]; omega) rfl fun T21 h21 w21 K21 A21 => ?_
        replace A21 : Arv G.Z h21 e ke .char (11 : Int32) (es.map Value.int ++ .int (D (m0 / 10)) :: .int (D (m0)) :: r) (.int (0 : Int32)) := by rw [set_es, nar_D] at A21; exact A21
        have xe21 := xkp xe20 K21 (all1 ze)
        refine w21.iinc (q := 378) (L2 := #[.val (.int x0), .val (.int x1), .val (.int x2), .val (.int x3), .val (.int x4), .val (.int q5), .val (.int c6), .val (.int c7), .val (.int c8), .val (.ref sx), .val (.int (Int32.ofNat m0)), .val (.int q11), .val (.ref e), .val (.int ((Int32.ofNat (es.length + 1)) + (1 : Int32))), .unset]) (1 : Int32) at_375 rfl rfl rfl rfl ?_
        rw [show ((Int32.ofNat (es.length + 1)) + (1 : Int32)) = (Int32.ofNat (es.length + 2)) from ofsucc _]
        have fin := key378 q5 q11 sx e ke cs (es ++ [D (m0 / 10), D (m0)]) r _ _ _ (w21.mono (by decide) (by decide)) (S.ext xe21) hth (by rw [List.map_append, List.append_assoc]; exact A21) (by simp only [List.length_append, List.length_cons, List.length_nil]; omega) hes
        rw [List.length_append] at fin
        exact fin
      ·
        by_cases d3 : m0 < 1000
        ·
          have ed : dig m0 = [D (m0 / 100), D (m0 / 10), D (m0)] := by simp [dig, d1, d2, d3]
          rw [ed] at hes
          obtain ⟨u0, u1, u2, r, rfl⟩ := c3_ (l := tl) (by omega)
          simp only [List.length_cons] at hl
          refine wk.icY (q := 278) at_254 ((tlt (oflt (m := 10000) (by omega) (by decide))).1) (by decide) (by decide) ?_
          refine wk.iload (q := 280) at_278 rfl rfl ?_
          refine wk.sipush (q := 283) (1000 : Int32) at_280 rfl rfl ?_
          refine wk.icY (q := 307) at_283 ((tlt (oflt (m := 1000) (by omega) (by decide))).1) (by decide) (by decide) ?_
          refine wk.iload (q := 309) at_307 rfl rfl ?_
          refine wk.bipush (q := 311) (100 : Int32) at_309 rfl rfl ?_
          refine wk.icN (q := 314) at_311 ((flt (ofnlt (n := 100) (by omega) (by omega))).1) rfl ?_
          refine wk.aload (q := 316) at_314 rfl rfl rfl ?_
          refine wk.iload (q := 318) at_316 rfl rfl ?_
          refine wk.bipush (q := 320) (48 : Int32) at_318 rfl rfl ?_
          refine wk.iload (q := 322) at_320 rfl rfl ?_
          refine wk.bipush (q := 324) (100 : Int32) at_322 rfl rfl ?_
          refine wk.idiv (q := 325) at_324 (by decide) rfl ?_
          refine wk.bipush (q := 327) (10 : Int32) at_325 rfl rfl ?_
          refine wk.irem (q := 328) at_327 (by decide) rfl ?_
          refine wk.iadd (q := 329) at_328 rfl ?_
          refine wk.i2c (q := 330) at_329 rfl ?_
          rw [show ((48 : Int32) + (((Int32.ofNat m0) / (100 : Int32)) % (10 : Int32))).toUInt32.toUInt16.toUInt32.toInt32 = (D (m0 / 100)) from (dchr2 (K := 100) (by omega) (by decide) (by decide))]
          refine wk.castore (q := 331) (es.length + 0) at_330 A ge ⟨nn0 (by omega), oflt (m := 11) (by omega) (by decide)⟩ (cln (by omega)) (by simp only [List.length_append, List.length_map, List.length_cons]; omega) rfl fun T22 h22 w22 K22 A22 => ?_
          replace A22 : Arv G.Z h22 e ke .char (11 : Int32) (es.map Value.int ++ .int (D (m0 / 100)) :: u1 :: u2 :: r) (.int (0 : Int32)) := by rw [set_es, nar_D] at A22; exact A22
          have xe22 := xkp Xe K22 (all1 ze)
          refine w22.iinc (q := 334) (L2 := #[.val (.int x0), .val (.int x1), .val (.int x2), .val (.int x3), .val (.int x4), .val (.int q5), .val (.int c6), .val (.int c7), .val (.int c8), .val (.ref sx), .val (.int (Int32.ofNat m0)), .val (.int q11), .val (.ref e), .val (.int ((Int32.ofNat (es.length + 0)) + (1 : Int32))), .unset]) (1 : Int32) at_331 rfl rfl rfl rfl ?_
          rw [show ((Int32.ofNat (es.length + 0)) + (1 : Int32)) = (Int32.ofNat (es.length + 1)) from ofsucc _]
          refine w22.iload (q := 336) at_334 rfl rfl ?_
          refine w22.bipush (q := 338) (10 : Int32) at_336 rfl rfl ?_
          refine w22.icN (q := 341) at_338 ((flt (ofnlt (n := 10) (by omega) (by omega))).1) rfl ?_
          refine w22.aload (q := 343) at_341 rfl rfl rfl ?_
          refine w22.iload (q := 345) at_343 rfl rfl ?_
          refine w22.bipush (q := 347) (48 : Int32) at_345 rfl rfl ?_
          refine w22.iload (q := 349) at_347 rfl rfl ?_
          refine w22.bipush (q := 351) (10 : Int32) at_349 rfl rfl ?_
          refine w22.idiv (q := 352) at_351 (by decide) rfl ?_
          refine w22.bipush (q := 354) (10 : Int32) at_352 rfl rfl ?_
          refine w22.irem (q := 355) at_354 (by decide) rfl ?_
          refine w22.iadd (q := 356) at_355 rfl ?_
          refine w22.i2c (q := 357) at_356 rfl ?_
          rw [show ((48 : Int32) + (((Int32.ofNat m0) / (10 : Int32)) % (10 : Int32))).toUInt32.toUInt16.toUInt32.toInt32 = (D (m0 / 10)) from (dchr2 (K := 10) (by omega) (by decide) (by decide))]
          refine w22.castore (q := 358) (es.length + 1) at_357 A22 ge ⟨nn0 (by omega), oflt (m := 11) (by omega) (by decide)⟩ (cln (by omega)) (by simp only [List.length_append, List.length_map, List.length_cons]; omega) rfl fun T23 h23 w23 K23 A23 => ?_
          replace A23 : Arv G.Z h23 e ke .char (11 : Int32) (es.map Value.int ++ .int (D (m0 / 100)) :: .int (D (m0 / 10)) :: u2 :: r) (.int (0 : Int32)) := by rw [set_es, nar_D] at A23; exact A23
          have xe23 := xkp xe22 K23 (all1 ze)
          refine w23.iinc (q := 361) (L2 := #[.val (.int x0), .val (.int x1), .val (.int x2), .val (.int x3), .val (.int x4), .val (.int q5), .val (.int c6), .val (.int c7), .val (.int c8), .val (.ref sx), .val (.int (Int32.ofNat m0)), .val (.int q11), .val (.ref e), .val (.int ((Int32.ofNat (es.length + 1)) + (1 : Int32))), .unset]) (1 : Int32) at_358 rfl rfl rfl rfl ?_
          rw [show ((Int32.ofNat (es.length + 1)) + (1 : Int32)) = (Int32.ofNat (es.length + 2)) from ofsucc _]
          refine w23.aload (q := 363) at_361 rfl rfl rfl ?_
          refine w23.iload (q := 365) at_363 rfl rfl ?_
          refine w23.bipush (q := 367) (48 : Int32) at_365 rfl rfl ?_
          refine w23.iload (q := 369) at_367 rfl rfl ?_
          refine w23.bipush (q := 371) (10 : Int32) at_369 rfl rfl ?_
          refine w23.irem (q := 372) at_371 (by decide) rfl ?_
          refine w23.iadd (q := 373) at_372 rfl ?_
          refine w23.i2c (q := 374) at_373 rfl ?_
          rw [show ((48 : Int32) + ((Int32.ofNat m0) % (10 : Int32))).toUInt32.toUInt16.toUInt32.toInt32 = (D (m0)) from (by rw [modof (by omega)]; exact dchr _)]
          refine w23.castore (q := 375) (es.length + 2) at_374 A23 ge ⟨nn0 (by omega), oflt (m := 11) (by omega) (by decide)⟩ (cln (by omega)) (by simp only [List.length_append, List.length_map, List.length_cons]; omega) rfl fun T24 h24 w24 K24 A24 => ?_
          replace A24 : Arv G.Z h24 e ke .char (11 : Int32) (es.map Value.int ++ .int (D (m0 / 100)) :: .int (D (m0 / 10)) :: .int (D (m0)) :: r) (.int (0 : Int32)) := by rw [set_es, nar_D] at A24; exact A24
          have xe24 := xkp xe23 K24 (all1 ze)
          refine w24.iinc (q := 378) (L2 := #[.val (.int x0), .val (.int x1), .val (.int x2), .val (.int x3), .val (.int x4), .val (.int q5), .val (.int c6), .val (.int c7), .val (.int c8), .val (.ref sx), .val (.int (Int32.ofNat m0)), .val (.int q11), .val (.ref e), .val (.int ((Int32.ofNat (es.length + 2)) + (1 : Int32))), .unset]) (1 : Int32) at_375 rfl rfl rfl rfl ?_
          rw [show ((Int32.ofNat (es.length + 2)) + (1 : Int32)) = (Int32.ofNat (es.length + 3)) from ofsucc _]
          have fin := key378 q5 q11 sx e ke cs (es ++ [D (m0 / 100), D (m0 / 10), D (m0)]) r _ _ _ (w24.mono (by decide) (by decide)) (S.ext xe24) hth (by rw [List.map_append, List.append_assoc]; exact A24) (by simp only [List.length_append, List.length_cons, List.length_nil]; omega) hes
          rw [List.length_append] at fin
          exact fin
        ·
          by_cases d4 : m0 < 10000
          ·
            have ed : dig m0 = [D (m0 / 1000), D (m0 / 100), D (m0 / 10), D (m0)] := by simp [dig, d1, d2, d3, d4]
            rw [ed] at hes
            obtain ⟨u0, u1, u2, u3, r, rfl⟩ := c4_ (l := tl) (by omega)
            simp only [List.length_cons] at hl
            refine wk.icY (q := 278) at_254 ((tlt (oflt (m := 10000) (by omega) (by decide))).1) (by decide) (by decide) ?_
            refine wk.iload (q := 280) at_278 rfl rfl ?_
            refine wk.sipush (q := 283) (1000 : Int32) at_280 rfl rfl ?_
            refine wk.icN (q := 286) at_283 ((flt (ofnlt (n := 1000) (by omega) (by omega))).1) rfl ?_
            refine wk.aload (q := 288) at_286 rfl rfl rfl ?_
            refine wk.iload (q := 290) at_288 rfl rfl ?_
            refine wk.bipush (q := 292) (48 : Int32) at_290 rfl rfl ?_
            refine wk.iload (q := 294) at_292 rfl rfl ?_
            refine wk.sipush (q := 297) (1000 : Int32) at_294 rfl rfl ?_
            refine wk.idiv (q := 298) at_297 (by decide) rfl ?_
            refine wk.bipush (q := 300) (10 : Int32) at_298 rfl rfl ?_
            refine wk.irem (q := 301) at_300 (by decide) rfl ?_
            refine wk.iadd (q := 302) at_301 rfl ?_
            refine wk.i2c (q := 303) at_302 rfl ?_
            rw [show ((48 : Int32) + (((Int32.ofNat m0) / (1000 : Int32)) % (10 : Int32))).toUInt32.toUInt16.toUInt32.toInt32 = (D (m0 / 1000)) from (dchr2 (K := 1000) (by omega) (by decide) (by decide))]
            refine wk.castore (q := 304) (es.length + 0) at_303 A ge ⟨nn0 (by omega), oflt (m := 11) (by omega) (by decide)⟩ (cln (by omega)) (by simp only [List.length_append, List.length_map, List.length_cons]; omega) rfl fun T25 h25 w25 K25 A25 => ?_
            replace A25 : Arv G.Z h25 e ke .char (11 : Int32) (es.map Value.int ++ .int (D (m0 / 1000)) :: u1 :: u2 :: u3 :: r) (.int (0 : Int32)) := by rw [set_es, nar_D] at A25; exact A25
            have xe25 := xkp Xe K25 (all1 ze)
            refine w25.iinc (q := 307) (L2 := #[.val (.int x0), .val (.int x1), .val (.int x2), .val (.int x3), .val (.int x4), .val (.int q5), .val (.int c6), .val (.int c7), .val (.int c8), .val (.ref sx), .val (.int (Int32.ofNat m0)), .val (.int q11), .val (.ref e), .val (.int ((Int32.ofNat (es.length + 0)) + (1 : Int32))), .unset]) (1 : Int32) at_304 rfl rfl rfl rfl ?_
            rw [show ((Int32.ofNat (es.length + 0)) + (1 : Int32)) = (Int32.ofNat (es.length + 1)) from ofsucc _]
            refine w25.iload (q := 309) at_307 rfl rfl ?_
            refine w25.bipush (q := 311) (100 : Int32) at_309 rfl rfl ?_
            refine w25.icN (q := 314) at_311 ((flt (ofnlt (n := 100) (by omega) (by omega))).1) rfl ?_
            refine w25.aload (q := 316) at_314 rfl rfl rfl ?_
            refine w25.iload (q := 318) at_316 rfl rfl ?_
            refine w25.bipush (q := 320) (48 : Int32) at_318 rfl rfl ?_
            refine w25.iload (q := 322) at_320 rfl rfl ?_
            refine w25.bipush (q := 324) (100 : Int32) at_322 rfl rfl ?_
            refine w25.idiv (q := 325) at_324 (by decide) rfl ?_
            refine w25.bipush (q := 327) (10 : Int32) at_325 rfl rfl ?_
            refine w25.irem (q := 328) at_327 (by decide) rfl ?_
            refine w25.iadd (q := 329) at_328 rfl ?_
            refine w25.i2c (q := 330) at_329 rfl ?_
            rw [show ((48 : Int32) + (((Int32.ofNat m0) / (100 : Int32)) % (10 : Int32))).toUInt32.toUInt16.toUInt32.toInt32 = (D (m0 / 100)) from (dchr2 (K := 100) (by omega) (by decide) (by decide))]
            refine w25.castore (q := 331) (es.length + 1) at_330 A25 ge ⟨nn0 (by omega), oflt (m := 11) (by omega) (by decide)⟩ (cln (by omega)) (by simp only [List.length_append, List.length_map, List.length_cons]; omega) rfl fun T26 h26 w26 K26 A26 => ?_
            replace A26 : Arv G.Z h26 e ke .char (11 : Int32) (es.map Value.int ++ .int (D (m0 / 1000)) :: .int (D (m0 / 100)) :: u2 :: u3 :: r) (.int (0 : Int32)) := by rw [set_es, nar_D] at A26; exact A26
            have xe26 := xkp xe25 K26 (all1 ze)
            refine w26.iinc (q := 334) (L2 := #[.val (.int x0), .val (.int x1), .val (.int x2), .val (.int x3), .val (.int x4), .val (.int q5), .val (.int c6), .val (.int c7), .val (.int c8), .val (.ref sx), .val (.int (Int32.ofNat m0)), .val (.int q11), .val (.ref e), .val (.int ((Int32.ofNat (es.length + 1)) + (1 : Int32))), .unset]) (1 : Int32) at_331 rfl rfl rfl rfl ?_
            rw [show ((Int32.ofNat (es.length + 1)) + (1 : Int32)) = (Int32.ofNat (es.length + 2)) from ofsucc _]
            refine w26.iload (q := 336) at_334 rfl rfl ?_
            refine w26.bipush (q := 338) (10 : Int32) at_336 rfl rfl ?_
            refine w26.icN (q := 341) at_338 ((flt (ofnlt (n := 10) (by omega) (by omega))).1) rfl ?_
            refine w26.aload (q := 343) at_341 rfl rfl rfl ?_
            refine w26.iload (q := 345) at_343 rfl rfl ?_
            refine w26.bipush (q := 347) (48 : Int32) at_345 rfl rfl ?_
            refine w26.iload (q := 349) at_347 rfl rfl ?_
            refine w26.bipush (q := 351) (10 : Int32) at_349 rfl rfl ?_
            refine w26.idiv (q := 352) at_351 (by decide) rfl ?_
            refine w26.bipush (q := 354) (10 : Int32) at_352 rfl rfl ?_
            refine w26.irem (q := 355) at_354 (by decide) rfl ?_
            refine w26.iadd (q := 356) at_355 rfl ?_
            refine w26.i2c (q := 357) at_356 rfl ?_
            rw [show ((48 : Int32) + (((Int32.ofNat m0) / (10 : Int32)) % (10 : Int32))).toUInt32.toUInt16.toUInt32.toInt32 = (D (m0 / 10)) from (dchr2 (K := 10) (by omega) (by decide) (by decide))]
            refine w26.castore (q := 358) (es.length + 2) at_357 A26 ge ⟨nn0 (by omega), oflt (m := 11) (by omega) (by decide)⟩ (cln (by omega)) (by simp only [List.length_append, List.length_map, List.length_cons]; omega) rfl fun T27 h27 w27 K27 A27 => ?_
            replace A27 : Arv G.Z h27 e ke .char (11 : Int32) (es.map Value.int ++ .int (D (m0 / 1000)) :: .int (D (m0 / 100)) :: .int (D (m0 / 10)) :: u3 :: r) (.int (0 : Int32)) := by rw [set_es, nar_D] at A27; exact A27
            have xe27 := xkp xe26 K27 (all1 ze)
            refine w27.iinc (q := 361) (L2 := #[.val (.int x0), .val (.int x1), .val (.int x2), .val (.int x3), .val (.int x4), .val (.int q5), .val (.int c6), .val (.int c7), .val (.int c8), .val (.ref sx), .val (.int (Int32.ofNat m0)), .val (.int q11), .val (.ref e), .val (.int ((Int32.ofNat (es.length + 2)) + (1 : Int32))), .unset]) (1 : Int32) at_358 rfl rfl rfl rfl ?_
            rw [show ((Int32.ofNat (es.length + 2)) + (1 : Int32)) = (Int32.ofNat (es.length + 3)) from ofsucc _]
            refine w27.aload (q := 363) at_361 rfl rfl rfl ?_
            refine w27.iload (q := 365) at_363 rfl rfl ?_
            refine w27.bipush (q := 367) (48 : Int32) at_365 rfl rfl ?_
            refine w27.iload (q := 369) at_367 rfl rfl ?_
            refine w27.bipush (q := 371) (10 : Int32) at_369 rfl rfl ?_
            refine w27.irem (q := 372) at_371 (by decide) rfl ?_
            refine w27.iadd (q := 373) at_372 rfl ?_
            refine w27.i2c (q := 374) at_373 rfl ?_
            rw [show ((48 : Int32) + ((Int32.ofNat m0) % (10 : Int32))).toUInt32.toUInt16.toUInt32.toInt32 = (D (m0)) from (by rw [modof (by omega)]; exact dchr _)]
            refine w27.castore (q := 375) (es.length + 3) at_374 A27 ge ⟨nn0 (by omega), oflt (m := 11) (by omega) (by decide)⟩ (cln (by omega)) (by simp only [List.length_append, List.length_map, List.length_cons]; omega) rfl fun T28 h28 w28 K28 A28 => ?_
            replace A28 : Arv G.Z h28 e ke .char (11 : Int32) (es.map Value.int ++ .int (D (m0 / 1000)) :: .int (D (m0 / 100)) :: .int (D (m0 / 10)) :: .int (D (m0)) :: r) (.int (0 : Int32)) := by rw [set_es, nar_D] at A28; exact A28
            have xe28 := xkp xe27 K28 (all1 ze)
            refine w28.iinc (q := 378) (L2 := #[.val (.int x0), .val (.int x1), .val (.int x2), .val (.int x3), .val (.int x4), .val (.int q5), .val (.int c6), .val (.int c7), .val (.int c8), .val (.ref sx), .val (.int (Int32.ofNat m0)), .val (.int q11), .val (.ref e), .val (.int ((Int32.ofNat (es.length + 3)) + (1 : Int32))), .unset]) (1 : Int32) at_375 rfl rfl rfl rfl ?_
            rw [show ((Int32.ofNat (es.length + 3)) + (1 : Int32)) = (Int32.ofNat (es.length + 4)) from ofsucc _]
            have fin := key378 q5 q11 sx e ke cs (es ++ [D (m0 / 1000), D (m0 / 100), D (m0 / 10), D (m0)]) r _ _ _ (w28.mono (by decide) (by decide)) (S.ext xe28) hth (by rw [List.map_append, List.append_assoc]; exact A28) (by simp only [List.length_append, List.length_cons, List.length_nil]; omega) hes
            rw [List.length_append] at fin
            exact fin
          ·
            have ed : dig m0 = [D (m0 / 10000), D (m0 / 1000), D (m0 / 100), D (m0 / 10), D (m0)] := by simp [dig, d1, d2, d3, d4]
            rw [ed] at hes
            obtain ⟨u0, u1, u2, u3, u4, r, rfl⟩ := c5_ (l := tl) (by omega)
            simp only [List.length_cons] at hl
            refine wk.icN (q := 257) at_254 ((flt (ofnlt (n := 10000) (by omega) (by omega))).1) rfl ?_
            refine wk.aload (q := 259) at_257 rfl rfl rfl ?_
            refine wk.iload (q := 261) at_259 rfl rfl ?_
            refine wk.bipush (q := 263) (48 : Int32) at_261 rfl rfl ?_
            refine wk.iload (q := 265) at_263 rfl rfl ?_
            refine wk.sipush (q := 268) (10000 : Int32) at_265 rfl rfl ?_
            refine wk.idiv (q := 269) at_268 (by decide) rfl ?_
            refine wk.bipush (q := 271) (10 : Int32) at_269 rfl rfl ?_
            refine wk.irem (q := 272) at_271 (by decide) rfl ?_
            refine wk.iadd (q := 273) at_272 rfl ?_
            refine wk.i2c (q := 274) at_273 rfl ?_
            rw [show ((48 : Int32) + (((Int32.ofNat m0) / (10000 : Int32)) % (10 : Int32))).toUInt32.toUInt16.toUInt32.toInt32 = (D (m0 / 10000)) from (dchr2 (K := 10000) (by omega) (by decide) (by decide))]
            refine wk.castore (q := 275) (es.length + 0) at_274 A ge ⟨nn0 (by omega), oflt (m := 11) (by omega) (by decide)⟩ (cln (by omega)) (by simp only [List.length_append, List.length_map, List.length_cons]; omega) rfl fun T29 h29 w29 K29 A29 => ?_
            replace A29 : Arv G.Z h29 e ke .char (11 : Int32) (es.map Value.int ++ .int (D (m0 / 10000)) :: u1 :: u2 :: u3 :: u4 :: r) (.int (0 : Int32)) := by rw [set_es, nar_D] at A29; exact A29
            have xe29 := xkp Xe K29 (all1 ze)
            refine w29.iinc (q := 278) (L2 := #[.val (.int x0), .val (.int x1), .val (.int x2), .val (.int x3), .val (.int x4), .val (.int q5), .val (.int c6), .val (.int c7), .val (.int c8), .val (.ref sx), .val (.int (Int32.ofNat m0)), .val (.int q11), .val (.ref e), .val (.int ((Int32.ofNat (es.length + 0)) + (1 : Int32))), .unset]) (1 : Int32) at_275 rfl rfl rfl rfl ?_
            rw [show ((Int32.ofNat (es.length + 0)) + (1 : Int32)) = (Int32.ofNat (es.length + 1)) from ofsucc _]
            refine w29.iload (q := 280) at_278 rfl rfl ?_
            refine w29.sipush (q := 283) (1000 : Int32) at_280 rfl rfl ?_
            refine w29.icN (q := 286) at_283 ((flt (ofnlt (n := 1000) (by omega) (by omega))).1) rfl ?_
            refine w29.aload (q := 288) at_286 rfl rfl rfl ?_
            refine w29.iload (q := 290) at_288 rfl rfl ?_
            refine w29.bipush (q := 292) (48 : Int32) at_290 rfl rfl ?_
            refine w29.iload (q := 294) at_292 rfl rfl ?_
            refine w29.sipush (q := 297) (1000 : Int32) at_294 rfl rfl ?_
            refine w29.idiv (q := 298) at_297 (by decide) rfl ?_
            refine w29.bipush (q := 300) (10 : Int32) at_298 rfl rfl ?_
            refine w29.irem (q := 301) at_300 (by decide) rfl ?_
            refine w29.iadd (q := 302) at_301 rfl ?_
            refine w29.i2c (q := 303) at_302 rfl ?_
            rw [show ((48 : Int32) + (((Int32.ofNat m0) / (1000 : Int32)) % (10 : Int32))).toUInt32.toUInt16.toUInt32.toInt32 = (D (m0 / 1000)) from (dchr2 (K := 1000) (by omega) (by decide) (by decide))]
            refine w29.castore (q := 304) (es.length + 1) at_303 A29 ge ⟨nn0 (by omega), oflt (m := 11) (by omega) (by decide)⟩ (cln (by omega)) (by simp only [List.length_append, List.length_map, List.length_cons]; omega) rfl fun T30 h30 w30 K30 A30 => ?_
            replace A30 : Arv G.Z h30 e ke .char (11 : Int32) (es.map Value.int ++ .int (D (m0 / 10000)) :: .int (D (m0 / 1000)) :: u2 :: u3 :: u4 :: r) (.int (0 : Int32)) := by rw [set_es, nar_D] at A30; exact A30
            have xe30 := xkp xe29 K30 (all1 ze)
            refine w30.iinc (q := 307) (L2 := #[.val (.int x0), .val (.int x1), .val (.int x2), .val (.int x3), .val (.int x4), .val (.int q5), .val (.int c6), .val (.int c7), .val (.int c8), .val (.ref sx), .val (.int (Int32.ofNat m0)), .val (.int q11), .val (.ref e), .val (.int ((Int32.ofNat (es.length + 1)) + (1 : Int32))), .unset]) (1 : Int32) at_304 rfl rfl rfl rfl ?_
            rw [show ((Int32.ofNat (es.length + 1)) + (1 : Int32)) = (Int32.ofNat (es.length + 2)) from ofsucc _]
            refine w30.iload (q := 309) at_307 rfl rfl ?_
            refine w30.bipush (q := 311) (100 : Int32) at_309 rfl rfl ?_
            refine w30.icN (q := 314) at_311 ((flt (ofnlt (n := 100) (by omega) (by omega))).1) rfl ?_
            refine w30.aload (q := 316) at_314 rfl rfl rfl ?_
            refine w30.iload (q := 318) at_316 rfl rfl ?_
            refine w30.bipush (q := 320) (48 : Int32) at_318 rfl rfl ?_
            refine w30.iload (q := 322) at_320 rfl rfl ?_
            refine w30.bipush (q := 324) (100 : Int32) at_322 rfl rfl ?_
            refine w30.idiv (q := 325) at_324 (by decide) rfl ?_
            refine w30.bipush (q := 327) (10 : Int32) at_325 rfl rfl ?_
            refine w30.irem (q := 328) at_327 (by decide) rfl ?_
            refine w30.iadd (q := 329) at_328 rfl ?_
            refine w30.i2c (q := 330) at_329 rfl ?_
            rw [show ((48 : Int32) + (((Int32.ofNat m0) / (100 : Int32)) % (10 : Int32))).toUInt32.toUInt16.toUInt32.toInt32 = (D (m0 / 100)) from (dchr2 (K := 100) (by omega) (by decide) (by decide))]
            refine w30.castore (q := 331) (es.length + 2) at_330 A30 ge ⟨nn0 (by omega), oflt (m := 11) (by omega) (by decide)⟩ (cln (by omega)) (by simp only [List.length_append, List.length_map, List.length_cons]; omega) rfl fun T31 h31 w31 K31 A31 => ?_
            replace A31 : Arv G.Z h31 e ke .char (11 : Int32) (es.map Value.int ++ .int (D (m0 / 10000)) :: .int (D (m0 / 1000)) :: .int (D (m0 / 100)) :: u3 :: u4 :: r) (.int (0 : Int32)) := by rw [set_es, nar_D] at A31; exact A31
            have xe31 := xkp xe30 K31 (all1 ze)
            refine w31.iinc (q := 334) (L2 := #[.val (.int x0), .val (.int x1), .val (.int x2), .val (.int x3), .val (.int x4), .val (.int q5), .val (.int c6), .val (.int c7), .val (.int c8), .val (.ref sx), .val (.int (Int32.ofNat m0)), .val (.int q11), .val (.ref e), .val (.int ((Int32.ofNat (es.length + 2)) + (1 : Int32))), .unset]) (1 : Int32) at_331 rfl rfl rfl rfl ?_
            rw [show ((Int32.ofNat (es.length + 2)) + (1 : Int32)) = (Int32.ofNat (es.length + 3)) from ofsucc _]
            refine w31.iload (q := 336) at_334 rfl rfl ?_
            refine w31.bipush (q := 338) (10 : Int32) at_336 rfl rfl ?_
            refine w31.icN (q := 341) at_338 ((flt (ofnlt (n := 10) (by omega) (by omega))).1) rfl ?_
            refine w31.aload (q := 343) at_341 rfl rfl rfl ?_
            refine w31.iload (q := 345) at_343 rfl rfl ?_
            refine w31.bipush (q := 347) (48 : Int32) at_345 rfl rfl ?_
            refine w31.iload (q := 349) at_347 rfl rfl ?_
            refine w31.bipush (q := 351) (10 : Int32) at_349 rfl rfl ?_
            refine w31.idiv (q := 352) at_351 (by decide) rfl ?_
            refine w31.bipush (q := 354) (10 : Int32) at_352 rfl rfl ?_
            refine w31.irem (q := 355) at_354 (by decide) rfl ?_
            refine w31.iadd (q := 356) at_355 rfl ?_
            refine w31.i2c (q := 357) at_356 rfl ?_
            rw [show ((48 : Int32) + (((Int32.ofNat m0) / (10 : Int32)) % (10 : Int32))).toUInt32.toUInt16.toUInt32.toInt32 = (D (m0 / 10)) from (dchr2 (K := 10) (by omega) (by decide) (by decide))]
            refine w31.castore (q := 358) (es.length + 3) at_357 A31 ge ⟨nn0 (by omega), oflt (m := 11) (by omega) (by decide)⟩ (cln (by omega)) (by simp only [List.length_append, List.length_map, List.length_cons]; omega) rfl fun T32 h32 w32 K32 A32 => ?_
            replace A32 : Arv G.Z h32 e ke .char (11 : Int32) (es.map Value.int ++ .int (D (m0 / 10000)) :: .int (D (m0 / 1000)) :: .int (D (m0 / 100)) :: .int (D (m0 / 10)) :: u4 :: r) (.int (0 : Int32)) := by rw [set_es, nar_D] at A32; exact A32
            have xe32 := xkp xe31 K32 (all1 ze)
            refine w32.iinc (q := 361) (L2 := #[.val (.int x0), .val (.int x1), .val (.int x2), .val (.int x3), .val (.int x4), .val (.int q5), .val (.int c6), .val (.int c7), .val (.int c8), .val (.ref sx), .val (.int (Int32.ofNat m0)), .val (.int q11), .val (.ref e), .val (.int ((Int32.ofNat (es.length + 3)) + (1 : Int32))), .unset]) (1 : Int32) at_358 rfl rfl rfl rfl ?_
            rw [show ((Int32.ofNat (es.length + 3)) + (1 : Int32)) = (Int32.ofNat (es.length + 4)) from ofsucc _]
            refine w32.aload (q := 363) at_361 rfl rfl rfl ?_
            refine w32.iload (q := 365) at_363 rfl rfl ?_
            refine w32.bipush (q := 367) (48 : Int32) at_365 rfl rfl ?_
            refine w32.iload (q := 369) at_367 rfl rfl ?_
            refine w32.bipush (q := 371) (10 : Int32) at_369 rfl rfl ?_
            refine w32.irem (q := 372) at_371 (by decide) rfl ?_
            refine w32.iadd (q := 373) at_372 rfl ?_
            refine w32.i2c (q := 374) at_373 rfl ?_
            rw [show ((48 : Int32) + ((Int32.ofNat m0) % (10 : Int32))).toUInt32.toUInt16.toUInt32.toInt32 = (D (m0)) from (by rw [modof (by omega)]; exact dchr _)]
            refine w32.castore (q := 375) (es.length + 4) at_374 A32 ge ⟨nn0 (by omega), oflt (m := 11) (by omega) (by decide)⟩ (cln (by omega)) (by simp only [List.length_append, List.length_map, List.length_cons]; omega) rfl fun T33 h33 w33 K33 A33 => ?_
            replace A33 : Arv G.Z h33 e ke .char (11 : Int32) (es.map Value.int ++ .int (D (m0 / 10000)) :: .int (D (m0 / 1000)) :: .int (D (m0 / 100)) :: .int (D (m0 / 10)) :: .int (D (m0)) :: r) (.int (0 : Int32)) := by rw [set_es, nar_D] at A33; exact A33
            have xe33 := xkp xe32 K33 (all1 ze)
            refine w33.iinc (q := 378) (L2 := #[.val (.int x0), .val (.int x1), .val (.int x2), .val (.int x3), .val (.int x4), .val (.int q5), .val (.int c6), .val (.int c7), .val (.int c8), .val (.ref sx), .val (.int (Int32.ofNat m0)), .val (.int q11), .val (.ref e), .val (.int ((Int32.ofNat (es.length + 4)) + (1 : Int32))), .unset]) (1 : Int32) at_375 rfl rfl rfl rfl ?_
            rw [show ((Int32.ofNat (es.length + 4)) + (1 : Int32)) = (Int32.ofNat (es.length + 5)) from ofsucc _]
            have fin := key378 q5 q11 sx e ke cs (es ++ [D (m0 / 10000), D (m0 / 1000), D (m0 / 100), D (m0 / 10), D (m0)]) r _ _ _ (w33.mono (by decide) (by decide)) (S.ext xe33) hth (by rw [List.map_append, List.append_assoc]; exact A33) (by simp only [List.length_append, List.length_cons, List.length_nil]; omega) hes
            rw [List.length_append] at fin
            exact fin
  rcases h5c with rfl | rfl | rfl
  ·
    refine w3.iload (q := 29) at_27 rfl rfl ?_
    refine w3.iconst (q := 30) (1 : Int32) at_29 rfl rfl ?_
    refine w3.icN (q := 33) at_30 ((teq rfl).2) rfl ?_
    refine w3.newO (q := 36) at_33 (H.tw 4 rfl) (H.tw 5 rfl) (H.tw 6 rfl) (by decide) (by decide) rfl fun T34 h34 b34 e34 w34 E34 A34 D34 U34 => ?_
    have lt34 : b34 < h34.size := A34.lt
    have sz34 : h.size ≤ h34.size := E34.1
    have F34_value : Fld G.Z h34 b34 "java/lang/String" "value" "[B" .null := D34 (Or.inr (H.tw 33 rfl)) (ty := (.array .byte)) (by decide)
    have F34_coder : Fld G.Z h34 b34 "java/lang/String" "coder" "B" (.int (0 : Int32)) := D34 (Or.inr (H.tw 31 rfl)) (ty := .byte) (by decide)
    have g34 : G.n0 ≤ b34 := by have := ho.2.1; have := ho.1; omega
    refine w34.dup (q := 37) at_36 rfl rfl ?_
    refine w34.iconst (q := 38) (1 : Int32) at_37 rfl rfl ?_
    refine w34.newP (q := 40) 1 at_38 (H.tw 7 rfl) (by decide) (by decide) (by decide) (by decide) (by decide) rfl fun T35 h35 b35 kc35 e35 w35 E35 A35 => ?_
    replace A35 : Arv G.Z h35 b35 kc35 .char (1 : Int32) [(.int (0 : Int32))] (.int (0 : Int32)) := A35.pad (pad_rep [] (.int (0 : Int32)) 1)
    have lt35 : b35 < h35.size := A35.lt
    have sz35 : h34.size ≤ h35.size := E35.1
    have g35 : G.n0 ≤ b35 := by have := ho.2.1; have := ho.1; omega
    replace A34 := A34.ext E35
    replace F34_value := F34_value.ext E35
    replace F34_coder := F34_coder.ext E35
    refine w35.dup (q := 41) at_40 rfl rfl ?_
    refine w35.iconst (q := 42) (0 : Int32) at_41 rfl rfl ?_
    refine w35.iload (q := 44) at_42 rfl rfl ?_
    refine w35.castore (q := 45) 0 at_44 A35 g35 ⟨by decide, by decide⟩ rfl (Nat.le_of_ble_eq_true rfl) rfl fun T36 h36 w36 K36 A36 => ?_
    have sz36 : h35.size ≤ h36.size := K36.1
    replace A34 := A34.keep K36
    replace F34_value := F34_value.keep K36 (nin1 (by omega))
    replace F34_coder := F34_coder.keep K36 (nin1 (by omega))
    refine w36.callC (q := 48) at_45 rfl (H.tw 8 rfl) (H.tw 9 rfl) (H.tw 10 rfl) (by decide) (a := b34) (argsL := [(.ref b35)]) (rest := [(.ref b34)]) rfl (lenOf pd72 rfl) rfl (W := 1) (Nat.le_of_eq rfl) (pay_newStr w36 H.ws (H.tw 5 rfl) H.cz (nn := 1) (cs := [nar .char c6]) g34 A34 F34_value F34_coder A36 rfl rfl (by decide) (by decide) (latS (show Lat _ from by rw [N6]; exact L6) lat0) (by decide) (by decide)) (by decide) (by decide) rfl fun vm37 T37 h37 v37 w37 q37 => ?_
    obtain ⟨rfl, K37, S37⟩ := q37
    show Go _ _ _ _ (T37.setTop (mkF X.m 48 #[.val (.int x0), .val (.int x1), .val (.int x2), .val (.int x3), .val (.int x4), .val (.int (1 : Int32)), .val (.int c6), .val (.int c7), .val (.int c8), .unset, .unset, .unset, .unset, .unset, .unset] [(.ref b34)]))
    have sz37 : h36.size ≤ h37.size := K37.1
    have X37 : Ext h h37 := xkp (xkp (xtr E34 E35) K36 (all1 (by omega))) K37 (all1 (by omega))
    rw [N6] at S37
    have szS := X37.1
    refine w37.astore (q := 50) (L2 := #[.val (.int x0), .val (.int x1), .val (.int x2), .val (.int x3), .val (.int x4), .val (.int (1 : Int32)), .val (.int c6), .val (.int c7), .val (.int c8), .val (.ref b34), .unset, .unset, .unset, .unset, .unset]) at_48 rfl rfl rfl ?_
    refine w37.goto (q := 111) at_50 (by decide) (by decide) ?_
    refine w37.iload (q := 113) at_111 rfl rfl ?_
    refine w37.ldcI (q := 115) at_113 (H.tw 34 rfl) rfl ?_
    refine w37.iand (q := 116) at_115 rfl ?_
    rw [show (x4 &&& (65535 : Int32)) = (Int32.ofNat m0) from em]
    refine w37.istore (q := 118) (L2 := #[.val (.int x0), .val (.int x1), .val (.int x2), .val (.int x3), .val (.int x4), .val (.int (1 : Int32)), .val (.int c6), .val (.int c7), .val (.int c8), .val (.ref b34), .val (.int (Int32.ofNat m0)), .unset, .unset, .unset, .unset]) at_116 rfl rfl ?_
    refine w37.iload (q := 120) at_118 rfl rfl ?_
    refine w37.bipush (q := 122) (58 : Int32) at_120 rfl rfl ?_
    by_cases f0 : c6 = (58 : Int32)
    ·
      refine w37.icY (q := 151) at_122 ((teq f0).1) (by decide) (by decide) ?_
      have hin : (58 : Int32) ∈ [c6] := by simp [f0]
      refine w37.iconst (q := 152) (1 : Int32) at_151 rfl rfl ?_
      refine w37.goto (q := 156) at_152 (by decide) (by decide) ?_
      refine w37.istore (q := 158) (L2 := #[.val (.int x0), .val (.int x1), .val (.int x2), .val (.int x3), .val (.int x4), .val (.int (1 : Int32)), .val (.int c6), .val (.int c7), .val (.int c8), .val (.ref b34), .val (.int (Int32.ofNat m0)), .val (.int (1 : Int32)), .unset, .unset, .unset]) at_156 rfl rfl ?_
      refine w37.bipush (q := 160) (11 : Int32) at_158 rfl rfl ?_
      refine w37.newP (q := 162) 11 at_160 (H.tw 7 rfl) (by decide) (by decide) (by decide) (by decide) (by decide) rfl fun T38 h38 b38 kc38 e38 w38 E38 A38 => ?_
      replace A38 : Arv G.Z h38 b38 kc38 .char (11 : Int32) [(.int (0 : Int32)), (.int (0 : Int32)), (.int (0 : Int32)), (.int (0 : Int32)), (.int (0 : Int32)), (.int (0 : Int32)), (.int (0 : Int32)), (.int (0 : Int32)), (.int (0 : Int32)), (.int (0 : Int32)), (.int (0 : Int32))] (.int (0 : Int32)) := A38.pad (pad_rep [] (.int (0 : Int32)) 11)
      have lt38 : b38 < h38.size := A38.lt
      have sz38 : h37.size ≤ h38.size := E38.1
      have ge : G.n0 ≤ b38 := by omega
      refine w38.astore (q := 164) (L2 := #[.val (.int x0), .val (.int x1), .val (.int x2), .val (.int x3), .val (.int x4), .val (.int (1 : Int32)), .val (.int c6), .val (.int c7), .val (.int c8), .val (.ref b34), .val (.int (Int32.ofNat m0)), .val (.int (1 : Int32)), .val (.ref b38), .unset, .unset]) at_162 rfl rfl rfl ?_
      refine w38.iconst (q := 165) (0 : Int32) at_164 rfl rfl ?_
      refine w38.istore (q := 167) (L2 := #[.val (.int x0), .val (.int x1), .val (.int x2), .val (.int x3), .val (.int x4), .val (.int (1 : Int32)), .val (.int c6), .val (.int c7), .val (.int c8), .val (.ref b34), .val (.int (Int32.ofNat m0)), .val (.int (1 : Int32)), .val (.ref b38), .val (.int (0 : Int32)), .unset]) at_165 rfl rfl ?_
      refine w38.iload (q := 169) at_167 rfl rfl ?_
      refine w38.ifN (q := 172) at_169 ((if0 _ _).trans (feq (by decide)).1) rfl ?_
      refine w38.aload (q := 174) at_172 rfl rfl rfl ?_
      refine w38.iload (q := 176) at_174 rfl rfl ?_
      refine w38.bipush (q := 178) (91 : Int32) at_176 rfl rfl ?_
      refine w38.castore (q := 179) 0 at_178 A38 ge ⟨by decide, by decide⟩ rfl (Nat.le_of_ble_eq_true rfl) rfl fun T39 h39 w39 K39 A39 => ?_
      have sz39 : h38.size ≤ h39.size := K39.1
      replace A39 : Arv G.Z h39 b38 kc38 .char (11 : Int32) [.int (91 : Int32), .int (0 : Int32), .int (0 : Int32), .int (0 : Int32), .int (0 : Int32), .int (0 : Int32), .int (0 : Int32), .int (0 : Int32), .int (0 : Int32), .int (0 : Int32), .int (0 : Int32)] (.int (0 : Int32)) := by rw [show nar .char (91 : Int32) = 91 from by decide] at A39; exact A39
      have xe39 := xkp E38 K39 (all1 (by omega))
      refine w39.iinc (q := 182) (L2 := #[.val (.int x0), .val (.int x1), .val (.int x2), .val (.int x3), .val (.int x4), .val (.int (1 : Int32)), .val (.int c6), .val (.int c7), .val (.int c8), .val (.ref b34), .val (.int (Int32.ofNat m0)), .val (.int (1 : Int32)), .val (.ref b38), .val (.int ((0 : Int32) + (1 : Int32))), .unset]) (1 : Int32) at_179 rfl rfl rfl rfl ?_
      rw [show ((0 : Int32) + (1 : Int32)) = (1 : Int32) from by decide]
      refine w39.aload (q := 184) at_182 rfl rfl rfl ?_
      refine w39.iload (q := 186) at_184 rfl rfl ?_
      refine w39.iload (q := 188) at_186 rfl rfl ?_
      refine w39.castore (q := 189) 1 at_188 A39 ge ⟨by decide, by decide⟩ rfl (Nat.le_of_ble_eq_true rfl) rfl fun T40 h40 w40 K40 A40 => ?_
      have sz40 : h39.size ≤ h40.size := K40.1
      replace A40 : Arv G.Z h40 b38 kc38 .char (11 : Int32) [.int (91 : Int32), .int c6, .int (0 : Int32), .int (0 : Int32), .int (0 : Int32), .int (0 : Int32), .int (0 : Int32), .int (0 : Int32), .int (0 : Int32), .int (0 : Int32), .int (0 : Int32)] (.int (0 : Int32)) := by rw [N6] at A40; exact A40
      have xe40 := xkp xe39 K40 (all1 (by omega))
      refine w40.iinc (q := 192) (L2 := #[.val (.int x0), .val (.int x1), .val (.int x2), .val (.int x3), .val (.int x4), .val (.int (1 : Int32)), .val (.int c6), .val (.int c7), .val (.int c8), .val (.ref b34), .val (.int (Int32.ofNat m0)), .val (.int (1 : Int32)), .val (.ref b38), .val (.int ((1 : Int32) + (1 : Int32))), .unset]) (1 : Int32) at_189 rfl rfl rfl rfl ?_
      rw [show ((1 : Int32) + (1 : Int32)) = (2 : Int32) from by decide]
      refine w40.iload (q := 194) at_192 rfl rfl ?_
      refine w40.iconst (q := 195) (2 : Int32) at_194 rfl rfl ?_
      refine w40.icY (q := 208) at_195 ((tlt (by decide)).1) (by decide) (by decide) ?_
      refine w40.iload (q := 210) at_208 rfl rfl ?_
      refine w40.iconst (q := 211) (3 : Int32) at_210 rfl rfl ?_
      refine w40.icY (q := 224) at_211 ((tlt (by decide)).1) (by decide) (by decide) ?_
      refine w40.iload (q := 226) at_224 rfl rfl ?_
      refine w40.ifN (q := 229) at_226 ((if0 _ _).trans (feq (by decide)).1) rfl ?_
      refine w40.aload (q := 231) at_229 rfl rfl rfl ?_
      refine w40.iload (q := 233) at_231 rfl rfl ?_
      refine w40.bipush (q := 235) (93 : Int32) at_233 rfl rfl ?_
      refine w40.castore (q := 236) 2 at_235 A40 ge ⟨by decide, by decide⟩ rfl (Nat.le_of_ble_eq_true rfl) rfl fun T41 h41 w41 K41 A41 => ?_
      have sz41 : h40.size ≤ h41.size := K41.1
      replace A41 : Arv G.Z h41 b38 kc38 .char (11 : Int32) [.int (91 : Int32), .int c6, .int (93 : Int32), .int (0 : Int32), .int (0 : Int32), .int (0 : Int32), .int (0 : Int32), .int (0 : Int32), .int (0 : Int32), .int (0 : Int32), .int (0 : Int32)] (.int (0 : Int32)) := by rw [show nar .char (93 : Int32) = 93 from by decide] at A41; exact A41
      have xe41 := xkp xe40 K41 (all1 (by omega))
      refine w41.iinc (q := 239) (L2 := #[.val (.int x0), .val (.int x1), .val (.int x2), .val (.int x3), .val (.int x4), .val (.int (1 : Int32)), .val (.int c6), .val (.int c7), .val (.int c8), .val (.ref b34), .val (.int (Int32.ofNat m0)), .val (.int (1 : Int32)), .val (.ref b38), .val (.int ((2 : Int32) + (1 : Int32))), .unset]) (1 : Int32) at_236 rfl rfl rfl rfl ?_
      rw [show ((2 : Int32) + (1 : Int32)) = (3 : Int32) from by decide]
      refine w41.aload (q := 241) at_239 rfl rfl rfl ?_
      refine w41.iload (q := 243) at_241 rfl rfl ?_
      refine w41.bipush (q := 245) (58 : Int32) at_243 rfl rfl ?_
      refine w41.castore (q := 246) 3 at_245 A41 ge ⟨by decide, by decide⟩ rfl (Nat.le_of_ble_eq_true rfl) rfl fun T42 h42 w42 K42 A42 => ?_
      have sz42 : h41.size ≤ h42.size := K42.1
      replace A42 : Arv G.Z h42 b38 kc38 .char (11 : Int32) [.int (91 : Int32), .int c6, .int (93 : Int32), .int (58 : Int32), .int (0 : Int32), .int (0 : Int32), .int (0 : Int32), .int (0 : Int32), .int (0 : Int32), .int (0 : Int32), .int (0 : Int32)] (.int (0 : Int32)) := by rw [show nar .char (58 : Int32) = 58 from by decide] at A42; exact A42
      have xe42 := xkp xe41 K42 (all1 (by omega))
      refine w42.iinc (q := 249) (L2 := #[.val (.int x0), .val (.int x1), .val (.int x2), .val (.int x3), .val (.int x4), .val (.int (1 : Int32)), .val (.int c6), .val (.int c7), .val (.int c8), .val (.ref b34), .val (.int (Int32.ofNat m0)), .val (.int (1 : Int32)), .val (.ref b38), .val (.int ((3 : Int32) + (1 : Int32))), .unset]) (1 : Int32) at_246 rfl rfl rfl rfl ?_
      rw [show ((3 : Int32) + (1 : Int32)) = (4 : Int32) from by decide]
      exact key249 _ _ b34 b38 kc38 [c6] [(91 : Int32), c6, (93 : Int32), (58 : Int32)] [.int (0 : Int32), .int (0 : Int32), .int (0 : Int32), .int (0 : Int32), .int (0 : Int32), .int (0 : Int32), .int (0 : Int32)] _ _ h37 _ (w42.mono (by decide) (by decide)) S37 xe42 (by omega) ge (Or.inl ⟨_, rfl⟩) A42 rfl (Nat.le_of_ble_eq_true rfl) (by unfold hp; rw [if_pos hin]; rfl)
    ·
      refine w37.icN (q := 125) at_122 ((feq f0).1) rfl ?_
      refine w37.iload (q := 127) at_125 rfl rfl ?_
      refine w37.iconst (q := 128) (2 : Int32) at_127 rfl rfl ?_
      refine w37.icY (q := 138) at_128 ((tlt (by decide)).1) (by decide) (by decide) ?_
      refine w37.iload (q := 140) at_138 rfl rfl ?_
      refine w37.iconst (q := 141) (3 : Int32) at_140 rfl rfl ?_
      refine w37.icY (q := 155) at_141 ((tlt (by decide)).1) (by decide) (by decide) ?_
      refine w37.iconst (q := 156) (0 : Int32) at_155 rfl rfl ?_
      refine w37.istore (q := 158) (L2 := #[.val (.int x0), .val (.int x1), .val (.int x2), .val (.int x3), .val (.int x4), .val (.int (1 : Int32)), .val (.int c6), .val (.int c7), .val (.int c8), .val (.ref b34), .val (.int (Int32.ofNat m0)), .val (.int (0 : Int32)), .unset, .unset, .unset]) at_156 rfl rfl ?_
      refine w37.bipush (q := 160) (11 : Int32) at_158 rfl rfl ?_
      have hin : ¬ (58 : Int32) ∈ [c6] := by intro q; simp only [List.mem_cons, List.not_mem_nil, or_false] at q; exact f0 q.symm
      refine w37.newP (q := 162) 11 at_160 (H.tw 7 rfl) (by decide) (by decide) (by decide) (by decide) (by decide) rfl fun T43 h43 b43 kc43 e43 w43 E43 A43 => ?_
      replace A43 : Arv G.Z h43 b43 kc43 .char (11 : Int32) [(.int (0 : Int32)), (.int (0 : Int32)), (.int (0 : Int32)), (.int (0 : Int32)), (.int (0 : Int32)), (.int (0 : Int32)), (.int (0 : Int32)), (.int (0 : Int32)), (.int (0 : Int32)), (.int (0 : Int32)), (.int (0 : Int32))] (.int (0 : Int32)) := A43.pad (pad_rep [] (.int (0 : Int32)) 11)
      have lt43 : b43 < h43.size := A43.lt
      have sz43 : h37.size ≤ h43.size := E43.1
      have ge : G.n0 ≤ b43 := by omega
      refine w43.astore (q := 164) (L2 := #[.val (.int x0), .val (.int x1), .val (.int x2), .val (.int x3), .val (.int x4), .val (.int (1 : Int32)), .val (.int c6), .val (.int c7), .val (.int c8), .val (.ref b34), .val (.int (Int32.ofNat m0)), .val (.int (0 : Int32)), .val (.ref b43), .unset, .unset]) at_162 rfl rfl rfl ?_
      refine w43.iconst (q := 165) (0 : Int32) at_164 rfl rfl ?_
      refine w43.istore (q := 167) (L2 := #[.val (.int x0), .val (.int x1), .val (.int x2), .val (.int x3), .val (.int x4), .val (.int (1 : Int32)), .val (.int c6), .val (.int c7), .val (.int c8), .val (.ref b34), .val (.int (Int32.ofNat m0)), .val (.int (0 : Int32)), .val (.ref b43), .val (.int (0 : Int32)), .unset]) at_165 rfl rfl ?_
      refine w43.iload (q := 169) at_167 rfl rfl ?_
      refine w43.ifY (q := 182) at_169 ((if0 _ _).trans (teq rfl).1) (by decide) (by decide) ?_
      refine w43.aload (q := 184) at_182 rfl rfl rfl ?_
      refine w43.iload (q := 186) at_184 rfl rfl ?_
      refine w43.iload (q := 188) at_186 rfl rfl ?_
      refine w43.castore (q := 189) 0 at_188 A43 ge ⟨by decide, by decide⟩ rfl (Nat.le_of_ble_eq_true rfl) rfl fun T44 h44 w44 K44 A44 => ?_
      have sz44 : h43.size ≤ h44.size := K44.1
      replace A44 : Arv G.Z h44 b43 kc43 .char (11 : Int32) [.int c6, .int (0 : Int32), .int (0 : Int32), .int (0 : Int32), .int (0 : Int32), .int (0 : Int32), .int (0 : Int32), .int (0 : Int32), .int (0 : Int32), .int (0 : Int32), .int (0 : Int32)] (.int (0 : Int32)) := by rw [N6] at A44; exact A44
      have xe44 := xkp E43 K44 (all1 (by omega))
      refine w44.iinc (q := 192) (L2 := #[.val (.int x0), .val (.int x1), .val (.int x2), .val (.int x3), .val (.int x4), .val (.int (1 : Int32)), .val (.int c6), .val (.int c7), .val (.int c8), .val (.ref b34), .val (.int (Int32.ofNat m0)), .val (.int (0 : Int32)), .val (.ref b43), .val (.int ((0 : Int32) + (1 : Int32))), .unset]) (1 : Int32) at_189 rfl rfl rfl rfl ?_
      rw [show ((0 : Int32) + (1 : Int32)) = (1 : Int32) from by decide]
      refine w44.iload (q := 194) at_192 rfl rfl ?_
      refine w44.iconst (q := 195) (2 : Int32) at_194 rfl rfl ?_
      refine w44.icY (q := 208) at_195 ((tlt (by decide)).1) (by decide) (by decide) ?_
      refine w44.iload (q := 210) at_208 rfl rfl ?_
      refine w44.iconst (q := 211) (3 : Int32) at_210 rfl rfl ?_
      refine w44.icY (q := 224) at_211 ((tlt (by decide)).1) (by decide) (by decide) ?_
      refine w44.iload (q := 226) at_224 rfl rfl ?_
      refine w44.ifY (q := 239) at_226 ((if0 _ _).trans (teq rfl).1) (by decide) (by decide) ?_
      refine w44.aload (q := 241) at_239 rfl rfl rfl ?_
      refine w44.iload (q := 243) at_241 rfl rfl ?_
      refine w44.bipush (q := 245) (58 : Int32) at_243 rfl rfl ?_
      refine w44.castore (q := 246) 1 at_245 A44 ge ⟨by decide, by decide⟩ rfl (Nat.le_of_ble_eq_true rfl) rfl fun T45 h45 w45 K45 A45 => ?_
      have sz45 : h44.size ≤ h45.size := K45.1
      replace A45 : Arv G.Z h45 b43 kc43 .char (11 : Int32) [.int c6, .int (58 : Int32), .int (0 : Int32), .int (0 : Int32), .int (0 : Int32), .int (0 : Int32), .int (0 : Int32), .int (0 : Int32), .int (0 : Int32), .int (0 : Int32), .int (0 : Int32)] (.int (0 : Int32)) := by rw [show nar .char (58 : Int32) = 58 from by decide] at A45; exact A45
      have xe45 := xkp xe44 K45 (all1 (by omega))
      refine w45.iinc (q := 249) (L2 := #[.val (.int x0), .val (.int x1), .val (.int x2), .val (.int x3), .val (.int x4), .val (.int (1 : Int32)), .val (.int c6), .val (.int c7), .val (.int c8), .val (.ref b34), .val (.int (Int32.ofNat m0)), .val (.int (0 : Int32)), .val (.ref b43), .val (.int ((1 : Int32) + (1 : Int32))), .unset]) (1 : Int32) at_246 rfl rfl rfl rfl ?_
      rw [show ((1 : Int32) + (1 : Int32)) = (2 : Int32) from by decide]
      exact key249 _ _ b34 b43 kc43 [c6] [c6, (58 : Int32)] [.int (0 : Int32), .int (0 : Int32), .int (0 : Int32), .int (0 : Int32), .int (0 : Int32), .int (0 : Int32), .int (0 : Int32), .int (0 : Int32), .int (0 : Int32)] _ _ h37 _ (w45.mono (by decide) (by decide)) S37 xe45 (by omega) ge (Or.inl ⟨_, rfl⟩) A45 rfl (Nat.le_of_ble_eq_true rfl) (by unfold hp; rw [if_neg hin]; rfl)
  ·
    refine w3.iload (q := 29) at_27 rfl rfl ?_
    refine w3.iconst (q := 30) (1 : Int32) at_29 rfl rfl ?_
    refine w3.icY (q := 53) at_30 ((feq (by decide)).2) (by decide) (by decide) ?_
    refine w3.iload (q := 55) at_53 rfl rfl ?_
    refine w3.iconst (q := 56) (2 : Int32) at_55 rfl rfl ?_
    refine w3.icN (q := 59) at_56 ((teq rfl).2) rfl ?_
    refine w3.newO (q := 62) at_59 (H.tw 4 rfl) (H.tw 5 rfl) (H.tw 6 rfl) (by decide) (by decide) rfl fun T46 h46 b46 e46 w46 E46 A46 D46 U46 => ?_
    have lt46 : b46 < h46.size := A46.lt
    have sz46 : h.size ≤ h46.size := E46.1
    have F46_value : Fld G.Z h46 b46 "java/lang/String" "value" "[B" .null := D46 (Or.inr (H.tw 33 rfl)) (ty := (.array .byte)) (by decide)
    have F46_coder : Fld G.Z h46 b46 "java/lang/String" "coder" "B" (.int (0 : Int32)) := D46 (Or.inr (H.tw 31 rfl)) (ty := .byte) (by decide)
    have g46 : G.n0 ≤ b46 := by have := ho.2.1; have := ho.1; omega
    refine w46.dup (q := 63) at_62 rfl rfl ?_
    refine w46.iconst (q := 64) (2 : Int32) at_63 rfl rfl ?_
    refine w46.newP (q := 66) 2 at_64 (H.tw 7 rfl) (by decide) (by decide) (by decide) (by decide) (by decide) rfl fun T47 h47 b47 kc47 e47 w47 E47 A47 => ?_
    replace A47 : Arv G.Z h47 b47 kc47 .char (2 : Int32) [(.int (0 : Int32)), (.int (0 : Int32))] (.int (0 : Int32)) := A47.pad (pad_rep [] (.int (0 : Int32)) 2)
    have lt47 : b47 < h47.size := A47.lt
    have sz47 : h46.size ≤ h47.size := E47.1
    have g47 : G.n0 ≤ b47 := by have := ho.2.1; have := ho.1; omega
    replace A46 := A46.ext E47
    replace F46_value := F46_value.ext E47
    replace F46_coder := F46_coder.ext E47
    refine w47.dup (q := 67) at_66 rfl rfl ?_
    refine w47.iconst (q := 68) (0 : Int32) at_67 rfl rfl ?_
    refine w47.iload (q := 70) at_68 rfl rfl ?_
    refine w47.castore (q := 71) 0 at_70 A47 g47 ⟨by decide, by decide⟩ rfl (Nat.le_of_ble_eq_true rfl) rfl fun T48 h48 w48 K48 A48 => ?_
    have sz48 : h47.size ≤ h48.size := K48.1
    replace A46 := A46.keep K48
    replace F46_value := F46_value.keep K48 (nin1 (by omega))
    replace F46_coder := F46_coder.keep K48 (nin1 (by omega))
    refine w48.dup (q := 72) at_71 rfl rfl ?_
    refine w48.iconst (q := 73) (1 : Int32) at_72 rfl rfl ?_
    refine w48.iload (q := 75) at_73 rfl rfl ?_
    refine w48.castore (q := 76) 1 at_75 A48 g47 ⟨by decide, by decide⟩ rfl (Nat.le_of_ble_eq_true rfl) rfl fun T49 h49 w49 K49 A49 => ?_
    have sz49 : h48.size ≤ h49.size := K49.1
    replace A46 := A46.keep K49
    replace F46_value := F46_value.keep K49 (nin1 (by omega))
    replace F46_coder := F46_coder.keep K49 (nin1 (by omega))
    refine w49.callC (q := 79) at_76 rfl (H.tw 8 rfl) (H.tw 9 rfl) (H.tw 10 rfl) (by decide) (a := b46) (argsL := [(.ref b47)]) (rest := [(.ref b46)]) rfl (lenOf pd72 rfl) rfl (W := 1) (Nat.le_of_eq rfl) (pay_newStr w49 H.ws (H.tw 5 rfl) H.cz (nn := 2) (cs := [nar .char c6, nar .char c7]) g46 A46 F46_value F46_coder A49 rfl rfl (by decide) (by decide) (latS (show Lat _ from by rw [N6]; exact L6) (latS (show Lat _ from by rw [N7]; exact L7) lat0)) (by decide) (by decide)) (by decide) (by decide) rfl fun vm50 T50 h50 v50 w50 q50 => ?_
    obtain ⟨rfl, K50, S50⟩ := q50
    show Go _ _ _ _ (T50.setTop (mkF X.m 79 #[.val (.int x0), .val (.int x1), .val (.int x2), .val (.int x3), .val (.int x4), .val (.int (2 : Int32)), .val (.int c6), .val (.int c7), .val (.int c8), .unset, .unset, .unset, .unset, .unset, .unset] [(.ref b46)]))
    have sz50 : h49.size ≤ h50.size := K50.1
    have X50 : Ext h h50 := xkp (xkp (xkp (xtr E46 E47) K48 (all1 (by omega))) K49 (all1 (by omega))) K50 (all1 (by omega))
    rw [N6, N7] at S50
    have szS := X50.1
    refine w50.astore (q := 81) (L2 := #[.val (.int x0), .val (.int x1), .val (.int x2), .val (.int x3), .val (.int x4), .val (.int (2 : Int32)), .val (.int c6), .val (.int c7), .val (.int c8), .val (.ref b46), .unset, .unset, .unset, .unset, .unset]) at_79 rfl rfl rfl ?_
    refine w50.goto (q := 111) at_81 (by decide) (by decide) ?_
    refine w50.iload (q := 113) at_111 rfl rfl ?_
    refine w50.ldcI (q := 115) at_113 (H.tw 34 rfl) rfl ?_
    refine w50.iand (q := 116) at_115 rfl ?_
    rw [show (x4 &&& (65535 : Int32)) = (Int32.ofNat m0) from em]
    refine w50.istore (q := 118) (L2 := #[.val (.int x0), .val (.int x1), .val (.int x2), .val (.int x3), .val (.int x4), .val (.int (2 : Int32)), .val (.int c6), .val (.int c7), .val (.int c8), .val (.ref b46), .val (.int (Int32.ofNat m0)), .unset, .unset, .unset, .unset]) at_116 rfl rfl ?_
    refine w50.iload (q := 120) at_118 rfl rfl ?_
    refine w50.bipush (q := 122) (58 : Int32) at_120 rfl rfl ?_
    by_cases f0 : c6 = (58 : Int32)
    ·
      refine w50.icY (q := 151) at_122 ((teq f0).1) (by decide) (by decide) ?_
      have hin : (58 : Int32) ∈ [c6, c7] := by simp [f0]
      refine w50.iconst (q := 152) (1 : Int32) at_151 rfl rfl ?_
      refine w50.goto (q := 156) at_152 (by decide) (by decide) ?_
      refine w50.istore (q := 158) (L2 := #[.val (.int x0), .val (.int x1), .val (.int x2), .val (.int x3), .val (.int x4), .val (.int (2 : Int32)), .val (.int c6), .val (.int c7), .val (.int c8), .val (.ref b46), .val (.int (Int32.ofNat m0)), .val (.int (1 : Int32)), .unset, .unset, .unset]) at_156 rfl rfl ?_
      refine w50.bipush (q := 160) (11 : Int32) at_158 rfl rfl ?_
      refine w50.newP (q := 162) 11 at_160 (H.tw 7 rfl) (by decide) (by decide) (by decide) (by decide) (by decide) rfl fun T51 h51 b51 kc51 e51 w51 E51 A51 => ?_
      replace A51 : Arv G.Z h51 b51 kc51 .char (11 : Int32) [(.int (0 : Int32)), (.int (0 : Int32)), (.int (0 : Int32)), (.int (0 : Int32)), (.int (0 : Int32)), (.int (0 : Int32)), (.int (0 : Int32)), (.int (0 : Int32)), (.int (0 : Int32)), (.int (0 : Int32)), (.int (0 : Int32))] (.int (0 : Int32)) := A51.pad (pad_rep [] (.int (0 : Int32)) 11)
      have lt51 : b51 < h51.size := A51.lt
      have sz51 : h50.size ≤ h51.size := E51.1
      have ge : G.n0 ≤ b51 := by omega
      refine w51.astore (q := 164) (L2 := #[.val (.int x0), .val (.int x1), .val (.int x2), .val (.int x3), .val (.int x4), .val (.int (2 : Int32)), .val (.int c6), .val (.int c7), .val (.int c8), .val (.ref b46), .val (.int (Int32.ofNat m0)), .val (.int (1 : Int32)), .val (.ref b51), .unset, .unset]) at_162 rfl rfl rfl ?_
      refine w51.iconst (q := 165) (0 : Int32) at_164 rfl rfl ?_
      refine w51.istore (q := 167) (L2 := #[.val (.int x0), .val (.int x1), .val (.int x2), .val (.int x3), .val (.int x4), .val (.int (2 : Int32)), .val (.int c6), .val (.int c7), .val (.int c8), .val (.ref b46), .val (.int (Int32.ofNat m0)), .val (.int (1 : Int32)), .val (.ref b51), .val (.int (0 : Int32)), .unset]) at_165 rfl rfl ?_
      refine w51.iload (q := 169) at_167 rfl rfl ?_
      refine w51.ifN (q := 172) at_169 ((if0 _ _).trans (feq (by decide)).1) rfl ?_
      refine w51.aload (q := 174) at_172 rfl rfl rfl ?_
      refine w51.iload (q := 176) at_174 rfl rfl ?_
      refine w51.bipush (q := 178) (91 : Int32) at_176 rfl rfl ?_
      refine w51.castore (q := 179) 0 at_178 A51 ge ⟨by decide, by decide⟩ rfl (Nat.le_of_ble_eq_true rfl) rfl fun T52 h52 w52 K52 A52 => ?_
      have sz52 : h51.size ≤ h52.size := K52.1
      replace A52 : Arv G.Z h52 b51 kc51 .char (11 : Int32) [.int (91 : Int32), .int (0 : Int32), .int (0 : Int32), .int (0 : Int32), .int (0 : Int32), .int (0 : Int32), .int (0 : Int32), .int (0 : Int32), .int (0 : Int32), .int (0 : Int32), .int (0 : Int32)] (.int (0 : Int32)) := by rw [show nar .char (91 : Int32) = 91 from by decide] at A52; exact A52
      have xe52 := xkp E51 K52 (all1 (by omega))
      refine w52.iinc (q := 182) (L2 := #[.val (.int x0), .val (.int x1), .val (.int x2), .val (.int x3), .val (.int x4), .val (.int (2 : Int32)), .val (.int c6), .val (.int c7), .val (.int c8), .val (.ref b46), .val (.int (Int32.ofNat m0)), .val (.int (1 : Int32)), .val (.ref b51), .val (.int ((0 : Int32) + (1 : Int32))), .unset]) (1 : Int32) at_179 rfl rfl rfl rfl ?_
      rw [show ((0 : Int32) + (1 : Int32)) = (1 : Int32) from by decide]
      refine w52.aload (q := 184) at_182 rfl rfl rfl ?_
      refine w52.iload (q := 186) at_184 rfl rfl ?_
      refine w52.iload (q := 188) at_186 rfl rfl ?_
      refine w52.castore (q := 189) 1 at_188 A52 ge ⟨by decide, by decide⟩ rfl (Nat.le_of_ble_eq_true rfl) rfl fun T53 h53 w53 K53 A53 => ?_
      have sz53 : h52.size ≤ h53.size := K53.1
      replace A53 : Arv G.Z h53 b51 kc51 .char (11 : Int32) [.int (91 : Int32), .int c6, .int (0 : Int32), .int (0 : Int32), .int (0 : Int32), .int (0 : Int32), .int (0 : Int32), .int (0 : Int32), .int (0 : Int32), .int (0 : Int32), .int (0 : Int32)] (.int (0 : Int32)) := by rw [N6] at A53; exact A53
      have xe53 := xkp xe52 K53 (all1 (by omega))
      refine w53.iinc (q := 192) (L2 := #[.val (.int x0), .val (.int x1), .val (.int x2), .val (.int x3), .val (.int x4), .val (.int (2 : Int32)), .val (.int c6), .val (.int c7), .val (.int c8), .val (.ref b46), .val (.int (Int32.ofNat m0)), .val (.int (1 : Int32)), .val (.ref b51), .val (.int ((1 : Int32) + (1 : Int32))), .unset]) (1 : Int32) at_189 rfl rfl rfl rfl ?_
      rw [show ((1 : Int32) + (1 : Int32)) = (2 : Int32) from by decide]
      refine w53.iload (q := 194) at_192 rfl rfl ?_
      refine w53.iconst (q := 195) (2 : Int32) at_194 rfl rfl ?_
      refine w53.icN (q := 198) at_195 ((flt (by decide)).1) rfl ?_
      refine w53.aload (q := 200) at_198 rfl rfl rfl ?_
      refine w53.iload (q := 202) at_200 rfl rfl ?_
      refine w53.iload (q := 204) at_202 rfl rfl ?_
      refine w53.castore (q := 205) 2 at_204 A53 ge ⟨by decide, by decide⟩ rfl (Nat.le_of_ble_eq_true rfl) rfl fun T54 h54 w54 K54 A54 => ?_
      have sz54 : h53.size ≤ h54.size := K54.1
      replace A54 : Arv G.Z h54 b51 kc51 .char (11 : Int32) [.int (91 : Int32), .int c6, .int c7, .int (0 : Int32), .int (0 : Int32), .int (0 : Int32), .int (0 : Int32), .int (0 : Int32), .int (0 : Int32), .int (0 : Int32), .int (0 : Int32)] (.int (0 : Int32)) := by rw [N7] at A54; exact A54
      have xe54 := xkp xe53 K54 (all1 (by omega))
      refine w54.iinc (q := 208) (L2 := #[.val (.int x0), .val (.int x1), .val (.int x2), .val (.int x3), .val (.int x4), .val (.int (2 : Int32)), .val (.int c6), .val (.int c7), .val (.int c8), .val (.ref b46), .val (.int (Int32.ofNat m0)), .val (.int (1 : Int32)), .val (.ref b51), .val (.int ((2 : Int32) + (1 : Int32))), .unset]) (1 : Int32) at_205 rfl rfl rfl rfl ?_
      rw [show ((2 : Int32) + (1 : Int32)) = (3 : Int32) from by decide]
      refine w54.iload (q := 210) at_208 rfl rfl ?_
      refine w54.iconst (q := 211) (3 : Int32) at_210 rfl rfl ?_
      refine w54.icY (q := 224) at_211 ((tlt (by decide)).1) (by decide) (by decide) ?_
      refine w54.iload (q := 226) at_224 rfl rfl ?_
      refine w54.ifN (q := 229) at_226 ((if0 _ _).trans (feq (by decide)).1) rfl ?_
      refine w54.aload (q := 231) at_229 rfl rfl rfl ?_
      refine w54.iload (q := 233) at_231 rfl rfl ?_
      refine w54.bipush (q := 235) (93 : Int32) at_233 rfl rfl ?_
      refine w54.castore (q := 236) 3 at_235 A54 ge ⟨by decide, by decide⟩ rfl (Nat.le_of_ble_eq_true rfl) rfl fun T55 h55 w55 K55 A55 => ?_
      have sz55 : h54.size ≤ h55.size := K55.1
      replace A55 : Arv G.Z h55 b51 kc51 .char (11 : Int32) [.int (91 : Int32), .int c6, .int c7, .int (93 : Int32), .int (0 : Int32), .int (0 : Int32), .int (0 : Int32), .int (0 : Int32), .int (0 : Int32), .int (0 : Int32), .int (0 : Int32)] (.int (0 : Int32)) := by rw [show nar .char (93 : Int32) = 93 from by decide] at A55; exact A55
      have xe55 := xkp xe54 K55 (all1 (by omega))
      refine w55.iinc (q := 239) (L2 := #[.val (.int x0), .val (.int x1), .val (.int x2), .val (.int x3), .val (.int x4), .val (.int (2 : Int32)), .val (.int c6), .val (.int c7), .val (.int c8), .val (.ref b46), .val (.int (Int32.ofNat m0)), .val (.int (1 : Int32)), .val (.ref b51), .val (.int ((3 : Int32) + (1 : Int32))), .unset]) (1 : Int32) at_236 rfl rfl rfl rfl ?_
      rw [show ((3 : Int32) + (1 : Int32)) = (4 : Int32) from by decide]
      refine w55.aload (q := 241) at_239 rfl rfl rfl ?_
      refine w55.iload (q := 243) at_241 rfl rfl ?_
      refine w55.bipush (q := 245) (58 : Int32) at_243 rfl rfl ?_
      refine w55.castore (q := 246) 4 at_245 A55 ge ⟨by decide, by decide⟩ rfl (Nat.le_of_ble_eq_true rfl) rfl fun T56 h56 w56 K56 A56 => ?_
      have sz56 : h55.size ≤ h56.size := K56.1
      replace A56 : Arv G.Z h56 b51 kc51 .char (11 : Int32) [.int (91 : Int32), .int c6, .int c7, .int (93 : Int32), .int (58 : Int32), .int (0 : Int32), .int (0 : Int32), .int (0 : Int32), .int (0 : Int32), .int (0 : Int32), .int (0 : Int32)] (.int (0 : Int32)) := by rw [show nar .char (58 : Int32) = 58 from by decide] at A56; exact A56
      have xe56 := xkp xe55 K56 (all1 (by omega))
      refine w56.iinc (q := 249) (L2 := #[.val (.int x0), .val (.int x1), .val (.int x2), .val (.int x3), .val (.int x4), .val (.int (2 : Int32)), .val (.int c6), .val (.int c7), .val (.int c8), .val (.ref b46), .val (.int (Int32.ofNat m0)), .val (.int (1 : Int32)), .val (.ref b51), .val (.int ((4 : Int32) + (1 : Int32))), .unset]) (1 : Int32) at_246 rfl rfl rfl rfl ?_
      rw [show ((4 : Int32) + (1 : Int32)) = (5 : Int32) from by decide]
      exact key249 _ _ b46 b51 kc51 [c6, c7] [(91 : Int32), c6, c7, (93 : Int32), (58 : Int32)] [.int (0 : Int32), .int (0 : Int32), .int (0 : Int32), .int (0 : Int32), .int (0 : Int32), .int (0 : Int32)] _ _ h50 _ (w56.mono (by decide) (by decide)) S50 xe56 (by omega) ge (Or.inr (Or.inl ⟨_, _, rfl⟩)) A56 rfl (Nat.le_of_ble_eq_true rfl) (by unfold hp; rw [if_pos hin]; rfl)
    ·
      refine w50.icN (q := 125) at_122 ((feq f0).1) rfl ?_
      refine w50.iload (q := 127) at_125 rfl rfl ?_
      refine w50.iconst (q := 128) (2 : Int32) at_127 rfl rfl ?_
      refine w50.icN (q := 131) at_128 ((flt (by decide)).1) rfl ?_
      refine w50.iload (q := 133) at_131 rfl rfl ?_
      refine w50.bipush (q := 135) (58 : Int32) at_133 rfl rfl ?_
      by_cases f1 : c7 = (58 : Int32)
      ·
        refine w50.icY (q := 151) at_135 ((teq f1).1) (by decide) (by decide) ?_
        have hin : (58 : Int32) ∈ [c6, c7] := by simp [f1]
        refine w50.iconst (q := 152) (1 : Int32) at_151 rfl rfl ?_
        refine w50.goto (q := 156) at_152 (by decide) (by decide) ?_
        refine w50.istore (q := 158) (L2 := #[.val (.int x0), .val (.int x1), .val (.int x2), .val (.int x3), .val (.int x4), .val (.int (2 : Int32)), .val (.int c6), .val (.int c7), .val (.int c8), .val (.ref b46), .val (.int (Int32.ofNat m0)), .val (.int (1 : Int32)), .unset, .unset, .unset]) at_156 rfl rfl ?_
        refine w50.bipush (q := 160) (11 : Int32) at_158 rfl rfl ?_
        refine w50.newP (q := 162) 11 at_160 (H.tw 7 rfl) (by decide) (by decide) (by decide) (by decide) (by decide) rfl fun T57 h57 b57 kc57 e57 w57 E57 A57 => ?_
        replace A57 : Arv G.Z h57 b57 kc57 .char (11 : Int32) [(.int (0 : Int32)), (.int (0 : Int32)), (.int (0 : Int32)), (.int (0 : Int32)), (.int (0 : Int32)), (.int (0 : Int32)), (.int (0 : Int32)), (.int (0 : Int32)), (.int (0 : Int32)), (.int (0 : Int32)), (.int (0 : Int32))] (.int (0 : Int32)) := A57.pad (pad_rep [] (.int (0 : Int32)) 11)
        have lt57 : b57 < h57.size := A57.lt
        have sz57 : h50.size ≤ h57.size := E57.1
        have ge : G.n0 ≤ b57 := by omega
        refine w57.astore (q := 164) (L2 := #[.val (.int x0), .val (.int x1), .val (.int x2), .val (.int x3), .val (.int x4), .val (.int (2 : Int32)), .val (.int c6), .val (.int c7), .val (.int c8), .val (.ref b46), .val (.int (Int32.ofNat m0)), .val (.int (1 : Int32)), .val (.ref b57), .unset, .unset]) at_162 rfl rfl rfl ?_
        refine w57.iconst (q := 165) (0 : Int32) at_164 rfl rfl ?_
        refine w57.istore (q := 167) (L2 := #[.val (.int x0), .val (.int x1), .val (.int x2), .val (.int x3), .val (.int x4), .val (.int (2 : Int32)), .val (.int c6), .val (.int c7), .val (.int c8), .val (.ref b46), .val (.int (Int32.ofNat m0)), .val (.int (1 : Int32)), .val (.ref b57), .val (.int (0 : Int32)), .unset]) at_165 rfl rfl ?_
        refine w57.iload (q := 169) at_167 rfl rfl ?_
        refine w57.ifN (q := 172) at_169 ((if0 _ _).trans (feq (by decide)).1) rfl ?_
        refine w57.aload (q := 174) at_172 rfl rfl rfl ?_
        refine w57.iload (q := 176) at_174 rfl rfl ?_
        refine w57.bipush (q := 178) (91 : Int32) at_176 rfl rfl ?_
        refine w57.castore (q := 179) 0 at_178 A57 ge ⟨by decide, by decide⟩ rfl (Nat.le_of_ble_eq_true rfl) rfl fun T58 h58 w58 K58 A58 => ?_
        have sz58 : h57.size ≤ h58.size := K58.1
        replace A58 : Arv G.Z h58 b57 kc57 .char (11 : Int32) [.int (91 : Int32), .int (0 : Int32), .int (0 : Int32), .int (0 : Int32), .int (0 : Int32), .int (0 : Int32), .int (0 : Int32), .int (0 : Int32), .int (0 : Int32), .int (0 : Int32), .int (0 : Int32)] (.int (0 : Int32)) := by rw [show nar .char (91 : Int32) = 91 from by decide] at A58; exact A58
        have xe58 := xkp E57 K58 (all1 (by omega))
        refine w58.iinc (q := 182) (L2 := #[.val (.int x0), .val (.int x1), .val (.int x2), .val (.int x3), .val (.int x4), .val (.int (2 : Int32)), .val (.int c6), .val (.int c7), .val (.int c8), .val (.ref b46), .val (.int (Int32.ofNat m0)), .val (.int (1 : Int32)), .val (.ref b57), .val (.int ((0 : Int32) + (1 : Int32))), .unset]) (1 : Int32) at_179 rfl rfl rfl rfl ?_
        rw [show ((0 : Int32) + (1 : Int32)) = (1 : Int32) from by decide]
        refine w58.aload (q := 184) at_182 rfl rfl rfl ?_
        refine w58.iload (q := 186) at_184 rfl rfl ?_
        refine w58.iload (q := 188) at_186 rfl rfl ?_
        refine w58.castore (q := 189) 1 at_188 A58 ge ⟨by decide, by decide⟩ rfl (Nat.le_of_ble_eq_true rfl) rfl fun T59 h59 w59 K59 A59 => ?_
        have sz59 : h58.size ≤ h59.size := K59.1
        replace A59 : Arv G.Z h59 b57 kc57 .char (11 : Int32) [.int (91 : Int32), .int c6, .int (0 : Int32), .int (0 : Int32), .int (0 : Int32), .int (0 : Int32), .int (0 : Int32), .int (0 : Int32), .int (0 : Int32), .int (0 : Int32), .int (0 : Int32)] (.int (0 : Int32)) := by rw [N6] at A59; exact A59
        have xe59 := xkp xe58 K59 (all1 (by omega))
        refine w59.iinc (q := 192) (L2 := #[.val (.int x0), .val (.int x1), .val (.int x2), .val (.int x3), .val (.int x4), .val (.int (2 : Int32)), .val (.int c6), .val (.int c7), .val (.int c8), .val (.ref b46), .val (.int (Int32.ofNat m0)), .val (.int (1 : Int32)), .val (.ref b57), .val (.int ((1 : Int32) + (1 : Int32))), .unset]) (1 : Int32) at_189 rfl rfl rfl rfl ?_
        rw [show ((1 : Int32) + (1 : Int32)) = (2 : Int32) from by decide]
        refine w59.iload (q := 194) at_192 rfl rfl ?_
        refine w59.iconst (q := 195) (2 : Int32) at_194 rfl rfl ?_
        refine w59.icN (q := 198) at_195 ((flt (by decide)).1) rfl ?_
        refine w59.aload (q := 200) at_198 rfl rfl rfl ?_
        refine w59.iload (q := 202) at_200 rfl rfl ?_
        refine w59.iload (q := 204) at_202 rfl rfl ?_
        refine w59.castore (q := 205) 2 at_204 A59 ge ⟨by decide, by decide⟩ rfl (Nat.le_of_ble_eq_true rfl) rfl fun T60 h60 w60 K60 A60 => ?_
        have sz60 : h59.size ≤ h60.size := K60.1
        replace A60 : Arv G.Z h60 b57 kc57 .char (11 : Int32) [.int (91 : Int32), .int c6, .int c7, .int (0 : Int32), .int (0 : Int32), .int (0 : Int32), .int (0 : Int32), .int (0 : Int32), .int (0 : Int32), .int (0 : Int32), .int (0 : Int32)] (.int (0 : Int32)) := by rw [N7] at A60; exact A60
        have xe60 := xkp xe59 K60 (all1 (by omega))
        refine w60.iinc (q := 208) (L2 := #[.val (.int x0), .val (.int x1), .val (.int x2), .val (.int x3), .val (.int x4), .val (.int (2 : Int32)), .val (.int c6), .val (.int c7), .val (.int c8), .val (.ref b46), .val (.int (Int32.ofNat m0)), .val (.int (1 : Int32)), .val (.ref b57), .val (.int ((2 : Int32) + (1 : Int32))), .unset]) (1 : Int32) at_205 rfl rfl rfl rfl ?_
        rw [show ((2 : Int32) + (1 : Int32)) = (3 : Int32) from by decide]
        refine w60.iload (q := 210) at_208 rfl rfl ?_
        refine w60.iconst (q := 211) (3 : Int32) at_210 rfl rfl ?_
        refine w60.icY (q := 224) at_211 ((tlt (by decide)).1) (by decide) (by decide) ?_
        refine w60.iload (q := 226) at_224 rfl rfl ?_
        refine w60.ifN (q := 229) at_226 ((if0 _ _).trans (feq (by decide)).1) rfl ?_
        refine w60.aload (q := 231) at_229 rfl rfl rfl ?_
        refine w60.iload (q := 233) at_231 rfl rfl ?_
        refine w60.bipush (q := 235) (93 : Int32) at_233 rfl rfl ?_
        refine w60.castore (q := 236) 3 at_235 A60 ge ⟨by decide, by decide⟩ rfl (Nat.le_of_ble_eq_true rfl) rfl fun T61 h61 w61 K61 A61 => ?_
        have sz61 : h60.size ≤ h61.size := K61.1
        replace A61 : Arv G.Z h61 b57 kc57 .char (11 : Int32) [.int (91 : Int32), .int c6, .int c7, .int (93 : Int32), .int (0 : Int32), .int (0 : Int32), .int (0 : Int32), .int (0 : Int32), .int (0 : Int32), .int (0 : Int32), .int (0 : Int32)] (.int (0 : Int32)) := by rw [show nar .char (93 : Int32) = 93 from by decide] at A61; exact A61
        have xe61 := xkp xe60 K61 (all1 (by omega))
        refine w61.iinc (q := 239) (L2 := #[.val (.int x0), .val (.int x1), .val (.int x2), .val (.int x3), .val (.int x4), .val (.int (2 : Int32)), .val (.int c6), .val (.int c7), .val (.int c8), .val (.ref b46), .val (.int (Int32.ofNat m0)), .val (.int (1 : Int32)), .val (.ref b57), .val (.int ((3 : Int32) + (1 : Int32))), .unset]) (1 : Int32) at_236 rfl rfl rfl rfl ?_
        rw [show ((3 : Int32) + (1 : Int32)) = (4 : Int32) from by decide]
        refine w61.aload (q := 241) at_239 rfl rfl rfl ?_
        refine w61.iload (q := 243) at_241 rfl rfl ?_
        refine w61.bipush (q := 245) (58 : Int32) at_243 rfl rfl ?_
        refine w61.castore (q := 246) 4 at_245 A61 ge ⟨by decide, by decide⟩ rfl (Nat.le_of_ble_eq_true rfl) rfl fun T62 h62 w62 K62 A62 => ?_
        have sz62 : h61.size ≤ h62.size := K62.1
        replace A62 : Arv G.Z h62 b57 kc57 .char (11 : Int32) [.int (91 : Int32), .int c6, .int c7, .int (93 : Int32), .int (58 : Int32), .int (0 : Int32), .int (0 : Int32), .int (0 : Int32), .int (0 : Int32), .int (0 : Int32), .int (0 : Int32)] (.int (0 : Int32)) := by rw [show nar .char (58 : Int32) = 58 from by decide] at A62; exact A62
        have xe62 := xkp xe61 K62 (all1 (by omega))
        refine w62.iinc (q := 249) (L2 := #[.val (.int x0), .val (.int x1), .val (.int x2), .val (.int x3), .val (.int x4), .val (.int (2 : Int32)), .val (.int c6), .val (.int c7), .val (.int c8), .val (.ref b46), .val (.int (Int32.ofNat m0)), .val (.int (1 : Int32)), .val (.ref b57), .val (.int ((4 : Int32) + (1 : Int32))), .unset]) (1 : Int32) at_246 rfl rfl rfl rfl ?_
        rw [show ((4 : Int32) + (1 : Int32)) = (5 : Int32) from by decide]
        exact key249 _ _ b46 b57 kc57 [c6, c7] [(91 : Int32), c6, c7, (93 : Int32), (58 : Int32)] [.int (0 : Int32), .int (0 : Int32), .int (0 : Int32), .int (0 : Int32), .int (0 : Int32), .int (0 : Int32)] _ _ h50 _ (w62.mono (by decide) (by decide)) S50 xe62 (by omega) ge (Or.inr (Or.inl ⟨_, _, rfl⟩)) A62 rfl (Nat.le_of_ble_eq_true rfl) (by unfold hp; rw [if_pos hin]; rfl)
      ·
        refine w50.icN (q := 138) at_135 ((feq f1).1) rfl ?_
        refine w50.iload (q := 140) at_138 rfl rfl ?_
        refine w50.iconst (q := 141) (3 : Int32) at_140 rfl rfl ?_
        refine w50.icY (q := 155) at_141 ((tlt (by decide)).1) (by decide) (by decide) ?_
        refine w50.iconst (q := 156) (0 : Int32) at_155 rfl rfl ?_
        refine w50.istore (q := 158) (L2 := #[.val (.int x0), .val (.int x1), .val (.int x2), .val (.int x3), .val (.int x4), .val (.int (2 : Int32)), .val (.int c6), .val (.int c7), .val (.int c8), .val (.ref b46), .val (.int (Int32.ofNat m0)), .val (.int (0 : Int32)), .unset, .unset, .unset]) at_156 rfl rfl ?_
        refine w50.bipush (q := 160) (11 : Int32) at_158 rfl rfl ?_
        have hin : ¬ (58 : Int32) ∈ [c6, c7] := by intro q; simp only [List.mem_cons, List.not_mem_nil, or_false] at q; rcases q with q | q; exact f0 q.symm; exact f1 q.symm
        refine w50.newP (q := 162) 11 at_160 (H.tw 7 rfl) (by decide) (by decide) (by decide) (by decide) (by decide) rfl fun T63 h63 b63 kc63 e63 w63 E63 A63 => ?_
        replace A63 : Arv G.Z h63 b63 kc63 .char (11 : Int32) [(.int (0 : Int32)), (.int (0 : Int32)), (.int (0 : Int32)), (.int (0 : Int32)), (.int (0 : Int32)), (.int (0 : Int32)), (.int (0 : Int32)), (.int (0 : Int32)), (.int (0 : Int32)), (.int (0 : Int32)), (.int (0 : Int32))] (.int (0 : Int32)) := A63.pad (pad_rep [] (.int (0 : Int32)) 11)
        have lt63 : b63 < h63.size := A63.lt
        have sz63 : h50.size ≤ h63.size := E63.1
        have ge : G.n0 ≤ b63 := by omega
        refine w63.astore (q := 164) (L2 := #[.val (.int x0), .val (.int x1), .val (.int x2), .val (.int x3), .val (.int x4), .val (.int (2 : Int32)), .val (.int c6), .val (.int c7), .val (.int c8), .val (.ref b46), .val (.int (Int32.ofNat m0)), .val (.int (0 : Int32)), .val (.ref b63), .unset, .unset]) at_162 rfl rfl rfl ?_
        refine w63.iconst (q := 165) (0 : Int32) at_164 rfl rfl ?_
        refine w63.istore (q := 167) (L2 := #[.val (.int x0), .val (.int x1), .val (.int x2), .val (.int x3), .val (.int x4), .val (.int (2 : Int32)), .val (.int c6), .val (.int c7), .val (.int c8), .val (.ref b46), .val (.int (Int32.ofNat m0)), .val (.int (0 : Int32)), .val (.ref b63), .val (.int (0 : Int32)), .unset]) at_165 rfl rfl ?_
        refine w63.iload (q := 169) at_167 rfl rfl ?_
        refine w63.ifY (q := 182) at_169 ((if0 _ _).trans (teq rfl).1) (by decide) (by decide) ?_
        refine w63.aload (q := 184) at_182 rfl rfl rfl ?_
        refine w63.iload (q := 186) at_184 rfl rfl ?_
        refine w63.iload (q := 188) at_186 rfl rfl ?_
        refine w63.castore (q := 189) 0 at_188 A63 ge ⟨by decide, by decide⟩ rfl (Nat.le_of_ble_eq_true rfl) rfl fun T64 h64 w64 K64 A64 => ?_
        have sz64 : h63.size ≤ h64.size := K64.1
        replace A64 : Arv G.Z h64 b63 kc63 .char (11 : Int32) [.int c6, .int (0 : Int32), .int (0 : Int32), .int (0 : Int32), .int (0 : Int32), .int (0 : Int32), .int (0 : Int32), .int (0 : Int32), .int (0 : Int32), .int (0 : Int32), .int (0 : Int32)] (.int (0 : Int32)) := by rw [N6] at A64; exact A64
        have xe64 := xkp E63 K64 (all1 (by omega))
        refine w64.iinc (q := 192) (L2 := #[.val (.int x0), .val (.int x1), .val (.int x2), .val (.int x3), .val (.int x4), .val (.int (2 : Int32)), .val (.int c6), .val (.int c7), .val (.int c8), .val (.ref b46), .val (.int (Int32.ofNat m0)), .val (.int (0 : Int32)), .val (.ref b63), .val (.int ((0 : Int32) + (1 : Int32))), .unset]) (1 : Int32) at_189 rfl rfl rfl rfl ?_
        rw [show ((0 : Int32) + (1 : Int32)) = (1 : Int32) from by decide]
        refine w64.iload (q := 194) at_192 rfl rfl ?_
        refine w64.iconst (q := 195) (2 : Int32) at_194 rfl rfl ?_
        refine w64.icN (q := 198) at_195 ((flt (by decide)).1) rfl ?_
        refine w64.aload (q := 200) at_198 rfl rfl rfl ?_
        refine w64.iload (q := 202) at_200 rfl rfl ?_
        refine w64.iload (q := 204) at_202 rfl rfl ?_
        refine w64.castore (q := 205) 1 at_204 A64 ge ⟨by decide, by decide⟩ rfl (Nat.le_of_ble_eq_true rfl) rfl fun T65 h65 w65 K65 A65 => ?_
        have sz65 : h64.size ≤ h65.size := K65.1
        replace A65 : Arv G.Z h65 b63 kc63 .char (11 : Int32) [.int c6, .int c7, .int (0 : Int32), .int (0 : Int32), .int (0 : Int32), .int (0 : Int32), .int (0 : Int32), .int (0 : Int32), .int (0 : Int32), .int (0 : Int32), .int (0 : Int32)] (.int (0 : Int32)) := by rw [N7] at A65; exact A65
        have xe65 := xkp xe64 K65 (all1 (by omega))
        refine w65.iinc (q := 208) (L2 := #[.val (.int x0), .val (.int x1), .val (.int x2), .val (.int x3), .val (.int x4), .val (.int (2 : Int32)), .val (.int c6), .val (.int c7), .val (.int c8), .val (.ref b46), .val (.int (Int32.ofNat m0)), .val (.int (0 : Int32)), .val (.ref b63), .val (.int ((1 : Int32) + (1 : Int32))), .unset]) (1 : Int32) at_205 rfl rfl rfl rfl ?_
        rw [show ((1 : Int32) + (1 : Int32)) = (2 : Int32) from by decide]
        refine w65.iload (q := 210) at_208 rfl rfl ?_
        refine w65.iconst (q := 211) (3 : Int32) at_210 rfl rfl ?_
        refine w65.icY (q := 224) at_211 ((tlt (by decide)).1) (by decide) (by decide) ?_
        refine w65.iload (q := 226) at_224 rfl rfl ?_
        refine w65.ifY (q := 239) at_226 ((if0 _ _).trans (teq rfl).1) (by decide) (by decide) ?_
        refine w65.aload (q := 241) at_239 rfl rfl rfl ?_
        refine w65.iload (q := 243) at_241 rfl rfl ?_
        refine w65.bipush (q := 245) (58 : Int32) at_243 rfl rfl ?_
        refine w65.castore (q := 246) 2 at_245 A65 ge ⟨by decide, by decide⟩ rfl (Nat.le_of_ble_eq_true rfl) rfl fun T66 h66 w66 K66 A66 => ?_
        have sz66 : h65.size ≤ h66.size := K66.1
        replace A66 : Arv G.Z h66 b63 kc63 .char (11 : Int32) [.int c6, .int c7, .int (58 : Int32), .int (0 : Int32), .int (0 : Int32), .int (0 : Int32), .int (0 : Int32), .int (0 : Int32), .int (0 : Int32), .int (0 : Int32), .int (0 : Int32)] (.int (0 : Int32)) := by rw [show nar .char (58 : Int32) = 58 from by decide] at A66; exact A66
        have xe66 := xkp xe65 K66 (all1 (by omega))
        refine w66.iinc (q := 249) (L2 := #[.val (.int x0), .val (.int x1), .val (.int x2), .val (.int x3), .val (.int x4), .val (.int (2 : Int32)), .val (.int c6), .val (.int c7), .val (.int c8), .val (.ref b46), .val (.int (Int32.ofNat m0)), .val (.int (0 : Int32)), .val (.ref b63), .val (.int ((2 : Int32) + (1 : Int32))), .unset]) (1 : Int32) at_246 rfl rfl rfl rfl ?_
        rw [show ((2 : Int32) + (1 : Int32)) = (3 : Int32) from by decide]
        exact key249 _ _ b46 b63 kc63 [c6, c7] [c6, c7, (58 : Int32)] [.int (0 : Int32), .int (0 : Int32), .int (0 : Int32), .int (0 : Int32), .int (0 : Int32), .int (0 : Int32), .int (0 : Int32), .int (0 : Int32)] _ _ h50 _ (w66.mono (by decide) (by decide)) S50 xe66 (by omega) ge (Or.inr (Or.inl ⟨_, _, rfl⟩)) A66 rfl (Nat.le_of_ble_eq_true rfl) (by unfold hp; rw [if_neg hin]; rfl)
  ·
    refine w3.iload (q := 29) at_27 rfl rfl ?_
    refine w3.iconst (q := 30) (1 : Int32) at_29 rfl rfl ?_
    refine w3.icY (q := 53) at_30 ((feq (by decide)).2) (by decide) (by decide) ?_
    refine w3.iload (q := 55) at_53 rfl rfl ?_
    refine w3.iconst (q := 56) (2 : Int32) at_55 rfl rfl ?_
    refine w3.icY (q := 84) at_56 ((feq (by decide)).2) (by decide) (by decide) ?_
    refine w3.newO (q := 87) at_84 (H.tw 4 rfl) (H.tw 5 rfl) (H.tw 6 rfl) (by decide) (by decide) rfl fun T67 h67 b67 e67 w67 E67 A67 D67 U67 => ?_
    have lt67 : b67 < h67.size := A67.lt
    have sz67 : h.size ≤ h67.size := E67.1
    have F67_value : Fld G.Z h67 b67 "java/lang/String" "value" "[B" .null := D67 (Or.inr (H.tw 33 rfl)) (ty := (.array .byte)) (by decide)
    have F67_coder : Fld G.Z h67 b67 "java/lang/String" "coder" "B" (.int (0 : Int32)) := D67 (Or.inr (H.tw 31 rfl)) (ty := .byte) (by decide)
    have g67 : G.n0 ≤ b67 := by have := ho.2.1; have := ho.1; omega
    refine w67.dup (q := 88) at_87 rfl rfl ?_
    refine w67.iconst (q := 89) (3 : Int32) at_88 rfl rfl ?_
    refine w67.newP (q := 91) 3 at_89 (H.tw 7 rfl) (by decide) (by decide) (by decide) (by decide) (by decide) rfl fun T68 h68 b68 kc68 e68 w68 E68 A68 => ?_
    replace A68 : Arv G.Z h68 b68 kc68 .char (3 : Int32) [(.int (0 : Int32)), (.int (0 : Int32)), (.int (0 : Int32))] (.int (0 : Int32)) := A68.pad (pad_rep [] (.int (0 : Int32)) 3)
    have lt68 : b68 < h68.size := A68.lt
    have sz68 : h67.size ≤ h68.size := E68.1
    have g68 : G.n0 ≤ b68 := by have := ho.2.1; have := ho.1; omega
    replace A67 := A67.ext E68
    replace F67_value := F67_value.ext E68
    replace F67_coder := F67_coder.ext E68
    refine w68.dup (q := 92) at_91 rfl rfl ?_
    refine w68.iconst (q := 93) (0 : Int32) at_92 rfl rfl ?_
    refine w68.iload (q := 95) at_93 rfl rfl ?_
    refine w68.castore (q := 96) 0 at_95 A68 g68 ⟨by decide, by decide⟩ rfl (Nat.le_of_ble_eq_true rfl) rfl fun T69 h69 w69 K69 A69 => ?_
    have sz69 : h68.size ≤ h69.size := K69.1
    replace A67 := A67.keep K69
    replace F67_value := F67_value.keep K69 (nin1 (by omega))
    replace F67_coder := F67_coder.keep K69 (nin1 (by omega))
    refine w69.dup (q := 97) at_96 rfl rfl ?_
    refine w69.iconst (q := 98) (1 : Int32) at_97 rfl rfl ?_
    refine w69.iload (q := 100) at_98 rfl rfl ?_
    refine w69.castore (q := 101) 1 at_100 A69 g68 ⟨by decide, by decide⟩ rfl (Nat.le_of_ble_eq_true rfl) rfl fun T70 h70 w70 K70 A70 => ?_
    have sz70 : h69.size ≤ h70.size := K70.1
    replace A67 := A67.keep K70
    replace F67_value := F67_value.keep K70 (nin1 (by omega))
    replace F67_coder := F67_coder.keep K70 (nin1 (by omega))
    refine w70.dup (q := 102) at_101 rfl rfl ?_
    refine w70.iconst (q := 103) (2 : Int32) at_102 rfl rfl ?_
    refine w70.iload (q := 105) at_103 rfl rfl ?_
    refine w70.castore (q := 106) 2 at_105 A70 g68 ⟨by decide, by decide⟩ rfl (Nat.le_of_ble_eq_true rfl) rfl fun T71 h71 w71 K71 A71 => ?_
    have sz71 : h70.size ≤ h71.size := K71.1
    replace A67 := A67.keep K71
    replace F67_value := F67_value.keep K71 (nin1 (by omega))
    replace F67_coder := F67_coder.keep K71 (nin1 (by omega))
    refine w71.callC (q := 109) at_106 rfl (H.tw 8 rfl) (H.tw 9 rfl) (H.tw 10 rfl) (by decide) (a := b67) (argsL := [(.ref b68)]) (rest := [(.ref b67)]) rfl (lenOf pd72 rfl) rfl (W := 1) (Nat.le_of_eq rfl) (pay_newStr w71 H.ws (H.tw 5 rfl) H.cz (nn := 3) (cs := [nar .char c6, nar .char c7, nar .char c8]) g67 A67 F67_value F67_coder A71 rfl rfl (by decide) (by decide) (latS (show Lat _ from by rw [N6]; exact L6) (latS (show Lat _ from by rw [N7]; exact L7) (latS (show Lat _ from by rw [N8]; exact L8) lat0))) (by decide) (by decide)) (by decide) (by decide) rfl fun vm72 T72 h72 v72 w72 q72 => ?_
    obtain ⟨rfl, K72, S72⟩ := q72
    show Go _ _ _ _ (T72.setTop (mkF X.m 109 #[.val (.int x0), .val (.int x1), .val (.int x2), .val (.int x3), .val (.int x4), .val (.int (3 : Int32)), .val (.int c6), .val (.int c7), .val (.int c8), .unset, .unset, .unset, .unset, .unset, .unset] [(.ref b67)]))
    have sz72 : h71.size ≤ h72.size := K72.1
    have X72 : Ext h h72 := xkp (xkp (xkp (xkp (xtr E67 E68) K69 (all1 (by omega))) K70 (all1 (by omega))) K71 (all1 (by omega))) K72 (all1 (by omega))
    rw [N6, N7, N8] at S72
    have szS := X72.1
    refine w72.astore (q := 111) (L2 := #[.val (.int x0), .val (.int x1), .val (.int x2), .val (.int x3), .val (.int x4), .val (.int (3 : Int32)), .val (.int c6), .val (.int c7), .val (.int c8), .val (.ref b67), .unset, .unset, .unset, .unset, .unset]) at_109 rfl rfl rfl ?_
    refine w72.iload (q := 113) at_111 rfl rfl ?_
    refine w72.ldcI (q := 115) at_113 (H.tw 34 rfl) rfl ?_
    refine w72.iand (q := 116) at_115 rfl ?_
    rw [show (x4 &&& (65535 : Int32)) = (Int32.ofNat m0) from em]
    refine w72.istore (q := 118) (L2 := #[.val (.int x0), .val (.int x1), .val (.int x2), .val (.int x3), .val (.int x4), .val (.int (3 : Int32)), .val (.int c6), .val (.int c7), .val (.int c8), .val (.ref b67), .val (.int (Int32.ofNat m0)), .unset, .unset, .unset, .unset]) at_116 rfl rfl ?_
    refine w72.iload (q := 120) at_118 rfl rfl ?_
    refine w72.bipush (q := 122) (58 : Int32) at_120 rfl rfl ?_
    by_cases f0 : c6 = (58 : Int32)
    ·
      refine w72.icY (q := 151) at_122 ((teq f0).1) (by decide) (by decide) ?_
      have hin : (58 : Int32) ∈ [c6, c7, c8] := by simp [f0]
      refine w72.iconst (q := 152) (1 : Int32) at_151 rfl rfl ?_
      refine w72.goto (q := 156) at_152 (by decide) (by decide) ?_
      refine w72.istore (q := 158) (L2 := #[.val (.int x0), .val (.int x1), .val (.int x2), .val (.int x3), .val (.int x4), .val (.int (3 : Int32)), .val (.int c6), .val (.int c7), .val (.int c8), .val (.ref b67), .val (.int (Int32.ofNat m0)), .val (.int (1 : Int32)), .unset, .unset, .unset]) at_156 rfl rfl ?_
      refine w72.bipush (q := 160) (11 : Int32) at_158 rfl rfl ?_
      refine w72.newP (q := 162) 11 at_160 (H.tw 7 rfl) (by decide) (by decide) (by decide) (by decide) (by decide) rfl fun T73 h73 b73 kc73 e73 w73 E73 A73 => ?_
      replace A73 : Arv G.Z h73 b73 kc73 .char (11 : Int32) [(.int (0 : Int32)), (.int (0 : Int32)), (.int (0 : Int32)), (.int (0 : Int32)), (.int (0 : Int32)), (.int (0 : Int32)), (.int (0 : Int32)), (.int (0 : Int32)), (.int (0 : Int32)), (.int (0 : Int32)), (.int (0 : Int32))] (.int (0 : Int32)) := A73.pad (pad_rep [] (.int (0 : Int32)) 11)
      have lt73 : b73 < h73.size := A73.lt
      have sz73 : h72.size ≤ h73.size := E73.1
      have ge : G.n0 ≤ b73 := by omega
      refine w73.astore (q := 164) (L2 := #[.val (.int x0), .val (.int x1), .val (.int x2), .val (.int x3), .val (.int x4), .val (.int (3 : Int32)), .val (.int c6), .val (.int c7), .val (.int c8), .val (.ref b67), .val (.int (Int32.ofNat m0)), .val (.int (1 : Int32)), .val (.ref b73), .unset, .unset]) at_162 rfl rfl rfl ?_
      refine w73.iconst (q := 165) (0 : Int32) at_164 rfl rfl ?_
      refine w73.istore (q := 167) (L2 := #[.val (.int x0), .val (.int x1), .val (.int x2), .val (.int x3), .val (.int x4), .val (.int (3 : Int32)), .val (.int c6), .val (.int c7), .val (.int c8), .val (.ref b67), .val (.int (Int32.ofNat m0)), .val (.int (1 : Int32)), .val (.ref b73), .val (.int (0 : Int32)), .unset]) at_165 rfl rfl ?_
      refine w73.iload (q := 169) at_167 rfl rfl ?_
      refine w73.ifN (q := 172) at_169 ((if0 _ _).trans (feq (by decide)).1) rfl ?_
      refine w73.aload (q := 174) at_172 rfl rfl rfl ?_
      refine w73.iload (q := 176) at_174 rfl rfl ?_
      refine w73.bipush (q := 178) (91 : Int32) at_176 rfl rfl ?_
      refine w73.castore (q := 179) 0 at_178 A73 ge ⟨by decide, by decide⟩ rfl (Nat.le_of_ble_eq_true rfl) rfl fun T74 h74 w74 K74 A74 => ?_
      have sz74 : h73.size ≤ h74.size := K74.1
      replace A74 : Arv G.Z h74 b73 kc73 .char (11 : Int32) [.int (91 : Int32), .int (0 : Int32), .int (0 : Int32), .int (0 : Int32), .int (0 : Int32), .int (0 : Int32), .int (0 : Int32), .int (0 : Int32), .int (0 : Int32), .int (0 : Int32), .int (0 : Int32)] (.int (0 : Int32)) := by rw [show nar .char (91 : Int32) = 91 from by decide] at A74; exact A74
      have xe74 := xkp E73 K74 (all1 (by omega))
      refine w74.iinc (q := 182) (L2 := #[.val (.int x0), .val (.int x1), .val (.int x2), .val (.int x3), .val (.int x4), .val (.int (3 : Int32)), .val (.int c6), .val (.int c7), .val (.int c8), .val (.ref b67), .val (.int (Int32.ofNat m0)), .val (.int (1 : Int32)), .val (.ref b73), .val (.int ((0 : Int32) + (1 : Int32))), .unset]) (1 : Int32) at_179 rfl rfl rfl rfl ?_
      rw [show ((0 : Int32) + (1 : Int32)) = (1 : Int32) from by decide]
      refine w74.aload (q := 184) at_182 rfl rfl rfl ?_
      refine w74.iload (q := 186) at_184 rfl rfl ?_
      refine w74.iload (q := 188) at_186 rfl rfl ?_
      refine w74.castore (q := 189) 1 at_188 A74 ge ⟨by decide, by decide⟩ rfl (Nat.le_of_ble_eq_true rfl) rfl fun T75 h75 w75 K75 A75 => ?_
      have sz75 : h74.size ≤ h75.size := K75.1
      replace A75 : Arv G.Z h75 b73 kc73 .char (11 : Int32) [.int (91 : Int32), .int c6, .int (0 : Int32), .int (0 : Int32), .int (0 : Int32), .int (0 : Int32), .int (0 : Int32), .int (0 : Int32), .int (0 : Int32), .int (0 : Int32), .int (0 : Int32)] (.int (0 : Int32)) := by rw [N6] at A75; exact A75
      have xe75 := xkp xe74 K75 (all1 (by omega))
      refine w75.iinc (q := 192) (L2 := #[.val (.int x0), .val (.int x1), .val (.int x2), .val (.int x3), .val (.int x4), .val (.int (3 : Int32)), .val (.int c6), .val (.int c7), .val (.int c8), .val (.ref b67), .val (.int (Int32.ofNat m0)), .val (.int (1 : Int32)), .val (.ref b73), .val (.int ((1 : Int32) + (1 : Int32))), .unset]) (1 : Int32) at_189 rfl rfl rfl rfl ?_
      rw [show ((1 : Int32) + (1 : Int32)) = (2 : Int32) from by decide]
      refine w75.iload (q := 194) at_192 rfl rfl ?_
      refine w75.iconst (q := 195) (2 : Int32) at_194 rfl rfl ?_
      refine w75.icN (q := 198) at_195 ((flt (by decide)).1) rfl ?_
      refine w75.aload (q := 200) at_198 rfl rfl rfl ?_
      refine w75.iload (q := 202) at_200 rfl rfl ?_
      refine w75.iload (q := 204) at_202 rfl rfl ?_
      refine w75.castore (q := 205) 2 at_204 A75 ge ⟨by decide, by decide⟩ rfl (Nat.le_of_ble_eq_true rfl) rfl fun T76 h76 w76 K76 A76 => ?_
      have sz76 : h75.size ≤ h76.size := K76.1
      replace A76 : Arv G.Z h76 b73 kc73 .char (11 : Int32) [.int (91 : Int32), .int c6, .int c7, .int (0 : Int32), .int (0 : Int32), .int (0 : Int32), .int (0 : Int32), .int (0 : Int32), .int (0 : Int32), .int (0 : Int32), .int (0 : Int32)] (.int (0 : Int32)) := by rw [N7] at A76; exact A76
      have xe76 := xkp xe75 K76 (all1 (by omega))
      refine w76.iinc (q := 208) (L2 := #[.val (.int x0), .val (.int x1), .val (.int x2), .val (.int x3), .val (.int x4), .val (.int (3 : Int32)), .val (.int c6), .val (.int c7), .val (.int c8), .val (.ref b67), .val (.int (Int32.ofNat m0)), .val (.int (1 : Int32)), .val (.ref b73), .val (.int ((2 : Int32) + (1 : Int32))), .unset]) (1 : Int32) at_205 rfl rfl rfl rfl ?_
      rw [show ((2 : Int32) + (1 : Int32)) = (3 : Int32) from by decide]
      refine w76.iload (q := 210) at_208 rfl rfl ?_
      refine w76.iconst (q := 211) (3 : Int32) at_210 rfl rfl ?_
      refine w76.icN (q := 214) at_211 ((flt (by decide)).1) rfl ?_
      refine w76.aload (q := 216) at_214 rfl rfl rfl ?_
      refine w76.iload (q := 218) at_216 rfl rfl ?_
      refine w76.iload (q := 220) at_218 rfl rfl ?_
      refine w76.castore (q := 221) 3 at_220 A76 ge ⟨by decide, by decide⟩ rfl (Nat.le_of_ble_eq_true rfl) rfl fun T77 h77 w77 K77 A77 => ?_
      have sz77 : h76.size ≤ h77.size := K77.1
      replace A77 : Arv G.Z h77 b73 kc73 .char (11 : Int32) [.int (91 : Int32), .int c6, .int c7, .int c8, .int (0 : Int32), .int (0 : Int32), .int (0 : Int32), .int (0 : Int32), .int (0 : Int32), .int (0 : Int32), .int (0 : Int32)] (.int (0 : Int32)) := by rw [N8] at A77; exact A77
      have xe77 := xkp xe76 K77 (all1 (by omega))
      refine w77.iinc (q := 224) (L2 := #[.val (.int x0), .val (.int x1), .val (.int x2), .val (.int x3), .val (.int x4), .val (.int (3 : Int32)), .val (.int c6), .val (.int c7), .val (.int c8), .val (.ref b67), .val (.int (Int32.ofNat m0)), .val (.int (1 : Int32)), .val (.ref b73), .val (.int ((3 : Int32) + (1 : Int32))), .unset]) (1 : Int32) at_221 rfl rfl rfl rfl ?_
      rw [show ((3 : Int32) + (1 : Int32)) = (4 : Int32) from by decide]
      refine w77.iload (q := 226) at_224 rfl rfl ?_
      refine w77.ifN (q := 229) at_226 ((if0 _ _).trans (feq (by decide)).1) rfl ?_
      refine w77.aload (q := 231) at_229 rfl rfl rfl ?_
      refine w77.iload (q := 233) at_231 rfl rfl ?_
      refine w77.bipush (q := 235) (93 : Int32) at_233 rfl rfl ?_
      refine w77.castore (q := 236) 4 at_235 A77 ge ⟨by decide, by decide⟩ rfl (Nat.le_of_ble_eq_true rfl) rfl fun T78 h78 w78 K78 A78 => ?_
      have sz78 : h77.size ≤ h78.size := K78.1
      replace A78 : Arv G.Z h78 b73 kc73 .char (11 : Int32) [.int (91 : Int32), .int c6, .int c7, .int c8, .int (93 : Int32), .int (0 : Int32), .int (0 : Int32), .int (0 : Int32), .int (0 : Int32), .int (0 : Int32), .int (0 : Int32)] (.int (0 : Int32)) := by rw [show nar .char (93 : Int32) = 93 from by decide] at A78; exact A78
      have xe78 := xkp xe77 K78 (all1 (by omega))
      refine w78.iinc (q := 239) (L2 := #[.val (.int x0), .val (.int x1), .val (.int x2), .val (.int x3), .val (.int x4), .val (.int (3 : Int32)), .val (.int c6), .val (.int c7), .val (.int c8), .val (.ref b67), .val (.int (Int32.ofNat m0)), .val (.int (1 : Int32)), .val (.ref b73), .val (.int ((4 : Int32) + (1 : Int32))), .unset]) (1 : Int32) at_236 rfl rfl rfl rfl ?_
      rw [show ((4 : Int32) + (1 : Int32)) = (5 : Int32) from by decide]
      refine w78.aload (q := 241) at_239 rfl rfl rfl ?_
      refine w78.iload (q := 243) at_241 rfl rfl ?_
      refine w78.bipush (q := 245) (58 : Int32) at_243 rfl rfl ?_
      refine w78.castore (q := 246) 5 at_245 A78 ge ⟨by decide, by decide⟩ rfl (Nat.le_of_ble_eq_true rfl) rfl fun T79 h79 w79 K79 A79 => ?_
      have sz79 : h78.size ≤ h79.size := K79.1
      replace A79 : Arv G.Z h79 b73 kc73 .char (11 : Int32) [.int (91 : Int32), .int c6, .int c7, .int c8, .int (93 : Int32), .int (58 : Int32), .int (0 : Int32), .int (0 : Int32), .int (0 : Int32), .int (0 : Int32), .int (0 : Int32)] (.int (0 : Int32)) := by rw [show nar .char (58 : Int32) = 58 from by decide] at A79; exact A79
      have xe79 := xkp xe78 K79 (all1 (by omega))
      refine w79.iinc (q := 249) (L2 := #[.val (.int x0), .val (.int x1), .val (.int x2), .val (.int x3), .val (.int x4), .val (.int (3 : Int32)), .val (.int c6), .val (.int c7), .val (.int c8), .val (.ref b67), .val (.int (Int32.ofNat m0)), .val (.int (1 : Int32)), .val (.ref b73), .val (.int ((5 : Int32) + (1 : Int32))), .unset]) (1 : Int32) at_246 rfl rfl rfl rfl ?_
      rw [show ((5 : Int32) + (1 : Int32)) = (6 : Int32) from by decide]
      exact key249 _ _ b67 b73 kc73 [c6, c7, c8] [(91 : Int32), c6, c7, c8, (93 : Int32), (58 : Int32)] [.int (0 : Int32), .int (0 : Int32), .int (0 : Int32), .int (0 : Int32), .int (0 : Int32)] _ _ h72 _ (w79.mono (by decide) (by decide)) S72 xe79 (by omega) ge (Or.inr (Or.inr ⟨_, _, _, rfl⟩)) A79 rfl (Nat.le_of_ble_eq_true rfl) (by unfold hp; rw [if_pos hin]; rfl)
    ·
      refine w72.icN (q := 125) at_122 ((feq f0).1) rfl ?_
      refine w72.iload (q := 127) at_125 rfl rfl ?_
      refine w72.iconst (q := 128) (2 : Int32) at_127 rfl rfl ?_
      refine w72.icN (q := 131) at_128 ((flt (by decide)).1) rfl ?_
      refine w72.iload (q := 133) at_131 rfl rfl ?_
      refine w72.bipush (q := 135) (58 : Int32) at_133 rfl rfl ?_
      by_cases f1 : c7 = (58 : Int32)
      ·
        refine w72.icY (q := 151) at_135 ((teq f1).1) (by decide) (by decide) ?_
        have hin : (58 : Int32) ∈ [c6, c7, c8] := by simp [f1]
        refine w72.iconst (q := 152) (1 : Int32) at_151 rfl rfl ?_
        refine w72.goto (q := 156) at_152 (by decide) (by decide) ?_
        refine w72.istore (q := 158) (L2 := #[.val (.int x0), .val (.int x1), .val (.int x2), .val (.int x3), .val (.int x4), .val (.int (3 : Int32)), .val (.int c6), .val (.int c7), .val (.int c8), .val (.ref b67), .val (.int (Int32.ofNat m0)), .val (.int (1 : Int32)), .unset, .unset, .unset]) at_156 rfl rfl ?_
        refine w72.bipush (q := 160) (11 : Int32) at_158 rfl rfl ?_
        refine w72.newP (q := 162) 11 at_160 (H.tw 7 rfl) (by decide) (by decide) (by decide) (by decide) (by decide) rfl fun T80 h80 b80 kc80 e80 w80 E80 A80 => ?_
        replace A80 : Arv G.Z h80 b80 kc80 .char (11 : Int32) [(.int (0 : Int32)), (.int (0 : Int32)), (.int (0 : Int32)), (.int (0 : Int32)), (.int (0 : Int32)), (.int (0 : Int32)), (.int (0 : Int32)), (.int (0 : Int32)), (.int (0 : Int32)), (.int (0 : Int32)), (.int (0 : Int32))] (.int (0 : Int32)) := A80.pad (pad_rep [] (.int (0 : Int32)) 11)
        have lt80 : b80 < h80.size := A80.lt
        have sz80 : h72.size ≤ h80.size := E80.1
        have ge : G.n0 ≤ b80 := by omega
        refine w80.astore (q := 164) (L2 := #[.val (.int x0), .val (.int x1), .val (.int x2), .val (.int x3), .val (.int x4), .val (.int (3 : Int32)), .val (.int c6), .val (.int c7), .val (.int c8), .val (.ref b67), .val (.int (Int32.ofNat m0)), .val (.int (1 : Int32)), .val (.ref b80), .unset, .unset]) at_162 rfl rfl rfl ?_
        refine w80.iconst (q := 165) (0 : Int32) at_164 rfl rfl ?_
        refine w80.istore (q := 167) (L2 := #[.val (.int x0), .val (.int x1), .val (.int x2), .val (.int x3), .val (.int x4), .val (.int (3 : Int32)), .val (.int c6), .val (.int c7), .val (.int c8), .val (.ref b67), .val (.int (Int32.ofNat m0)), .val (.int (1 : Int32)), .val (.ref b80), .val (.int (0 : Int32)), .unset]) at_165 rfl rfl ?_
        refine w80.iload (q := 169) at_167 rfl rfl ?_
        refine w80.ifN (q := 172) at_169 ((if0 _ _).trans (feq (by decide)).1) rfl ?_
        refine w80.aload (q := 174) at_172 rfl rfl rfl ?_
        refine w80.iload (q := 176) at_174 rfl rfl ?_
        refine w80.bipush (q := 178) (91 : Int32) at_176 rfl rfl ?_
        refine w80.castore (q := 179) 0 at_178 A80 ge ⟨by decide, by decide⟩ rfl (Nat.le_of_ble_eq_true rfl) rfl fun T81 h81 w81 K81 A81 => ?_
        have sz81 : h80.size ≤ h81.size := K81.1
        replace A81 : Arv G.Z h81 b80 kc80 .char (11 : Int32) [.int (91 : Int32), .int (0 : Int32), .int (0 : Int32), .int (0 : Int32), .int (0 : Int32), .int (0 : Int32), .int (0 : Int32), .int (0 : Int32), .int (0 : Int32), .int (0 : Int32), .int (0 : Int32)] (.int (0 : Int32)) := by rw [show nar .char (91 : Int32) = 91 from by decide] at A81; exact A81
        have xe81 := xkp E80 K81 (all1 (by omega))
        refine w81.iinc (q := 182) (L2 := #[.val (.int x0), .val (.int x1), .val (.int x2), .val (.int x3), .val (.int x4), .val (.int (3 : Int32)), .val (.int c6), .val (.int c7), .val (.int c8), .val (.ref b67), .val (.int (Int32.ofNat m0)), .val (.int (1 : Int32)), .val (.ref b80), .val (.int ((0 : Int32) + (1 : Int32))), .unset]) (1 : Int32) at_179 rfl rfl rfl rfl ?_
        rw [show ((0 : Int32) + (1 : Int32)) = (1 : Int32) from by decide]
        refine w81.aload (q := 184) at_182 rfl rfl rfl ?_
        refine w81.iload (q := 186) at_184 rfl rfl ?_
        refine w81.iload (q := 188) at_186 rfl rfl ?_
        refine w81.castore (q := 189) 1 at_188 A81 ge ⟨by decide, by decide⟩ rfl (Nat.le_of_ble_eq_true rfl) rfl fun T82 h82 w82 K82 A82 => ?_
        have sz82 : h81.size ≤ h82.size := K82.1
        replace A82 : Arv G.Z h82 b80 kc80 .char (11 : Int32) [.int (91 : Int32), .int c6, .int (0 : Int32), .int (0 : Int32), .int (0 : Int32), .int (0 : Int32), .int (0 : Int32), .int (0 : Int32), .int (0 : Int32), .int (0 : Int32), .int (0 : Int32)] (.int (0 : Int32)) := by rw [N6] at A82; exact A82
        have xe82 := xkp xe81 K82 (all1 (by omega))
        refine w82.iinc (q := 192) (L2 := #[.val (.int x0), .val (.int x1), .val (.int x2), .val (.int x3), .val (.int x4), .val (.int (3 : Int32)), .val (.int c6), .val (.int c7), .val (.int c8), .val (.ref b67), .val (.int (Int32.ofNat m0)), .val (.int (1 : Int32)), .val (.ref b80), .val (.int ((1 : Int32) + (1 : Int32))), .unset]) (1 : Int32) at_189 rfl rfl rfl rfl ?_
        rw [show ((1 : Int32) + (1 : Int32)) = (2 : Int32) from by decide]
        refine w82.iload (q := 194) at_192 rfl rfl ?_
        refine w82.iconst (q := 195) (2 : Int32) at_194 rfl rfl ?_
        refine w82.icN (q := 198) at_195 ((flt (by decide)).1) rfl ?_
        refine w82.aload (q := 200) at_198 rfl rfl rfl ?_
        refine w82.iload (q := 202) at_200 rfl rfl ?_
        refine w82.iload (q := 204) at_202 rfl rfl ?_
        refine w82.castore (q := 205) 2 at_204 A82 ge ⟨by decide, by decide⟩ rfl (Nat.le_of_ble_eq_true rfl) rfl fun T83 h83 w83 K83 A83 => ?_
        have sz83 : h82.size ≤ h83.size := K83.1
        replace A83 : Arv G.Z h83 b80 kc80 .char (11 : Int32) [.int (91 : Int32), .int c6, .int c7, .int (0 : Int32), .int (0 : Int32), .int (0 : Int32), .int (0 : Int32), .int (0 : Int32), .int (0 : Int32), .int (0 : Int32), .int (0 : Int32)] (.int (0 : Int32)) := by rw [N7] at A83; exact A83
        have xe83 := xkp xe82 K83 (all1 (by omega))
        refine w83.iinc (q := 208) (L2 := #[.val (.int x0), .val (.int x1), .val (.int x2), .val (.int x3), .val (.int x4), .val (.int (3 : Int32)), .val (.int c6), .val (.int c7), .val (.int c8), .val (.ref b67), .val (.int (Int32.ofNat m0)), .val (.int (1 : Int32)), .val (.ref b80), .val (.int ((2 : Int32) + (1 : Int32))), .unset]) (1 : Int32) at_205 rfl rfl rfl rfl ?_
        rw [show ((2 : Int32) + (1 : Int32)) = (3 : Int32) from by decide]
        refine w83.iload (q := 210) at_208 rfl rfl ?_
        refine w83.iconst (q := 211) (3 : Int32) at_210 rfl rfl ?_
        refine w83.icN (q := 214) at_211 ((flt (by decide)).1) rfl ?_
        refine w83.aload (q := 216) at_214 rfl rfl rfl ?_
        refine w83.iload (q := 218) at_216 rfl rfl ?_
        refine w83.iload (q := 220) at_218 rfl rfl ?_
        refine w83.castore (q := 221) 3 at_220 A83 ge ⟨by decide, by decide⟩ rfl (Nat.le_of_ble_eq_true rfl) rfl fun T84 h84 w84 K84 A84 => ?_
        have sz84 : h83.size ≤ h84.size := K84.1
        replace A84 : Arv G.Z h84 b80 kc80 .char (11 : Int32) [.int (91 : Int32), .int c6, .int c7, .int c8, .int (0 : Int32), .int (0 : Int32), .int (0 : Int32), .int (0 : Int32), .int (0 : Int32), .int (0 : Int32), .int (0 : Int32)] (.int (0 : Int32)) := by rw [N8] at A84; exact A84
        have xe84 := xkp xe83 K84 (all1 (by omega))
        refine w84.iinc (q := 224) (L2 := #[.val (.int x0), .val (.int x1), .val (.int x2), .val (.int x3), .val (.int x4), .val (.int (3 : Int32)), .val (.int c6), .val (.int c7), .val (.int c8), .val (.ref b67), .val (.int (Int32.ofNat m0)), .val (.int (1 : Int32)), .val (.ref b80), .val (.int ((3 : Int32) + (1 : Int32))), .unset]) (1 : Int32) at_221 rfl rfl rfl rfl ?_
        rw [show ((3 : Int32) + (1 : Int32)) = (4 : Int32) from by decide]
        refine w84.iload (q := 226) at_224 rfl rfl ?_
        refine w84.ifN (q := 229) at_226 ((if0 _ _).trans (feq (by decide)).1) rfl ?_
        refine w84.aload (q := 231) at_229 rfl rfl rfl ?_
        refine w84.iload (q := 233) at_231 rfl rfl ?_
        refine w84.bipush (q := 235) (93 : Int32) at_233 rfl rfl ?_
        refine w84.castore (q := 236) 4 at_235 A84 ge ⟨by decide, by decide⟩ rfl (Nat.le_of_ble_eq_true rfl) rfl fun T85 h85 w85 K85 A85 => ?_
        have sz85 : h84.size ≤ h85.size := K85.1
        replace A85 : Arv G.Z h85 b80 kc80 .char (11 : Int32) [.int (91 : Int32), .int c6, .int c7, .int c8, .int (93 : Int32), .int (0 : Int32), .int (0 : Int32), .int (0 : Int32), .int (0 : Int32), .int (0 : Int32), .int (0 : Int32)] (.int (0 : Int32)) := by rw [show nar .char (93 : Int32) = 93 from by decide] at A85; exact A85
        have xe85 := xkp xe84 K85 (all1 (by omega))
        refine w85.iinc (q := 239) (L2 := #[.val (.int x0), .val (.int x1), .val (.int x2), .val (.int x3), .val (.int x4), .val (.int (3 : Int32)), .val (.int c6), .val (.int c7), .val (.int c8), .val (.ref b67), .val (.int (Int32.ofNat m0)), .val (.int (1 : Int32)), .val (.ref b80), .val (.int ((4 : Int32) + (1 : Int32))), .unset]) (1 : Int32) at_236 rfl rfl rfl rfl ?_
        rw [show ((4 : Int32) + (1 : Int32)) = (5 : Int32) from by decide]
        refine w85.aload (q := 241) at_239 rfl rfl rfl ?_
        refine w85.iload (q := 243) at_241 rfl rfl ?_
        refine w85.bipush (q := 245) (58 : Int32) at_243 rfl rfl ?_
        refine w85.castore (q := 246) 5 at_245 A85 ge ⟨by decide, by decide⟩ rfl (Nat.le_of_ble_eq_true rfl) rfl fun T86 h86 w86 K86 A86 => ?_
        have sz86 : h85.size ≤ h86.size := K86.1
        replace A86 : Arv G.Z h86 b80 kc80 .char (11 : Int32) [.int (91 : Int32), .int c6, .int c7, .int c8, .int (93 : Int32), .int (58 : Int32), .int (0 : Int32), .int (0 : Int32), .int (0 : Int32), .int (0 : Int32), .int (0 : Int32)] (.int (0 : Int32)) := by rw [show nar .char (58 : Int32) = 58 from by decide] at A86; exact A86
        have xe86 := xkp xe85 K86 (all1 (by omega))
        refine w86.iinc (q := 249) (L2 := #[.val (.int x0), .val (.int x1), .val (.int x2), .val (.int x3), .val (.int x4), .val (.int (3 : Int32)), .val (.int c6), .val (.int c7), .val (.int c8), .val (.ref b67), .val (.int (Int32.ofNat m0)), .val (.int (1 : Int32)), .val (.ref b80), .val (.int ((5 : Int32) + (1 : Int32))), .unset]) (1 : Int32) at_246 rfl rfl rfl rfl ?_
        rw [show ((5 : Int32) + (1 : Int32)) = (6 : Int32) from by decide]
        exact key249 _ _ b67 b80 kc80 [c6, c7, c8] [(91 : Int32), c6, c7, c8, (93 : Int32), (58 : Int32)] [.int (0 : Int32), .int (0 : Int32), .int (0 : Int32), .int (0 : Int32), .int (0 : Int32)] _ _ h72 _ (w86.mono (by decide) (by decide)) S72 xe86 (by omega) ge (Or.inr (Or.inr ⟨_, _, _, rfl⟩)) A86 rfl (Nat.le_of_ble_eq_true rfl) (by unfold hp; rw [if_pos hin]; rfl)
      ·
        refine w72.icN (q := 138) at_135 ((feq f1).1) rfl ?_
        refine w72.iload (q := 140) at_138 rfl rfl ?_
        refine w72.iconst (q := 141) (3 : Int32) at_140 rfl rfl ?_
        refine w72.icN (q := 144) at_141 ((flt (by decide)).1) rfl ?_
        refine w72.iload (q := 146) at_144 rfl rfl ?_
        refine w72.bipush (q := 148) (58 : Int32) at_146 rfl rfl ?_
        by_cases f2 : c8 = (58 : Int32)
        ·
          refine w72.icN (q := 151) at_148 ((teq f2).2) rfl ?_
          have hin : (58 : Int32) ∈ [c6, c7, c8] := by simp [f2]
          refine w72.iconst (q := 152) (1 : Int32) at_151 rfl rfl ?_
          refine w72.goto (q := 156) at_152 (by decide) (by decide) ?_
          refine w72.istore (q := 158) (L2 := #[.val (.int x0), .val (.int x1), .val (.int x2), .val (.int x3), .val (.int x4), .val (.int (3 : Int32)), .val (.int c6), .val (.int c7), .val (.int c8), .val (.ref b67), .val (.int (Int32.ofNat m0)), .val (.int (1 : Int32)), .unset, .unset, .unset]) at_156 rfl rfl ?_
          refine w72.bipush (q := 160) (11 : Int32) at_158 rfl rfl ?_
          refine w72.newP (q := 162) 11 at_160 (H.tw 7 rfl) (by decide) (by decide) (by decide) (by decide) (by decide) rfl fun T87 h87 b87 kc87 e87 w87 E87 A87 => ?_
          replace A87 : Arv G.Z h87 b87 kc87 .char (11 : Int32) [(.int (0 : Int32)), (.int (0 : Int32)), (.int (0 : Int32)), (.int (0 : Int32)), (.int (0 : Int32)), (.int (0 : Int32)), (.int (0 : Int32)), (.int (0 : Int32)), (.int (0 : Int32)), (.int (0 : Int32)), (.int (0 : Int32))] (.int (0 : Int32)) := A87.pad (pad_rep [] (.int (0 : Int32)) 11)
          have lt87 : b87 < h87.size := A87.lt
          have sz87 : h72.size ≤ h87.size := E87.1
          have ge : G.n0 ≤ b87 := by omega
          refine w87.astore (q := 164) (L2 := #[.val (.int x0), .val (.int x1), .val (.int x2), .val (.int x3), .val (.int x4), .val (.int (3 : Int32)), .val (.int c6), .val (.int c7), .val (.int c8), .val (.ref b67), .val (.int (Int32.ofNat m0)), .val (.int (1 : Int32)), .val (.ref b87), .unset, .unset]) at_162 rfl rfl rfl ?_
          refine w87.iconst (q := 165) (0 : Int32) at_164 rfl rfl ?_
          refine w87.istore (q := 167) (L2 := #[.val (.int x0), .val (.int x1), .val (.int x2), .val (.int x3), .val (.int x4), .val (.int (3 : Int32)), .val (.int c6), .val (.int c7), .val (.int c8), .val (.ref b67), .val (.int (Int32.ofNat m0)), .val (.int (1 : Int32)), .val (.ref b87), .val (.int (0 : Int32)), .unset]) at_165 rfl rfl ?_
          refine w87.iload (q := 169) at_167 rfl rfl ?_
          refine w87.ifN (q := 172) at_169 ((if0 _ _).trans (feq (by decide)).1) rfl ?_
          refine w87.aload (q := 174) at_172 rfl rfl rfl ?_
          refine w87.iload (q := 176) at_174 rfl rfl ?_
          refine w87.bipush (q := 178) (91 : Int32) at_176 rfl rfl ?_
          refine w87.castore (q := 179) 0 at_178 A87 ge ⟨by decide, by decide⟩ rfl (Nat.le_of_ble_eq_true rfl) rfl fun T88 h88 w88 K88 A88 => ?_
          have sz88 : h87.size ≤ h88.size := K88.1
          replace A88 : Arv G.Z h88 b87 kc87 .char (11 : Int32) [.int (91 : Int32), .int (0 : Int32), .int (0 : Int32), .int (0 : Int32), .int (0 : Int32), .int (0 : Int32), .int (0 : Int32), .int (0 : Int32), .int (0 : Int32), .int (0 : Int32), .int (0 : Int32)] (.int (0 : Int32)) := by rw [show nar .char (91 : Int32) = 91 from by decide] at A88; exact A88
          have xe88 := xkp E87 K88 (all1 (by omega))
          refine w88.iinc (q := 182) (L2 := #[.val (.int x0), .val (.int x1), .val (.int x2), .val (.int x3), .val (.int x4), .val (.int (3 : Int32)), .val (.int c6), .val (.int c7), .val (.int c8), .val (.ref b67), .val (.int (Int32.ofNat m0)), .val (.int (1 : Int32)), .val (.ref b87), .val (.int ((0 : Int32) + (1 : Int32))), .unset]) (1 : Int32) at_179 rfl rfl rfl rfl ?_
          rw [show ((0 : Int32) + (1 : Int32)) = (1 : Int32) from by decide]
          refine w88.aload (q := 184) at_182 rfl rfl rfl ?_
          refine w88.iload (q := 186) at_184 rfl rfl ?_
          refine w88.iload (q := 188) at_186 rfl rfl ?_
          refine w88.castore (q := 189) 1 at_188 A88 ge ⟨by decide, by decide⟩ rfl (Nat.le_of_ble_eq_true rfl) rfl fun T89 h89 w89 K89 A89 => ?_
          have sz89 : h88.size ≤ h89.size := K89.1
          replace A89 : Arv G.Z h89 b87 kc87 .char (11 : Int32) [.int (91 : Int32), .int c6, .int (0 : Int32), .int (0 : Int32), .int (0 : Int32), .int (0 : Int32), .int (0 : Int32), .int (0 : Int32), .int (0 : Int32), .int (0 : Int32), .int (0 : Int32)] (.int (0 : Int32)) := by rw [N6] at A89; exact A89
          have xe89 := xkp xe88 K89 (all1 (by omega))
          refine w89.iinc (q := 192) (L2 := #[.val (.int x0), .val (.int x1), .val (.int x2), .val (.int x3), .val (.int x4), .val (.int (3 : Int32)), .val (.int c6), .val (.int c7), .val (.int c8), .val (.ref b67), .val (.int (Int32.ofNat m0)), .val (.int (1 : Int32)), .val (.ref b87), .val (.int ((1 : Int32) + (1 : Int32))), .unset]) (1 : Int32) at_189 rfl rfl rfl rfl ?_
          rw [show ((1 : Int32) + (1 : Int32)) = (2 : Int32) from by decide]
          refine w89.iload (q := 194) at_192 rfl rfl ?_
          refine w89.iconst (q := 195) (2 : Int32) at_194 rfl rfl ?_
          refine w89.icN (q := 198) at_195 ((flt (by decide)).1) rfl ?_
          refine w89.aload (q := 200) at_198 rfl rfl rfl ?_
          refine w89.iload (q := 202) at_200 rfl rfl ?_
          refine w89.iload (q := 204) at_202 rfl rfl ?_
          refine w89.castore (q := 205) 2 at_204 A89 ge ⟨by decide, by decide⟩ rfl (Nat.le_of_ble_eq_true rfl) rfl fun T90 h90 w90 K90 A90 => ?_
          have sz90 : h89.size ≤ h90.size := K90.1
          replace A90 : Arv G.Z h90 b87 kc87 .char (11 : Int32) [.int (91 : Int32), .int c6, .int c7, .int (0 : Int32), .int (0 : Int32), .int (0 : Int32), .int (0 : Int32), .int (0 : Int32), .int (0 : Int32), .int (0 : Int32), .int (0 : Int32)] (.int (0 : Int32)) := by rw [N7] at A90; exact A90
          have xe90 := xkp xe89 K90 (all1 (by omega))
          refine w90.iinc (q := 208) (L2 := #[.val (.int x0), .val (.int x1), .val (.int x2), .val (.int x3), .val (.int x4), .val (.int (3 : Int32)), .val (.int c6), .val (.int c7), .val (.int c8), .val (.ref b67), .val (.int (Int32.ofNat m0)), .val (.int (1 : Int32)), .val (.ref b87), .val (.int ((2 : Int32) + (1 : Int32))), .unset]) (1 : Int32) at_205 rfl rfl rfl rfl ?_
          rw [show ((2 : Int32) + (1 : Int32)) = (3 : Int32) from by decide]
          refine w90.iload (q := 210) at_208 rfl rfl ?_
          refine w90.iconst (q := 211) (3 : Int32) at_210 rfl rfl ?_
          refine w90.icN (q := 214) at_211 ((flt (by decide)).1) rfl ?_
          refine w90.aload (q := 216) at_214 rfl rfl rfl ?_
          refine w90.iload (q := 218) at_216 rfl rfl ?_
          refine w90.iload (q := 220) at_218 rfl rfl ?_
          refine w90.castore (q := 221) 3 at_220 A90 ge ⟨by decide, by decide⟩ rfl (Nat.le_of_ble_eq_true rfl) rfl fun T91 h91 w91 K91 A91 => ?_
          have sz91 : h90.size ≤ h91.size := K91.1
          replace A91 : Arv G.Z h91 b87 kc87 .char (11 : Int32) [.int (91 : Int32), .int c6, .int c7, .int c8, .int (0 : Int32), .int (0 : Int32), .int (0 : Int32), .int (0 : Int32), .int (0 : Int32), .int (0 : Int32), .int (0 : Int32)] (.int (0 : Int32)) := by rw [N8] at A91; exact A91
          have xe91 := xkp xe90 K91 (all1 (by omega))
          refine w91.iinc (q := 224) (L2 := #[.val (.int x0), .val (.int x1), .val (.int x2), .val (.int x3), .val (.int x4), .val (.int (3 : Int32)), .val (.int c6), .val (.int c7), .val (.int c8), .val (.ref b67), .val (.int (Int32.ofNat m0)), .val (.int (1 : Int32)), .val (.ref b87), .val (.int ((3 : Int32) + (1 : Int32))), .unset]) (1 : Int32) at_221 rfl rfl rfl rfl ?_
          rw [show ((3 : Int32) + (1 : Int32)) = (4 : Int32) from by decide]
          refine w91.iload (q := 226) at_224 rfl rfl ?_
          refine w91.ifN (q := 229) at_226 ((if0 _ _).trans (feq (by decide)).1) rfl ?_
          refine w91.aload (q := 231) at_229 rfl rfl rfl ?_
          refine w91.iload (q := 233) at_231 rfl rfl ?_
          refine w91.bipush (q := 235) (93 : Int32) at_233 rfl rfl ?_
          refine w91.castore (q := 236) 4 at_235 A91 ge ⟨by decide, by decide⟩ rfl (Nat.le_of_ble_eq_true rfl) rfl fun T92 h92 w92 K92 A92 => ?_
          have sz92 : h91.size ≤ h92.size := K92.1
          replace A92 : Arv G.Z h92 b87 kc87 .char (11 : Int32) [.int (91 : Int32), .int c6, .int c7, .int c8, .int (93 : Int32), .int (0 : Int32), .int (0 : Int32), .int (0 : Int32), .int (0 : Int32), .int (0 : Int32), .int (0 : Int32)] (.int (0 : Int32)) := by rw [show nar .char (93 : Int32) = 93 from by decide] at A92; exact A92
          have xe92 := xkp xe91 K92 (all1 (by omega))
          refine w92.iinc (q := 239) (L2 := #[.val (.int x0), .val (.int x1), .val (.int x2), .val (.int x3), .val (.int x4), .val (.int (3 : Int32)), .val (.int c6), .val (.int c7), .val (.int c8), .val (.ref b67), .val (.int (Int32.ofNat m0)), .val (.int (1 : Int32)), .val (.ref b87), .val (.int ((4 : Int32) + (1 : Int32))), .unset]) (1 : Int32) at_236 rfl rfl rfl rfl ?_
          rw [show ((4 : Int32) + (1 : Int32)) = (5 : Int32) from by decide]
          refine w92.aload (q := 241) at_239 rfl rfl rfl ?_
          refine w92.iload (q := 243) at_241 rfl rfl ?_
          refine w92.bipush (q := 245) (58 : Int32) at_243 rfl rfl ?_
          refine w92.castore (q := 246) 5 at_245 A92 ge ⟨by decide, by decide⟩ rfl (Nat.le_of_ble_eq_true rfl) rfl fun T93 h93 w93 K93 A93 => ?_
          have sz93 : h92.size ≤ h93.size := K93.1
          replace A93 : Arv G.Z h93 b87 kc87 .char (11 : Int32) [.int (91 : Int32), .int c6, .int c7, .int c8, .int (93 : Int32), .int (58 : Int32), .int (0 : Int32), .int (0 : Int32), .int (0 : Int32), .int (0 : Int32), .int (0 : Int32)] (.int (0 : Int32)) := by rw [show nar .char (58 : Int32) = 58 from by decide] at A93; exact A93
          have xe93 := xkp xe92 K93 (all1 (by omega))
          refine w93.iinc (q := 249) (L2 := #[.val (.int x0), .val (.int x1), .val (.int x2), .val (.int x3), .val (.int x4), .val (.int (3 : Int32)), .val (.int c6), .val (.int c7), .val (.int c8), .val (.ref b67), .val (.int (Int32.ofNat m0)), .val (.int (1 : Int32)), .val (.ref b87), .val (.int ((5 : Int32) + (1 : Int32))), .unset]) (1 : Int32) at_246 rfl rfl rfl rfl ?_
          rw [show ((5 : Int32) + (1 : Int32)) = (6 : Int32) from by decide]
          exact key249 _ _ b67 b87 kc87 [c6, c7, c8] [(91 : Int32), c6, c7, c8, (93 : Int32), (58 : Int32)] [.int (0 : Int32), .int (0 : Int32), .int (0 : Int32), .int (0 : Int32), .int (0 : Int32)] _ _ h72 _ (w93.mono (by decide) (by decide)) S72 xe93 (by omega) ge (Or.inr (Or.inr ⟨_, _, _, rfl⟩)) A93 rfl (Nat.le_of_ble_eq_true rfl) (by unfold hp; rw [if_pos hin]; rfl)
        ·
          refine w72.icY (q := 155) at_148 ((feq f2).2) (by decide) (by decide) ?_
          refine w72.iconst (q := 156) (0 : Int32) at_155 rfl rfl ?_
          refine w72.istore (q := 158) (L2 := #[.val (.int x0), .val (.int x1), .val (.int x2), .val (.int x3), .val (.int x4), .val (.int (3 : Int32)), .val (.int c6), .val (.int c7), .val (.int c8), .val (.ref b67), .val (.int (Int32.ofNat m0)), .val (.int (0 : Int32)), .unset, .unset, .unset]) at_156 rfl rfl ?_
          refine w72.bipush (q := 160) (11 : Int32) at_158 rfl rfl ?_
          have hin : ¬ (58 : Int32) ∈ [c6, c7, c8] := by intro q; simp only [List.mem_cons, List.not_mem_nil, or_false] at q; rcases q with q | q | q; exact f0 q.symm; exact f1 q.symm; exact f2 q.symm
          refine w72.newP (q := 162) 11 at_160 (H.tw 7 rfl) (by decide) (by decide) (by decide) (by decide) (by decide) rfl fun T94 h94 b94 kc94 e94 w94 E94 A94 => ?_
          replace A94 : Arv G.Z h94 b94 kc94 .char (11 : Int32) [(.int (0 : Int32)), (.int (0 : Int32)), (.int (0 : Int32)), (.int (0 : Int32)), (.int (0 : Int32)), (.int (0 : Int32)), (.int (0 : Int32)), (.int (0 : Int32)), (.int (0 : Int32)), (.int (0 : Int32)), (.int (0 : Int32))] (.int (0 : Int32)) := A94.pad (pad_rep [] (.int (0 : Int32)) 11)
          have lt94 : b94 < h94.size := A94.lt
          have sz94 : h72.size ≤ h94.size := E94.1
          have ge : G.n0 ≤ b94 := by omega
          refine w94.astore (q := 164) (L2 := #[.val (.int x0), .val (.int x1), .val (.int x2), .val (.int x3), .val (.int x4), .val (.int (3 : Int32)), .val (.int c6), .val (.int c7), .val (.int c8), .val (.ref b67), .val (.int (Int32.ofNat m0)), .val (.int (0 : Int32)), .val (.ref b94), .unset, .unset]) at_162 rfl rfl rfl ?_
          refine w94.iconst (q := 165) (0 : Int32) at_164 rfl rfl ?_
          refine w94.istore (q := 167) (L2 := #[.val (.int x0), .val (.int x1), .val (.int x2), .val (.int x3), .val (.int x4), .val (.int (3 : Int32)), .val (.int c6), .val (.int c7), .val (.int c8), .val (.ref b67), .val (.int (Int32.ofNat m0)), .val (.int (0 : Int32)), .val (.ref b94), .val (.int (0 : Int32)), .unset]) at_165 rfl rfl ?_
          refine w94.iload (q := 169) at_167 rfl rfl ?_
          refine w94.ifY (q := 182) at_169 ((if0 _ _).trans (teq rfl).1) (by decide) (by decide) ?_
          refine w94.aload (q := 184) at_182 rfl rfl rfl ?_
          refine w94.iload (q := 186) at_184 rfl rfl ?_
          refine w94.iload (q := 188) at_186 rfl rfl ?_
          refine w94.castore (q := 189) 0 at_188 A94 ge ⟨by decide, by decide⟩ rfl (Nat.le_of_ble_eq_true rfl) rfl fun T95 h95 w95 K95 A95 => ?_
          have sz95 : h94.size ≤ h95.size := K95.1
          replace A95 : Arv G.Z h95 b94 kc94 .char (11 : Int32) [.int c6, .int (0 : Int32), .int (0 : Int32), .int (0 : Int32), .int (0 : Int32), .int (0 : Int32), .int (0 : Int32), .int (0 : Int32), .int (0 : Int32), .int (0 : Int32), .int (0 : Int32)] (.int (0 : Int32)) := by rw [N6] at A95; exact A95
          have xe95 := xkp E94 K95 (all1 (by omega))
          refine w95.iinc (q := 192) (L2 := #[.val (.int x0), .val (.int x1), .val (.int x2), .val (.int x3), .val (.int x4), .val (.int (3 : Int32)), .val (.int c6), .val (.int c7), .val (.int c8), .val (.ref b67), .val (.int (Int32.ofNat m0)), .val (.int (0 : Int32)), .val (.ref b94), .val (.int ((0 : Int32) + (1 : Int32))), .unset]) (1 : Int32) at_189 rfl rfl rfl rfl ?_
          rw [show ((0 : Int32) + (1 : Int32)) = (1 : Int32) from by decide]
          refine w95.iload (q := 194) at_192 rfl rfl ?_
          refine w95.iconst (q := 195) (2 : Int32) at_194 rfl rfl ?_
          refine w95.icN (q := 198) at_195 ((flt (by decide)).1) rfl ?_
          refine w95.aload (q := 200) at_198 rfl rfl rfl ?_
          refine w95.iload (q := 202) at_200 rfl rfl ?_
          refine w95.iload (q := 204) at_202 rfl rfl ?_
          refine w95.castore (q := 205) 1 at_204 A95 ge ⟨by decide, by decide⟩ rfl (Nat.le_of_ble_eq_true rfl) rfl fun T96 h96 w96 K96 A96 => ?_
          have sz96 : h95.size ≤ h96.size := K96.1
          replace A96 : Arv G.Z h96 b94 kc94 .char (11 : Int32) [.int c6, .int c7, .int (0 : Int32), .int (0 : Int32), .int (0 : Int32), .int (0 : Int32), .int (0 : Int32), .int (0 : Int32), .int (0 : Int32), .int (0 : Int32), .int (0 : Int32)] (.int (0 : Int32)) := by rw [N7] at A96; exact A96
          have xe96 := xkp xe95 K96 (all1 (by omega))
          refine w96.iinc (q := 208) (L2 := #[.val (.int x0), .val (.int x1), .val (.int x2), .val (.int x3), .val (.int x4), .val (.int (3 : Int32)), .val (.int c6), .val (.int c7), .val (.int c8), .val (.ref b67), .val (.int (Int32.ofNat m0)), .val (.int (0 : Int32)), .val (.ref b94), .val (.int ((1 : Int32) + (1 : Int32))), .unset]) (1 : Int32) at_205 rfl rfl rfl rfl ?_
          rw [show ((1 : Int32) + (1 : Int32)) = (2 : Int32) from by decide]
          refine w96.iload (q := 210) at_208 rfl rfl ?_
          refine w96.iconst (q := 211) (3 : Int32) at_210 rfl rfl ?_
          refine w96.icN (q := 214) at_211 ((flt (by decide)).1) rfl ?_
          refine w96.aload (q := 216) at_214 rfl rfl rfl ?_
          refine w96.iload (q := 218) at_216 rfl rfl ?_
          refine w96.iload (q := 220) at_218 rfl rfl ?_
          refine w96.castore (q := 221) 2 at_220 A96 ge ⟨by decide, by decide⟩ rfl (Nat.le_of_ble_eq_true rfl) rfl fun T97 h97 w97 K97 A97 => ?_
          have sz97 : h96.size ≤ h97.size := K97.1
          replace A97 : Arv G.Z h97 b94 kc94 .char (11 : Int32) [.int c6, .int c7, .int c8, .int (0 : Int32), .int (0 : Int32), .int (0 : Int32), .int (0 : Int32), .int (0 : Int32), .int (0 : Int32), .int (0 : Int32), .int (0 : Int32)] (.int (0 : Int32)) := by rw [N8] at A97; exact A97
          have xe97 := xkp xe96 K97 (all1 (by omega))
          refine w97.iinc (q := 224) (L2 := #[.val (.int x0), .val (.int x1), .val (.int x2), .val (.int x3), .val (.int x4), .val (.int (3 : Int32)), .val (.int c6), .val (.int c7), .val (.int c8), .val (.ref b67), .val (.int (Int32.ofNat m0)), .val (.int (0 : Int32)), .val (.ref b94), .val (.int ((2 : Int32) + (1 : Int32))), .unset]) (1 : Int32) at_221 rfl rfl rfl rfl ?_
          rw [show ((2 : Int32) + (1 : Int32)) = (3 : Int32) from by decide]
          refine w97.iload (q := 226) at_224 rfl rfl ?_
          refine w97.ifY (q := 239) at_226 ((if0 _ _).trans (teq rfl).1) (by decide) (by decide) ?_
          refine w97.aload (q := 241) at_239 rfl rfl rfl ?_
          refine w97.iload (q := 243) at_241 rfl rfl ?_
          refine w97.bipush (q := 245) (58 : Int32) at_243 rfl rfl ?_
          refine w97.castore (q := 246) 3 at_245 A97 ge ⟨by decide, by decide⟩ rfl (Nat.le_of_ble_eq_true rfl) rfl fun T98 h98 w98 K98 A98 => ?_
          have sz98 : h97.size ≤ h98.size := K98.1
          replace A98 : Arv G.Z h98 b94 kc94 .char (11 : Int32) [.int c6, .int c7, .int c8, .int (58 : Int32), .int (0 : Int32), .int (0 : Int32), .int (0 : Int32), .int (0 : Int32), .int (0 : Int32), .int (0 : Int32), .int (0 : Int32)] (.int (0 : Int32)) := by rw [show nar .char (58 : Int32) = 58 from by decide] at A98; exact A98
          have xe98 := xkp xe97 K98 (all1 (by omega))
          refine w98.iinc (q := 249) (L2 := #[.val (.int x0), .val (.int x1), .val (.int x2), .val (.int x3), .val (.int x4), .val (.int (3 : Int32)), .val (.int c6), .val (.int c7), .val (.int c8), .val (.ref b67), .val (.int (Int32.ofNat m0)), .val (.int (0 : Int32)), .val (.ref b94), .val (.int ((3 : Int32) + (1 : Int32))), .unset]) (1 : Int32) at_246 rfl rfl rfl rfl ?_
          rw [show ((3 : Int32) + (1 : Int32)) = (4 : Int32) from by decide]
          exact key249 _ _ b67 b94 kc94 [c6, c7, c8] [c6, c7, c8, (58 : Int32)] [.int (0 : Int32), .int (0 : Int32), .int (0 : Int32), .int (0 : Int32), .int (0 : Int32), .int (0 : Int32), .int (0 : Int32)] _ _ h72 _ (w98.mono (by decide) (by decide)) S72 xe98 (by omega) ge (Or.inr (Or.inr ⟨_, _, _, rfl⟩)) A98 rfl (Nat.le_of_ble_eq_true rfl) (by unfold hp; rw [if_neg hin]; rfl)
set_option maxRecDepth 65536 in
set_option maxHeartbeats 40000000 in
theorem comes_1 {Post : Tables → Env → Array Value → State → Outcome → State → Prop} (hpost : ∀ tb e args s v u, (limb_1_1.after args s (.returned v) u = true ∧ limb_1_2.after args s (.returned v) u = true ∧ True) → ReturnedEndW s (.returned v) u (Jvm.fieldLocs frame_1_writes args s ++ Jvm.arrayLocs frame_1_arrays args s ++ Jvm.staticLocs frame_1_statics s) 40 3328 → Post tb e args s (.returned v) u) :
    ArmFor flags0 classFile x code maxLocals ret World_1 tables_1 room_1 Calls_1 rest_1 Pre_1 Post := by
  intro l hfl _ _ p e ha hc hk s m args below hf hA hF happ hP
  obtain ⟨hcalls, hrest, hpre⟩ := hP
  obtain ⟨-, -, -, hnamed, -, -, -, hat⟩ := (Spec.applies_iff hf).mp happ
  obtain ⟨hg, hn⟩ := and_e (Cond.before_iff.mp (show (Jvm.Cond.and given_1 narrow_1).before args s = true from hpre))
  obtain ⟨h1, g0⟩ := and_e hg
  obtain ⟨w0, w1, w2, w3, w4, rfl⟩ : ∃ w0 w1 w2 w3 w4 : Value, args = #[w0, w1, w2, w3, w4] := by
    have hs : args.size = 5 := by simpa [Cond.value, given_1] using h1
    obtain ⟨L⟩ := args
    match L, hs with
    | [w0, w1, w2, w3, w4], _ => exact ⟨w0, w1, w2, w3, w4, rfl⟩
  have hw := fun d (hd : d ∈ tables_1) => atoms_spec (ws := Jvm.Cond.code x code maxLocals ret :: tables_1) hat d (List.mem_cons_of_mem _ hd)
  obtain ⟨hsets, hown0⟩ := atoms_of _ (rest_1_c_eq ▸ (show rest_1_c.before _ s = true from hrest))
  have hfit : Fit s := fun {y c} hc i hi => by
    obtain ⟨ha, rfl⟩ := Array.getElem?_eq_some_iff.mp hc
    have q := List.all_eq_true.mp ((Array.all_eq_true_iff_forall_mem.mp hF) _ (Array.getElem_mem ha)) i (List.mem_range.mpr hi)
    simpa [Array.getElem?_eq_getElem hi] using q
  obtain ⟨q0, g1⟩ := and_e g0
  obtain ⟨x0, e0⟩ := is_v q0
  obtain rfl : w0 = (.int x0) := Option.some.inj e0
  obtain ⟨q1, g2⟩ := and_e g1
  obtain ⟨x1, e1⟩ := is_v q1
  obtain rfl : w1 = (.int x1) := Option.some.inj e1
  obtain ⟨q2, g3⟩ := and_e g2
  obtain ⟨x2, e2⟩ := is_v q2
  obtain rfl : w2 = (.int x2) := Option.some.inj e2
  obtain ⟨q3, g4⟩ := and_e g3
  obtain ⟨x3, e3⟩ := is_v q3
  obtain rfl : w3 = (.int x3) := Option.some.inj e3
  obtain ⟨x4, e4⟩ := is_v g4
  obtain rfl : w4 = (.int x4) := Option.some.inj e4
  obtain ⟨cz, ez⟩ := is_v (Cond.before_iff.mp (hsets _ (List.mem_of_getElem? (i := 1) rfl)))
  have Sz : Sta s s.heap "java/lang/String" "COMPACT_STRINGS" "Z" (.int cz) := Sta.start ez (Or.inl (hsets _ (List.mem_of_getElem? (i := 0) rfl)))
  have nz : ¬ (cz = (0 : Int32)) := gotF (Cond.eq_ints ez (Term.int_eval (0))) (not_v (Cond.before_iff.mp (hsets _ (List.mem_of_getElem? (i := 2) rfl))))
  obtain ⟨vf, ef, rf⟩ := isR_v (Cond.before_iff.mp (hsets _ (List.mem_of_getElem? (i := 8) rfl)))
  have Sf : Sta s s.heap "jdk/internal/util/Preconditions" "SIOOBE_FORMATTER" "Ljava/util/function/BiFunction;" vf := Sta.start ef (Or.inl (hsets _ (List.mem_of_getElem? (i := 7) rfl)))
  have hEL : EW s _ consts_1 := (EW.cons (hw _ (List.mem_of_getElem? (i := 119) rfl)) (by decide) (EW.cons (hw _ (List.mem_of_getElem? (i := 162) rfl)) (by decide) (EW.cons (hw _ (List.mem_of_getElem? (i := 80) rfl)) (by decide) EW.nil)))
  have hCH : CHv s consts_1 s.vm s.heap := CHv.start hEL (fun p hp => hcalls.1 p hp) (hsets _ (List.mem_of_getElem? (i := 2) rfl)) (hw _ (List.mem_of_getElem? (i := 23) rfl)) (hw _ (List.mem_of_getElem? (i := 5) rfl))
  have Do : Dig s "DigitOnes" (fun r => 48 + r % 10) := dig_start hfit (hw _ (List.mem_of_getElem? (i := 23) rfl)) (Cond.before_iff.mp (hsets _ (List.mem_of_getElem? (i := 12) rfl))) (hsets _ (List.mem_of_getElem? (i := 11) rfl)) (Cond.before_iff.mp (hsets _ (List.mem_of_getElem? (i := 13) rfl))) (Cond.before_iff.mp (hsets _ (List.mem_of_getElem? (i := 14) rfl))) (fun r hr => dig_o hr)
  have Dt : Dig s "DigitTens" (fun r => 48 + r / 10) := dig_start hfit (hw _ (List.mem_of_getElem? (i := 23) rfl)) (Cond.before_iff.mp (hsets _ (List.mem_of_getElem? (i := 17) rfl))) (hsets _ (List.mem_of_getElem? (i := 16) rfl)) (Cond.before_iff.mp (hsets _ (List.mem_of_getElem? (i := 18) rfl))) (Cond.before_iff.mp (hsets _ (List.mem_of_getElem? (i := 19) rfl))) (fun r hr => dig_t hr)
  let G : Gx := (true, l, s, #[(.int x0), (.int x1), (.int x2), (.int x3), (.int x4)], consts_1, s.heap.size)
  have H : Hyp G := ⟨hw, hEL, ⟨cz, nz, Sz⟩, ⟨rfl, rfl⟩, ⟨vf, rf, Sf⟩, Do, Dt⟩
  obtain ⟨n, o, h1, h2, h3, _, L, rfl, ⟨⟨_, rfl, rfl⟩, N, -⟩, -, hq⟩ := con_law G H x0 x1 x2 x3 x4 s.heap (Old.start s) p e ha hc hk s m _ below hf ((Spec.applies_iff_loose hf).mp happ).1 ⟨rfl, State.Warmed39.refl s, rfl, fun _ => hCH⟩ trivial
  refine ⟨n, _, h1, h2, h3, hpost _ _ _ _ _ _ ⟨Cond.after_iff.mpr rfl, Cond.after_iff.mpr (eq_i res_at (Term.int_eval (1)) rfl), trivial⟩ ⟨hq.1.1, hq.1.2.1, hq.1.2.2.1, (hq.1.2.2.2.sift fun y hy => Or.inr (N y hy)).mono (by decide) (by decide)⟩⟩
theorem main_1_1 : Claimed_1_1 := comes_1 fun _ _ _ _ _ _ h hF => ⟨h.1, hF⟩
theorem main_1_2 : Claimed_1_2 := comes_1 fun _ _ _ _ _ _ h hF => ⟨h.2.1, hF⟩
end Jvm.Pilot.@@N@@
namespace Jvm.Pilot.@@N@@
open Jvm Jvm.ClassFile Sem Op Lib Jvm.Free Jvm.Stand Jvm.Pilot.@@N@@.Jvm.D
/-! MADE BY PROGRAM (witnessworld.py) out of the Statement's table words and the real class files: 29 classes; the members and pool entries that the words name. The judged class is class 1, her method 3. -/
namespace start1
open Jvm.ClassFile
def u (s : String) : CpInfo := .utf8 (stringToUtf16 s)
/-- a pool by its gaps: so many unusable entries, then the entry; so many at the end -/
def gap : Nat → List CpInfo → List CpInfo
  | 0, r => r
  | n + 1, r => .unusable :: gap n r
def poolList (es : List (Nat × CpInfo)) (last : Nat) : List CpInfo := es.foldr (fun e r => gap e.1 (e.2 :: r)) (gap last [])
def pool (es : List (Nat × CpInfo)) (last : Nat) : Array CpInfo := ⟨poolList es last⟩
def fileOf (pool : Array CpInfo) (this : Nat) (attrs : Array Attribute := #[]) (ms : Array MethodInfo := #[]) (fl : Nat := 33) (sup : Nat := 0) (ifs : Array Nat := #[]) (fds : Array FieldInfo := #[]) : ClassFile where
  minorVersion := 0
  majorVersion := 65
  constantPool := pool
  accessFlags := fl
  thisClass := this
  superClass := sup
  interfaces := ifs
  fields := fds
  methods := ms
  attributes := attrs
def plain (name : String) (sup : Option ClassId) : Class where
  name := name
  kind := .ordinary
  loader := none
  accessFlags := 33
  super := sup
  interfaces := #[]
  cf := none
  fields := #[]
  methods := #[]
  instanceTypes := #[]
  staticTypes := #[]
  resolved := #[]
  callSites := []
  init := .initialized
  statics := none
  mirror := none

def pool0 : Array CpInfo := pool [(5, u "<init>"), (0, u "()V"), (1, .class_ 10), (1, u "java/lang/Object")] 113

def k0c0 : Code := { maxStack := 0, maxLocals := 1, code := object_method_1_code, exceptionTable := #[], attributes := #[] }
def k0m0 : Method := { name := "<init>", desc := "()V", sig := { parameters := [], returnType := none }, accessFlags := 1, code := some k0c0 }
/-- java/lang/Object -/
def k0 : Class := { plain "java/lang/Object" none with
  accessFlags := 33
  interfaces := #[]
  cf := some (fileOf pool0 8 #[] #[{ accessFlags := 1, nameIndex := 5, descriptorIndex := 6, attributes := #[] }] 33 0 #[] #[])
  fields := #[]
  methods := #[k0m0]
  instanceTypes := #[]
  staticTypes := #[]
  resolved := Array.replicate 124 none
  statics := none }

def pool1 : Array CpInfo := pool [(2, .class_ 4), (1, u "java/lang/Object"), (0, u "<init>"), (0, u "()V"), (0, .methodref 8 9), (0, .class_ 10), (0, .nameAndType 11 12), (0, u "java/lang/String"), (0, u "charAt"), (0, u "(I)C"), (0, .methodref 14 15), (0, .class_ 16), (0, .nameAndType 17 12), (0, u "com/example/bytesluice/bytesluice/config/HostPortToStringPinLaw"), (0, u "pick"), (0, .methodref 8 19), (0, .nameAndType 5 20), (0, u "([C)V"), (0, .integer 65535), (0, .class_ 23), (0, u "com/example/bytesluice/bytesluice/config/HostPort"), (0, .methodref 22 25), (0, .nameAndType 5 26), (0, u "(Ljava/lang/String;I)V"), (0, .methodref 22 28), (0, .nameAndType 29 30), (0, u "toString"), (0, u "()Ljava/lang/String;"), (0, .methodref 8 32), (0, .nameAndType 33 34), (0, u "length"), (0, u "()I"), (0, .methodref 14 36), (0, .nameAndType 37 38), (0, u "at"), (0, u "([CILjava/lang/String;I)Z"), (3, u "law"), (0, u "(IIIII)Z")] 4

def k1m0 : Method := { name := "<init>", desc := "()V", sig := { parameters := [], returnType := none }, accessFlags := 1, code := none }
def k1c1 : Code := { maxStack := 2, maxLocals := 1, code := method_2_code, exceptionTable := #[], attributes := #[] }
def k1m1 : Method := { name := "pick", desc := "(I)C", sig := { parameters := [.int], returnType := some .char }, accessFlags := 10, code := some k1c1 }
def k1c2 : Code := { maxStack := 3, maxLocals := 4, code := method_3_code, exceptionTable := #[], attributes := #[] }
def k1m2 : Method := { name := "at", desc := "([CILjava/lang/String;I)Z", sig := { parameters := [(.array .char), .int, (.object "java/lang/String"), .int], returnType := some .boolean }, accessFlags := 10, code := some k1c2 }
def k1c3 : Code := { maxStack := 6, maxLocals := 15, code := code, exceptionTable := #[], attributes := #[] }
def k1m3 : Method := { name := "law", desc := "(IIIII)Z", sig := { parameters := [.int, .int, .int, .int, .int], returnType := some .boolean }, accessFlags := 9, code := some k1c3 }
/-- com/example/bytesluice/bytesluice/config/HostPortToStringPinLaw -/
def k1 : Class := { plain "com/example/bytesluice/bytesluice/config/HostPortToStringPinLaw" (some 0) with
  accessFlags := 49
  interfaces := #[]
  cf := some (fileOf pool1 14 #[] #[{ accessFlags := 1, nameIndex := 5, descriptorIndex := 6, attributes := #[] }, { accessFlags := 10, nameIndex := 17, descriptorIndex := 12, attributes := #[] }, { accessFlags := 10, nameIndex := 37, descriptorIndex := 38, attributes := #[] }, { accessFlags := 9, nameIndex := 42, descriptorIndex := 43, attributes := #[] }] 49 2 #[] #[])
  fields := #[]
  methods := #[k1m0, k1m1, k1m2, k1m3]
  instanceTypes := #[]
  staticTypes := #[]
  resolved := Array.replicate 48 none
  statics := none }

def pool2 : Array CpInfo := pool [(1, .class_ 2), (0, u "java/io/Serializable"), (0, .class_ 4), (0, u "java/lang/Object")] 2

/-- java/io/Serializable -/
def k2 : Class := { plain "java/io/Serializable" (some 0) with
  accessFlags := 1537
  interfaces := #[]
  cf := some (fileOf pool2 1 #[] #[] 1537 3 #[] #[])
  fields := #[]
  methods := #[]
  instanceTypes := #[]
  staticTypes := #[]
  resolved := Array.replicate 7 none
  statics := none }

def pool3 : Array CpInfo := pool [(1, .class_ 2), (0, u "java/lang/Comparable"), (0, .class_ 4), (0, u "java/lang/Object")] 7

/-- java/lang/Comparable -/
def k3 : Class := { plain "java/lang/Comparable" (some 0) with
  accessFlags := 1537
  interfaces := #[]
  cf := some (fileOf pool3 1 #[] #[] 1537 3 #[] #[])
  fields := #[]
  methods := #[]
  instanceTypes := #[]
  staticTypes := #[]
  resolved := Array.replicate 12 none
  statics := none }

def pool4 : Array CpInfo := pool [(2, .class_ 4), (1, u "java/lang/CharSequence"), (42, .class_ 48), (0, u "java/lang/CharSequence$1CodePointIterator"), (10, .class_ 60), (0, u "java/lang/CharSequence$1CharIterator"), (5, .class_ 67), (0, u "java/lang/Object"), (10, u "toString"), (0, u "()Ljava/lang/String;")] 51

def k4m0 : Method := { name := "toString", desc := "()Ljava/lang/String;", sig := { parameters := [], returnType := some (.object "java/lang/String") }, accessFlags := 1025, code := none }
/-- java/lang/CharSequence -/
def k4 : Class := { plain "java/lang/CharSequence" (some 0) with
  accessFlags := 1537
  interfaces := #[]
  cf := some (fileOf pool4 2 #[.nestMembers #[47, 59]] #[{ accessFlags := 1025, nameIndex := 78, descriptorIndex := 79, attributes := #[] }] 1537 66 #[] #[])
  fields := #[]
  methods := #[k4m0]
  instanceTypes := #[]
  staticTypes := #[]
  resolved := Array.replicate 131 none
  statics := none }

def pool5 : Array CpInfo := pool [(1, .class_ 2), (0, u "java/lang/constant/Constable"), (0, .class_ 4), (0, u "java/lang/Object")] 6

/-- java/lang/constant/Constable -/
def k5 : Class := { plain "java/lang/constant/Constable" (some 0) with
  accessFlags := 1537
  interfaces := #[]
  cf := some (fileOf pool5 1 #[] #[] 1537 3 #[] #[])
  fields := #[]
  methods := #[]
  instanceTypes := #[]
  staticTypes := #[]
  resolved := Array.replicate 11 none
  statics := none }

def pool6 : Array CpInfo := pool [(1, .class_ 2), (0, u "java/lang/constant/ConstantDesc"), (0, .class_ 4), (0, u "java/lang/Object")] 32

/-- java/lang/constant/ConstantDesc -/
def k6 : Class := { plain "java/lang/constant/ConstantDesc" (some 0) with
  accessFlags := 1537
  interfaces := #[]
  cf := some (fileOf pool6 1 #[] #[] 1537 3 #[] #[])
  fields := #[]
  methods := #[]
  instanceTypes := #[]
  staticTypes := #[]
  resolved := Array.replicate 37 none
  statics := none }

def pool7 : Array CpInfo := pool [(1, .methodref 2 3), (0, .class_ 4), (0, .nameAndType 5 6), (0, u "java/lang/Object"), (0, u "<init>"), (0, u "()V"), (2, .fieldref 10 11), (0, .class_ 12), (0, .nameAndType 13 14), (0, u "java/lang/String"), (0, u "value"), (0, u "[B"), (0, .fieldref 10 16), (0, .nameAndType 17 18), (0, u "coder"), (0, u "B"), (2, u "hash"), (0, u "I"), (2, u "hashIsZero"), (0, u "Z"), (0, .methodref 10 28), (0, .nameAndType 5 29), (0, u "([CIILjava/lang/Void;)V"), (8, .fieldref 10 39), (0, .nameAndType 40 26), (0, u "COMPACT_STRINGS"), (1, .class_ 44), (1, u "java/lang/StringUTF16"), (0, u "compress"), (1, .methodref 42 48), (0, .nameAndType 49 50), (0, u "coderFromArrayLen"), (0, u "([BI)B"), (3, .methodref 55 56), (0, .class_ 57), (0, .nameAndType 58 59), (0, u "java/util/Arrays"), (0, u "copyOfRange"), (0, u "([BII)[B"), (47, .class_ 109), (1, u "java/lang/StringLatin1"), (32, u "()Z"), (34, .methodref 42 178), (0, .nameAndType 45 179), (0, u "([CII)[B"), (13, .class_ 195), (1, u "java/lang/System"), (16, .methodref 193 213), (0, .nameAndType 214 215), (0, u "arraycopy"), (0, u "(Ljava/lang/Object;ILjava/lang/Object;II)V"), (118, u "()I"), (0, .methodref 10 336), (0, .nameAndType 17 337), (0, u "()B"), (2, u "()[B"), (22, u "([BI)C"), (27, u "(II)V"), (35, u "(I)C"), (34, .nameAndType 463 464), (0, u "toString"), (0, u "()Ljava/lang/String;"), (24, .methodref 10 490), (0, .nameAndType 5 491), (0, u "(Ljava/lang/AbstractStringBuilder;Ljava/lang/Void;)V"), (0, .methodref 10 493), (0, .nameAndType 494 142), (0, u "isLatin1"), (0, .methodref 107 496), (0, .nameAndType 497 363), (0, u "charAt"), (3, u "checkIndex"), (4, .nameAndType 507 334), (0, u "length"), (24, u "getBytes"), (15, u "(Ljava/lang/CharSequence;)Z"), (0, .methodref 550 506), (0, .class_ 551), (0, u "java/lang/AbstractStringBuilder"), (0, .methodref 550 553), (0, .nameAndType 554 340), (0, u "getValue"), (20, .class_ 576), (0, u "java/lang/CharSequence"), (12, u "([B[B)I"), (9, u "CASE_INSENSITIVE_ORDER"), (0, u "Ljava/util/Comparator;"), (34, u "indexOf"), (11, .methodref 107 648), (0, .nameAndType 635 589), (43, u "isEmpty"), (17, .interfaceMethodref 575 462), (0, .methodref 10 712), (0, .nameAndType 635 713), (0, u "(Ljava/lang/String;)I"), (107, u "([BIB)V"), (188, u "([C)V"), (36, .methodref 550 493), (5, .fieldref 1054 1055), (0, .class_ 1056), (0, .nameAndType 1057 1058), (0, u "jdk/internal/util/Preconditions"), (0, u "SIOOBE_FORMATTER"), (0, u "Ljava/util/function/BiFunction;"), (0, .methodref 1054 1060), (0, .nameAndType 501 1061), (0, u "(IILjava/util/function/BiFunction;)I"), (39, u "serialPersistentFields"), (0, u "[Ljava/io/ObjectStreamField;"), (0, .class_ 1104), (0, u "java/lang/String$CaseInsensitiveComparator"), (1, .class_ 1107), (0, u "java/io/Serializable"), (0, .class_ 1109), (0, u "java/lang/Comparable"), (0, .class_ 1111), (0, u "java/lang/constant/Constable"), (0, .class_ 1113), (0, u "java/lang/constant/ConstantDesc"), (2, u "serialVersionUID"), (0, u "J"), (3, u "REPL"), (0, u "C"), (2, u "LATIN1"), (1, u "UTF16"), (105, u "(Ljava/lang/StringBuilder;)V"), (57, u "contains")] 159

def k7m0 : Method := { name := "<init>", desc := "()V", sig := { parameters := [], returnType := none }, accessFlags := 1, code := none }
def k7c1 : Code := { maxStack := 5, maxLocals := 2, code := jdk_42_method_3_code, exceptionTable := #[], attributes := #[] }
def k7m1 : Method := { name := "<init>", desc := "([C)V", sig := { parameters := [(.array .char)], returnType := none }, accessFlags := 1, code := some k7c1 }
def k7c2 : Code := { maxStack := 3, maxLocals := 2, code := jdk_42_method_53_code, exceptionTable := #[], attributes := #[] }
def k7m2 : Method := { name := "<init>", desc := "(Ljava/lang/StringBuilder;)V", sig := { parameters := [(.object "java/lang/StringBuilder")], returnType := none }, accessFlags := 1, code := some k7c2 }
def k7c3 : Code := { maxStack := 2, maxLocals := 1, code := jdk_42_method_54_code, exceptionTable := #[], attributes := #[] }
def k7m3 : Method := { name := "length", desc := "()I", sig := { parameters := [], returnType := some .int }, accessFlags := 1, code := some k7c3 }
def k7c4 : Code := { maxStack := 1, maxLocals := 1, code := jdk_42_method_55_code, exceptionTable := #[], attributes := #[] }
def k7m4 : Method := { name := "isEmpty", desc := "()Z", sig := { parameters := [], returnType := some .boolean }, accessFlags := 1, code := some k7c4 }
def k7c5 : Code := { maxStack := 2, maxLocals := 2, code := jdk_42_method_56_code, exceptionTable := #[], attributes := #[] }
def k7m5 : Method := { name := "charAt", desc := "(I)C", sig := { parameters := [.int], returnType := some .char }, accessFlags := 1, code := some k7c5 }
def k7c6 : Code := { maxStack := 2, maxLocals := 3, code := jdk_42_method_84_code, exceptionTable := #[], attributes := #[] }
def k7m6 : Method := { name := "indexOf", desc := "(Ljava/lang/String;)I", sig := { parameters := [(.object "java/lang/String")], returnType := some .int }, accessFlags := 1, code := some k7c6 }
def k7c7 : Code := { maxStack := 2, maxLocals := 2, code := jdk_42_method_97_code, exceptionTable := #[], attributes := #[] }
def k7m7 : Method := { name := "contains", desc := "(Ljava/lang/CharSequence;)Z", sig := { parameters := [(.object "java/lang/CharSequence")], returnType := some .boolean }, accessFlags := 1, code := some k7c7 }
def k7c8 : Code := { maxStack := 1, maxLocals := 1, code := jdk_42_method_126_code, exceptionTable := #[], attributes := #[] }
def k7m8 : Method := { name := "toString", desc := "()Ljava/lang/String;", sig := { parameters := [], returnType := some (.object "java/lang/String") }, accessFlags := 1, code := some k7c8 }
def k7c9 : Code := { maxStack := 5, maxLocals := 4, code := jdk_42_method_147_code, exceptionTable := #[], attributes := #[] }
def k7m9 : Method := { name := "getBytes", desc := "([BIB)V", sig := { parameters := [(.array .byte), .int, .byte], returnType := none }, accessFlags := 0, code := some k7c9 }
def k7c10 : Code := { maxStack := 4, maxLocals := 6, code := jdk_42_method_149_code, exceptionTable := #[], attributes := #[] }
def k7m10 : Method := { name := "<init>", desc := "([CIILjava/lang/Void;)V", sig := { parameters := [(.array .char), .int, .int, (.object "java/lang/Void")], returnType := none }, accessFlags := 2, code := some k7c10 }
def k7c11 : Code := { maxStack := 5, maxLocals := 5, code := jdk_42_method_150_code, exceptionTable := #[], attributes := #[] }
def k7m11 : Method := { name := "<init>", desc := "(Ljava/lang/AbstractStringBuilder;Ljava/lang/Void;)V", sig := { parameters := [(.object "java/lang/AbstractStringBuilder"), (.object "java/lang/Void")], returnType := none }, accessFlags := 0, code := some k7c11 }
def k7c12 : Code := { maxStack := 1, maxLocals := 1, code := jdk_42_method_152_code, exceptionTable := #[], attributes := #[] }
def k7m12 : Method := { name := "coder", desc := "()B", sig := { parameters := [], returnType := some .byte }, accessFlags := 0, code := some k7c12 }
def k7c13 : Code := { maxStack := 1, maxLocals := 1, code := jdk_42_method_154_code, exceptionTable := #[], attributes := #[] }
def k7m13 : Method := { name := "isLatin1", desc := "()Z", sig := { parameters := [], returnType := some .boolean }, accessFlags := 0, code := some k7c13 }
def k7c14 : Code := { maxStack := 3, maxLocals := 2, code := jdk_42_method_155_code, exceptionTable := #[], attributes := #[] }
def k7m14 : Method := { name := "checkIndex", desc := "(II)V", sig := { parameters := [.int, .int], returnType := none }, accessFlags := 8, code := some k7c14 }
/-- java/lang/String -/
def k7 : Class := { plain "java/lang/String" (some 0) with
  accessFlags := 49
  interfaces := #[2, 3, 4, 5, 6]
  cf := some (fileOf pool7 10 #[.nestMembers #[1103]] #[{ accessFlags := 1, nameIndex := 5, descriptorIndex := 6, attributes := #[] }, { accessFlags := 1, nameIndex := 5, descriptorIndex := 1010, attributes := #[] }, { accessFlags := 1, nameIndex := 5, descriptorIndex := 1233, attributes := #[] }, { accessFlags := 1, nameIndex := 507, descriptorIndex := 334, attributes := #[] }, { accessFlags := 1, nameIndex := 692, descriptorIndex := 142, attributes := #[] }, { accessFlags := 1, nameIndex := 497, descriptorIndex := 427, attributes := #[] }, { accessFlags := 1, nameIndex := 635, descriptorIndex := 713, attributes := #[] }, { accessFlags := 1, nameIndex := 1291, descriptorIndex := 548, attributes := #[] }, { accessFlags := 1, nameIndex := 463, descriptorIndex := 464, attributes := #[] }, { accessFlags := 0, nameIndex := 532, descriptorIndex := 821, attributes := #[] }, { accessFlags := 2, nameIndex := 5, descriptorIndex := 29, attributes := #[] }, { accessFlags := 0, nameIndex := 5, descriptorIndex := 491, attributes := #[] }, { accessFlags := 0, nameIndex := 17, descriptorIndex := 337, attributes := #[] }, { accessFlags := 0, nameIndex := 494, descriptorIndex := 142, attributes := #[] }, { accessFlags := 8, nameIndex := 501, descriptorIndex := 391, attributes := #[] }] 49 2 #[1106, 1108, 575, 1110, 1112] #[{ accessFlags := 18, nameIndex := 13, descriptorIndex := 14, attributes := #[] }, { accessFlags := 18, nameIndex := 17, descriptorIndex := 18, attributes := #[] }, { accessFlags := 2, nameIndex := 21, descriptorIndex := 22, attributes := #[] }, { accessFlags := 2, nameIndex := 25, descriptorIndex := 26, attributes := #[] }, { accessFlags := 26, nameIndex := 1116, descriptorIndex := 1117, attributes := #[] }, { accessFlags := 24, nameIndex := 40, descriptorIndex := 26, attributes := #[] }, { accessFlags := 26, nameIndex := 1101, descriptorIndex := 1102, attributes := #[] }, { accessFlags := 26, nameIndex := 1121, descriptorIndex := 1122, attributes := #[] }, { accessFlags := 25, nameIndex := 599, descriptorIndex := 600, attributes := #[] }, { accessFlags := 24, nameIndex := 1125, descriptorIndex := 18, attributes := #[] }, { accessFlags := 24, nameIndex := 1127, descriptorIndex := 18, attributes := #[] }])
  fields := #[{ name := "value", type := (.array .byte), accessFlags := 18, slot := 0, constantValue := 0 }, { name := "coder", type := .byte, accessFlags := 18, slot := 1, constantValue := 0 }, { name := "hash", type := .int, accessFlags := 2, slot := 2, constantValue := 0 }, { name := "hashIsZero", type := .boolean, accessFlags := 2, slot := 3, constantValue := 0 }, { name := "serialVersionUID", type := .long, accessFlags := 26, slot := 0, constantValue := 0 }, { name := "COMPACT_STRINGS", type := .boolean, accessFlags := 24, slot := 1, constantValue := 0 }, { name := "serialPersistentFields", type := (.array (.object "java/io/ObjectStreamField")), accessFlags := 26, slot := 2, constantValue := 0 }, { name := "REPL", type := .char, accessFlags := 26, slot := 3, constantValue := 0 }, { name := "CASE_INSENSITIVE_ORDER", type := (.object "java/util/Comparator"), accessFlags := 25, slot := 4, constantValue := 0 }, { name := "LATIN1", type := .byte, accessFlags := 24, slot := 5, constantValue := 0 }, { name := "UTF16", type := .byte, accessFlags := 24, slot := 6, constantValue := 0 }]
  methods := #[k7m0, k7m1, k7m2, k7m3, k7m4, k7m5, k7m6, k7m7, k7m8, k7m9, k7m10, k7m11, k7m12, k7m13, k7m14]
  instanceTypes := #[(.array .byte), .byte, .int, .boolean]
  staticTypes := #[.long, .boolean, (.array (.object "java/io/ObjectStreamField")), .char, (.object "java/util/Comparator"), .byte, .byte]
  resolved := Array.replicate 1451 none
  statics := some 0 }

def pool8 : Array CpInfo := pool [(6, .class_ 8), (1, u "java/lang/Object"), (0, u "<init>"), (0, u "()V"), (1, .class_ 14), (1, u "java/lang/StringUTF16"), (31, u "$assertionsDisabled"), (0, u "Z"), (13, u "HI_BYTE_SHIFT"), (0, u "I"), (2, u "LO_BYTE_SHIFT"), (49, .methodref 12 116), (0, .nameAndType 117 118), (0, u "compress"), (0, u "([CI[BII)I"), (3, u "([CII)[B"), (138, u "coderFromArrayLen"), (0, u "([BI)B"), (106, .class_ 371), (1, u "java/lang/StringUTF16$LinesSpliterator"), (58, u "MAX_LENGTH"), (196, .class_ 628), (0, u "java/lang/StringUTF16$CodePointsSpliterator"), (0, .class_ 630), (0, u "java/lang/StringUTF16$CharsSpliterator")] 4

def k8m0 : Method := { name := "<init>", desc := "()V", sig := { parameters := [], returnType := none }, accessFlags := 0, code := none }
def k8c1 : Code := { maxStack := 2, maxLocals := 2, code := jdk_52_method_15_code, exceptionTable := #[], attributes := #[] }
def k8m1 : Method := { name := "coderFromArrayLen", desc := "([BI)B", sig := { parameters := [(.array .byte), .int], returnType := some .byte }, accessFlags := 8, code := some k8c1 }
def k8c2 : Code := { maxStack := 5, maxLocals := 6, code := jdk_52_method_16_code, exceptionTable := #[], attributes := #[] }
def k8m2 : Method := { name := "compress", desc := "([CII)[B", sig := { parameters := [(.array .char), .int, .int], returnType := some (.array .byte) }, accessFlags := 9, code := some k8c2 }
def k8c3 : Code := { maxStack := 3, maxLocals := 7, code := jdk_52_method_21_code, exceptionTable := #[], attributes := #[] }
def k8m3 : Method := { name := "compress", desc := "([CI[BII)I", sig := { parameters := [(.array .char), .int, (.array .byte), .int, .int], returnType := some .int }, accessFlags := 9, code := some k8c3 }
/-- java/lang/StringUTF16 -/
def k8 : Class := { plain "java/lang/StringUTF16" (some 0) with
  accessFlags := 48
  interfaces := #[]
  cf := some (fileOf pool8 12 #[.nestMembers #[627, 629, 369]] #[{ accessFlags := 0, nameIndex := 9, descriptorIndex := 10, attributes := #[] }, { accessFlags := 8, nameIndex := 261, descriptorIndex := 262, attributes := #[] }, { accessFlags := 9, nameIndex := 117, descriptorIndex := 122, attributes := #[] }, { accessFlags := 9, nameIndex := 117, descriptorIndex := 118, attributes := #[] }] 48 6 #[] #[{ accessFlags := 26, nameIndex := 61, descriptorIndex := 62, attributes := #[] }, { accessFlags := 26, nameIndex := 65, descriptorIndex := 62, attributes := #[] }, { accessFlags := 24, nameIndex := 430, descriptorIndex := 62, attributes := #[] }, { accessFlags := 4120, nameIndex := 46, descriptorIndex := 47, attributes := #[] }])
  fields := #[{ name := "HI_BYTE_SHIFT", type := .int, accessFlags := 26, slot := 0, constantValue := 0 }, { name := "LO_BYTE_SHIFT", type := .int, accessFlags := 26, slot := 1, constantValue := 0 }, { name := "MAX_LENGTH", type := .int, accessFlags := 24, slot := 2, constantValue := 0 }, { name := "$assertionsDisabled", type := .boolean, accessFlags := 4120, slot := 3, constantValue := 0 }]
  methods := #[k8m0, k8m1, k8m2, k8m3]
  instanceTypes := #[]
  staticTypes := #[.int, .int, .int, .boolean]
  resolved := Array.replicate 635 none
  statics := none }

def pool9 : Array CpInfo := pool [(1, .methodref 2 3), (0, .class_ 4), (0, .nameAndType 5 6), (0, u "java/lang/Object"), (0, u "<init>"), (0, u "()V"), (0, .class_ 8), (0, u "java/lang/Record")] 13

def k9c0 : Code := { maxStack := 1, maxLocals := 1, code := jdk_30_method_1_code, exceptionTable := #[], attributes := #[] }
def k9m0 : Method := { name := "<init>", desc := "()V", sig := { parameters := [], returnType := none }, accessFlags := 4, code := some k9c0 }
/-- java/lang/Record -/
def k9 : Class := { plain "java/lang/Record" (some 0) with
  accessFlags := 1057
  interfaces := #[]
  cf := some (fileOf pool9 7 #[] #[{ accessFlags := 4, nameIndex := 5, descriptorIndex := 6, attributes := #[] }] 1057 2 #[] #[])
  fields := #[]
  methods := #[k9m0]
  instanceTypes := #[]
  staticTypes := #[]
  resolved := Array.replicate 22 none
  statics := none }

def pool10 : Array CpInfo := pool [(1, .methodref 2 3), (0, .class_ 4), (0, .nameAndType 5 6), (0, u "java/lang/Record"), (0, u "<init>"), (0, u "()V"), (0, .methodref 8 9), (0, .class_ 10), (0, .nameAndType 11 12), (0, u "java/lang/String"), (0, u "isEmpty"), (0, u "()Z"), (7, .integer 65535), (0, .class_ 22), (0, u "java/lang/StringBuilder"), (0, .methodref 21 3), (2, .methodref 21 27), (0, .nameAndType 28 29), (0, u "append"), (0, u "(Ljava/lang/String;)Ljava/lang/StringBuilder;"), (0, .methodref 21 31), (0, .nameAndType 28 32), (0, u "(I)Ljava/lang/StringBuilder;"), (2, .methodref 21 36), (0, .nameAndType 37 38), (0, u "toString"), (0, u "()Ljava/lang/String;"), (0, .fieldref 40 41), (0, .class_ 42), (0, .nameAndType 43 44), (0, u "com/example/bytesluice/bytesluice/config/HostPort"), (0, u "host"), (0, u "Ljava/lang/String;"), (0, .fieldref 40 46), (0, .nameAndType 47 48), (0, u "port"), (0, u "I"), (16, .string 66), (0, u "["), (4, .string 72), (0, u "]"), (3, .string 77), (0, u ":"), (0, .methodref 8 79), (0, .nameAndType 80 81), (0, u "contains"), (0, u "(Ljava/lang/CharSequence;)Z"), (31, u "(Ljava/lang/String;I)V"), (28, u "HTTP_SCHEME")] 43

def k10c0 : Code := { maxStack := 4, maxLocals := 3, code := prog_4_method_1_code, exceptionTable := #[], attributes := #[] }
def k10m0 : Method := { name := "<init>", desc := "(Ljava/lang/String;I)V", sig := { parameters := [(.object "java/lang/String"), .int], returnType := none }, accessFlags := 1, code := some k10c0 }
def k10c1 : Code := { maxStack := 3, maxLocals := 1, code := prog_4_method_5_code, exceptionTable := #[], attributes := #[] }
def k10m1 : Method := { name := "toString", desc := "()Ljava/lang/String;", sig := { parameters := [], returnType := some (.object "java/lang/String") }, accessFlags := 1, code := some k10c1 }
/-- com/example/bytesluice/bytesluice/config/HostPort -/
def k10 : Class := { plain "com/example/bytesluice/bytesluice/config/HostPort" (some 9) with
  accessFlags := 49
  interfaces := #[]
  cf := some (fileOf pool10 40 #[] #[{ accessFlags := 1, nameIndex := 5, descriptorIndex := 113, attributes := #[] }, { accessFlags := 1, nameIndex := 37, descriptorIndex := 38, attributes := #[] }] 49 2 #[] #[{ accessFlags := 18, nameIndex := 43, descriptorIndex := 44, attributes := #[] }, { accessFlags := 18, nameIndex := 47, descriptorIndex := 48, attributes := #[] }, { accessFlags := 26, nameIndex := 142, descriptorIndex := 44, attributes := #[] }])
  fields := #[{ name := "host", type := (.object "java/lang/String"), accessFlags := 18, slot := 0, constantValue := 0 }, { name := "port", type := .int, accessFlags := 18, slot := 1, constantValue := 0 }, { name := "HTTP_SCHEME", type := (.object "java/lang/String"), accessFlags := 26, slot := 0, constantValue := 0 }]
  methods := #[k10m0, k10m1]
  instanceTypes := #[(.object "java/lang/String"), .int]
  staticTypes := #[(.object "java/lang/String")]
  resolved := Array.replicate 186 none
  statics := none }

def pool11 : Array CpInfo := pool [(1, .class_ 2), (0, u "java/lang/Appendable"), (0, .class_ 4), (0, u "java/lang/Object")] 9

/-- java/lang/Appendable -/
def k11 : Class := { plain "java/lang/Appendable" (some 0) with
  accessFlags := 1537
  interfaces := #[]
  cf := some (fileOf pool11 1 #[] #[] 1537 3 #[] #[])
  fields := #[]
  methods := #[]
  instanceTypes := #[]
  staticTypes := #[]
  resolved := Array.replicate 14 none
  statics := none }

def pool12 : Array CpInfo := pool [(1, .class_ 2), (0, u "java/lang/String"), (0, .methodref 4 5), (0, .class_ 6), (0, .nameAndType 7 8), (0, u "java/lang/Object"), (0, u "<init>"), (0, u "()V"), (1, .class_ 12), (1, u "java/lang/AbstractStringBuilder"), (0, u "EMPTYVALUE"), (0, u "[B"), (0, .fieldref 10 16), (0, .nameAndType 17 14), (0, u "value"), (0, .fieldref 1 19), (0, .nameAndType 20 21), (0, u "COMPACT_STRINGS"), (0, u "Z"), (0, .fieldref 10 23), (0, .nameAndType 24 25), (0, u "coder"), (0, u "B"), (6, .methodref 1 33), (0, .nameAndType 34 35), (0, u "length"), (0, u "()I"), (0, .class_ 37), (0, u "java/lang/Integer"), (2, .methodref 1 41), (0, .nameAndType 24 42), (0, u "()B"), (2, u "append"), (0, u "(Ljava/lang/String;)Ljava/lang/AbstractStringBuilder;"), (1, .class_ 49), (0, u "java/lang/CharSequence"), (19, u "(Ljava/lang/String;)V"), (5, u "maybeLatin1"), (3, .fieldref 10 80), (0, .nameAndType 81 82), (0, u "count"), (0, u "I"), (0, .methodref 10 84), (0, .nameAndType 85 86), (0, u "isLatin1"), (0, u "()Z"), (13, .methodref 10 101), (0, .nameAndType 102 103), (0, u "ensureCapacityInternal"), (0, u "(I)V"), (3, u "(I)I"), (80, u "getChars"), (19, .methodref 10 209), (0, .nameAndType 210 211), (0, u "putStringAt"), (0, u "(ILjava/lang/String;)V"), (5, u "inflateIfNeededFor"), (2, .nameAndType 221 222), (0, u "getBytes"), (0, u "([BIB)V"), (22, .methodref 36 246), (0, .nameAndType 247 107), (0, u "stringSize"), (0, .methodref 36 249), (0, .nameAndType 188 250), (0, u "(II[B)I"), (146, .methodref 10 398), (0, .nameAndType 217 69), (0, .methodref 1 220), (3, u "()[B"), (40, .class_ 445), (0, u "java/lang/Appendable"), (65, u "(I)Ljava/lang/AbstractStringBuilder;"), (40, u "getValue")] 56

def k12m0 : Method := { name := "<init>", desc := "()V", sig := { parameters := [], returnType := none }, accessFlags := 0, code := none }
def k12c1 : Code := { maxStack := 2, maxLocals := 2, code := jdk_68_method_2_code, exceptionTable := #[], attributes := #[] }
def k12m1 : Method := { name := "<init>", desc := "(I)V", sig := { parameters := [.int], returnType := none }, accessFlags := 0, code := some k12c1 }
def k12c2 : Code := { maxStack := 1, maxLocals := 1, code := jdk_68_method_6_code, exceptionTable := #[], attributes := #[] }
def k12m2 : Method := { name := "length", desc := "()I", sig := { parameters := [], returnType := some .int }, accessFlags := 1, code := some k12c2 }
def k12c3 : Code := { maxStack := 4, maxLocals := 3, code := jdk_68_method_9_code, exceptionTable := #[], attributes := #[] }
def k12m3 : Method := { name := "ensureCapacityInternal", desc := "(I)V", sig := { parameters := [.int], returnType := none }, accessFlags := 2, code := some k12c3 }
def k12c4 : Code := { maxStack := 3, maxLocals := 3, code := jdk_68_method_22_code, exceptionTable := #[], attributes := #[] }
def k12m4 : Method := { name := "append", desc := "(Ljava/lang/String;)Ljava/lang/AbstractStringBuilder;", sig := { parameters := [(.object "java/lang/String")], returnType := some (.object "java/lang/AbstractStringBuilder") }, accessFlags := 1, code := some k12c4 }
def k12c5 : Code := { maxStack := 4, maxLocals := 4, code := jdk_68_method_32_code, exceptionTable := #[], attributes := #[] }
def k12m5 : Method := { name := "append", desc := "(I)Ljava/lang/AbstractStringBuilder;", sig := { parameters := [.int], returnType := some (.object "java/lang/AbstractStringBuilder") }, accessFlags := 1, code := some k12c5 }
def k12c6 : Code := { maxStack := 1, maxLocals := 1, code := jdk_68_method_64_code, exceptionTable := #[], attributes := #[] }
def k12m6 : Method := { name := "getValue", desc := "()[B", sig := { parameters := [], returnType := some (.array .byte) }, accessFlags := 16, code := some k12c6 }
def k12c7 : Code := { maxStack := 1, maxLocals := 1, code := jdk_68_method_68_code, exceptionTable := #[], attributes := #[] }
def k12m7 : Method := { name := "isLatin1", desc := "()Z", sig := { parameters := [], returnType := some .boolean }, accessFlags := 16, code := some k12c7 }
def k12c8 : Code := { maxStack := 2, maxLocals := 2, code := jdk_68_method_71_code, exceptionTable := #[], attributes := #[] }
def k12m8 : Method := { name := "inflateIfNeededFor", desc := "(Ljava/lang/String;)V", sig := { parameters := [(.object "java/lang/String")], returnType := none }, accessFlags := 2, code := some k12c8 }
def k12c9 : Code := { maxStack := 4, maxLocals := 3, code := jdk_68_method_73_code, exceptionTable := #[], attributes := #[] }
def k12m9 : Method := { name := "putStringAt", desc := "(ILjava/lang/String;)V", sig := { parameters := [.int, (.object "java/lang/String")], returnType := none }, accessFlags := 2, code := some k12c9 }
/-- java/lang/AbstractStringBuilder -/
def k12 : Class := { plain "java/lang/AbstractStringBuilder" (some 0) with
  accessFlags := 1056
  interfaces := #[11, 4]
  cf := some (fileOf pool12 10 #[] #[{ accessFlags := 0, nameIndex := 7, descriptorIndex := 8, attributes := #[] }, { accessFlags := 0, nameIndex := 7, descriptorIndex := 103, attributes := #[] }, { accessFlags := 1, nameIndex := 34, descriptorIndex := 35, attributes := #[] }, { accessFlags := 2, nameIndex := 102, descriptorIndex := 103, attributes := #[] }, { accessFlags := 1, nameIndex := 45, descriptorIndex := 46, attributes := #[] }, { accessFlags := 1, nameIndex := 45, descriptorIndex := 511, attributes := #[] }, { accessFlags := 16, nameIndex := 552, descriptorIndex := 403, attributes := #[] }, { accessFlags := 16, nameIndex := 85, descriptorIndex := 86, attributes := #[] }, { accessFlags := 2, nameIndex := 217, descriptorIndex := 69, attributes := #[] }, { accessFlags := 2, nameIndex := 210, descriptorIndex := 211, attributes := #[] }] 1056 4 #[444, 48] #[{ accessFlags := 0, nameIndex := 17, descriptorIndex := 14, attributes := #[] }, { accessFlags := 0, nameIndex := 24, descriptorIndex := 25, attributes := #[] }, { accessFlags := 0, nameIndex := 75, descriptorIndex := 21, attributes := #[] }, { accessFlags := 0, nameIndex := 81, descriptorIndex := 82, attributes := #[] }, { accessFlags := 26, nameIndex := 13, descriptorIndex := 14, attributes := #[] }])
  fields := #[{ name := "value", type := (.array .byte), accessFlags := 0, slot := 0, constantValue := 0 }, { name := "coder", type := .byte, accessFlags := 0, slot := 1, constantValue := 0 }, { name := "maybeLatin1", type := .boolean, accessFlags := 0, slot := 2, constantValue := 0 }, { name := "count", type := .int, accessFlags := 0, slot := 3, constantValue := 0 }, { name := "EMPTYVALUE", type := (.array .byte), accessFlags := 26, slot := 0, constantValue := 0 }]
  methods := #[k12m0, k12m1, k12m2, k12m3, k12m4, k12m5, k12m6, k12m7, k12m8, k12m9]
  instanceTypes := #[(.array .byte), .byte, .boolean, .int]
  staticTypes := #[(.array .byte)]
  resolved := Array.replicate 609 none
  statics := none }

def pool13 : Array CpInfo := pool [(1, .methodref 2 3), (0, .class_ 4), (0, .nameAndType 5 6), (0, u "java/lang/AbstractStringBuilder"), (0, u "<init>"), (0, u "(I)V"), (11, .class_ 20), (1, u "java/lang/String"), (3, .class_ 26), (1, u "java/lang/StringBuilder"), (0, u "append"), (0, u "(Ljava/lang/String;)Ljava/lang/StringBuilder;"), (0, .methodref 2 30), (0, .nameAndType 27 31), (0, u "(Ljava/lang/String;)Ljava/lang/AbstractStringBuilder;"), (21, .methodref 2 54), (0, .nameAndType 27 55), (0, u "(I)Ljava/lang/AbstractStringBuilder;"), (81, .methodref 18 138), (0, .nameAndType 5 139), (0, u "(Ljava/lang/StringBuilder;)V"), (5, u "()V"), (10, u "()I"), (111, u "(I)Ljava/lang/StringBuilder;"), (74, .methodref 2 344), (0, .nameAndType 345 156), (0, u "length"), (3, .class_ 350), (0, u "java/lang/Appendable"), (0, .class_ 352), (0, u "java/io/Serializable"), (0, .class_ 354), (0, u "java/lang/Comparable"), (0, .class_ 356), (0, u "java/lang/CharSequence"), (0, u "serialVersionUID"), (0, u "J"), (40, u "toString"), (0, u "()Ljava/lang/String;")] 21

def k13c0 : Code := { maxStack := 2, maxLocals := 1, code := jdk_67_method_1_code, exceptionTable := #[], attributes := #[] }
def k13m0 : Method := { name := "<init>", desc := "()V", sig := { parameters := [], returnType := none }, accessFlags := 1, code := some k13c0 }
def k13c1 : Code := { maxStack := 2, maxLocals := 2, code := jdk_67_method_7_code, exceptionTable := #[], attributes := #[] }
def k13m1 : Method := { name := "append", desc := "(Ljava/lang/String;)Ljava/lang/StringBuilder;", sig := { parameters := [(.object "java/lang/String")], returnType := some (.object "java/lang/StringBuilder") }, accessFlags := 1, code := some k13c1 }
def k13c2 : Code := { maxStack := 2, maxLocals := 2, code := jdk_67_method_15_code, exceptionTable := #[], attributes := #[] }
def k13m2 : Method := { name := "append", desc := "(I)Ljava/lang/StringBuilder;", sig := { parameters := [.int], returnType := some (.object "java/lang/StringBuilder") }, accessFlags := 1, code := some k13c2 }
def k13c3 : Code := { maxStack := 3, maxLocals := 1, code := jdk_67_method_42_code, exceptionTable := #[], attributes := #[] }
def k13m3 : Method := { name := "toString", desc := "()Ljava/lang/String;", sig := { parameters := [], returnType := some (.object "java/lang/String") }, accessFlags := 1, code := some k13c3 }
def k13c4 : Code := { maxStack := 1, maxLocals := 1, code := jdk_67_method_93_code, exceptionTable := #[], attributes := #[] }
def k13m4 : Method := { name := "length", desc := "()I", sig := { parameters := [], returnType := some .int }, accessFlags := 4161, code := some k13c4 }
/-- java/lang/StringBuilder -/
def k13 : Class := { plain "java/lang/StringBuilder" (some 12) with
  accessFlags := 49
  interfaces := #[11, 2, 3, 4]
  cf := some (fileOf pool13 24 #[] #[{ accessFlags := 1, nameIndex := 5, descriptorIndex := 145, attributes := #[] }, { accessFlags := 1, nameIndex := 27, descriptorIndex := 28, attributes := #[] }, { accessFlags := 1, nameIndex := 27, descriptorIndex := 268, attributes := #[] }, { accessFlags := 1, nameIndex := 399, descriptorIndex := 400, attributes := #[] }, { accessFlags := 4161, nameIndex := 345, descriptorIndex := 156, attributes := #[] }] 49 2 #[349, 351, 353, 355] #[{ accessFlags := 24, nameIndex := 357, descriptorIndex := 358, attributes := #[] }])
  fields := #[{ name := "serialVersionUID", type := .long, accessFlags := 24, slot := 0, constantValue := 0 }]
  methods := #[k13m0, k13m1, k13m2, k13m3, k13m4]
  instanceTypes := #[(.array .byte), .byte, .boolean, .int]
  staticTypes := #[.long]
  resolved := Array.replicate 422 none
  statics := none }

def pool14 : Array CpInfo := pool [(1, .class_ 2), (0, u "java/lang/String"), (1, .class_ 6), (1, u "java/lang/Object"), (0, u "<init>"), (0, u "()V"), (0, .methodref 1 10), (0, .nameAndType 11 12), (0, u "checkIndex"), (0, u "(II)V"), (1, .class_ 16), (1, u "java/lang/StringLatin1"), (36, u "([BI)C"), (45, .methodref 14 100), (0, .nameAndType 101 102), (0, u "indexOf"), (0, u "([BI[BII)I"), (18, u "$assertionsDisabled"), (0, u "Z"), (98, .class_ 223), (1, u "java/lang/StringLatin1$LinesSpliterator"), (28, u "charAt"), (34, u "([B[B)I"), (102, .class_ 391), (0, u "java/lang/StringLatin1$CharsSpliterator")] 3

def k14m0 : Method := { name := "<init>", desc := "()V", sig := { parameters := [], returnType := none }, accessFlags := 0, code := none }
def k14c1 : Code := { maxStack := 2, maxLocals := 2, code := jdk_43_method_2_code, exceptionTable := #[], attributes := #[] }
def k14m1 : Method := { name := "charAt", desc := "([BI)C", sig := { parameters := [(.array .byte), .int], returnType := some .char }, accessFlags := 9, code := some k14c1 }
def k14c2 : Code := { maxStack := 5, maxLocals := 2, code := jdk_43_method_24_code, exceptionTable := #[], attributes := #[] }
def k14m2 : Method := { name := "indexOf", desc := "([B[B)I", sig := { parameters := [(.array .byte), (.array .byte)], returnType := some .int }, accessFlags := 9, code := some k14c2 }
def k14c3 : Code := { maxStack := 3, maxLocals := 11, code := jdk_43_method_25_code, exceptionTable := #[], attributes := #[] }
def k14m3 : Method := { name := "indexOf", desc := "([BI[BII)I", sig := { parameters := [(.array .byte), .int, (.array .byte), .int, .int], returnType := some .int }, accessFlags := 9, code := some k14c3 }
/-- java/lang/StringLatin1 -/
def k14 : Class := { plain "java/lang/StringLatin1" (some 0) with
  accessFlags := 48
  interfaces := #[]
  cf := some (fileOf pool14 14 #[.nestMembers #[390, 221]] #[{ accessFlags := 0, nameIndex := 7, descriptorIndex := 8, attributes := #[] }, { accessFlags := 9, nameIndex := 252, descriptorIndex := 53, attributes := #[] }, { accessFlags := 9, nameIndex := 101, descriptorIndex := 287, attributes := #[] }, { accessFlags := 9, nameIndex := 101, descriptorIndex := 102, attributes := #[] }] 48 4 #[] #[{ accessFlags := 4120, nameIndex := 121, descriptorIndex := 122, attributes := #[] }])
  fields := #[{ name := "$assertionsDisabled", type := .boolean, accessFlags := 4120, slot := 0, constantValue := 0 }]
  methods := #[k14m0, k14m1, k14m2, k14m3]
  instanceTypes := #[]
  staticTypes := #[.boolean]
  resolved := Array.replicate 395 none
  statics := none }

def pool15 : Array CpInfo := pool [(2, .class_ 4), (1, u "java/lang/Object"), (0, u "<init>"), (0, u "()V"), (1, .class_ 10), (1, u "java/lang/System"), (0, u "allowSecurityManager"), (0, u "I"), (16, u "cons"), (0, u "Ljava/io/Console;"), (77, .class_ 110), (1, u "java/lang/System$CallersHolder"), (43, u "initialErrStream"), (0, u "Ljava/io/PrintStream;"), (19, u "security"), (0, u "Ljava/lang/SecurityManager;"), (31, .class_ 209), (0, u "java/lang/System$1"), (7, u "props"), (0, u "Ljava/util/Properties;"), (2, u "lineSeparator"), (0, u "Ljava/lang/String;"), (96, .class_ 321), (1, u "java/lang/System$LoggerFinder"), (5, .class_ 328), (0, u "java/lang/System$Logger"), (67, u "err"), (2, u "out"), (91, u "notSupportedJnuEncoding"), (15, u "in"), (17, u "initialIn"), (0, u "Ljava/io/InputStream;"), (35, u "bootLayer"), (0, u "Ljava/lang/ModuleLayer;"), (99, .class_ 664), (0, u "java/lang/System$2"), (9, u "NEVER"), (2, u "MAYBE"), (49, u "arraycopy"), (0, u "(Ljava/lang/Object;ILjava/lang/Object;II)V"), (72, .class_ 802), (0, u "java/lang/System$Logger$Level")] 31

def k15m0 : Method := { name := "<init>", desc := "()V", sig := { parameters := [], returnType := none }, accessFlags := 2, code := none }
def k15m1 : Method := { name := "arraycopy", desc := "(Ljava/lang/Object;ILjava/lang/Object;II)V", sig := { parameters := [(.object "java/lang/Object"), .int, (.object "java/lang/Object"), .int, .int], returnType := none }, accessFlags := 265, code := none }
/-- java/lang/System -/
def k15 : Class := { plain "java/lang/System" (some 0) with
  accessFlags := 49
  interfaces := #[]
  cf := some (fileOf pool15 8 #[.nestMembers #[319, 327, 801, 108, 663, 208]] #[{ accessFlags := 2, nameIndex := 5, descriptorIndex := 6, attributes := #[] }, { accessFlags := 265, nameIndex := 727, descriptorIndex := 728, attributes := #[] }] 49 2 #[] #[{ accessFlags := 25, nameIndex := 507, descriptorIndex := 526, attributes := #[] }, { accessFlags := 25, nameIndex := 399, descriptorIndex := 155, attributes := #[] }, { accessFlags := 25, nameIndex := 396, descriptorIndex := 155, attributes := #[] }, { accessFlags := 10, nameIndex := 525, descriptorIndex := 526, attributes := #[] }, { accessFlags := 26, nameIndex := 674, descriptorIndex := 12, attributes := #[] }, { accessFlags := 26, nameIndex := 677, descriptorIndex := 12, attributes := #[] }, { accessFlags := 10, nameIndex := 11, descriptorIndex := 12, attributes := #[] }, { accessFlags := 74, nameIndex := 175, descriptorIndex := 176, attributes := #[] }, { accessFlags := 10, nameIndex := 491, descriptorIndex := 222, attributes := #[] }, { accessFlags := 74, nameIndex := 29, descriptorIndex := 30, attributes := #[] }, { accessFlags := 74, nameIndex := 154, descriptorIndex := 155, attributes := #[] }, { accessFlags := 10, nameIndex := 217, descriptorIndex := 218, attributes := #[] }, { accessFlags := 10, nameIndex := 221, descriptorIndex := 222, attributes := #[] }, { accessFlags := 8, nameIndex := 562, descriptorIndex := 563, attributes := #[] }])
  fields := #[{ name := "in", type := (.object "java/io/InputStream"), accessFlags := 25, slot := 0, constantValue := 0 }, { name := "out", type := (.object "java/io/PrintStream"), accessFlags := 25, slot := 1, constantValue := 0 }, { name := "err", type := (.object "java/io/PrintStream"), accessFlags := 25, slot := 2, constantValue := 0 }, { name := "initialIn", type := (.object "java/io/InputStream"), accessFlags := 10, slot := 3, constantValue := 0 }, { name := "NEVER", type := .int, accessFlags := 26, slot := 4, constantValue := 0 }, { name := "MAYBE", type := .int, accessFlags := 26, slot := 5, constantValue := 0 }, { name := "allowSecurityManager", type := .int, accessFlags := 10, slot := 6, constantValue := 0 }, { name := "security", type := (.object "java/lang/SecurityManager"), accessFlags := 74, slot := 7, constantValue := 0 }, { name := "notSupportedJnuEncoding", type := (.object "java/lang/String"), accessFlags := 10, slot := 8, constantValue := 0 }, { name := "cons", type := (.object "java/io/Console"), accessFlags := 74, slot := 9, constantValue := 0 }, { name := "initialErrStream", type := (.object "java/io/PrintStream"), accessFlags := 74, slot := 10, constantValue := 0 }, { name := "props", type := (.object "java/util/Properties"), accessFlags := 10, slot := 11, constantValue := 0 }, { name := "lineSeparator", type := (.object "java/lang/String"), accessFlags := 10, slot := 12, constantValue := 0 }, { name := "bootLayer", type := (.object "java/lang/ModuleLayer"), accessFlags := 8, slot := 13, constantValue := 0 }]
  methods := #[k15m0, k15m1]
  instanceTypes := #[]
  staticTypes := #[(.object "java/io/InputStream"), (.object "java/io/PrintStream"), (.object "java/io/PrintStream"), (.object "java/io/InputStream"), .int, .int, .int, (.object "java/lang/SecurityManager"), (.object "java/lang/String"), (.object "java/io/Console"), (.object "java/io/PrintStream"), (.object "java/util/Properties"), (.object "java/lang/String"), (.object "java/lang/ModuleLayer")]
  resolved := Array.replicate 834 none
  statics := none }

def pool16 : Array CpInfo := pool [(2, .class_ 4), (1, u "java/lang/Object"), (0, u "<init>"), (0, u "()V"), (7, .class_ 16), (1, u "java/util/Arrays"), (57, .class_ 76), (1, u "java/util/Arrays$NaturalOrder"), (36, .class_ 115), (1, u "java/util/Arrays$LegacyMergeSort"), (1, u "Z"), (21, u "copyOfRange"), (10, .methodref 151 152), (0, .class_ 153), (0, .nameAndType 154 155), (0, u "java/lang/System"), (0, u "arraycopy"), (0, u "(Ljava/lang/Object;ILjava/lang/Object;II)V"), (148, .methodref 305 306), (0, .class_ 307), (0, .nameAndType 308 309), (0, u "java/lang/Math"), (0, u "min"), (0, u "(II)I"), (29, .methodref 14 340), (0, .nameAndType 341 342), (0, u "copyOfRangeByte"), (0, u "([BII)[B"), (0, .methodref 14 344), (0, .nameAndType 345 346), (0, u "checkLength"), (0, u "(II)V"), (28, .class_ 376), (0, u "java/util/Arrays$ArrayList"), (68, u "$assertionsDisabled"), (269, u "MIN_ARRAY_SORT_GRAN"), (0, u "I"), (2, u "INSERTIONSORT_THRESHOLD"), (255, .class_ 976), (0, u "java/util/Arrays$ArrayItr")] 52

def k16m0 : Method := { name := "<init>", desc := "()V", sig := { parameters := [], returnType := none }, accessFlags := 2, code := none }
def k16c1 : Code := { maxStack := 4, maxLocals := 2, code := jdk_65_method_131_code, exceptionTable := #[], attributes := #[] }
def k16m1 : Method := { name := "checkLength", desc := "(II)V", sig := { parameters := [.int, .int], returnType := none }, accessFlags := 10, code := some k16c1 }
def k16c2 : Code := { maxStack := 3, maxLocals := 3, code := jdk_65_method_132_code, exceptionTable := #[], attributes := #[] }
def k16m2 : Method := { name := "copyOfRange", desc := "([BII)[B", sig := { parameters := [(.array .byte), .int, .int], returnType := some (.array .byte) }, accessFlags := 9, code := some k16c2 }
def k16c3 : Code := { maxStack := 6, maxLocals := 5, code := jdk_65_method_133_code, exceptionTable := #[], attributes := #[] }
def k16m3 : Method := { name := "copyOfRangeByte", desc := "([BII)[B", sig := { parameters := [(.array .byte), .int, .int], returnType := some (.array .byte) }, accessFlags := 10, code := some k16c3 }
/-- java/util/Arrays -/
def k16 : Class := { plain "java/util/Arrays" (some 0) with
  accessFlags := 49
  interfaces := #[]
  cf := some (fileOf pool16 14 #[.nestMembers #[975, 375, 113, 74]] #[{ accessFlags := 2, nameIndex := 5, descriptorIndex := 6, attributes := #[] }, { accessFlags := 10, nameIndex := 345, descriptorIndex := 346, attributes := #[] }, { accessFlags := 9, nameIndex := 139, descriptorIndex := 342, attributes := #[] }, { accessFlags := 10, nameIndex := 341, descriptorIndex := 342, attributes := #[] }] 49 2 #[] #[{ accessFlags := 26, nameIndex := 715, descriptorIndex := 716, attributes := #[] }, { accessFlags := 26, nameIndex := 719, descriptorIndex := 716, attributes := #[] }, { accessFlags := 4120, nameIndex := 445, descriptorIndex := 117, attributes := #[] }])
  fields := #[{ name := "MIN_ARRAY_SORT_GRAN", type := .int, accessFlags := 26, slot := 0, constantValue := 0 }, { name := "INSERTIONSORT_THRESHOLD", type := .int, accessFlags := 26, slot := 1, constantValue := 0 }, { name := "$assertionsDisabled", type := .boolean, accessFlags := 4120, slot := 2, constantValue := 0 }]
  methods := #[k16m0, k16m1, k16m2, k16m3]
  instanceTypes := #[]
  staticTypes := #[.int, .int, .boolean]
  resolved := Array.replicate 1029 none
  statics := none }

def pool17 : Array CpInfo := pool [(1, .class_ 2), (0, u "java/lang/Math"), (1, .class_ 6), (1, u "java/lang/Object"), (0, u "<init>"), (0, u "()V"), (89, .class_ 100), (1, u "java/lang/Math$RandomNumberGeneratorHolder"), (71, u "negativeZeroFloatBits"), (0, u "J"), (2, u "negativeZeroDoubleBits"), (24, u "min"), (43, u "$assertionsDisabled"), (0, u "Z"), (88, u "(II)I"), (2, u "twoToTheDoubleScaleDown"), (0, u "D"), (4, u "twoToTheDoubleScaleUp"), (9, u "E"), (3, u "PI"), (2, u "TAU"), (2, u "DEGREES_TO_RADIANS"), (0, u "RADIANS_TO_DEGREES")] 94

def k17m0 : Method := { name := "<init>", desc := "()V", sig := { parameters := [], returnType := none }, accessFlags := 2, code := none }
def k17c1 : Code := { maxStack := 2, maxLocals := 2, code := jdk_29_method_69_code, exceptionTable := #[], attributes := #[] }
def k17m1 : Method := { name := "min", desc := "(II)I", sig := { parameters := [.int, .int], returnType := some .int }, accessFlags := 9, code := some k17c1 }
/-- java/lang/Math -/
def k17 : Class := { plain "java/lang/Math" (some 0) with
  accessFlags := 49
  interfaces := #[]
  cf := some (fileOf pool17 1 #[.nestMembers #[98]] #[{ accessFlags := 2, nameIndex := 7, descriptorIndex := 8, attributes := #[] }, { accessFlags := 9, nameIndex := 201, descriptorIndex := 335, attributes := #[] }] 49 4 #[] #[{ accessFlags := 25, nameIndex := 354, descriptorIndex := 339, attributes := #[] }, { accessFlags := 25, nameIndex := 358, descriptorIndex := 339, attributes := #[] }, { accessFlags := 25, nameIndex := 361, descriptorIndex := 339, attributes := #[] }, { accessFlags := 26, nameIndex := 364, descriptorIndex := 339, attributes := #[] }, { accessFlags := 26, nameIndex := 365, descriptorIndex := 339, attributes := #[] }, { accessFlags := 26, nameIndex := 172, descriptorIndex := 173, attributes := #[] }, { accessFlags := 26, nameIndex := 176, descriptorIndex := 173, attributes := #[] }, { accessFlags := 8, nameIndex := 344, descriptorIndex := 339, attributes := #[] }, { accessFlags := 8, nameIndex := 338, descriptorIndex := 339, attributes := #[] }, { accessFlags := 4120, nameIndex := 245, descriptorIndex := 246, attributes := #[] }])
  fields := #[{ name := "E", type := .double, accessFlags := 25, slot := 0, constantValue := 0 }, { name := "PI", type := .double, accessFlags := 25, slot := 1, constantValue := 0 }, { name := "TAU", type := .double, accessFlags := 25, slot := 2, constantValue := 0 }, { name := "DEGREES_TO_RADIANS", type := .double, accessFlags := 26, slot := 3, constantValue := 0 }, { name := "RADIANS_TO_DEGREES", type := .double, accessFlags := 26, slot := 4, constantValue := 0 }, { name := "negativeZeroFloatBits", type := .long, accessFlags := 26, slot := 5, constantValue := 0 }, { name := "negativeZeroDoubleBits", type := .long, accessFlags := 26, slot := 6, constantValue := 0 }, { name := "twoToTheDoubleScaleUp", type := .double, accessFlags := 8, slot := 7, constantValue := 0 }, { name := "twoToTheDoubleScaleDown", type := .double, accessFlags := 8, slot := 8, constantValue := 0 }, { name := "$assertionsDisabled", type := .boolean, accessFlags := 4120, slot := 9, constantValue := 0 }]
  methods := #[k17m0, k17m1]
  instanceTypes := #[]
  staticTypes := #[.double, .double, .double, .double, .double, .long, .long, .double, .double, .boolean]
  resolved := Array.replicate 460 none
  statics := none }

def pool18 : Array CpInfo := pool [(2, .class_ 4), (1, u "java/lang/Object"), (0, u "<init>"), (0, u "()V"), (1, .class_ 10), (1, u "java/lang/Number"), (2, .class_ 14), (0, u "java/io/Serializable"), (0, u "serialVersionUID"), (0, u "J")] 20

def k18m0 : Method := { name := "<init>", desc := "()V", sig := { parameters := [], returnType := none }, accessFlags := 1, code := none }
/-- java/lang/Number -/
def k18 : Class := { plain "java/lang/Number" (some 0) with
  accessFlags := 1057
  interfaces := #[2]
  cf := some (fileOf pool18 8 #[] #[{ accessFlags := 1, nameIndex := 5, descriptorIndex := 6, attributes := #[] }] 1057 2 #[13] #[{ accessFlags := 26, nameIndex := 15, descriptorIndex := 16, attributes := #[] }])
  fields := #[{ name := "serialVersionUID", type := .long, accessFlags := 26, slot := 0, constantValue := 0 }]
  methods := #[k18m0]
  instanceTypes := #[]
  staticTypes := #[.long]
  resolved := Array.replicate 37 none
  statics := none }

def pool19 : Array CpInfo := pool [(1, .class_ 2), (0, u "java/lang/Integer"), (16, u "digits"), (0, u "[C"), (33, u "(I)I"), (19, u "stringSize"), (2, u "getChars"), (0, u "(II[B)I"), (4, .fieldref 1 84), (0, .nameAndType 85 86), (0, u "DigitOnes"), (0, u "[B"), (0, .fieldref 1 88), (0, .nameAndType 89 86), (0, u "DigitTens"), (99, .class_ 190), (0, u "java/lang/Integer$IntegerCache"), (3, u "I"), (8, .class_ 204), (0, u "java/lang/Number"), (2, u "value"), (94, u "TYPE"), (0, u "Ljava/lang/Class;"), (0, .class_ 305), (0, u "java/lang/Comparable"), (0, .class_ 307), (0, u "java/lang/constant/Constable"), (0, .class_ 309), (0, u "java/lang/constant/ConstantDesc"), (0, u "MIN_VALUE"), (1, u "MAX_VALUE"), (3, u "SIZE"), (1, u "BYTES"), (1, u "serialVersionUID"), (0, u "J")] 131

def k19c0 : Code := { maxStack := 4, maxLocals := 7, code := jdk_33_method_12_code, exceptionTable := #[], attributes := #[] }
def k19m0 : Method := { name := "getChars", desc := "(II[B)I", sig := { parameters := [.int, .int, (.array .byte)], returnType := some .int }, accessFlags := 8, code := some k19c0 }
def k19c1 : Code := { maxStack := 2, maxLocals := 4, code := jdk_33_method_13_code, exceptionTable := #[], attributes := #[] }
def k19m1 : Method := { name := "stringSize", desc := "(I)I", sig := { parameters := [.int], returnType := some .int }, accessFlags := 8, code := some k19c1 }
/-- java/lang/Integer -/
def k19 : Class := { plain "java/lang/Integer" (some 18) with
  accessFlags := 49
  interfaces := #[3, 5, 6]
  cf := some (fileOf pool19 1 #[.nestMembers #[189]] #[{ accessFlags := 8, nameIndex := 77, descriptorIndex := 78, attributes := #[] }, { accessFlags := 8, nameIndex := 74, descriptorIndex := 54, attributes := #[] }] 49 203 #[304, 306, 308] #[{ accessFlags := 25, nameIndex := 310, descriptorIndex := 194, attributes := #[] }, { accessFlags := 25, nameIndex := 312, descriptorIndex := 194, attributes := #[] }, { accessFlags := 25, nameIndex := 302, descriptorIndex := 303, attributes := #[] }, { accessFlags := 24, nameIndex := 19, descriptorIndex := 20, attributes := #[] }, { accessFlags := 24, nameIndex := 89, descriptorIndex := 86, attributes := #[] }, { accessFlags := 24, nameIndex := 85, descriptorIndex := 86, attributes := #[] }, { accessFlags := 18, nameIndex := 207, descriptorIndex := 194, attributes := #[] }, { accessFlags := 25, nameIndex := 316, descriptorIndex := 194, attributes := #[] }, { accessFlags := 25, nameIndex := 318, descriptorIndex := 194, attributes := #[] }, { accessFlags := 26, nameIndex := 320, descriptorIndex := 321, attributes := #[] }])
  fields := #[{ name := "MIN_VALUE", type := .int, accessFlags := 25, slot := 0, constantValue := 0 }, { name := "MAX_VALUE", type := .int, accessFlags := 25, slot := 1, constantValue := 0 }, { name := "TYPE", type := (.object "java/lang/Class"), accessFlags := 25, slot := 2, constantValue := 0 }, { name := "digits", type := (.array .char), accessFlags := 24, slot := 3, constantValue := 0 }, { name := "DigitTens", type := (.array .byte), accessFlags := 24, slot := 4, constantValue := 0 }, { name := "DigitOnes", type := (.array .byte), accessFlags := 24, slot := 5, constantValue := 0 }, { name := "value", type := .int, accessFlags := 18, slot := 0, constantValue := 0 }, { name := "SIZE", type := .int, accessFlags := 25, slot := 6, constantValue := 0 }, { name := "BYTES", type := .int, accessFlags := 25, slot := 7, constantValue := 0 }, { name := "serialVersionUID", type := .long, accessFlags := 26, slot := 8, constantValue := 0 }]
  methods := #[k19m0, k19m1]
  instanceTypes := #[.int]
  staticTypes := #[.int, .int, (.object "java/lang/Class"), (.array .char), (.array .byte), (.array .byte), .int, .int, .long]
  resolved := Array.replicate 453 none
  statics := some 1 }

def pool20 : Array CpInfo := pool [(2, .class_ 4), (1, u "java/lang/Object"), (0, u "<init>"), (0, u "()V"), (17, .class_ 26), (1, u "jdk/internal/util/Preconditions"), (6, u "checkIndex"), (21, .class_ 56), (0, u "jdk/internal/util/Preconditions$4"), (57, .class_ 115), (0, u "jdk/internal/util/Preconditions$1"), (7, u "SIOOBE_FORMATTER"), (0, u "Ljava/util/function/BiFunction;"), (0, .class_ 126), (0, u "jdk/internal/util/Preconditions$2"), (3, u "AIOOBE_FORMATTER"), (0, .class_ 132), (0, u "jdk/internal/util/Preconditions$3"), (3, u "IOOBE_FORMATTER"), (41, u "(IILjava/util/function/BiFunction;)I")] 15

def k20m0 : Method := { name := "<init>", desc := "()V", sig := { parameters := [], returnType := none }, accessFlags := 1, code := none }
def k20c1 : Code := { maxStack := 3, maxLocals := 3, code := jdk_41_method_11_code, exceptionTable := #[], attributes := #[] }
def k20m1 : Method := { name := "checkIndex", desc := "(IILjava/util/function/BiFunction;)I", sig := { parameters := [.int, .int, (.object "java/util/function/BiFunction")], returnType := some .int }, accessFlags := 9, code := some k20c1 }
/-- jdk/internal/util/Preconditions -/
def k20 : Class := { plain "jdk/internal/util/Preconditions" (some 0) with
  accessFlags := 33
  interfaces := #[]
  cf := some (fileOf pool20 24 #[.nestMembers #[55, 131, 125, 114]] #[{ accessFlags := 1, nameIndex := 5, descriptorIndex := 6, attributes := #[] }, { accessFlags := 9, nameIndex := 33, descriptorIndex := 178, attributes := #[] }] 33 2 #[] #[{ accessFlags := 25, nameIndex := 123, descriptorIndex := 124, attributes := #[] }, { accessFlags := 25, nameIndex := 130, descriptorIndex := 124, attributes := #[] }, { accessFlags := 25, nameIndex := 136, descriptorIndex := 124, attributes := #[] }])
  fields := #[{ name := "SIOOBE_FORMATTER", type := (.object "java/util/function/BiFunction"), accessFlags := 25, slot := 0, constantValue := 0 }, { name := "AIOOBE_FORMATTER", type := (.object "java/util/function/BiFunction"), accessFlags := 25, slot := 1, constantValue := 0 }, { name := "IOOBE_FORMATTER", type := (.object "java/util/function/BiFunction"), accessFlags := 25, slot := 2, constantValue := 0 }]
  methods := #[k20m0, k20m1]
  instanceTypes := #[]
  staticTypes := #[(.object "java/util/function/BiFunction"), (.object "java/util/function/BiFunction"), (.object "java/util/function/BiFunction")]
  resolved := Array.replicate 194 none
  statics := some 2 }

def pool21 : Array CpInfo := pool [(9, u "<init>"), (6, .class_ 18), (1, u "java/lang/Object"), (0, u "()V"), (1, .class_ 23), (1, u "jdk/internal/util/ArraysSupport"), (0, u "LOG2_ARRAY_LONG_INDEX_SCALE"), (0, u "I"), (2, u "U"), (0, u "Ljdk/internal/misc/Unsafe;"), (8, u "BIG_ENDIAN"), (0, u "Z"), (8, u "LOG2_BYTE_BIT_SIZE"), (4, u "LOG2_ARRAY_INT_INDEX_SCALE"), (54, u "JLA"), (0, u "Ljdk/internal/access/JavaLangAccess;"), (11, u "LOG2_ARRAY_BOOLEAN_INDEX_SCALE"), (9, u "LOG2_ARRAY_BYTE_INDEX_SCALE"), (5, u "LOG2_ARRAY_CHAR_INDEX_SCALE"), (5, u "LOG2_ARRAY_SHORT_INDEX_SCALE"), (18, u "LOG2_ARRAY_FLOAT_INDEX_SCALE"), (24, u "LOG2_ARRAY_DOUBLE_INDEX_SCALE"), (89, u "T_BOOLEAN"), (2, u "T_CHAR"), (1, u "T_FLOAT"), (1, u "T_DOUBLE"), (1, u "T_BYTE"), (1, u "T_SHORT"), (1, u "T_INT"), (1, u "T_LONG"), (1, u "SOFT_MAX_ARRAY_LENGTH")] 83

def k21m0 : Method := { name := "<init>", desc := "()V", sig := { parameters := [], returnType := none }, accessFlags := 2, code := none }
/-- jdk/internal/util/ArraysSupport -/
def k21 : Class := { plain "jdk/internal/util/ArraysSupport" (some 0) with
  accessFlags := 33
  interfaces := #[]
  cf := some (fileOf pool21 21 #[] #[{ accessFlags := 2, nameIndex := 9, descriptorIndex := 19, attributes := #[] }] 33 16 #[] #[{ accessFlags := 24, nameIndex := 28, descriptorIndex := 29, attributes := #[] }, { accessFlags := 26, nameIndex := 38, descriptorIndex := 39, attributes := #[] }, { accessFlags := 25, nameIndex := 121, descriptorIndex := 25, attributes := #[] }, { accessFlags := 25, nameIndex := 131, descriptorIndex := 25, attributes := #[] }, { accessFlags := 25, nameIndex := 137, descriptorIndex := 25, attributes := #[] }, { accessFlags := 25, nameIndex := 143, descriptorIndex := 25, attributes := #[] }, { accessFlags := 25, nameIndex := 53, descriptorIndex := 25, attributes := #[] }, { accessFlags := 25, nameIndex := 24, descriptorIndex := 25, attributes := #[] }, { accessFlags := 25, nameIndex := 162, descriptorIndex := 25, attributes := #[] }, { accessFlags := 25, nameIndex := 187, descriptorIndex := 25, attributes := #[] }, { accessFlags := 26, nameIndex := 48, descriptorIndex := 25, attributes := #[] }, { accessFlags := 25, nameIndex := 277, descriptorIndex := 25, attributes := #[] }, { accessFlags := 25, nameIndex := 280, descriptorIndex := 25, attributes := #[] }, { accessFlags := 25, nameIndex := 282, descriptorIndex := 25, attributes := #[] }, { accessFlags := 25, nameIndex := 284, descriptorIndex := 25, attributes := #[] }, { accessFlags := 25, nameIndex := 286, descriptorIndex := 25, attributes := #[] }, { accessFlags := 25, nameIndex := 288, descriptorIndex := 25, attributes := #[] }, { accessFlags := 25, nameIndex := 290, descriptorIndex := 25, attributes := #[] }, { accessFlags := 25, nameIndex := 292, descriptorIndex := 25, attributes := #[] }, { accessFlags := 26, nameIndex := 108, descriptorIndex := 109, attributes := #[] }, { accessFlags := 25, nameIndex := 294, descriptorIndex := 25, attributes := #[] }])
  fields := #[{ name := "U", type := (.object "jdk/internal/misc/Unsafe"), accessFlags := 24, slot := 0, constantValue := 0 }, { name := "BIG_ENDIAN", type := .boolean, accessFlags := 26, slot := 1, constantValue := 0 }, { name := "LOG2_ARRAY_BOOLEAN_INDEX_SCALE", type := .int, accessFlags := 25, slot := 2, constantValue := 0 }, { name := "LOG2_ARRAY_BYTE_INDEX_SCALE", type := .int, accessFlags := 25, slot := 3, constantValue := 0 }, { name := "LOG2_ARRAY_CHAR_INDEX_SCALE", type := .int, accessFlags := 25, slot := 4, constantValue := 0 }, { name := "LOG2_ARRAY_SHORT_INDEX_SCALE", type := .int, accessFlags := 25, slot := 5, constantValue := 0 }, { name := "LOG2_ARRAY_INT_INDEX_SCALE", type := .int, accessFlags := 25, slot := 6, constantValue := 0 }, { name := "LOG2_ARRAY_LONG_INDEX_SCALE", type := .int, accessFlags := 25, slot := 7, constantValue := 0 }, { name := "LOG2_ARRAY_FLOAT_INDEX_SCALE", type := .int, accessFlags := 25, slot := 8, constantValue := 0 }, { name := "LOG2_ARRAY_DOUBLE_INDEX_SCALE", type := .int, accessFlags := 25, slot := 9, constantValue := 0 }, { name := "LOG2_BYTE_BIT_SIZE", type := .int, accessFlags := 26, slot := 10, constantValue := 0 }, { name := "T_BOOLEAN", type := .int, accessFlags := 25, slot := 11, constantValue := 0 }, { name := "T_CHAR", type := .int, accessFlags := 25, slot := 12, constantValue := 0 }, { name := "T_FLOAT", type := .int, accessFlags := 25, slot := 13, constantValue := 0 }, { name := "T_DOUBLE", type := .int, accessFlags := 25, slot := 14, constantValue := 0 }, { name := "T_BYTE", type := .int, accessFlags := 25, slot := 15, constantValue := 0 }, { name := "T_SHORT", type := .int, accessFlags := 25, slot := 16, constantValue := 0 }, { name := "T_INT", type := .int, accessFlags := 25, slot := 17, constantValue := 0 }, { name := "T_LONG", type := .int, accessFlags := 25, slot := 18, constantValue := 0 }, { name := "JLA", type := (.object "jdk/internal/access/JavaLangAccess"), accessFlags := 26, slot := 19, constantValue := 0 }, { name := "SOFT_MAX_ARRAY_LENGTH", type := .int, accessFlags := 25, slot := 20, constantValue := 0 }]
  methods := #[k21m0]
  instanceTypes := #[]
  staticTypes := #[(.object "jdk/internal/misc/Unsafe"), .boolean, .int, .int, .int, .int, .int, .int, .int, .int, .int, .int, .int, .int, .int, .int, .int, .int, .int, (.object "jdk/internal/access/JavaLangAccess"), .int]
  resolved := Array.replicate 378 none
  statics := none }

def pool22 : Array CpInfo := pool [(1, u "java/lang/Cloneable"), (0, .class_ 1), (0, u "java/lang/Object"), (0, .class_ 3)] 3

/-- java/lang/Cloneable -/
def k22 : Class := { plain "java/lang/Cloneable" (some 0) with
  accessFlags := 1537
  interfaces := #[]
  cf := some (fileOf pool22 2 #[] #[] 1537 4 #[] #[])
  fields := #[]
  methods := #[]
  instanceTypes := #[]
  staticTypes := #[]
  resolved := Array.replicate 8 none
  statics := none }

/-- the primitive byte -/
def k23 : Class := { plain "byte" none with kind := .primitive 'B', accessFlags := 0x411 }
/-- [B -/
def k24 : Class := { plain "[B" (some 0) with kind := .array 23 .byte, interfaces := #[22, 2], accessFlags := 1041 }

/-- the primitive char -/
def k25 : Class := { plain "char" none with kind := .primitive 'C', accessFlags := 0x411 }
/-- [C -/
def k26 : Class := { plain "[C" (some 0) with kind := .array 25 .char, interfaces := #[22, 2], accessFlags := 1041 }

/-- the primitive int -/
def k27 : Class := { plain "int" none with kind := .primitive 'I', accessFlags := 0x411 }
/-- [I -/
def k28 : Class := { plain "[I" (some 0) with kind := .array 27 .int, interfaces := #[22, 2], accessFlags := 1041 }

def heap : Heap := #[{ cls := 7, slots := #[.long 0, .int 1, .null, .int 0, .null, .int 0, .int 0], vm := .statics 7 },
  { cls := 19, slots := #[.int 0, .int 0, .null, .null, .ref 4, .ref 3, .int 0, .int 0, .long 0], vm := .statics 19 },
  { cls := 20, slots := #[.null, .null, .null], vm := .statics 20 },
  { cls := 24, slots := #[.int 48, .int 49, .int 50, .int 51, .int 52, .int 53, .int 54, .int 55, .int 56, .int 57, .int 48, .int 49, .int 50, .int 51, .int 52, .int 53, .int 54, .int 55, .int 56, .int 57, .int 48, .int 49, .int 50, .int 51, .int 52, .int 53, .int 54, .int 55, .int 56, .int 57, .int 48, .int 49, .int 50, .int 51, .int 52, .int 53, .int 54, .int 55, .int 56, .int 57, .int 48, .int 49, .int 50, .int 51, .int 52, .int 53, .int 54, .int 55, .int 56, .int 57, .int 48, .int 49, .int 50, .int 51, .int 52, .int 53, .int 54, .int 55, .int 56, .int 57, .int 48, .int 49, .int 50, .int 51, .int 52, .int 53, .int 54, .int 55, .int 56, .int 57, .int 48, .int 49, .int 50, .int 51, .int 52, .int 53, .int 54, .int 55, .int 56, .int 57, .int 48, .int 49, .int 50, .int 51, .int 52, .int 53, .int 54, .int 55, .int 56, .int 57, .int 48, .int 49, .int 50, .int 51, .int 52, .int 53, .int 54, .int 55, .int 56, .int 57], vm := .none },
  { cls := 24, slots := #[.int 48, .int 48, .int 48, .int 48, .int 48, .int 48, .int 48, .int 48, .int 48, .int 48, .int 49, .int 49, .int 49, .int 49, .int 49, .int 49, .int 49, .int 49, .int 49, .int 49, .int 50, .int 50, .int 50, .int 50, .int 50, .int 50, .int 50, .int 50, .int 50, .int 50, .int 51, .int 51, .int 51, .int 51, .int 51, .int 51, .int 51, .int 51, .int 51, .int 51, .int 52, .int 52, .int 52, .int 52, .int 52, .int 52, .int 52, .int 52, .int 52, .int 52, .int 53, .int 53, .int 53, .int 53, .int 53, .int 53, .int 53, .int 53, .int 53, .int 53, .int 54, .int 54, .int 54, .int 54, .int 54, .int 54, .int 54, .int 54, .int 54, .int 54, .int 55, .int 55, .int 55, .int 55, .int 55, .int 55, .int 55, .int 55, .int 55, .int 55, .int 56, .int 56, .int 56, .int 56, .int 56, .int 56, .int 56, .int 56, .int 56, .int 56, .int 57, .int 57, .int 57, .int 57, .int 57, .int 57, .int 57, .int 57, .int 57, .int 57], vm := .none }]
def classes : Array Class := #[k0, k1, k2, k3, k4, k5, k6, k7, k8, k9, k10, k11, k12, k13, k14, k15, k16, k17, k18, k19, k20, k21, k22, k23, k24, k25, k26, k27, k28]
def interned : List (Array UInt16 × Addr) := []
def slotsUsed : Nat := 219
def theMethod : MethodId := ⟨1, 3⟩
def args0 : Array Value := #[.int 5, .int 6, .int 7, .int 8, .int 9]
def aboutOver (below : List Frame) : State where
  vm := { classes := classes, interned := interned.toArray }
  heap := heap
  slotsUsed := slotsUsed
  threads := #[{ frames := .invoking theMethod args0 :: below }]
def below0 : List Frame := [.native { method := ⟨0, 0⟩, args := #[] }]
def about1 : State := aboutOver below0
def p0 : Program := .bare "" "" ""
def e0 : Env := launch0.env 0 0 0
theorem w_frames : about1.frames = Frame.invoking theMethod args0 :: below0 := rfl
set_option maxRecDepth 65536 in
theorem w_args : argsFit about1.vm theMethod args0 = true := by decide +kernel
set_option maxRecDepth 65536 in
theorem w_heap : heapFits about1 = true := by decide +kernel
set_option maxRecDepth 65536 in
theorem w_runnable : about1.curStatus? = some .runnable := by decide +kernel
set_option maxRecDepth 65536 in
theorem w_alone : about1.alone = true := by decide +kernel
set_option maxRecDepth 65536 in
theorem w_named : about1.methodNamed? x = some theMethod := by decide +kernel
set_option maxRecDepth 65536 in
theorem w_hears : about1.hears theMethod below0 = true := by decide +kernel
set_option maxRecDepth 65536 in
theorem w_ripe : about1.ripe theMethod args0 below0 = true := by decide +kernel
theorem w_running : about1.status = .running := rfl
set_option maxRecDepth 65536 in
theorem w_room : about1.hasRoom e0.platform room_1 = true :=
  launch0.hasRoom_least _ room_1 (by decide +kernel) (by decide +kernel) (by decide +kernel) (by decide +kernel) (by decide +kernel) (by decide +kernel)
theorem allAtoms_all (ts : List Jvm.Cond) (a : Array Jvm.Value) (st : Jvm.State) : (allAtoms ts).before a st = ts.all (fun c => c.before a st) := by
  induction ts with
  | nil => rfl
  | cons c t ih =>
    show (Jvm.Cond.and c (allAtoms t)).before a st = _
    rw [Jvm.Cond.before_and, ih, List.all_cons]
def words1 : List Jvm.Cond := Jvm.Cond.code x code maxLocals ret :: tables_1
/-- a 'code' word, met by the world's own term for the bytes: nothing is compared byte by byte -/
theorem code_word {y : MethodName} {bytes : ByteArray} {mx : Nat} {rt : Option FieldType} {a : Array Value} {s : State} {m : MethodId} {meth : Method} {c : Code} (h1 : s.methodNamed? y = some m) (h2 : s.vm.method? m = some meth) (h3 : meth.code = some c) (h4 : c.code = bytes)
    (h5 : (c.maxLocals == mx && c.exceptionTable.isEmpty && decide (c.maxStack ≤ mostOperands) && decide (meth.sig.returnType = rt) && !meth.locks && decide (parseMethodDescriptor y.desc = some meth.sig)) = true) : (Jvm.Cond.code y bytes mx rt).before a s = true := by
  simp only [Bool.and_eq_true, beq_iff_eq, Bool.not_eq_true', decide_eq_true_eq] at h5
  obtain ⟨⟨⟨⟨⟨g1, g2⟩, g3⟩, g4⟩, g5⟩, g6⟩ := h5
  simp [Cond.before, Cond.holds, Cond.value, h1, h2, h3, h4, g1, g2, g3, g4, g5, g6]
def isCode : Jvm.Cond → Bool
  | .code _ _ _ _ => true
  | _ => false
theorem all_split {L : List Jvm.Cond} {P : Jvm.Cond → Bool} (h1 : L.all (fun c => isCode c || P c) = true) (h2 : ∀ c ∈ L.filter isCode, P c = true) : L.all P = true := by
  refine List.all_eq_true.mpr fun c hc => ?_
  have h := List.all_eq_true.mp h1 c hc
  rcases Bool.eq_false_or_eq_true (isCode c) with hi | hi
  · exact h2 c (List.mem_filter.mpr ⟨hc, hi⟩)
  · simpa [hi] using h
set_option maxRecDepth 65536 in
theorem w_c0 : (Jvm.Cond.code x code maxLocals ret).before args0 about1 = true := code_word (m := ⟨1, 3⟩) (meth := k1m3) (c := k1c3) (by decide +kernel) rfl rfl rfl (by decide +kernel)
set_option maxRecDepth 65536 in
theorem w_c1 : (Jvm.Cond.code ({ cls := "com/example/bytesluice/bytesluice/config/HostPortToStringPinLaw", name := "pick", desc := "(I)C" } : Jvm.MethodName) method_2_code (1 : Nat) (Option.some Jvm.ClassFile.FieldType.char)).before args0 about1 = true := code_word (m := ⟨1, 1⟩) (meth := k1m1) (c := k1c1) (by decide +kernel) rfl rfl rfl (by decide +kernel)
set_option maxRecDepth 65536 in
theorem w_c2 : (Jvm.Cond.code ({ cls := "java/lang/String", name := "<init>", desc := "([C)V" } : Jvm.MethodName) jdk_42_method_3_code (2 : Nat) (Option.none : Option Jvm.ClassFile.FieldType)).before args0 about1 = true := code_word (m := ⟨7, 1⟩) (meth := k7m1) (c := k7c1) (by decide +kernel) rfl rfl rfl (by decide +kernel)
set_option maxRecDepth 65536 in
theorem w_c3 : (Jvm.Cond.code ({ cls := "java/lang/String", name := "<init>", desc := "([CIILjava/lang/Void;)V" } : Jvm.MethodName) jdk_42_method_149_code (6 : Nat) (Option.none : Option Jvm.ClassFile.FieldType)).before args0 about1 = true := code_word (m := ⟨7, 10⟩) (meth := k7m10) (c := k7c10) (by decide +kernel) rfl rfl rfl (by decide +kernel)
set_option maxRecDepth 65536 in
theorem w_c4 : (Jvm.Cond.code ({ cls := "java/lang/Object", name := "<init>", desc := "()V" } : Jvm.MethodName) object_method_1_code (1 : Nat) (Option.none : Option Jvm.ClassFile.FieldType)).before args0 about1 = true := code_word (m := ⟨0, 0⟩) (meth := k0m0) (c := k0c0) (by decide +kernel) rfl rfl rfl (by decide +kernel)
set_option maxRecDepth 65536 in
theorem w_c5 : (Jvm.Cond.code ({ cls := "java/lang/StringUTF16", name := "compress", desc := "([CII)[B" } : Jvm.MethodName) jdk_52_method_16_code (6 : Nat) (Option.some (Jvm.ClassFile.FieldType.array Jvm.ClassFile.FieldType.byte))).before args0 about1 = true := code_word (m := ⟨8, 2⟩) (meth := k8m2) (c := k8c2) (by decide +kernel) rfl rfl rfl (by decide +kernel)
set_option maxRecDepth 65536 in
theorem w_c6 : (Jvm.Cond.code ({ cls := "java/lang/StringUTF16", name := "compress", desc := "([CI[BII)I" } : Jvm.MethodName) jdk_52_method_21_code (7 : Nat) (Option.some Jvm.ClassFile.FieldType.int)).before args0 about1 = true := code_word (m := ⟨8, 3⟩) (meth := k8m3) (c := k8c3) (by decide +kernel) rfl rfl rfl (by decide +kernel)
set_option maxRecDepth 65536 in
theorem w_c7 : (Jvm.Cond.code ({ cls := "java/lang/StringUTF16", name := "coderFromArrayLen", desc := "([BI)B" } : Jvm.MethodName) jdk_52_method_15_code (2 : Nat) (Option.some Jvm.ClassFile.FieldType.byte)).before args0 about1 = true := code_word (m := ⟨8, 1⟩) (meth := k8m1) (c := k8c1) (by decide +kernel) rfl rfl rfl (by decide +kernel)
set_option maxRecDepth 65536 in
theorem w_c8 : (Jvm.Cond.code ({ cls := "com/example/bytesluice/bytesluice/config/HostPort", name := "<init>", desc := "(Ljava/lang/String;I)V" } : Jvm.MethodName) prog_4_method_1_code (3 : Nat) (Option.none : Option Jvm.ClassFile.FieldType)).before args0 about1 = true := code_word (m := ⟨10, 0⟩) (meth := k10m0) (c := k10c0) (by decide +kernel) rfl rfl rfl (by decide +kernel)
set_option maxRecDepth 65536 in
theorem w_c9 : (Jvm.Cond.code ({ cls := "java/lang/Record", name := "<init>", desc := "()V" } : Jvm.MethodName) jdk_30_method_1_code (1 : Nat) (Option.none : Option Jvm.ClassFile.FieldType)).before args0 about1 = true := code_word (m := ⟨9, 0⟩) (meth := k9m0) (c := k9c0) (by decide +kernel) rfl rfl rfl (by decide +kernel)
set_option maxRecDepth 65536 in
theorem w_c10 : (Jvm.Cond.code ({ cls := "java/lang/String", name := "isEmpty", desc := "()Z" } : Jvm.MethodName) jdk_42_method_55_code (1 : Nat) (Option.some Jvm.ClassFile.FieldType.boolean)).before args0 about1 = true := code_word (m := ⟨7, 4⟩) (meth := k7m4) (c := k7c4) (by decide +kernel) rfl rfl rfl (by decide +kernel)
set_option maxRecDepth 65536 in
theorem w_c11 : (Jvm.Cond.code ({ cls := "com/example/bytesluice/bytesluice/config/HostPort", name := "toString", desc := "()Ljava/lang/String;" } : Jvm.MethodName) prog_4_method_5_code (1 : Nat) (Option.some (Jvm.ClassFile.FieldType.object "java/lang/String"))).before args0 about1 = true := code_word (m := ⟨10, 1⟩) (meth := k10m1) (c := k10c1) (by decide +kernel) rfl rfl rfl (by decide +kernel)
set_option maxRecDepth 65536 in
theorem w_c12 : (Jvm.Cond.code ({ cls := "java/lang/StringBuilder", name := "<init>", desc := "()V" } : Jvm.MethodName) jdk_67_method_1_code (1 : Nat) (Option.none : Option Jvm.ClassFile.FieldType)).before args0 about1 = true := code_word (m := ⟨13, 0⟩) (meth := k13m0) (c := k13c0) (by decide +kernel) rfl rfl rfl (by decide +kernel)
set_option maxRecDepth 65536 in
theorem w_c13 : (Jvm.Cond.code ({ cls := "java/lang/AbstractStringBuilder", name := "<init>", desc := "(I)V" } : Jvm.MethodName) jdk_68_method_2_code (2 : Nat) (Option.none : Option Jvm.ClassFile.FieldType)).before args0 about1 = true := code_word (m := ⟨12, 1⟩) (meth := k12m1) (c := k12c1) (by decide +kernel) rfl rfl rfl (by decide +kernel)
set_option maxRecDepth 65536 in
theorem w_c14 : (Jvm.Cond.code ({ cls := "java/lang/String", name := "contains", desc := "(Ljava/lang/CharSequence;)Z" } : Jvm.MethodName) jdk_42_method_97_code (2 : Nat) (Option.some Jvm.ClassFile.FieldType.boolean)).before args0 about1 = true := code_word (m := ⟨7, 7⟩) (meth := k7m7) (c := k7c7) (by decide +kernel) rfl rfl rfl (by decide +kernel)
set_option maxRecDepth 65536 in
theorem w_c15 : (Jvm.Cond.code ({ cls := "java/lang/String", name := "toString", desc := "()Ljava/lang/String;" } : Jvm.MethodName) jdk_42_method_126_code (1 : Nat) (Option.some (Jvm.ClassFile.FieldType.object "java/lang/String"))).before args0 about1 = true := code_word (m := ⟨7, 8⟩) (meth := k7m8) (c := k7c8) (by decide +kernel) rfl rfl rfl (by decide +kernel)
set_option maxRecDepth 65536 in
theorem w_c16 : (Jvm.Cond.code ({ cls := "java/lang/String", name := "indexOf", desc := "(Ljava/lang/String;)I" } : Jvm.MethodName) jdk_42_method_84_code (3 : Nat) (Option.some Jvm.ClassFile.FieldType.int)).before args0 about1 = true := code_word (m := ⟨7, 6⟩) (meth := k7m6) (c := k7c6) (by decide +kernel) rfl rfl rfl (by decide +kernel)
set_option maxRecDepth 65536 in
theorem w_c17 : (Jvm.Cond.code ({ cls := "java/lang/String", name := "coder", desc := "()B" } : Jvm.MethodName) jdk_42_method_152_code (1 : Nat) (Option.some Jvm.ClassFile.FieldType.byte)).before args0 about1 = true := code_word (m := ⟨7, 12⟩) (meth := k7m12) (c := k7c12) (by decide +kernel) rfl rfl rfl (by decide +kernel)
set_option maxRecDepth 65536 in
theorem w_c18 : (Jvm.Cond.code ({ cls := "java/lang/String", name := "isLatin1", desc := "()Z" } : Jvm.MethodName) jdk_42_method_154_code (1 : Nat) (Option.some Jvm.ClassFile.FieldType.boolean)).before args0 about1 = true := code_word (m := ⟨7, 13⟩) (meth := k7m13) (c := k7c13) (by decide +kernel) rfl rfl rfl (by decide +kernel)
set_option maxRecDepth 65536 in
theorem w_c19 : (Jvm.Cond.code ({ cls := "java/lang/StringLatin1", name := "indexOf", desc := "([B[B)I" } : Jvm.MethodName) jdk_43_method_24_code (2 : Nat) (Option.some Jvm.ClassFile.FieldType.int)).before args0 about1 = true := code_word (m := ⟨14, 2⟩) (meth := k14m2) (c := k14c2) (by decide +kernel) rfl rfl rfl (by decide +kernel)
set_option maxRecDepth 65536 in
theorem w_c20 : (Jvm.Cond.code ({ cls := "java/lang/StringLatin1", name := "indexOf", desc := "([BI[BII)I" } : Jvm.MethodName) jdk_43_method_25_code (11 : Nat) (Option.some Jvm.ClassFile.FieldType.int)).before args0 about1 = true := code_word (m := ⟨14, 3⟩) (meth := k14m3) (c := k14c3) (by decide +kernel) rfl rfl rfl (by decide +kernel)
set_option maxRecDepth 65536 in
theorem w_c21 : (Jvm.Cond.code ({ cls := "java/lang/StringBuilder", name := "append", desc := "(Ljava/lang/String;)Ljava/lang/StringBuilder;" } : Jvm.MethodName) jdk_67_method_7_code (2 : Nat) (Option.some (Jvm.ClassFile.FieldType.object "java/lang/StringBuilder"))).before args0 about1 = true := code_word (m := ⟨13, 1⟩) (meth := k13m1) (c := k13c1) (by decide +kernel) rfl rfl rfl (by decide +kernel)
set_option maxRecDepth 65536 in
theorem w_c22 : (Jvm.Cond.code ({ cls := "java/lang/AbstractStringBuilder", name := "append", desc := "(Ljava/lang/String;)Ljava/lang/AbstractStringBuilder;" } : Jvm.MethodName) jdk_68_method_22_code (3 : Nat) (Option.some (Jvm.ClassFile.FieldType.object "java/lang/AbstractStringBuilder"))).before args0 about1 = true := code_word (m := ⟨12, 4⟩) (meth := k12m4) (c := k12c4) (by decide +kernel) rfl rfl rfl (by decide +kernel)
set_option maxRecDepth 65536 in
theorem w_c23 : (Jvm.Cond.code ({ cls := "java/lang/String", name := "length", desc := "()I" } : Jvm.MethodName) jdk_42_method_54_code (1 : Nat) (Option.some Jvm.ClassFile.FieldType.int)).before args0 about1 = true := code_word (m := ⟨7, 3⟩) (meth := k7m3) (c := k7c3) (by decide +kernel) rfl rfl rfl (by decide +kernel)
set_option maxRecDepth 65536 in
theorem w_c24 : (Jvm.Cond.code ({ cls := "java/lang/AbstractStringBuilder", name := "ensureCapacityInternal", desc := "(I)V" } : Jvm.MethodName) jdk_68_method_9_code (3 : Nat) (Option.none : Option Jvm.ClassFile.FieldType)).before args0 about1 = true := code_word (m := ⟨12, 3⟩) (meth := k12m3) (c := k12c3) (by decide +kernel) rfl rfl rfl (by decide +kernel)
set_option maxRecDepth 65536 in
theorem w_c25 : (Jvm.Cond.code ({ cls := "java/lang/AbstractStringBuilder", name := "putStringAt", desc := "(ILjava/lang/String;)V" } : Jvm.MethodName) jdk_68_method_73_code (3 : Nat) (Option.none : Option Jvm.ClassFile.FieldType)).before args0 about1 = true := code_word (m := ⟨12, 9⟩) (meth := k12m9) (c := k12c9) (by decide +kernel) rfl rfl rfl (by decide +kernel)
set_option maxRecDepth 65536 in
theorem w_c26 : (Jvm.Cond.code ({ cls := "java/lang/AbstractStringBuilder", name := "inflateIfNeededFor", desc := "(Ljava/lang/String;)V" } : Jvm.MethodName) jdk_68_method_71_code (2 : Nat) (Option.none : Option Jvm.ClassFile.FieldType)).before args0 about1 = true := code_word (m := ⟨12, 8⟩) (meth := k12m8) (c := k12c8) (by decide +kernel) rfl rfl rfl (by decide +kernel)
set_option maxRecDepth 65536 in
theorem w_c27 : (Jvm.Cond.code ({ cls := "java/lang/String", name := "getBytes", desc := "([BIB)V" } : Jvm.MethodName) jdk_42_method_147_code (4 : Nat) (Option.none : Option Jvm.ClassFile.FieldType)).before args0 about1 = true := code_word (m := ⟨7, 9⟩) (meth := k7m9) (c := k7c9) (by decide +kernel) rfl rfl rfl (by decide +kernel)
set_option maxRecDepth 65536 in
theorem w_c28 : (Jvm.Cond.code ({ cls := "java/lang/StringBuilder", name := "toString", desc := "()Ljava/lang/String;" } : Jvm.MethodName) jdk_67_method_42_code (1 : Nat) (Option.some (Jvm.ClassFile.FieldType.object "java/lang/String"))).before args0 about1 = true := code_word (m := ⟨13, 3⟩) (meth := k13m3) (c := k13c3) (by decide +kernel) rfl rfl rfl (by decide +kernel)
set_option maxRecDepth 65536 in
theorem w_c29 : (Jvm.Cond.code ({ cls := "java/lang/String", name := "<init>", desc := "(Ljava/lang/StringBuilder;)V" } : Jvm.MethodName) jdk_42_method_53_code (2 : Nat) (Option.none : Option Jvm.ClassFile.FieldType)).before args0 about1 = true := code_word (m := ⟨7, 2⟩) (meth := k7m2) (c := k7c2) (by decide +kernel) rfl rfl rfl (by decide +kernel)
set_option maxRecDepth 65536 in
theorem w_c30 : (Jvm.Cond.code ({ cls := "java/lang/String", name := "<init>", desc := "(Ljava/lang/AbstractStringBuilder;Ljava/lang/Void;)V" } : Jvm.MethodName) jdk_42_method_150_code (5 : Nat) (Option.none : Option Jvm.ClassFile.FieldType)).before args0 about1 = true := code_word (m := ⟨7, 11⟩) (meth := k7m11) (c := k7c11) (by decide +kernel) rfl rfl rfl (by decide +kernel)
set_option maxRecDepth 65536 in
theorem w_c31 : (Jvm.Cond.code ({ cls := "java/lang/AbstractStringBuilder", name := "getValue", desc := "()[B" } : Jvm.MethodName) jdk_68_method_64_code (1 : Nat) (Option.some (Jvm.ClassFile.FieldType.array Jvm.ClassFile.FieldType.byte))).before args0 about1 = true := code_word (m := ⟨12, 6⟩) (meth := k12m6) (c := k12c6) (by decide +kernel) rfl rfl rfl (by decide +kernel)
set_option maxRecDepth 65536 in
theorem w_c32 : (Jvm.Cond.code ({ cls := "java/lang/StringBuilder", name := "length", desc := "()I" } : Jvm.MethodName) jdk_67_method_93_code (1 : Nat) (Option.some Jvm.ClassFile.FieldType.int)).before args0 about1 = true := code_word (m := ⟨13, 4⟩) (meth := k13m4) (c := k13c4) (by decide +kernel) rfl rfl rfl (by decide +kernel)
set_option maxRecDepth 65536 in
theorem w_c33 : (Jvm.Cond.code ({ cls := "java/lang/AbstractStringBuilder", name := "length", desc := "()I" } : Jvm.MethodName) jdk_68_method_6_code (1 : Nat) (Option.some Jvm.ClassFile.FieldType.int)).before args0 about1 = true := code_word (m := ⟨12, 2⟩) (meth := k12m2) (c := k12c2) (by decide +kernel) rfl rfl rfl (by decide +kernel)
set_option maxRecDepth 65536 in
theorem w_c34 : (Jvm.Cond.code ({ cls := "java/lang/AbstractStringBuilder", name := "isLatin1", desc := "()Z" } : Jvm.MethodName) jdk_68_method_68_code (1 : Nat) (Option.some Jvm.ClassFile.FieldType.boolean)).before args0 about1 = true := code_word (m := ⟨12, 7⟩) (meth := k12m7) (c := k12c7) (by decide +kernel) rfl rfl rfl (by decide +kernel)
set_option maxRecDepth 65536 in
theorem w_c35 : (Jvm.Cond.code ({ cls := "java/util/Arrays", name := "copyOfRange", desc := "([BII)[B" } : Jvm.MethodName) jdk_65_method_132_code (3 : Nat) (Option.some (Jvm.ClassFile.FieldType.array Jvm.ClassFile.FieldType.byte))).before args0 about1 = true := code_word (m := ⟨16, 2⟩) (meth := k16m2) (c := k16c2) (by decide +kernel) rfl rfl rfl (by decide +kernel)
set_option maxRecDepth 65536 in
theorem w_c36 : (Jvm.Cond.code ({ cls := "java/util/Arrays", name := "copyOfRangeByte", desc := "([BII)[B" } : Jvm.MethodName) jdk_65_method_133_code (5 : Nat) (Option.some (Jvm.ClassFile.FieldType.array Jvm.ClassFile.FieldType.byte))).before args0 about1 = true := code_word (m := ⟨16, 3⟩) (meth := k16m3) (c := k16c3) (by decide +kernel) rfl rfl rfl (by decide +kernel)
set_option maxRecDepth 65536 in
theorem w_c37 : (Jvm.Cond.code ({ cls := "java/util/Arrays", name := "checkLength", desc := "(II)V" } : Jvm.MethodName) jdk_65_method_131_code (2 : Nat) (Option.none : Option Jvm.ClassFile.FieldType)).before args0 about1 = true := code_word (m := ⟨16, 1⟩) (meth := k16m1) (c := k16c1) (by decide +kernel) rfl rfl rfl (by decide +kernel)
set_option maxRecDepth 65536 in
theorem w_c38 : (Jvm.Cond.code ({ cls := "java/lang/Math", name := "min", desc := "(II)I" } : Jvm.MethodName) jdk_29_method_69_code (2 : Nat) (Option.some Jvm.ClassFile.FieldType.int)).before args0 about1 = true := code_word (m := ⟨17, 1⟩) (meth := k17m1) (c := k17c1) (by decide +kernel) rfl rfl rfl (by decide +kernel)
set_option maxRecDepth 65536 in
theorem w_c39 : (Jvm.Cond.code ({ cls := "java/lang/StringBuilder", name := "append", desc := "(I)Ljava/lang/StringBuilder;" } : Jvm.MethodName) jdk_67_method_15_code (2 : Nat) (Option.some (Jvm.ClassFile.FieldType.object "java/lang/StringBuilder"))).before args0 about1 = true := code_word (m := ⟨13, 2⟩) (meth := k13m2) (c := k13c2) (by decide +kernel) rfl rfl rfl (by decide +kernel)
set_option maxRecDepth 65536 in
theorem w_c40 : (Jvm.Cond.code ({ cls := "java/lang/AbstractStringBuilder", name := "append", desc := "(I)Ljava/lang/AbstractStringBuilder;" } : Jvm.MethodName) jdk_68_method_32_code (4 : Nat) (Option.some (Jvm.ClassFile.FieldType.object "java/lang/AbstractStringBuilder"))).before args0 about1 = true := code_word (m := ⟨12, 5⟩) (meth := k12m5) (c := k12c5) (by decide +kernel) rfl rfl rfl (by decide +kernel)
set_option maxRecDepth 65536 in
theorem w_c41 : (Jvm.Cond.code ({ cls := "java/lang/Integer", name := "stringSize", desc := "(I)I" } : Jvm.MethodName) jdk_33_method_13_code (4 : Nat) (Option.some Jvm.ClassFile.FieldType.int)).before args0 about1 = true := code_word (m := ⟨19, 1⟩) (meth := k19m1) (c := k19c1) (by decide +kernel) rfl rfl rfl (by decide +kernel)
set_option maxRecDepth 65536 in
theorem w_c42 : (Jvm.Cond.code ({ cls := "java/lang/Integer", name := "getChars", desc := "(II[B)I" } : Jvm.MethodName) jdk_33_method_12_code (7 : Nat) (Option.some Jvm.ClassFile.FieldType.int)).before args0 about1 = true := code_word (m := ⟨19, 0⟩) (meth := k19m0) (c := k19c0) (by decide +kernel) rfl rfl rfl (by decide +kernel)
set_option maxRecDepth 65536 in
theorem w_c43 : (Jvm.Cond.code ({ cls := "com/example/bytesluice/bytesluice/config/HostPortToStringPinLaw", name := "at", desc := "([CILjava/lang/String;I)Z" } : Jvm.MethodName) method_3_code (4 : Nat) (Option.some Jvm.ClassFile.FieldType.boolean)).before args0 about1 = true := code_word (m := ⟨1, 2⟩) (meth := k1m2) (c := k1c2) (by decide +kernel) rfl rfl rfl (by decide +kernel)
set_option maxRecDepth 65536 in
theorem w_c44 : (Jvm.Cond.code ({ cls := "java/lang/String", name := "charAt", desc := "(I)C" } : Jvm.MethodName) jdk_42_method_56_code (2 : Nat) (Option.some Jvm.ClassFile.FieldType.char)).before args0 about1 = true := code_word (m := ⟨7, 5⟩) (meth := k7m5) (c := k7c5) (by decide +kernel) rfl rfl rfl (by decide +kernel)
set_option maxRecDepth 65536 in
theorem w_c45 : (Jvm.Cond.code ({ cls := "java/lang/StringLatin1", name := "charAt", desc := "([BI)C" } : Jvm.MethodName) jdk_43_method_2_code (2 : Nat) (Option.some Jvm.ClassFile.FieldType.char)).before args0 about1 = true := code_word (m := ⟨14, 1⟩) (meth := k14m1) (c := k14c1) (by decide +kernel) rfl rfl rfl (by decide +kernel)
set_option maxRecDepth 65536 in
theorem w_c46 : (Jvm.Cond.code ({ cls := "java/lang/String", name := "checkIndex", desc := "(II)V" } : Jvm.MethodName) jdk_42_method_155_code (2 : Nat) (Option.none : Option Jvm.ClassFile.FieldType)).before args0 about1 = true := code_word (m := ⟨7, 14⟩) (meth := k7m14) (c := k7c14) (by decide +kernel) rfl rfl rfl (by decide +kernel)
set_option maxRecDepth 65536 in
theorem w_c47 : (Jvm.Cond.code ({ cls := "jdk/internal/util/Preconditions", name := "checkIndex", desc := "(IILjava/util/function/BiFunction;)I" } : Jvm.MethodName) jdk_41_method_11_code (3 : Nat) (Option.some Jvm.ClassFile.FieldType.int)).before args0 about1 = true := code_word (m := ⟨20, 1⟩) (meth := k20m1) (c := k20c1) (by decide +kernel) rfl rfl rfl (by decide +kernel)
def codes1 : List Jvm.Cond := [Jvm.Cond.code x code maxLocals ret, Jvm.Cond.code ({ cls := "com/example/bytesluice/bytesluice/config/HostPortToStringPinLaw", name := "pick", desc := "(I)C" } : Jvm.MethodName) method_2_code (1 : Nat) (Option.some Jvm.ClassFile.FieldType.char), Jvm.Cond.code ({ cls := "java/lang/String", name := "<init>", desc := "([C)V" } : Jvm.MethodName) jdk_42_method_3_code (2 : Nat) (Option.none : Option Jvm.ClassFile.FieldType), Jvm.Cond.code ({ cls := "java/lang/String", name := "<init>", desc := "([CIILjava/lang/Void;)V" } : Jvm.MethodName) jdk_42_method_149_code (6 : Nat) (Option.none : Option Jvm.ClassFile.FieldType), Jvm.Cond.code ({ cls := "java/lang/Object", name := "<init>", desc := "()V" } : Jvm.MethodName) object_method_1_code (1 : Nat) (Option.none : Option Jvm.ClassFile.FieldType), Jvm.Cond.code ({ cls := "java/lang/StringUTF16", name := "compress", desc := "([CII)[B" } : Jvm.MethodName) jdk_52_method_16_code (6 : Nat) (Option.some (Jvm.ClassFile.FieldType.array Jvm.ClassFile.FieldType.byte)), Jvm.Cond.code ({ cls := "java/lang/StringUTF16", name := "compress", desc := "([CI[BII)I" } : Jvm.MethodName) jdk_52_method_21_code (7 : Nat) (Option.some Jvm.ClassFile.FieldType.int), Jvm.Cond.code ({ cls := "java/lang/StringUTF16", name := "coderFromArrayLen", desc := "([BI)B" } : Jvm.MethodName) jdk_52_method_15_code (2 : Nat) (Option.some Jvm.ClassFile.FieldType.byte), Jvm.Cond.code ({ cls := "com/example/bytesluice/bytesluice/config/HostPort", name := "<init>", desc := "(Ljava/lang/String;I)V" } : Jvm.MethodName) prog_4_method_1_code (3 : Nat) (Option.none : Option Jvm.ClassFile.FieldType), Jvm.Cond.code ({ cls := "java/lang/Record", name := "<init>", desc := "()V" } : Jvm.MethodName) jdk_30_method_1_code (1 : Nat) (Option.none : Option Jvm.ClassFile.FieldType), Jvm.Cond.code ({ cls := "java/lang/String", name := "isEmpty", desc := "()Z" } : Jvm.MethodName) jdk_42_method_55_code (1 : Nat) (Option.some Jvm.ClassFile.FieldType.boolean), Jvm.Cond.code ({ cls := "com/example/bytesluice/bytesluice/config/HostPort", name := "toString", desc := "()Ljava/lang/String;" } : Jvm.MethodName) prog_4_method_5_code (1 : Nat) (Option.some (Jvm.ClassFile.FieldType.object "java/lang/String")), Jvm.Cond.code ({ cls := "java/lang/StringBuilder", name := "<init>", desc := "()V" } : Jvm.MethodName) jdk_67_method_1_code (1 : Nat) (Option.none : Option Jvm.ClassFile.FieldType), Jvm.Cond.code ({ cls := "java/lang/AbstractStringBuilder", name := "<init>", desc := "(I)V" } : Jvm.MethodName) jdk_68_method_2_code (2 : Nat) (Option.none : Option Jvm.ClassFile.FieldType), Jvm.Cond.code ({ cls := "java/lang/String", name := "contains", desc := "(Ljava/lang/CharSequence;)Z" } : Jvm.MethodName) jdk_42_method_97_code (2 : Nat) (Option.some Jvm.ClassFile.FieldType.boolean), Jvm.Cond.code ({ cls := "java/lang/String", name := "toString", desc := "()Ljava/lang/String;" } : Jvm.MethodName) jdk_42_method_126_code (1 : Nat) (Option.some (Jvm.ClassFile.FieldType.object "java/lang/String")), Jvm.Cond.code ({ cls := "java/lang/String", name := "indexOf", desc := "(Ljava/lang/String;)I" } : Jvm.MethodName) jdk_42_method_84_code (3 : Nat) (Option.some Jvm.ClassFile.FieldType.int), Jvm.Cond.code ({ cls := "java/lang/String", name := "coder", desc := "()B" } : Jvm.MethodName) jdk_42_method_152_code (1 : Nat) (Option.some Jvm.ClassFile.FieldType.byte), Jvm.Cond.code ({ cls := "java/lang/String", name := "isLatin1", desc := "()Z" } : Jvm.MethodName) jdk_42_method_154_code (1 : Nat) (Option.some Jvm.ClassFile.FieldType.boolean), Jvm.Cond.code ({ cls := "java/lang/StringLatin1", name := "indexOf", desc := "([B[B)I" } : Jvm.MethodName) jdk_43_method_24_code (2 : Nat) (Option.some Jvm.ClassFile.FieldType.int), Jvm.Cond.code ({ cls := "java/lang/StringLatin1", name := "indexOf", desc := "([BI[BII)I" } : Jvm.MethodName) jdk_43_method_25_code (11 : Nat) (Option.some Jvm.ClassFile.FieldType.int), Jvm.Cond.code ({ cls := "java/lang/StringBuilder", name := "append", desc := "(Ljava/lang/String;)Ljava/lang/StringBuilder;" } : Jvm.MethodName) jdk_67_method_7_code (2 : Nat) (Option.some (Jvm.ClassFile.FieldType.object "java/lang/StringBuilder")), Jvm.Cond.code ({ cls := "java/lang/AbstractStringBuilder", name := "append", desc := "(Ljava/lang/String;)Ljava/lang/AbstractStringBuilder;" } : Jvm.MethodName) jdk_68_method_22_code (3 : Nat) (Option.some (Jvm.ClassFile.FieldType.object "java/lang/AbstractStringBuilder")), Jvm.Cond.code ({ cls := "java/lang/String", name := "length", desc := "()I" } : Jvm.MethodName) jdk_42_method_54_code (1 : Nat) (Option.some Jvm.ClassFile.FieldType.int), Jvm.Cond.code ({ cls := "java/lang/AbstractStringBuilder", name := "ensureCapacityInternal", desc := "(I)V" } : Jvm.MethodName) jdk_68_method_9_code (3 : Nat) (Option.none : Option Jvm.ClassFile.FieldType), Jvm.Cond.code ({ cls := "java/lang/AbstractStringBuilder", name := "putStringAt", desc := "(ILjava/lang/String;)V" } : Jvm.MethodName) jdk_68_method_73_code (3 : Nat) (Option.none : Option Jvm.ClassFile.FieldType), Jvm.Cond.code ({ cls := "java/lang/AbstractStringBuilder", name := "inflateIfNeededFor", desc := "(Ljava/lang/String;)V" } : Jvm.MethodName) jdk_68_method_71_code (2 : Nat) (Option.none : Option Jvm.ClassFile.FieldType), Jvm.Cond.code ({ cls := "java/lang/String", name := "getBytes", desc := "([BIB)V" } : Jvm.MethodName) jdk_42_method_147_code (4 : Nat) (Option.none : Option Jvm.ClassFile.FieldType), Jvm.Cond.code ({ cls := "java/lang/StringBuilder", name := "toString", desc := "()Ljava/lang/String;" } : Jvm.MethodName) jdk_67_method_42_code (1 : Nat) (Option.some (Jvm.ClassFile.FieldType.object "java/lang/String")), Jvm.Cond.code ({ cls := "java/lang/String", name := "<init>", desc := "(Ljava/lang/StringBuilder;)V" } : Jvm.MethodName) jdk_42_method_53_code (2 : Nat) (Option.none : Option Jvm.ClassFile.FieldType), Jvm.Cond.code ({ cls := "java/lang/String", name := "<init>", desc := "(Ljava/lang/AbstractStringBuilder;Ljava/lang/Void;)V" } : Jvm.MethodName) jdk_42_method_150_code (5 : Nat) (Option.none : Option Jvm.ClassFile.FieldType), Jvm.Cond.code ({ cls := "java/lang/AbstractStringBuilder", name := "getValue", desc := "()[B" } : Jvm.MethodName) jdk_68_method_64_code (1 : Nat) (Option.some (Jvm.ClassFile.FieldType.array Jvm.ClassFile.FieldType.byte)), Jvm.Cond.code ({ cls := "java/lang/StringBuilder", name := "length", desc := "()I" } : Jvm.MethodName) jdk_67_method_93_code (1 : Nat) (Option.some Jvm.ClassFile.FieldType.int), Jvm.Cond.code ({ cls := "java/lang/AbstractStringBuilder", name := "length", desc := "()I" } : Jvm.MethodName) jdk_68_method_6_code (1 : Nat) (Option.some Jvm.ClassFile.FieldType.int), Jvm.Cond.code ({ cls := "java/lang/AbstractStringBuilder", name := "isLatin1", desc := "()Z" } : Jvm.MethodName) jdk_68_method_68_code (1 : Nat) (Option.some Jvm.ClassFile.FieldType.boolean), Jvm.Cond.code ({ cls := "java/util/Arrays", name := "copyOfRange", desc := "([BII)[B" } : Jvm.MethodName) jdk_65_method_132_code (3 : Nat) (Option.some (Jvm.ClassFile.FieldType.array Jvm.ClassFile.FieldType.byte)), Jvm.Cond.code ({ cls := "java/util/Arrays", name := "copyOfRangeByte", desc := "([BII)[B" } : Jvm.MethodName) jdk_65_method_133_code (5 : Nat) (Option.some (Jvm.ClassFile.FieldType.array Jvm.ClassFile.FieldType.byte)), Jvm.Cond.code ({ cls := "java/util/Arrays", name := "checkLength", desc := "(II)V" } : Jvm.MethodName) jdk_65_method_131_code (2 : Nat) (Option.none : Option Jvm.ClassFile.FieldType), Jvm.Cond.code ({ cls := "java/lang/Math", name := "min", desc := "(II)I" } : Jvm.MethodName) jdk_29_method_69_code (2 : Nat) (Option.some Jvm.ClassFile.FieldType.int), Jvm.Cond.code ({ cls := "java/lang/StringBuilder", name := "append", desc := "(I)Ljava/lang/StringBuilder;" } : Jvm.MethodName) jdk_67_method_15_code (2 : Nat) (Option.some (Jvm.ClassFile.FieldType.object "java/lang/StringBuilder")), Jvm.Cond.code ({ cls := "java/lang/AbstractStringBuilder", name := "append", desc := "(I)Ljava/lang/AbstractStringBuilder;" } : Jvm.MethodName) jdk_68_method_32_code (4 : Nat) (Option.some (Jvm.ClassFile.FieldType.object "java/lang/AbstractStringBuilder")), Jvm.Cond.code ({ cls := "java/lang/Integer", name := "stringSize", desc := "(I)I" } : Jvm.MethodName) jdk_33_method_13_code (4 : Nat) (Option.some Jvm.ClassFile.FieldType.int), Jvm.Cond.code ({ cls := "java/lang/Integer", name := "getChars", desc := "(II[B)I" } : Jvm.MethodName) jdk_33_method_12_code (7 : Nat) (Option.some Jvm.ClassFile.FieldType.int), Jvm.Cond.code ({ cls := "com/example/bytesluice/bytesluice/config/HostPortToStringPinLaw", name := "at", desc := "([CILjava/lang/String;I)Z" } : Jvm.MethodName) method_3_code (4 : Nat) (Option.some Jvm.ClassFile.FieldType.boolean), Jvm.Cond.code ({ cls := "java/lang/String", name := "charAt", desc := "(I)C" } : Jvm.MethodName) jdk_42_method_56_code (2 : Nat) (Option.some Jvm.ClassFile.FieldType.char), Jvm.Cond.code ({ cls := "java/lang/StringLatin1", name := "charAt", desc := "([BI)C" } : Jvm.MethodName) jdk_43_method_2_code (2 : Nat) (Option.some Jvm.ClassFile.FieldType.char), Jvm.Cond.code ({ cls := "java/lang/String", name := "checkIndex", desc := "(II)V" } : Jvm.MethodName) jdk_42_method_155_code (2 : Nat) (Option.none : Option Jvm.ClassFile.FieldType), Jvm.Cond.code ({ cls := "jdk/internal/util/Preconditions", name := "checkIndex", desc := "(IILjava/util/function/BiFunction;)I" } : Jvm.MethodName) jdk_41_method_11_code (3 : Nat) (Option.some Jvm.ClassFile.FieldType.int)]
set_option maxRecDepth 65536 in
theorem codes_eq : words1.filter isCode = codes1 := rfl
theorem w_codes : ∀ c ∈ words1.filter isCode, c.before args0 about1 = true := by
  rw [codes_eq]
  intro c hc
  simp only [codes1, List.mem_cons, List.not_mem_nil, or_false] at hc
  rcases hc with rfl | rfl | rfl | rfl | rfl | rfl | rfl | rfl | rfl | rfl | rfl | rfl | rfl | rfl | rfl | rfl | rfl | rfl | rfl | rfl | rfl | rfl | rfl | rfl | rfl | rfl | rfl | rfl | rfl | rfl | rfl | rfl | rfl | rfl | rfl | rfl | rfl | rfl | rfl | rfl | rfl | rfl | rfl | rfl | rfl | rfl | rfl | rfl
  · exact w_c0
  · exact w_c1
  · exact w_c2
  · exact w_c3
  · exact w_c4
  · exact w_c5
  · exact w_c6
  · exact w_c7
  · exact w_c8
  · exact w_c9
  · exact w_c10
  · exact w_c11
  · exact w_c12
  · exact w_c13
  · exact w_c14
  · exact w_c15
  · exact w_c16
  · exact w_c17
  · exact w_c18
  · exact w_c19
  · exact w_c20
  · exact w_c21
  · exact w_c22
  · exact w_c23
  · exact w_c24
  · exact w_c25
  · exact w_c26
  · exact w_c27
  · exact w_c28
  · exact w_c29
  · exact w_c30
  · exact w_c31
  · exact w_c32
  · exact w_c33
  · exact w_c34
  · exact w_c35
  · exact w_c36
  · exact w_c37
  · exact w_c38
  · exact w_c39
  · exact w_c40
  · exact w_c41
  · exact w_c42
  · exact w_c43
  · exact w_c44
  · exact w_c45
  · exact w_c46
  · exact w_c47
set_option maxRecDepth 65536 in
theorem w_t1 : (words1.take 24).all (fun c => isCode c || c.before args0 about1) = true := by decide +kernel
set_option maxRecDepth 65536 in
theorem w_t2 : ((words1.drop 24).take 24).all (fun c => isCode c || c.before args0 about1) = true := by decide +kernel
set_option maxRecDepth 65536 in
theorem w_t3 : (((words1.drop 24).drop 24).take 24).all (fun c => isCode c || c.before args0 about1) = true := by decide +kernel
set_option maxRecDepth 65536 in
theorem w_t4 : ((((words1.drop 24).drop 24).drop 24).take 24).all (fun c => isCode c || c.before args0 about1) = true := by decide +kernel
set_option maxRecDepth 65536 in
theorem w_t5 : (((((words1.drop 24).drop 24).drop 24).drop 24).take 24).all (fun c => isCode c || c.before args0 about1) = true := by decide +kernel
set_option maxRecDepth 65536 in
theorem w_t6 : ((((((words1.drop 24).drop 24).drop 24).drop 24).drop 24).take 24).all (fun c => isCode c || c.before args0 about1) = true := by decide +kernel
set_option maxRecDepth 65536 in
theorem w_t7 : (((((((words1.drop 24).drop 24).drop 24).drop 24).drop 24).drop 24).take 24).all (fun c => isCode c || c.before args0 about1) = true := by decide +kernel
set_option maxRecDepth 65536 in
theorem w_t8 : ((((((((words1.drop 24).drop 24).drop 24).drop 24).drop 24).drop 24).drop 24).take 24).all (fun c => isCode c || c.before args0 about1) = true := by decide +kernel
set_option maxRecDepth 65536 in
theorem w_t9 : (((((((((words1.drop 24).drop 24).drop 24).drop 24).drop 24).drop 24).drop 24).drop 24).take 24).all (fun c => isCode c || c.before args0 about1) = true := by decide +kernel
set_option maxRecDepth 65536 in
theorem w_t10 : ((((((((((words1.drop 24).drop 24).drop 24).drop 24).drop 24).drop 24).drop 24).drop 24).drop 24).take 24).all (fun c => isCode c || c.before args0 about1) = true := by decide +kernel
set_option maxRecDepth 65536 in
theorem w_t11 : ((((((((((words1.drop 24).drop 24).drop 24).drop 24).drop 24).drop 24).drop 24).drop 24).drop 24).drop 24).all (fun c => isCode c || c.before args0 about1) = true := by decide +kernel
theorem w_tables : (allAtoms (Jvm.Cond.code x code maxLocals ret :: tables_1)).before args0 about1 = true := by
  rw [allAtoms_all]
  show words1.all (fun c => c.before args0 about1) = true
  refine all_split ?_ w_codes
  rw [← List.take_append_drop 24 words1, List.all_append, w_t1, ← List.take_append_drop 24 (words1.drop 24), List.all_append, w_t2, ← List.take_append_drop 24 ((words1.drop 24).drop 24), List.all_append, w_t3, ← List.take_append_drop 24 (((words1.drop 24).drop 24).drop 24), List.all_append, w_t4, ← List.take_append_drop 24 ((((words1.drop 24).drop 24).drop 24).drop 24), List.all_append, w_t5, ← List.take_append_drop 24 (((((words1.drop 24).drop 24).drop 24).drop 24).drop 24), List.all_append, w_t6, ← List.take_append_drop 24 ((((((words1.drop 24).drop 24).drop 24).drop 24).drop 24).drop 24), List.all_append, w_t7, ← List.take_append_drop 24 (((((((words1.drop 24).drop 24).drop 24).drop 24).drop 24).drop 24).drop 24), List.all_append, w_t8, ← List.take_append_drop 24 ((((((((words1.drop 24).drop 24).drop 24).drop 24).drop 24).drop 24).drop 24).drop 24), List.all_append, w_t9, ← List.take_append_drop 24 (((((((((words1.drop 24).drop 24).drop 24).drop 24).drop 24).drop 24).drop 24).drop 24).drop 24), List.all_append, w_t10, w_t11]
  rfl
set_option maxRecDepth 65536 in
theorem w_rest : rest_1_c.before args0 about1 = true := by decide +kernel
set_option maxRecDepth 65536 in
theorem w_case : (Jvm.Cond.and given_1 narrow_1).before args0 about1 = true := by decide +kernel
set_option maxRecDepth 65536 in
theorem w_consts : constsHeld consts_1 about1 := Jvm.Lit.constsHeldB_iff.mp (by decide +kernel)
theorem w_applies : (headSpec (Jvm.Cond.code x code maxLocals ret :: tables_1) room_1).applies x e0.platform about1 = true :=
  (Spec.applies_iff w_frames).mpr ⟨w_running, w_runnable, w_alone, w_named, w_hears, w_ripe, w_room, w_tables⟩
theorem atStart : AtStart classFile x code maxLocals ret World_1 tables_1 room_1 Calls_1 rest_1 Pre_1 launch0 p0 e0 about1 theMethod args0 below0 :=
  ⟨lists_1, trivial, launch0.admits_env _ _ _, launch0.least_env, fairChoices_fair.cas, fairChoices_fair.clock, w_frames, w_args, w_heap, w_applies, ⟨w_consts, trivial⟩, w_rest, w_case⟩
end start1
theorem witness_1 : WitnessClaimed_1 := ⟨start1.p0, start1.e0, start1.about1, start1.theMethod, start1.args0, start1.below0, start1.atStart⟩
end Jvm.Pilot.@@N@@
