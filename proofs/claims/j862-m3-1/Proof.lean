import JvmDerived
import JvmDerived.Pilot.@@N@@Statement
import JvmDerived.Pilot.@@N@@Code
set_option linter.unusedVariables false
set_option linter.unusedSimpArgs false
/- laws to paste: Road.backV, Road.codOf, Road.eqW (cut by pick.py; bodies as the Statement names them) -/
namespace Jvm.Pilot.@@N@@
namespace StrChars
open Jvm Sem ClassFile Op Lib Jvm.Stand Jvm.Free.XT Jvm.Free.ALB Jvm.Free.JM Jvm.Free
open Jvm.Lib.Cold (StaticIs)
/-- a char array whose places are chars -/
def Ch (a : Addr) (A : Cell) (U : State) : Prop := Arr .char a A U ∧ Typed .char A
theorem Ch.mv {a : Addr} {A : Cell} {U U' : State} (h : Ch a A U) (hal : U.vm.Alike U'.vm) (hh : U'.heap = U.heap) : Ch a A U' := ⟨h.1.mv hal hh, h.2⟩
theorem Ch.keep {a : Addr} {A : Cell} {U U' : State} (h : Ch a A U) (hal : U.vm.Alike U'.vm) (hk : U'.heap[a]? = some A) : Ch a A U' := ⟨h.1.keep hal hk, h.2⟩
/-- what place i of a char[]'s cell holds -/
def cv (A : Cell) (i : Nat) : Int32 := match A.slots[i]? with | some (.int x) => x | _ => 0
theorem Ch.get {a : Addr} {A : Cell} {U : State} (h : Ch a A U) {i : Nat} (hi : i < A.slots.size) : A.slots[i]? = some (.int (cv A i)) := by
  have e := Array.getElem?_eq_getElem hi
  have f := h.2 i _ e
  unfold cv; rw [e]
  generalize A.slots[i] = v at f
  cases v <;> simp [fits] at f ⊢
/-- the byte that i2b leaves of a char -/
def lo8 (x : Int32) : Int32 := x.toInt8.toInt32
theorem fits_lo8 (y : Int32) : fits .byte (.int (lo8 y)) = true := by
  have h1 := y.toInt8.le_toInt
  have h2 := y.toInt8.toInt_lt
  simp only [lo8, fits, Bool.and_eq_true, decide_eq_true_eq, Int32.le_iff_toInt_le, Int8.toInt_toInt32, show (-128 : Int32).toInt = -128 from by decide, show (127 : Int32).toInt = 127 from by decide]
  omega
/-- A' is A but that each place j of lo .. hi - 1 holds f j -/
def Laid (A A' : Cell) (lo hi : Nat) (f : Nat → Value) : Prop := A'.cls = A.cls ∧ A'.vm = A.vm ∧ A'.slots.size = A.slots.size ∧ ∀ i, A'.slots[i]? = if lo ≤ i ∧ i < hi then some (f i) else A.slots[i]?
theorem Laid.zero (A : Cell) (lo : Nat) (f : Nat → Value) : Laid A A lo (lo + 0) f := ⟨rfl, rfl, rfl, fun i => by rw [if_neg (by omega)]⟩
theorem Laid.step {A Ak : Cell} {lo k : Nat} {f : Nat → Value} {v : Value} (h : Laid A Ak lo k f) (hlo : lo ≤ k) (hk : k < Ak.slots.size) (hv : v = f k) : Laid A (Ak.setSlot k v) lo (k + 1) f := by
  refine ⟨h.1, h.2.1, by simpa [Cell.setSlot] using h.2.2.1, fun i => ?_⟩
  by_cases e : k = i
  · subst e; rw [Cell.slots_setSlot_self v hk, if_pos (by omega), hv]
  · rw [Cell.slots_setSlot_ne v e, h.2.2.2 i]
    by_cases q : lo ≤ i ∧ i < k
    · rw [if_pos q, if_pos (by omega)]
    · rw [if_neg q, if_neg (by omega)]
def U16 : String := "java/lang/StringUTF16"
namespace Cmp5
def yN : MethodName := ⟨"java/lang/StringUTF16", "compress", "([CI[BII)I"⟩
abbrev yB : ByteArray := jdk_52_method_21_code
theorem d0 : decode yB 0 = .ok (.iconst 0, 1) := by decide +kernel
theorem d1 : decode yB 1 = .ok (.istore 5, 2) := by decide +kernel
theorem d3 : decode yB 3 = .ok (.iload 5, 2) := by decide +kernel
theorem d5 : decode yB 5 = .ok (.iload 4, 2) := by decide +kernel
theorem d7 : decode yB 7 = .ok (.if_icmp (.ge) 37, 3) := by decide +kernel
theorem d10 : decode yB 10 = .ok (.aload_n 0, 1) := by decide +kernel
theorem d11 : decode yB 11 = .ok (.iload_n 1, 1) := by decide +kernel
theorem d12 : decode yB 12 = .ok (.caload, 1) := by decide +kernel
theorem d13 : decode yB 13 = .ok (.istore 6, 2) := by decide +kernel
theorem d15 : decode yB 15 = .ok (.iload 6, 2) := by decide +kernel
theorem d17 : decode yB 17 = .ok (.sipush 255, 3) := by decide +kernel
theorem d20 : decode yB 20 = .ok (.if_icmp (.le) 6, 3) := by decide +kernel
theorem d26 : decode yB 26 = .ok (.aload_n 2, 1) := by decide +kernel
theorem d27 : decode yB 27 = .ok (.iload_n 3, 1) := by decide +kernel
theorem d28 : decode yB 28 = .ok (.iload 6, 2) := by decide +kernel
theorem d30 : decode yB 30 = .ok (.i2b, 1) := by decide +kernel
theorem d31 : decode yB 31 = .ok (.bastore, 1) := by decide +kernel
theorem d32 : decode yB 32 = .ok (.iinc 1 1, 3) := by decide +kernel
theorem d35 : decode yB 35 = .ok (.iinc 3 1, 3) := by decide +kernel
theorem d38 : decode yB 38 = .ok (.iinc 5 1, 3) := by decide +kernel
theorem d41 : decode yB 41 = .ok (.goto (-38), 3) := by decide +kernel
theorem d44 : decode yB 44 = .ok (.iload 4, 2) := by decide +kernel
theorem d46 : decode yB 46 = .ok (.ireturn, 1) := by decide +kernel
def site : List Cond := []
def tab : Cond := tabOf yN yB 7 (some .int) site
def P (b : Addr) (A : Cell) (d : Addr) (B : Cell) (o q len : Nat) (args : Array Value) (s : State) : Prop := args = #[.ref b, .int (Int32.ofNat o), .ref d, .int (Int32.ofNat q), .int (Int32.ofNat len)] ∧ Ch b A s ∧ Arr .byte d B s ∧ b ≠ d ∧ o + len ≤ A.slots.size ∧ q + len ≤ B.slots.size ∧ ∀ i, i < len → ¬ 255 < cv A (o + i)
def E (b : Addr) (A : Cell) (d : Addr) (B : Cell) (o q len : Nat) (r : Option Value) (s u : State) : Prop := r = some (.int (Int32.ofNat len)) ∧ ∃ B', Put d B' s u ∧ Laid B B' q (q + len) (fun j => Value.int (lo8 (cv A (o + (j - q)))))
/-- no char of the range above 255: len; the places written hold each char's low byte -/
theorem law (l : Launch) (b : Addr) (A : Cell) (d : Addr) (B : Cell) (o q len : Nat) : Law l yN 5 5 0 0 yB 7 (some .int) site (P b A d B o q len) (E b A d B o q len) (copyLocs d q len) 0 0 := by
  refine Law.of_walk (plainFor_of_name (by decide +kernel)) (by decide +kernel) (by decide +kernel) (by decide) (fun _ _ h => by rw [h.1]; rfl) (fun _ U U' hal hh h => ⟨h.1, h.2.1.mv hal hh, h.2.2.1.mv hal hh, h.2.2.2⟩) (fun r U U' V V' h1 hal h2 h => ⟨h.1, h.2.elim fun B' q => ⟨B', q.1.mv h1 h2, q.2⟩⟩) ?_
  intro p e s m args below meth c s₁ X0 hexec hbytes hml hret hlk hnm hown hh0 W hP
  obtain ⟨rfl, hA, hB, hne, l1, l2, hp⟩ := hP
  have c1 : Steps p.tables e below (s₁.setTop (entryFrame m #[.ref b, .int (Int32.ofNat o), .ref d, .int (Int32.ofNat q), .int (Int32.ofNat len)] 7)) (s₁.setTop (mkF m 0 #[.val (.ref b), .val (.int (Int32.ofNat o)), .val (.ref d), .val (.int (Int32.ofNat q)), .val (.int (Int32.ofNat len)), .unset, .unset] [])) := entry rfl
  have hA0 := hA.1.mv X0.warmed.alike hh0
  have hB0 := hB.mv X0.warmed.alike hh0
  have a31 := hA.1.2.2.2
  have c2 : Steps p.tables e below (s₁.setTop (entryFrame m #[.ref b, .int (Int32.ofNat o), .ref d, .int (Int32.ofNat q), .int (Int32.ofNat len)] 7)) (s₁.setTop (mkF m 3 #[.val (.ref b), .val (.int (Int32.ofNat o)), .val (.ref d), .val (.int (Int32.ofNat q)), .val (.int (Int32.ofNat len)), .val (.int 0), .unset] [])) := c1.trans (by
    refine iconstV X0.here hexec rfl 0 (hb hbytes d0) (by decide) ?_
    refine XS.istore X0.here hexec rfl (hb hbytes d1) rfl rfl ?_
    exact Steps.refl _)
  have loop : ∀ (r i : Nat), i + r = len → ∀ (z : Slot), (z = .unset ∨ ∃ w, z = .val w ∧ w.category = 1) → ∀ (Tl : State) (Bk : Cell), Stand p l e { frames := 0, locals := 0, cells := 0, slots := 0 } s m #[.ref b, .int (Int32.ofNat o), .ref d, .int (Int32.ofNat q), .int (Int32.ofNat len)] below meth c Tl ([] ++ copyLocs d q i) 0 0 → Put d Bk s₁ Tl → Laid B Bk q (q + i) (fun j => Value.int (lo8 (cv A (o + (j - q))))) →
      Steps p.tables e below (s₁.setTop (entryFrame m #[.ref b, .int (Int32.ofNat o), .ref d, .int (Int32.ofNat q), .int (Int32.ofNat len)] 7)) (Tl.setTop (mkF m 3 #[.val (.ref b), .val (.int (Int32.ofNat (o + i))), .val (.ref d), .val (.int (Int32.ofNat (q + i))), .val (.int (Int32.ofNat len)), .val (.int (Int32.ofNat i)), z] [])) → ∃ (T' : State) (B' : Cell) (z' : Slot), Stand p l e { frames := 0, locals := 0, cells := 0, slots := 0 } s m #[.ref b, .int (Int32.ofNat o), .ref d, .int (Int32.ofNat q), .int (Int32.ofNat len)] below meth c T' ([] ++ copyLocs d q len) 0 0 ∧ Put d B' s₁ T' ∧ Laid B B' q (q + len) (fun j => Value.int (lo8 (cv A (o + (j - q))))) ∧
      Steps p.tables e below (s₁.setTop (entryFrame m #[.ref b, .int (Int32.ofNat o), .ref d, .int (Int32.ofNat q), .int (Int32.ofNat len)] 7)) (T'.setTop (mkF m 3 #[.val (.ref b), .val (.int (Int32.ofNat (o + len))), .val (.ref d), .val (.int (Int32.ofNat (q + len))), .val (.int (Int32.ofNat len)), .val (.int (Int32.ofNat len)), z'] [])) := by
    intro r
    induction r with
    | zero =>
      intro i hi z hz Tl Bk Xl pl fl cl
      have hil : i = len := by omega
      rw [hil] at Xl fl cl
      exact ⟨Tl, Bk, z, Xl, pl, fl, cl⟩
    | succ r ih =>
      intro i hi z hz Tl Bk Xl pl fl cl
      have all := X0.warmed.alike.symm.trans Xl.warmed.alike
      have hAl := hA0.keep all (pl.other hne hA0.1)
      have hBk := hB0.like all pl.1 fl.1 fl.2.1 fl.2.2.1
      have hlt : q + i < Bk.slots.size := by rw [fl.2.2.1]; omega
      have c3 : Steps p.tables e below (s₁.setTop (entryFrame m #[.ref b, .int (Int32.ofNat o), .ref d, .int (Int32.ofNat q), .int (Int32.ofNat len)] 7)) (Tl.setTop (mkF m 12 #[.val (.ref b), .val (.int (Int32.ofNat (o + i))), .val (.ref d), .val (.int (Int32.ofNat (q + i))), .val (.int (Int32.ofNat len)), .val (.int (Int32.ofNat i)), z] [.int (Int32.ofNat (o + i)), .ref b])) := cl.trans (by
        refine XS.iload Xl.here hexec rfl (hb hbytes d3) rfl ?_
        refine XS.iload Xl.here hexec rfl (hb hbytes d5) rfl ?_
        refine XS.icmpNo Xl.here hexec rfl (hb hbytes d7) rfl (ii_ge_f (lt32 (by omega) (by omega))) ?_
        refine XS.aloadN Xl.here hexec rfl (hb hbytes d10) rfl rfl ?_
        refine XS.iloadN Xl.here hexec rfl (hb hbytes d11) rfl ?_
        exact Steps.refl _)
      have c4 : Steps p.tables e below (s₁.setTop (entryFrame m #[.ref b, .int (Int32.ofNat o), .ref d, .int (Int32.ofNat q), .int (Int32.ofNat len)] 7)) (Tl.setTop (mkF m 13 #[.val (.ref b), .val (.int (Int32.ofNat (o + i))), .val (.ref d), .val (.int (Int32.ofNat (q + i))), .val (.int (Int32.ofNat len)), .val (.int (Int32.ofNat i)), z] [.int (cv A (o + i))])) := c3.trans (by
        refine Xl.aget hexec hAl rfl (hA.get (i := o + i) (by omega)) rfl rfl (hb hbytes d12) ?_
        exact Steps.refl _)
      have c5 : Steps p.tables e below (s₁.setTop (entryFrame m #[.ref b, .int (Int32.ofNat o), .ref d, .int (Int32.ofNat q), .int (Int32.ofNat len)] 7)) (Tl.setTop (mkF m 15 #[.val (.ref b), .val (.int (Int32.ofNat (o + i))), .val (.ref d), .val (.int (Int32.ofNat (q + i))), .val (.int (Int32.ofNat len)), .val (.int (Int32.ofNat i)), .val (.int (cv A (o + i)))] [])) := c4.trans (by
        refine XS.istoreS Xl.here hexec rfl (hb hbytes d13) rfl rfl hz ?_
        exact Steps.refl _)
      have c6 : Steps p.tables e below (s₁.setTop (entryFrame m #[.ref b, .int (Int32.ofNat o), .ref d, .int (Int32.ofNat q), .int (Int32.ofNat len)] 7)) (Tl.setTop (mkF m 31 #[.val (.ref b), .val (.int (Int32.ofNat (o + i))), .val (.ref d), .val (.int (Int32.ofNat (q + i))), .val (.int (Int32.ofNat len)), .val (.int (Int32.ofNat i)), .val (.int (cv A (o + i)))] [.int (lo8 (cv A (o + i))), .int (Int32.ofNat (q + i)), .ref d])) := c5.trans (by
        refine XS.iload Xl.here hexec rfl (hb hbytes d15) rfl ?_
        refine sipushV Xl.here hexec rfl 255 (hb hbytes d17) (by decide) ?_
        refine XS.icmpYes Xl.here hexec rfl (pc0 := 20) rfl (hb hbytes d20) rfl (ii_le_t (hp i (by omega))) (by decide) rfl ?_
        refine XS.aloadN Xl.here hexec rfl (hb hbytes d26) rfl rfl ?_
        refine XS.iloadN Xl.here hexec rfl (hb hbytes d27) rfl ?_
        refine XS.iload Xl.here hexec rfl (hb hbytes d28) rfl ?_
        refine i2b Xl.here hexec rfl (hb hbytes d30) rfl ?_
        exact Steps.refl _)
      obtain ⟨T7, X7, p7, st7⟩ := Xl.aput hexec hBk rfl hlt rfl (fits_lo8 (cv A (o + i))) (g := (mkF m 31 #[.val (.ref b), .val (.int (Int32.ofNat (o + i))), .val (.ref d), .val (.int (Int32.ofNat (q + i))), .val (.int (Int32.ofNat len)), .val (.int (Int32.ofNat i)), .val (.int (cv A (o + i)))] [.int (lo8 (cv A (o + i))), .int (Int32.ofNat (q + i)), .ref d])) rfl (rest := []) rfl (hb hbytes d31)
      have c8 : Steps p.tables e below (s₁.setTop (entryFrame m #[.ref b, .int (Int32.ofNat o), .ref d, .int (Int32.ofNat q), .int (Int32.ofNat len)] 7)) (T7.setTop (mkF m 32 #[.val (.ref b), .val (.int (Int32.ofNat (o + i))), .val (.ref d), .val (.int (Int32.ofNat (q + i))), .val (.int (Int32.ofNat len)), .val (.int (Int32.ofNat i)), .val (.int (cv A (o + i)))] [])) := c6.trans (st7 _ (Steps.refl _))
      have c9 : Steps p.tables e below (s₁.setTop (entryFrame m #[.ref b, .int (Int32.ofNat o), .ref d, .int (Int32.ofNat q), .int (Int32.ofNat len)] 7)) (T7.setTop (mkF m 3 #[.val (.ref b), .val (.int (Int32.ofNat (o + i) + 1)), .val (.ref d), .val (.int (Int32.ofNat (q + i) + 1)), .val (.int (Int32.ofNat len)), .val (.int (Int32.ofNat i + 1)), .val (.int (cv A (o + i)))] [])) := c8.trans (by
        refine iincV X7.here hexec rfl 1 (hb hbytes d32) (by decide) rfl rfl ?_
        refine iincV X7.here hexec rfl 1 (hb hbytes d35) (by decide) rfl rfl ?_
        refine iincV X7.here hexec rfl 1 (hb hbytes d38) (by decide) rfl rfl ?_
        refine XS.goto X7.here hexec rfl (pc0 := 41) rfl (hb hbytes d41) (by decide) rfl ?_
        exact Steps.refl _)
      have c10 : Steps p.tables e below (s₁.setTop (entryFrame m #[.ref b, .int (Int32.ofNat o), .ref d, .int (Int32.ofNat q), .int (Int32.ofNat len)] 7)) (T7.setTop (mkF m 3 #[.val (.ref b), .val (.int (Int32.ofNat (o + (i + 1)))), .val (.ref d), .val (.int (Int32.ofNat (q + (i + 1)))), .val (.int (Int32.ofNat len)), .val (.int (Int32.ofNat (i + 1))), .val (.int (cv A (o + i)))] [])) := by
        have := c9
        rw [succ32, succ32, succ32] at this
        exact this
      exact ih (i + 1) (by omega) _ (Or.inr ⟨_, rfl, rfl⟩) T7 _ (by rw [copyLocs_step, ← List.append_assoc]; exact X7) (pl.trans p7) (fl.step (by omega) hlt (by simp)) c10
  obtain ⟨T9, B9, z9, X9, p9, f9, g9⟩ := loop len 0 (by omega) .unset (Or.inl rfl) s₁ B (by simpa [copyLocs] using X0) ⟨hB0.1, fun _ _ => rfl, rfl⟩ (Laid.zero _ _ _) c2
  have c11 : Steps p.tables e below (s₁.setTop (entryFrame m #[.ref b, .int (Int32.ofNat o), .ref d, .int (Int32.ofNat q), .int (Int32.ofNat len)] 7)) (T9.setTop (mkF m 46 #[.val (.ref b), .val (.int (Int32.ofNat (o + len))), .val (.ref d), .val (.int (Int32.ofNat (q + len))), .val (.int (Int32.ofNat len)), .val (.int (Int32.ofNat len)), z9] [.int (Int32.ofNat len)])) := g9.trans (by
    refine XS.iload X9.here hexec rfl (hb hbytes d3) rfl ?_
    refine XS.iload X9.here hexec rfl (hb hbytes d5) rfl ?_
    refine XS.icmpYes X9.here hexec rfl (pc0 := 7) rfl (hb hbytes d7) rfl (ii_ge_t (nlt32 (by omega) (Nat.le_refl _))) (by decide) rfl ?_
    refine XS.iload X9.here hexec rfl (hb hbytes d44) rfl ?_
    exact Steps.refl _)
  exact ⟨T9, some (.int (Int32.ofNat len)), _, _, _, X9, by simp, rfl, rfl, (fun h => by cases h), ⟨rfl, B9, p9.from hh0, f9⟩, fun fs hl => c11.trans (X9.ireturnOut hexec hret rfl (Or.inl rfl) (hb hbytes d46) hl)⟩
end Cmp5
namespace Cmp3
def yN : MethodName := ⟨"java/lang/StringUTF16", "compress", "([CII)[B"⟩
abbrev yB : ByteArray := jdk_52_method_16_code
theorem d0 : decode yB 0 = .ok (.iload_n 2, 1) := by decide +kernel
theorem d1 : decode yB 1 = .ok (.newarray .byte, 2) := by decide +kernel
theorem d3 : decode yB 3 = .ok (.astore_n 3, 1) := by decide +kernel
theorem d4 : decode yB 4 = .ok (.aload_n 0, 1) := by decide +kernel
theorem d5 : decode yB 5 = .ok (.iload_n 1, 1) := by decide +kernel
theorem d6 : decode yB 6 = .ok (.aload_n 3, 1) := by decide +kernel
theorem d7 : decode yB 7 = .ok (.iconst 0, 1) := by decide +kernel
theorem d8 : decode yB 8 = .ok (.iload_n 2, 1) := by decide +kernel
theorem d9 : decode yB 9 = .ok (.invokestatic 115, 3) := by decide +kernel
theorem d12 : decode yB 12 = .ok (.istore 4, 2) := by decide +kernel
theorem d14 : decode yB 14 = .ok (.iload 4, 2) := by decide +kernel
theorem d16 : decode yB 16 = .ok (.iload_n 2, 1) := by decide +kernel
theorem d17 : decode yB 17 = .ok (.if_icmp (.eq) 40, 3) := by decide +kernel
theorem d57 : decode yB 57 = .ok (.aload_n 3, 1) := by decide +kernel
theorem d58 : decode yB 58 = .ok (.areturn, 1) := by decide +kernel
def site : List Cond := [.arrayClass .byte, Cmp5.tab] ++ staticW U16 115 Cmp5.yN
def tab : Cond := tabOf yN yB 6 (some (.array .byte)) site
def P (b : Addr) (A : Cell) (o len : Nat) (args : Array Value) (s : State) : Prop := args = #[.ref b, .int (Int32.ofNat o), .int (Int32.ofNat len)] ∧ Ch b A s ∧ o + len ≤ A.slots.size ∧ len ≤ 536870912 ∧ ∀ i, i < len → ¬ 255 < cv A (o + i)
def E (b : Addr) (A : Cell) (o len : Nat) (r : Option Value) (s u : State) : Prop := NewArr .byte "[B" len (fun j => .int (lo8 (cv A (o + j)))) r s u ∧ u.heap.size = s.heap.size + 1
/-- no char of the range above 255: a new byte[] of their low bytes -/
theorem law (l : Launch) (b : Addr) (A : Cell) (o len : Nat) : Law l yN 3 3 1 18 yB 6 (some (.array .byte)) site (P b A o len) (E b A o len) [] 1 len := by
  refine Law.of_walk (plainFor_of_name (by decide +kernel)) (by decide +kernel) (by decide +kernel) (by decide) (fun _ _ h => by rw [h.1]; rfl) (fun _ U U' hal hh h => ⟨h.1, h.2.1.mv hal hh, h.2.2⟩) (fun r U U' V V' h1 hal h2 h => ⟨NewArr.mv r U U' V V' h1 hal h2 h.1, by rw [h1, h2]; exact h.2⟩) ?_
  intro p e s m args below meth c s₁ X0 hexec hbytes hml hret hlk hnm hown hh0 W hP
  obtain ⟨rfl, hA, l1, l2, hp⟩ := hP
  have a31 := hA.1.2.2.2
  have c1 : Steps p.tables e below (s₁.setTop (entryFrame m #[.ref b, .int (Int32.ofNat o), .int (Int32.ofNat len)] 6)) (s₁.setTop (mkF m 0 #[.val (.ref b), .val (.int (Int32.ofNat o)), .val (.int (Int32.ofNat len)), .unset, .unset, .unset] [])) := entry rfl
  have c2 : Steps p.tables e below (s₁.setTop (entryFrame m #[.ref b, .int (Int32.ofNat o), .int (Int32.ofNat len)] 6)) (s₁.setTop (mkF m 1 #[.val (.ref b), .val (.int (Int32.ofNat o)), .val (.int (Int32.ofNat len)), .unset, .unset, .unset] [.int (Int32.ofNat len)])) := c1.trans (by
    refine XS.iloadN X0.here hexec rfl (hb hbytes d0) rfl ?_
    exact Steps.refl _)
  obtain ⟨T3, B3, X3, ba3, bs3, bv3, bh3, bf3, st3⟩ := X0.anew hexec (atype := .byte) (wk W (.arrayClass .byte)) rfl (by show len * 1 ≤ _; omega) (by omega) (g := (mkF m 1 #[.val (.ref b), .val (.int (Int32.ofNat o)), .val (.int (Int32.ofNat len)), .unset, .unset, .unset] [.int (Int32.ofNat len)])) rfl (hb hbytes d1) (rest := []) rfl (Nat.le_refl _) (by show 0 + len ≤ len; omega)
  rw [hh0] at ba3 st3
  have kp3 : XT.Kept s T3 := (XT.Kept.of_eq hh0).push bh3
  have hA3 := hA.keep X3.warmed.alike (kp3 _ _ hA.1.1)
  have hne : b ≠ s.heap.size := hA.1.ne
  have c4 : Steps p.tables e below (s₁.setTop (entryFrame m #[.ref b, .int (Int32.ofNat o), .int (Int32.ofNat len)] 6)) (T3.setTop (mkF m 3 #[.val (.ref b), .val (.int (Int32.ofNat o)), .val (.int (Int32.ofNat len)), .unset, .unset, .unset] [.ref s.heap.size])) := c2.trans (st3 _ (Steps.refl _))
  have c5 : Steps p.tables e below (s₁.setTop (entryFrame m #[.ref b, .int (Int32.ofNat o), .int (Int32.ofNat len)] 6)) (T3.setTop (mkF m 9 #[.val (.ref b), .val (.int (Int32.ofNat o)), .val (.int (Int32.ofNat len)), .val (.ref s.heap.size), .unset, .unset] [.int (Int32.ofNat len), .int 0, .ref s.heap.size, .int (Int32.ofNat o), .ref b])) := c4.trans (by
    refine XS.astoreN X3.here hexec rfl (hb hbytes d3) rfl rfl rfl ?_
    refine XS.aloadN X3.here hexec rfl (hb hbytes d4) rfl rfl ?_
    refine XS.iloadN X3.here hexec rfl (hb hbytes d5) rfl ?_
    refine XS.aloadN X3.here hexec rfl (hb hbytes d6) rfl rfl ?_
    refine iconstV X3.here hexec rfl 0 (hb hbytes d7) (by decide) ?_
    refine XS.iloadN X3.here hexec rfl (hb hbytes d8) rfl ?_
    exact Steps.refl _)
  obtain ⟨v6, T6, X6, E6, g6⟩ := X3.callS hexec (Cmp5.law l b A s.heap.size B3 o 0 len) hown (wks W (staticW U16 115 Cmp5.yN)) (wk W Cmp5.tab) (W := 0) (Nat.le_of_ble_eq_true rfl) (Nat.le_of_ble_eq_true rfl) (Nat.le_refl _) (by show 0 + len + 0 ≤ len; omega) (g := (mkF m 9 #[.val (.ref b), .val (.int (Int32.ofNat o)), .val (.int (Int32.ofNat len)), .val (.ref s.heap.size), .unset, .unset] [.int (Int32.ofNat len), .int (Int32.ofNat 0), .ref s.heap.size, .int (Int32.ofNat o), .ref b])) rfl (by rw [hml]; rfl) c5 (argsL := [.ref b, .int (Int32.ofNat o), .ref s.heap.size, .int (Int32.ofNat 0), .int (Int32.ofNat len)]) (rest := []) rfl rfl (by show 2 * 0 + 0 ≤ _; decide) (hb hbytes d9) (⟨rfl, hA3, ba3, hne, l1, by rw [bs3]; simp, hp⟩)
  obtain ⟨rfl, B6, p6, f6⟩ := E6
  have c7 : Steps p.tables e below (s₁.setTop (entryFrame m #[.ref b, .int (Int32.ofNat o), .int (Int32.ofNat len)] 6)) (T6.setTop (mkF m 12 #[.val (.ref b), .val (.int (Int32.ofNat o)), .val (.int (Int32.ofNat len)), .val (.ref s.heap.size), .unset, .unset] [.int (Int32.ofNat len)])) := g6
  have c8 : Steps p.tables e below (s₁.setTop (entryFrame m #[.ref b, .int (Int32.ofNat o), .int (Int32.ofNat len)] 6)) (T6.setTop (mkF m 58 #[.val (.ref b), .val (.int (Int32.ofNat o)), .val (.int (Int32.ofNat len)), .val (.ref s.heap.size), .val (.int (Int32.ofNat len)), .unset] [.ref s.heap.size])) := c7.trans (by
    refine XS.istore X6.here hexec rfl (hb hbytes d12) rfl rfl ?_
    refine XS.iload X6.here hexec rfl (hb hbytes d14) rfl ?_
    refine XS.iloadN X6.here hexec rfl (hb hbytes d16) rfl ?_
    refine XS.icmpYes X6.here hexec rfl (pc0 := 17) rfl (hb hbytes d17) rfl (ii_eq_t rfl) (by decide) rfl ?_
    refine XS.aloadN X6.here hexec rfl (hb hbytes d57) rfl rfl ?_
    exact Steps.refl _)
  have X8 := X6.wide (L' := []) (cells' := 1) (slots' := len) (fun x hx hlt => by
    simp only [List.nil_append, copyLocs, List.mem_map, List.mem_range] at hx
    obtain ⟨i, -, rfl⟩ := hx
    exact absurd hlt (Nat.lt_irrefl _)) (Nat.le_refl _) (by omega)
  exact ⟨T6, some (.ref s.heap.size), _, _, _, X8, rfl, rfl, rfl, (fun h => by cases h), ⟨⟨rfl, B6, ba3.like (X3.warmed.alike.symm.trans X6.warmed.alike) p6.1 f6.1 f6.2.1 f6.2.2.1, f6.2.1.trans bv3, by rw [X6.warmed.alike.findClass, f6.1]; exact bf3, by rw [f6.2.2.1, bs3]; simp, fun j hj => by rw [f6.2.2.2 j, if_pos (by omega)]; rfl, kp3.put p6 (Nat.le_refl _)⟩, by rw [p6.2.2, bh3, hh0]; simp⟩, fun fs hl => c8.trans (X8.areturnOut hexec rfl hret rfl (hb hbytes d58) hl)⟩
end Cmp3
namespace CodL
def yN : MethodName := ⟨"java/lang/StringUTF16", "coderFromArrayLen", "([BI)B"⟩
abbrev yB : ByteArray := jdk_52_method_15_code
theorem d0 : decode yB 0 = .ok (.iload_n 1, 1) := by decide +kernel
theorem d1 : decode yB 1 = .ok (.aload_n 0, 1) := by decide +kernel
theorem d2 : decode yB 2 = .ok (.arraylength, 1) := by decide +kernel
theorem d3 : decode yB 3 = .ok (.isub, 1) := by decide +kernel
theorem d4 : decode yB 4 = .ok (.bipush 31, 2) := by decide +kernel
theorem d6 : decode yB 6 = .ok (.iushr, 1) := by decide +kernel
theorem d7 : decode yB 7 = .ok (.i2b, 1) := by decide +kernel
theorem d8 : decode yB 8 = .ok (.ireturn, 1) := by decide +kernel
def site : List Cond := []
def tab : Cond := tabOf yN yB 2 (some .byte) site
def P (d : Addr) (B : Cell) (args : Array Value) (s : State) : Prop := args = #[.ref d, .int (Int32.ofNat B.slots.size)] ∧ Arr .byte d B s
def E (r : Option Value) (s u : State) : Prop := XT.PureE (some (.int 0)) r s u
/-- an array as long as the number of chars: LATIN1 -/
theorem law (l : Launch) (d : Addr) (B : Cell) : Law l yN 2 2 0 0 yB 2 (some .byte) site (P d B) E [] 0 0 := by
  refine Law.of_walk (plainFor_of_name (by decide +kernel)) (by decide +kernel) (by decide +kernel) (by decide) (fun _ _ h => by rw [h.1]; rfl) (fun _ U U' hal hh h => ⟨h.1, h.2.mv hal hh⟩) (fun r U U' V V' h1 hal h2 h => XT.PureE.mv r U U' V V' h1 hal h2 h) ?_
  intro p e s m args below meth c s₁ X0 hexec hbytes hml hret hlk hnm hown hh0 W hP
  obtain ⟨rfl, hB⟩ := hP
  have hB0 := hB.mv X0.warmed.alike hh0
  have c1 : Steps p.tables e below (s₁.setTop (entryFrame m #[.ref d, .int (Int32.ofNat B.slots.size)] 2)) (s₁.setTop (mkF m 0 #[.val (.ref d), .val (.int (Int32.ofNat B.slots.size))] [])) := entry rfl
  have c2 : Steps p.tables e below (s₁.setTop (entryFrame m #[.ref d, .int (Int32.ofNat B.slots.size)] 2)) (s₁.setTop (mkF m 2 #[.val (.ref d), .val (.int (Int32.ofNat B.slots.size))] [.ref d, .int (Int32.ofNat B.slots.size)])) := c1.trans (by
    refine XS.iloadN X0.here hexec rfl (hb hbytes d0) rfl ?_
    refine XS.aloadN X0.here hexec rfl (hb hbytes d1) rfl rfl ?_
    exact Steps.refl _)
  have c3 : Steps p.tables e below (s₁.setTop (entryFrame m #[.ref d, .int (Int32.ofNat B.slots.size)] 2)) (s₁.setTop (mkF m 8 #[.val (.ref d), .val (.int (Int32.ofNat B.slots.size))] [.int (lo8 (ushr (Int32.ofNat B.slots.size - Int32.ofNat B.slots.size) 31))])) := c2.trans (by
    refine X0.alen hexec hB0 rfl rfl (hb hbytes d2) ?_
    refine XS.isub X0.here hexec rfl (hb hbytes d3) rfl ?_
    refine bipushV X0.here hexec rfl 31 (hb hbytes d4) (by decide) ?_
    refine iushr X0.here hexec rfl (hb hbytes d6) rfl ?_
    refine i2b X0.here hexec rfl (hb hbytes d7) rfl ?_
    exact Steps.refl _)
  have e0 : lo8 (ushr (Int32.ofNat B.slots.size - Int32.ofNat B.slots.size) 31) = 0 := by rw [Int32.sub_self]; decide
  rw [e0] at c3
  exact ⟨s₁, some (.int 0), _, _, _, X0, rfl, rfl, rfl, (fun h => by cases h), ⟨rfl, hh0⟩, fun fs hl => c3.trans (X0.ireturnOut hexec hret rfl (Or.inr (Or.inr (Or.inl rfl))) (hb hbytes d8) hl)⟩
end CodL
/-- the String at a is Latin-1 over a new byte[] (the heap's one new cell): the low bytes of the len chars of A from o on; every cell but a is kept -/
def Got (a : Addr) (D : Cell) (fV fC : Field) (A : Cell) (o len : Nat) (r : Option Value) (s u : State) : Prop := r = none ∧ ∃ D' V : Cell, Blank "java/lang/String" a D' u ∧ Same D D' [fV.slot, fC.slot] ∧ D'.slots[fV.slot]? = some (.ref s.heap.size) ∧ D'.slots[fC.slot]? = some (.int 0) ∧ Arr .byte s.heap.size V u ∧ V.vm = .none ∧ u.vm.findClass "[B" = some V.cls ∧ V.slots.size = len ∧ (∀ j, j < len → V.slots[j]? = some (.int (lo8 (cv A (o + j))))) ∧ (∀ (y : Addr) (c : Cell), y ≠ a → s.heap[y]? = some c → u.heap[y]? = some c) ∧ u.heap.size = s.heap.size + 1
theorem Got.mv {a : Addr} {D A : Cell} {fV fC : Field} {o len : Nat} : ∀ r (U U' V V' : State), U'.heap = U.heap → V.vm.Alike V'.vm → V'.heap = V.heap → Got a D fV fC A o len r U V → Got a D fV fC A o len r U' V' :=
  fun r U U' V V' h1 hal h2 ⟨e0, D', X, a1, a2, a3, a4, a5, a6, a7, a8, a9, a10, a11⟩ => ⟨e0, D', X, a1.mv hal h2, a2, by rw [h1]; exact a3, a4, by rw [h1]; exact a5.mv hal h2, a6, by rw [hal.findClass]; exact a7, a8, a9, by rw [h1, h2]; exact a10, by rw [h1, h2]; exact a11⟩
namespace New4
def yN : MethodName := ⟨"java/lang/String", "<init>", "([CIILjava/lang/Void;)V"⟩
abbrev yB : ByteArray := jdk_42_method_149_code
theorem d0 : decode yB 0 = .ok (.aload_n 0, 1) := by decide +kernel
theorem d1 : decode yB 1 = .ok (.invokespecial 1, 3) := by decide +kernel
theorem d4 : decode yB 4 = .ok (.iload_n 3, 1) := by decide +kernel
theorem d5 : decode yB 5 = .ok (.ifCond (.ne) 22, 3) := by decide +kernel
theorem d27 : decode yB 27 = .ok (.getstatic 38, 3) := by decide +kernel
theorem d30 : decode yB 30 = .ok (.ifCond (.eq) 28, 3) := by decide +kernel
theorem d33 : decode yB 33 = .ok (.aload_n 1, 1) := by decide +kernel
theorem d34 : decode yB 34 = .ok (.iload_n 2, 1) := by decide +kernel
theorem d35 : decode yB 35 = .ok (.iload_n 3, 1) := by decide +kernel
theorem d36 : decode yB 36 = .ok (.invokestatic 177, 3) := by decide +kernel
theorem d39 : decode yB 39 = .ok (.astore 5, 2) := by decide +kernel
theorem d41 : decode yB 41 = .ok (.aload_n 0, 1) := by decide +kernel
theorem d42 : decode yB 42 = .ok (.aload 5, 2) := by decide +kernel
theorem d44 : decode yB 44 = .ok (.iload_n 3, 1) := by decide +kernel
theorem d45 : decode yB 45 = .ok (.invokestatic 47, 3) := by decide +kernel
theorem d48 : decode yB 48 = .ok (.putfield 15, 3) := by decide +kernel
theorem d51 : decode yB 51 = .ok (.aload_n 0, 1) := by decide +kernel
theorem d52 : decode yB 52 = .ok (.aload 5, 2) := by decide +kernel
theorem d54 : decode yB 54 = .ok (.putfield 9, 3) := by decide +kernel
theorem d57 : decode yB 57 = .ok (.return_, 1) := by decide +kernel
def site : List Cond := [.fieldLink "java/lang/String" 38 "java/lang/String" "COMPACT_STRINGS" "Z", Cmp3.tab, CodL.tab, .laysFinal "java/lang/String" "java/lang/String" "value" "[B", .fieldLink "java/lang/String" 9 "java/lang/String" "value" "[B", .laysFinal "java/lang/String" "java/lang/String" "coder" "B", .fieldLink "java/lang/String" 15 "java/lang/String" "coder" "B"] ++ objW "java/lang/String" 1 ++ staticW "java/lang/String" 177 Cmp3.yN ++ staticW "java/lang/String" 47 CodL.yN
def tab : Cond := tabOf yN yB 6 none site
def P (a : Addr) (D : Cell) (fV fC : Field) (b : Addr) (A : Cell) (z : Int32) (o len : Nat) (args : Array Value) (s : State) : Prop := args = #[.ref a, .ref b, .int (Int32.ofNat o), .int (Int32.ofNat len), .null] ∧ Blank "java/lang/String" a D s ∧ Found "java/lang/String" "value" "[B" fV s ∧ Found "java/lang/String" "coder" "B" fC s ∧ Ch b A s ∧ StaticIs s "java/lang/String" "COMPACT_STRINGS" "Z" (.int z) ∧ ¬ z = 0 ∧ 0 < len ∧ o + len ≤ A.slots.size ∧ len ≤ 536870912 ∧ ∀ i, i < len → ¬ 255 < cv A (o + i)
def E (a : Addr) (D : Cell) (fV fC : Field) (A : Cell) (o len : Nat) (r : Option Value) (s u : State) : Prop := Got a D fV fC A o len r s u
/-- len > 0, no char of the range above 255: a Latin-1 String of their low bytes -/
theorem law (l : Launch) (a : Addr) (D : Cell) (fV fC : Field) (b : Addr) (A : Cell) (z : Int32) (o len : Nat) : Law l yN 5 4 2 35 yB 6 none site (P a D fV fC b A z o len) (E a D fV fC A o len) [⟨a, fC.slot⟩, ⟨a, fV.slot⟩] 1 len := by
  refine Law.of_walk (plainFor_of_name (by decide +kernel)) (by decide +kernel) (by decide +kernel) (by decide) (fun _ _ h => by rw [h.1]; rfl) (fun _ U U' hal hh h => ⟨h.1, h.2.1.mv hal hh, h.2.2.1.al hal, h.2.2.2.1.al hal, h.2.2.2.2.1.mv hal hh, h.2.2.2.2.2.1.there hal hh, h.2.2.2.2.2.2⟩) (fun r U U' V V' h1 hal h2 h => Got.mv r U U' V V' h1 hal h2 h) ?_
  intro p e s m args below meth c s₁ X0 hexec hbytes hml hret hlk hnm hown hh0 W hP
  obtain ⟨rfl, hB, f1, f2, hA, s1, hz, l0, l1, l2, hp⟩ := hP
  have a31 := hA.1.2.2.2
  have c1 : Steps p.tables e below (s₁.setTop (entryFrame m #[.ref a, .ref b, .int (Int32.ofNat o), .int (Int32.ofNat len), .null] 6)) (s₁.setTop (mkF m 0 #[.val (.ref a), .val (.ref b), .val (.int (Int32.ofNat o)), .val (.int (Int32.ofNat len)), .val .null, .unset] [])) := entry rfl
  have c2 : Steps p.tables e below (s₁.setTop (entryFrame m #[.ref a, .ref b, .int (Int32.ofNat o), .int (Int32.ofNat len), .null] 6)) (s₁.setTop (mkF m 1 #[.val (.ref a), .val (.ref b), .val (.int (Int32.ofNat o)), .val (.int (Int32.ofNat len)), .val .null, .unset] [.ref a])) := c1.trans (by
    refine XS.aloadN X0.here hexec rfl (hb hbytes d0) rfl rfl ?_
    exact Steps.refl _)
  obtain ⟨T3, X3, q3, st3⟩ := X0.oinit hexec hown (wks W (objW "java/lang/String" 1)) (g := (mkF m 1 #[.val (.ref a), .val (.ref b), .val (.int (Int32.ofNat o)), .val (.int (Int32.ofNat len)), .val .null, .unset] [.ref a])) rfl (by rw [hml]; rfl) (rest := []) rfl (hb hbytes d1) (W := 0) (by show 2 * 0 + 0 ≤ _; decide) (Nat.le_of_ble_eq_true rfl) (Nat.le_of_ble_eq_true rfl)
  have hh3 := q3.trans hh0
  have c4 : Steps p.tables e below (s₁.setTop (entryFrame m #[.ref a, .ref b, .int (Int32.ofNat o), .int (Int32.ofNat len), .null] 6)) (T3.setTop (mkF m 27 #[.val (.ref a), .val (.ref b), .val (.int (Int32.ofNat o)), .val (.int (Int32.ofNat len)), .val .null, .unset] [])) := (c2.trans (st3 _ (Steps.refl _))).trans (by
    refine XS.iloadN X3.here hexec rfl (hb hbytes d4) rfl ?_
    refine XS.ifYes X3.here hexec rfl (pc0 := 5) rfl (hb hbytes d5) rfl (i0_ne_t (nz32 (by omega) l0)) (by decide) rfl ?_
    exact Steps.refl _)
  obtain ⟨T5, X5, q5, st5⟩ := X3.sget hexec hown (wk W (.fieldLink "java/lang/String" 38 "java/lang/String" "COMPACT_STRINGS" "Z")) s1 (fun _ _ h => by rw [hh3]; exact h) (g := (mkF m 27 #[.val (.ref a), .val (.ref b), .val (.int (Int32.ofNat o)), .val (.int (Int32.ofNat len)), .val .null, .unset] [])) rfl (hb hbytes d27)
  have hh5 := q5.trans hh3
  have c6 : Steps p.tables e below (s₁.setTop (entryFrame m #[.ref a, .ref b, .int (Int32.ofNat o), .int (Int32.ofNat len), .null] 6)) (T5.setTop (mkF m 30 #[.val (.ref a), .val (.ref b), .val (.int (Int32.ofNat o)), .val (.int (Int32.ofNat len)), .val .null, .unset] [.int z])) := c4.trans (st5 _ (Steps.refl _))
  have c7 : Steps p.tables e below (s₁.setTop (entryFrame m #[.ref a, .ref b, .int (Int32.ofNat o), .int (Int32.ofNat len), .null] 6)) (T5.setTop (mkF m 36 #[.val (.ref a), .val (.ref b), .val (.int (Int32.ofNat o)), .val (.int (Int32.ofNat len)), .val .null, .unset] [.int (Int32.ofNat len), .int (Int32.ofNat o), .ref b])) := c6.trans (by
    refine XS.ifNo X5.here hexec rfl (hb hbytes d30) rfl (i0_eq_f hz) ?_
    refine XS.aloadN X5.here hexec rfl (hb hbytes d33) rfl rfl ?_
    refine XS.iloadN X5.here hexec rfl (hb hbytes d34) rfl ?_
    refine XS.iloadN X5.here hexec rfl (hb hbytes d35) rfl ?_
    exact Steps.refl _)
  obtain ⟨v8, T8, X8, E8, g8⟩ := X5.callS hexec (Cmp3.law l b A o len) hown (wks W (staticW "java/lang/String" 177 Cmp3.yN)) (wk W Cmp3.tab) (W := 0) (Nat.le_of_ble_eq_true rfl) (Nat.le_of_ble_eq_true rfl) (Nat.le_refl _) (by show 0 + len ≤ len; omega) (g := (mkF m 36 #[.val (.ref a), .val (.ref b), .val (.int (Int32.ofNat o)), .val (.int (Int32.ofNat len)), .val .null, .unset] [.int (Int32.ofNat len), .int (Int32.ofNat o), .ref b])) rfl (by rw [hml]; rfl) c7 (argsL := [.ref b, .int (Int32.ofNat o), .int (Int32.ofNat len)]) (rest := []) rfl rfl (by show 2 * 0 + 0 ≤ _; decide) (hb hbytes d36) (⟨rfl, hA.mv X5.warmed.alike hh5, l1, l2, hp⟩)
  obtain ⟨e8, z8⟩ := E8
  obtain ⟨rfl, N, n1, n2, n3, n4, n5, n6⟩ := NewArr.mv _ T5 s _ _ hh5.symm (Vm.Alike.refl _) rfl e8
  rw [hh5] at z8
  have hB1 := hB.keep X8.warmed.alike (n6 _ _ hB.1)
  have hne : s.heap.size ≠ a := (Nat.ne_of_lt (Array.getElem?_eq_some_iff.mp hB.1).1).symm
  have c9 : Steps p.tables e below (s₁.setTop (entryFrame m #[.ref a, .ref b, .int (Int32.ofNat o), .int (Int32.ofNat len), .null] 6)) (T8.setTop (mkF m 39 #[.val (.ref a), .val (.ref b), .val (.int (Int32.ofNat o)), .val (.int (Int32.ofNat len)), .val .null, .unset] [.ref s.heap.size])) := g8
  have c10 : Steps p.tables e below (s₁.setTop (entryFrame m #[.ref a, .ref b, .int (Int32.ofNat o), .int (Int32.ofNat len), .null] 6)) (T8.setTop (mkF m 45 #[.val (.ref a), .val (.ref b), .val (.int (Int32.ofNat o)), .val (.int (Int32.ofNat len)), .val .null, .val (.ref s.heap.size)] [.int (Int32.ofNat N.slots.size), .ref s.heap.size, .ref a])) := by
    have hc : Steps p.tables e below (s₁.setTop (entryFrame m #[.ref a, .ref b, .int (Int32.ofNat o), .int (Int32.ofNat len), .null] 6)) (T8.setTop (mkF m 45 #[.val (.ref a), .val (.ref b), .val (.int (Int32.ofNat o)), .val (.int (Int32.ofNat len)), .val .null, .val (.ref s.heap.size)] [.int (Int32.ofNat len), .ref s.heap.size, .ref a])) := c9.trans (by
      refine XS.astore X8.here hexec rfl (hb hbytes d39) rfl rfl rfl ?_
      refine XS.aloadN X8.here hexec rfl (hb hbytes d41) rfl rfl ?_
      refine XS.aload X8.here hexec rfl (hb hbytes d42) rfl rfl ?_
      refine XS.iloadN X8.here hexec rfl (hb hbytes d44) rfl ?_
      exact Steps.refl _)
    rw [n4]; exact hc
  obtain ⟨v11, T11, X11, E11, g11⟩ := X8.callS hexec (CodL.law l s.heap.size N) hown (wks W (staticW "java/lang/String" 47 CodL.yN)) (wk W CodL.tab) (W := 1) (Nat.le_of_ble_eq_true rfl) (Nat.le_of_ble_eq_true rfl) (Nat.le_refl _) (by show 0 + len + 0 ≤ len; omega) (g := (mkF m 45 #[.val (.ref a), .val (.ref b), .val (.int (Int32.ofNat o)), .val (.int (Int32.ofNat len)), .val .null, .val (.ref s.heap.size)] [.int (Int32.ofNat N.slots.size), .ref s.heap.size, .ref a])) rfl (by rw [hml]; rfl) c10 (argsL := [.ref s.heap.size, .int (Int32.ofNat N.slots.size)]) (rest := [.ref a]) rfl rfl (by show 2 * 0 + (1 + 0) ≤ _; decide) (hb hbytes d45) (⟨rfl, n1⟩)
  obtain ⟨rfl, q11⟩ := E11
  have hB11 := hB1.mv (X8.warmed.alike.symm.trans X11.warmed.alike) q11
  have c12 : Steps p.tables e below (s₁.setTop (entryFrame m #[.ref a, .ref b, .int (Int32.ofNat o), .int (Int32.ofNat len), .null] 6)) (T11.setTop (mkF m 48 #[.val (.ref a), .val (.ref b), .val (.int (Int32.ofNat o)), .val (.int (Int32.ofNat len)), .val .null, .val (.ref s.heap.size)] [.int 0, .ref a])) := g11
  obtain ⟨T13, X13, p13, bl13, sl13, st13⟩ := X11.finit hexec hown (wk W (.fieldLink "java/lang/String" 15 "java/lang/String" "coder" "B")) (Or.inr ⟨_, (wk W (.laysFinal "java/lang/String" "java/lang/String" "coder" "B"))⟩) (Or.inl ⟨rfl, hnm⟩) f2 (Or.inl rfl) hB11 (t := .byte) (by decide +kernel) rfl (g := (mkF m 48 #[.val (.ref a), .val (.ref b), .val (.int (Int32.ofNat o)), .val (.int (Int32.ofNat len)), .val .null, .val (.ref s.heap.size)] [.int 0, .ref a])) rfl (rest := []) rfl (hb hbytes d48)
  have c14 : Steps p.tables e below (s₁.setTop (entryFrame m #[.ref a, .ref b, .int (Int32.ofNat o), .int (Int32.ofNat len), .null] 6)) (T13.setTop (mkF m 54 #[.val (.ref a), .val (.ref b), .val (.int (Int32.ofNat o)), .val (.int (Int32.ofNat len)), .val .null, .val (.ref s.heap.size)] [.ref s.heap.size, .ref a])) := (c12.trans (st13 _ (Steps.refl _))).trans (by
    refine XS.aloadN X13.here hexec rfl (hb hbytes d51) rfl rfl ?_
    refine XS.aload X13.here hexec rfl (hb hbytes d52) rfl rfl ?_
    exact Steps.refl _)
  obtain ⟨T15, X15, p15, bl15, sl15, st15⟩ := X13.finit hexec hown (wk W (.fieldLink "java/lang/String" 9 "java/lang/String" "value" "[B")) (Or.inr ⟨_, (wk W (.laysFinal "java/lang/String" "java/lang/String" "value" "[B"))⟩) (Or.inl ⟨rfl, hnm⟩) f1 (Or.inl rfl) bl13 (t := (.array .byte)) (by decide +kernel) rfl (g := (mkF m 54 #[.val (.ref a), .val (.ref b), .val (.int (Int32.ofNat o)), .val (.int (Int32.ofNat len)), .val .null, .val (.ref s.heap.size)] [.ref s.heap.size, .ref a])) rfl (rest := []) rfl (hb hbytes d54)
  have c16 : Steps p.tables e below (s₁.setTop (entryFrame m #[.ref a, .ref b, .int (Int32.ofNat o), .int (Int32.ofNat len), .null] 6)) (T15.setTop (mkF m 57 #[.val (.ref a), .val (.ref b), .val (.int (Int32.ofNat o)), .val (.int (Int32.ofNat len)), .val .null, .val (.ref s.heap.size)] [])) := c14.trans (st15 _ (Steps.refl _))
  have ap := apart (Or.inr ⟨_, (wk W (.laysFinal "java/lang/String" "java/lang/String" "value" "[B"))⟩) (Or.inr ⟨_, (wk W (.laysFinal "java/lang/String" "java/lang/String" "coder" "B"))⟩) f1 f2 (t₁ := .array .byte) (t₂ := .byte) (by decide +kernel) (by decide +kernel) (by decide)
  have al := X8.warmed.alike.symm.trans X15.warmed.alike
  have n7 : T11.heap[s.heap.size]? = some N := by rw [q11]; exact n1.1
  exact ⟨T15, none, _, _, _, X15, by simp, rfl, by omega, (fun _ => rfl), ⟨rfl, _, N, bl15, ((Same.refl D _).set _ (by simp)).set _ (by simp), sl15, (Cell.slots_setSlot_ne _ ap).trans sl13, n1.keep al (p15.other hne (p13.other hne n7)), n2, by rw [al.findClass]; exact n3, n4, n5, fun y c h1 h2 => p15.other h1 (p13.other h1 (by rw [q11]; exact n6 y c h2)), by rw [p15.2.2, p13.2.2, q11]; exact z8⟩, fun fs hl => c16.trans (X15.returnOut hexec hret (hb hbytes d57) hl)⟩
end New4
namespace New1
def yN : MethodName := ⟨"java/lang/String", "<init>", "([C)V"⟩
abbrev yB : ByteArray := jdk_42_method_3_code
theorem d0 : decode yB 0 = .ok (.aload_n 0, 1) := by decide +kernel
theorem d1 : decode yB 1 = .ok (.aload_n 1, 1) := by decide +kernel
theorem d2 : decode yB 2 = .ok (.iconst 0, 1) := by decide +kernel
theorem d3 : decode yB 3 = .ok (.aload_n 1, 1) := by decide +kernel
theorem d4 : decode yB 4 = .ok (.arraylength, 1) := by decide +kernel
theorem d5 : decode yB 5 = .ok (.aconst_null, 1) := by decide +kernel
theorem d6 : decode yB 6 = .ok (.invokespecial 27, 3) := by decide +kernel
theorem d9 : decode yB 9 = .ok (.return_, 1) := by decide +kernel
def site : List Cond := [New4.tab] ++ initW "java/lang/String" 27 New4.yN
def tab : Cond := tabOf yN yB 2 none site
def P (a : Addr) (D : Cell) (fV fC : Field) (b : Addr) (A : Cell) (z : Int32) (args : Array Value) (s : State) : Prop := args = #[.ref a, .ref b] ∧ Blank "java/lang/String" a D s ∧ Found "java/lang/String" "value" "[B" fV s ∧ Found "java/lang/String" "coder" "B" fC s ∧ Ch b A s ∧ StaticIs s "java/lang/String" "COMPACT_STRINGS" "Z" (.int z) ∧ ¬ z = 0 ∧ 0 < A.slots.size ∧ A.slots.size ≤ 536870912 ∧ ∀ i, i < A.slots.size → ¬ 255 < cv A i
def E (a : Addr) (D : Cell) (fV fC : Field) (A : Cell) (r : Option Value) (s u : State) : Prop := Got a D fV fC A 0 A.slots.size r s u
/-- new String(chars), not empty, no char above 255: a Latin-1 String of their low bytes -/
theorem law (l : Launch) (a : Addr) (D : Cell) (fV fC : Field) (b : Addr) (A : Cell) (z : Int32) : Law l yN 2 1 3 52 yB 2 none site (P a D fV fC b A z) (E a D fV fC A) [⟨a, fC.slot⟩, ⟨a, fV.slot⟩] 1 A.slots.size := by
  refine Law.of_walk (plainFor_of_name (by decide +kernel)) (by decide +kernel) (by decide +kernel) (by decide) (fun _ _ h => by rw [h.1]; rfl) (fun _ U U' hal hh h => ⟨h.1, h.2.1.mv hal hh, h.2.2.1.al hal, h.2.2.2.1.al hal, h.2.2.2.2.1.mv hal hh, h.2.2.2.2.2.1.there hal hh, h.2.2.2.2.2.2⟩) (fun r U U' V V' h1 hal h2 h => Got.mv r U U' V V' h1 hal h2 h) ?_
  intro p e s m args below meth c s₁ X0 hexec hbytes hml hret hlk hnm hown hh0 W hP
  obtain ⟨rfl, hB, f1, f2, hA, s1, hz, l0, l2, hp⟩ := hP
  have c1 : Steps p.tables e below (s₁.setTop (entryFrame m #[.ref a, .ref b] 2)) (s₁.setTop (mkF m 0 #[.val (.ref a), .val (.ref b)] [])) := entry rfl
  have c2 : Steps p.tables e below (s₁.setTop (entryFrame m #[.ref a, .ref b] 2)) (s₁.setTop (mkF m 6 #[.val (.ref a), .val (.ref b)] [.null, .int (Int32.ofNat A.slots.size), .int 0, .ref b, .ref a])) := c1.trans (by
    refine XS.aloadN X0.here hexec rfl (hb hbytes d0) rfl rfl ?_
    refine XS.aloadN X0.here hexec rfl (hb hbytes d1) rfl rfl ?_
    refine iconstV X0.here hexec rfl 0 (hb hbytes d2) (by decide) ?_
    refine XS.aloadN X0.here hexec rfl (hb hbytes d3) rfl rfl ?_
    refine X0.alen hexec (hA.1.mv X0.warmed.alike hh0) rfl rfl (hb hbytes d4) ?_
    refine XS.aconstNull X0.here hexec rfl (hb hbytes d5) ?_
    exact Steps.refl _)
  obtain ⟨v3, T3, X3, E3, g3⟩ := X0.callN hexec (New4.law l a D fV fC b A z 0 A.slots.size) rfl hown (wks W (initW "java/lang/String" 27 New4.yN)) (W New4.tab (by simp only [site, List.mem_cons, List.mem_append, true_or, or_true])) (W := 0) (Nat.le_of_ble_eq_true rfl) (Nat.le_of_ble_eq_true rfl) (Nat.le_refl _) (by show 0 + A.slots.size ≤ A.slots.size; omega) (g := (mkF m 6 #[.val (.ref a), .val (.ref b)] [.null, .int (Int32.ofNat A.slots.size), .int (Int32.ofNat 0), .ref b, .ref a])) rfl (by rw [hml]; rfl) c2 (argsL := [.ref b, .int (Int32.ofNat 0), .int (Int32.ofNat A.slots.size), .null]) (rest := []) rfl rfl (by show 2 * 0 + 0 ≤ _; decide) (hb hbytes d6) (⟨rfl, hB.mv X0.warmed.alike hh0, f1.al X0.warmed.alike, f2.al X0.warmed.alike, hA.mv X0.warmed.alike hh0, s1.there X0.warmed.alike hh0, hz, l0, by omega, l2, fun i hi => by rw [Nat.zero_add]; exact hp i hi⟩)
  have e0 := Got.mv _ s₁ s _ _ hh0.symm (Vm.Alike.refl _) rfl E3
  obtain rfl := e0.1
  have c4 : Steps p.tables e below (s₁.setTop (entryFrame m #[.ref a, .ref b] 2)) (T3.setTop (mkF m 9 #[.val (.ref a), .val (.ref b)] [])) := g3
  exact ⟨T3, none, _, _, _, X3, by simp, rfl, by omega, (fun _ => rfl), e0, fun fs hl => c4.trans (X3.returnOut hexec hret (hb hbytes d9) hl)⟩
theorem pays {l : Launch} {R : Room} {p : Program} {e : Env} {below : List Frame} {s : State} {sargs : Array Value} {len W : Nat} (a : Addr) (D : Cell) (fV fC : Field) (b : Addr) (A : Cell) (z : Int32) (htab : tab.before sargs s = true) (hfr : 4 ≤ R.frames) (hlo : W + 65 ≤ R.locals) :
    Back l R p e below s sargs yN len W (fun A₁ a₁ => A₁.cells + 1 ≤ R.cells ∧ A₁.slots + A.slots.size ≤ R.slots ∧ P a D fV fC b A z a₁ A₁.U) (fun A₁ _ v₁ B₁ => E a D fV fC A v₁ A₁.U B₁.U ∧ B₁.locs = A₁.locs ++ [⟨a, fC.slot⟩, ⟨a, fV.slot⟩] ∧ B₁.cells = A₁.cells + 1 ∧ B₁.slots = A₁.slots + A.slots.size) :=
  (law l a D fV fC b A z).pays htab hfr (by omega)
end New1
/-- the byte, read back as charAt reads it, is the char -/
theorem lo8_mask {x : Int32} (h0 : ¬ x < 0) (h1 : ¬ 255 < x) : lo8 x &&& 255 = x := by
  have t : ∀ k : Fin 256, lo8 (Int32.ofNat k.val) &&& 255 = Int32.ofNat k.val := by decide +kernel
  rw [Int32.lt_iff_toInt_lt] at h0 h1
  have e0 : (0 : Int32).toInt = 0 := rfl
  have e1 : (255 : Int32).toInt = 255 := rfl
  obtain ⟨k, hk⟩ : ∃ k : Nat, x.toInt = k := ⟨x.toInt.toNat, by omega⟩
  have hx : x = Int32.ofNat k := Int32.toInt_inj.mp (by rw [hk, Int32.toInt_ofNat_small (by omega)])
  rw [hx]
  exact t ⟨k, by omega⟩
end StrChars
namespace StrChars.Road
open Jvm Sem ClassFile Op Lib Jvm.Stand Jvm.Free Jvm.Free.XT
open Jvm.Lib.Cold (StaticIs)
abbrev ST : String := "java/lang/String"
/-- every table word that New1's law asks, flat -/
abbrev words : List Jvm.Cond := [.code New1.yN New1.yB 2 none, .initialized ST, .methodLink ST 27 New4.yN, .instanceMethod New4.yN,
  .code New4.yN New4.yB 6 none, .fieldLink ST 38 ST "COMPACT_STRINGS" "Z", .laysFinal ST ST "value" "[B", .fieldLink ST 9 ST "value" "[B", .laysFinal ST ST "coder" "B", .fieldLink ST 15 ST "coder" "B",
  .methodLink ST 1 Lib.objectInit, .instanceMethod Lib.objectInit, .code Lib.objectInit ⟨#[0xb1]⟩ 1 none, .methodLink ST 177 Cmp3.yN, .static Cmp3.yN, .methodLink ST 47 CodL.yN, .static CodL.yN,
  .code Cmp3.yN Cmp3.yB 6 (some (.array .byte)), .initialized U16, .arrayClass .byte, .methodLink U16 115 Cmp5.yN, .static Cmp5.yN, .code Cmp5.yN Cmp5.yB 7 (some .int), .code CodL.yN CodL.yB 2 (some .byte)]
theorem tab_of {a : Array Value} {s : State} (h : ∀ w ∈ words, w.before a s = true) : New1.tab.before a s = true := by
  have h5 : Cmp5.tab.before a s = true := unparts (wk h (.code Cmp5.yN Cmp5.yB 7 (some .int))) (wks h (.initialized Cmp5.yN.cls :: Cmp5.site))
  have hc : CodL.tab.before a s = true := unparts (wk h (.code CodL.yN CodL.yB 2 (some .byte))) (wks h (.initialized CodL.yN.cls :: CodL.site))
  have q5 : ∀ w ∈ Cmp5.tab :: words, w.before a s = true := fun w hw => (List.mem_cons.mp hw).elim (fun e => e ▸ h5) (h w)
  have h3 : Cmp3.tab.before a s = true := unparts (wk q5 (.code Cmp3.yN Cmp3.yB 6 (some (.array .byte)))) (wks q5 (.initialized Cmp3.yN.cls :: Cmp3.site))
  have q3 : ∀ w ∈ Cmp3.tab :: CodL.tab :: words, w.before a s = true := fun w hw => (List.mem_cons.mp hw).elim (fun e => e ▸ h3) fun hw => (List.mem_cons.mp hw).elim (fun e => e ▸ hc) (h w)
  have h4 : New4.tab.before a s = true := unparts (wk q3 (.code New4.yN New4.yB 6 none)) (wks q3 (.initialized New4.yN.cls :: New4.site))
  have q4 : ∀ w ∈ New4.tab :: words, w.before a s = true := fun w hw => (List.mem_cons.mp hw).elim (fun e => e ▸ h4) (h w)
  exact unparts (wk q4 (.code New1.yN New1.yB 2 none)) (wks q4 (.initialized New1.yN.cls :: New1.site))
/-- the words ride from the start Z to the walk's own state -/
theorem moved {Z s : State} {a0 args : Array Value} (hZ : Z.Warmed39 s.vm) (hw : ∀ d ∈ words, d.before a0 Z = true) : ∀ d ∈ words, d.before args s = true := fun d hd => by
  have q := hw d hd
  have t : ∀ d ∈ words, d = .arrayClass .byte ∨ (d.onTables && d.keepsFace) = true := by decide +kernel
  rcases t d hd with rfl | t
  · exact RoadKit.mvA hZ q
  · exact RoadKit.mv hZ q t
/-- WHAT COMES BACK, over the tables of the start Z: h the heap at the call, h' behind it -/
def Q (Z : State) (x : Addr) (A : Cell) (h : Heap) (v : Option Value) (h' : Heap) (L : List Loc) : Prop := v = none ∧ (∀ y ∈ L, y.base = x) ∧ RoadKit.Keep h h' [x] ∧ h'.size = h.size + 1 ∧ RoadKit.Exa Z h' x ST ∧ RoadKit.Fld Z h' x ST "value" "[B" (.ref h.size) ∧ RoadKit.Fld Z h' x ST "coder" "B" (.int 0) ∧
  (∃ V : Cell, RoadKit.Arr Z h' h.size V .byte ∧ V.vm = .none ∧ Z.vm.findClass "[B" = some V.cls ∧ V.slots.size = A.slots.size ∧ ∀ j, j < A.slots.size → V.slots[j]? = some (.int (lo8 (cv A j)))) ∧
  ∀ (O n d : String) (w : Value), RoadKit.Fld Z h x O n d w → RoadKit.slotOf Z O n d ≠ RoadKit.slotOf Z ST "value" "[B" → RoadKit.slotOf Z O n d ≠ RoadKit.slotOf Z ST "coder" "B" → RoadKit.Fld Z h' x O n d w
/-- **new String(chars) AT A CALL, IN THE ROAD'S FORM**: for specialBack behind newO: x the fresh String, b the char[] with the cell A -/
theorem back {p : Program} {l : Launch} {e : Env} {R : Room} {s : State} {args : Array Value} {below : List Frame} {len W : Nat} {Z : State} {a0 : Array Value} {h : Heap} (hZ : Z.Warmed39 s.vm) (hw : ∀ d ∈ words, d.before a0 Z = true) {kI : Nat} (wi : (Jvm.Cond.instantiable ST kI).before a0 Z = true)
    {x b : Addr} {A : Cell} {z : Int32} {v0 c0 : Value} (E : RoadKit.Exa Z h x ST) (V : RoadKit.Fld Z h x ST "value" "[B" v0) (C : RoadKit.Fld Z h x ST "coder" "B" c0) (K : RoadKit.Arr Z h b A .char) (hty : Typed .char A) (S : RoadKit.Sta Z h ST "COMPACT_STRINGS" "Z" (.int z)) (hz : ¬ z = 0)
    (l0 : 0 < A.slots.size) (l2 : A.slots.size ≤ 536870912) (hp : ∀ i, i < A.slots.size → ¬ 255 < cv A i) (hfr : 4 ≤ R.frames) (hlo : W + 65 ≤ R.locals) :
    Back l R p e below s args New1.yN len W (fun P a => a = #[.ref x, .ref b] ∧ P.U.heap = h ∧ P.cells + 1 ≤ R.cells ∧ P.slots + A.slots.size ≤ R.slots)
      (fun P _ v B => ∃ L, Q Z x A h v B.U.heap L ∧ B.locs = P.locs ++ L ∧ B.cells = P.cells + 1 ∧ B.slots = P.slots + A.slots.size) := by
  intro m meth c P g ig mk a X hg hsize hdg hW hn hp'
  obtain ⟨rfl, rfl, r1, r2⟩ := hp'
  have al : Z.vm.Alike P.U.vm := hZ.alike.trans X.warmed.alike
  obtain ⟨D, cfV, kV, iV, fV, hD, gV, stV, knV, obV, asV, slV⟩ := id V
  obtain ⟨D', cfC, kC, iC, fC, hD', gC, stC, -, -, asC, slC⟩ := id C
  cases hD.symm.trans hD'
  obtain ⟨D2, kD, e1, e2, e3, e4, e5⟩ := id E
  cases hD.symm.trans e1
  obtain ⟨c2, k2, i1, i2, i3, -⟩ := Cond.instantiable_spec wi
  cases e2.symm.trans i1
  cases e3.symm.trans i2
  obtain ⟨kU, u1, u2⟩ := al.2.2 _ _ e3
  have hB : Blank ST x D P.U := ⟨hD, ⟨knV, fun q hq => by rw [hq] at obV; cases obV⟩, by rw [al.findClass]; exact e2, kU, u1, by rw [u2]; exact i3, by rw [u2]; exact e5 i3⟩
  have F1 : Found ST "value" "[B" fV P.U := ⟨SBG.found_only al ⟨cfV, kV, iV, gV⟩, stV⟩
  have F2 : Found ST "coder" "B" fC P.U := ⟨SBG.found_only al ⟨cfC, kC, iC, gC⟩, stC⟩
  have hA : Ch b A P.U := ⟨⟨K.1, State.isArrayOf_alike al K.2.1, K.2.2, by omega⟩, hty⟩
  have hS : StaticIs P.U ST "COMPACT_STRINGS" "Z" (.int z) := by
    obtain ⟨cfS, iS, kS, fS, st, cS, t1, t2, t3, t4, t5, t6, t7⟩ := S
    exact StaticIs.there (s := { Z with heap := P.U.heap }) ⟨cfS, iS, kS, fS, st, cS, t1, t2, t3, t4, t5, (fun q => by rw [q] at t6; cases t6), t7⟩ al rfl
  obtain ⟨v, B, X', ⟨⟨hv, E', V', q1, q2, q3, q4, q5, q6, q7, q8, q9, q10, q11⟩, hl, hc, hs⟩, st⟩ := New1.pays x D fV fC b A z (tab_of (moved hZ hw)) hfr hlo m meth c P g ig mk _ X hg hsize hdg hW hn ⟨r1, r2, rfl, hB, F1, F2, hA, hS, hz, l0, l2, hp⟩
  have al' : Z.vm.Alike B.U.vm := hZ.alike.trans X'.warmed.alike
  have hsz : E'.slots.size = D.slots.size := by
    obtain ⟨-, -, -, kB, w1, w2, w3⟩ := q1
    obtain ⟨kB', y1, y2⟩ := al'.2.2 _ _ e3
    rw [q2.2.1] at w1
    cases w1.symm.trans y1
    rw [w3, e5 i3, y2]
  refine ⟨v, B, X', ⟨_, ⟨hv, ?_, ⟨by omega, fun y cy hy hn' => q10 y cy (by simpa using hn') hy, fun y cy hy => ?_⟩, q11, ⟨E', _, q1.1, by rw [q2.2.1]; exact e2, by rw [q2.2.1]; exact e3, by rw [q2.1]; exact obV, fun _ => by rw [hsz]; exact e5 i3⟩,
    ⟨E', cfV, kV, iV, fV, q1.1, gV, stV, by rw [q2.1]; exact knV, by rw [q2.1]; exact obV, by rw [q2.2.1]; exact asV, q3⟩, ⟨E', cfC, kC, iC, fC, q1.1, gC, stC, by rw [q2.1]; exact knV, by rw [q2.1]; exact obV, by rw [q2.2.1]; exact asC, q4⟩,
    ⟨V', ⟨q5.1, State.isArrayOf_alike al'.symm q5.2.1, q5.2.2.1⟩, q6, by rw [← al'.findClass]; exact q7, q8, fun j hj => by have := q9 j hj; rwa [Nat.zero_add] at this⟩, fun O n d w F n1 n2 => ?_⟩, hl, hc, hs⟩, st⟩
  · intro y hy
    simp only [List.mem_cons, List.not_mem_nil, or_false] at hy
    rcases hy with rfl | rfl <;> rfl
  · by_cases q : y = x
    · subst q
      cases hD.symm.trans hy
      exact ⟨E', q1.1, q2.2.1, q2.1, hsz⟩
    · exact ⟨cy, q10 y cy q hy, rfl, rfl, rfl⟩
  · obtain ⟨D3, cf, k, i, f, g1, g2, g3, g4, g5, g6, g7⟩ := F
    cases hD.symm.trans g1
    simp only [RoadKit.slotOf, g2, gV, gC, Option.map_some, Option.getD_some] at n1 n2
    exact ⟨E', cf, k, i, f, q1.1, g2, g3, by rw [q2.1]; exact g4, by rw [q2.1]; exact g5, by rw [q2.2.1]; exact g6, by rw [q2.2.2 f.slot (by simp [n1, n2])]; exact g7⟩
end StrChars.Road
namespace StrChars.Road
open Jvm Sem ClassFile Op Lib Jvm.Stand Jvm.Free Jvm.Free.XT
/-- WHAT COMES BACK, the byte[] as a list of values -/
def QA (Z : State) (x : Addr) (zn : Int32) (cs : List Int32) (h : Heap) (v : Option Value) (h' : Heap) (L : List Loc) : Prop := v = none ∧ (∀ y ∈ L, y.base = x) ∧ RoadKit.Keep h h' [x] ∧ h'.size = h.size + 1 ∧ RoadKit.Exa Z h' x ST ∧ RoadKit.Fld Z h' x ST "value" "[B" (.ref h.size) ∧ RoadKit.Fld Z h' x ST "coder" "B" (.int 0) ∧
  (∃ kb, Z.vm.findClass "[B" = some kb ∧ RoadKit.Arv Z h' h.size kb .byte zn (cs.map fun c => .int (lo8 c)) (.int 0)) ∧
  ∀ (O n d : String) (w : Value), RoadKit.Fld Z h x O n d w → RoadKit.slotOf Z O n d ≠ RoadKit.slotOf Z ST "value" "[B" → RoadKit.slotOf Z O n d ≠ RoadKit.slotOf Z ST "coder" "B" → RoadKit.Fld Z h' x O n d w
/-- **new String(chars) AT A CALL, THE ARRAYS AS LISTS**: the char[] at b holds cs, not empty, no char above 255 -/
theorem backArv {p : Program} {l : Launch} {e : Env} {R : Room} {s : State} {args : Array Value} {below : List Frame} {len W : Nat} {Z : State} {a0 : Array Value} {h : Heap} (hZ : Z.Warmed39 s.vm) (hw : ∀ d ∈ words, d.before a0 Z = true) {kI : Nat} (wi : (Jvm.Cond.instantiable ST kI).before a0 Z = true)
    {x b : Addr} {k : ClassId} {zn z : Int32} {cs : List Int32} {dv v0 c0 : Value} (E : RoadKit.Exa Z h x ST) (V : RoadKit.Fld Z h x ST "value" "[B" v0) (C : RoadKit.Fld Z h x ST "coder" "B" c0) (K : RoadKit.Arv Z h b k .char zn (cs.map Value.int) dv) (S : RoadKit.Sta Z h ST "COMPACT_STRINGS" "Z" (.int z)) (hz : ¬ z = 0)
    (hlen : zn.toNatClampNeg = cs.length) (h0 : 0 < cs.length) (hbig : cs.length ≤ 536870912) (hall : ∀ c ∈ cs, ¬ 255 < c) (hfr : 4 ≤ R.frames) (hlo : W + 65 ≤ R.locals) :
    Back l R p e below s args New1.yN len W (fun P a => a = #[.ref x, .ref b] ∧ P.U.heap = h ∧ P.cells + 1 ≤ R.cells ∧ P.slots + cs.length ≤ R.slots)
      (fun P _ v B => ∃ L, QA Z x zn cs h v B.U.heap L ∧ B.locs = P.locs ++ L ∧ B.cells = P.cells + 1 ∧ B.slots = P.slots + cs.length) := by
  obtain ⟨A, K1, K2, K3, K4, K5, K6⟩ := K
  have e : A.slots.size = cs.length := K3.trans hlen
  have hat : ∀ (i : Nat) (hi : i < cs.length), A.slots[i]? = some (.int cs[i]) := fun i hi => by rw [K5 i (by omega)]; simp [List.getD_eq_getElem?_getD, hi]
  have hcv : ∀ (i : Nat) (hi : i < cs.length), cv A i = cs[i] := fun i hi => by unfold cv; rw [hat i hi]
  have hty : Typed .char A := fun i v hv => by
    have hi : i < A.slots.size := (Array.getElem?_eq_some_iff.mp hv).1
    have q := K5 i hi
    rw [hv] at q
    rw [Option.some.inj q]
    exact K6 i hi
  refine Back.mono (back hZ hw wi E V C K1 hty S hz (by omega) (by omega) (fun i hi => by rw [hcv i (by omega)]; exact hall _ (List.getElem_mem _)) hfr hlo) (fun P a hp => ⟨hp.1, hp.2.1, hp.2.2.1, by rw [e]; exact hp.2.2.2⟩) (fun P a v B hp hq => ?_)
  obtain ⟨L, ⟨q1, q2, q3, q4, q5, q6, q7, ⟨V', v1, v2, v3, v4, v5⟩, q9⟩, hl, hc, hs⟩ := hq
  refine ⟨L, ⟨q1, q2, q3, q4, q5, q6, q7, ⟨V'.cls, v3, V', v1, rfl, by rw [v4, e, hlen], K4, fun i hi => ?_, fun i hi => ?_⟩, q9⟩, hl, hc, by rw [hs, e]⟩
  · have hi' : i < cs.length := by omega
    rw [v5 i (by omega), hcv i hi']; simp [List.getD_eq_getElem?_getD, hi']
  · have hi' : i < cs.length := by omega
    simp only [List.getD_eq_getElem?_getD, List.getElem?_map, List.getElem?_eq_getElem hi', Option.map_some, Option.getD_some]
    exact fits_lo8 _
end StrChars.Road
namespace StrChars.Road
open Jvm Sem ClassFile Op Lib Jvm.Stand Jvm.Free Jvm.Free.XT
/-- WHAT COMES BACK, in the writer's own shape -/
def QV (Z : State) (x : Addr) (N : Int32) (bs : List Int32) (h : Heap) (n0 : Nat) (v : Option Value) (h' : Heap) (L : List Loc) : Prop := v = none ∧ RoadKit.Fr n0 L ∧ RoadKit.Keep h h' [x] ∧ RoadKit.Exa Z h' x ST ∧ RoadKit.Fld Z h' x ST "coder" "B" (.int 0) ∧
  ∃ (t : Addr) (kb : ClassId), n0 ≤ t ∧ h.size ≤ t ∧ ¬ t = x ∧ RoadKit.Fld Z h' x ST "value" "[B" (.ref t) ∧ RoadKit.Arv Z h' t kb .byte N (bs.map Value.int) (.int 0)
/-- **new String(chars) AT A CALL, FOR THE WRITER**: a char[] of n known ints, each 0 to 255 -/
theorem backV {p : Program} {l : Launch} {e : Env} {R : Room} {s : State} {args : Array Value} {below : List Frame} {len W : Nat} {Z : State} {a0 : Array Value} {h : Heap} (hZ : Z.Warmed39 s.vm) (hw : ∀ d ∈ words, d.before a0 Z = true) {kI : Nat} (wi : (Jvm.Cond.instantiable ST kI).before a0 Z = true)
    {x b : Addr} {kC : ClassId} {cs bs : List Int32} {d v0 c0 : Value} {z N : Int32} {n n0 : Nat} (hx0 : n0 ≤ x) (hh0 : n0 ≤ h.size) (E : RoadKit.Exa Z h x ST) (V : RoadKit.Fld Z h x ST "value" "[B" v0) (C : RoadKit.Fld Z h x ST "coder" "B" c0) (K : RoadKit.Arv Z h b kC .char N (cs.map Value.int) d) (S : RoadKit.Sta Z h ST "COMPACT_STRINGS" "Z" (.int z)) (hz : ¬ z = 0)
    (hn : cs.length = n) (hN : N = Int32.ofNat n) (l0 : 0 < n) (l2 : n ≤ 4000) (hp : ∀ c ∈ cs, ¬ c < 0 ∧ ¬ (255 : Int32) < c) (hb : bs = cs.map (fun c => c.toInt8.toInt32)) (hfr : 4 ≤ R.frames) (hlo : W + 65 ≤ R.locals) :
    Back l R p e below s args (⟨"java/lang/String", "<init>", "([C)V"⟩ : MethodName) len W (fun P a => a = #[.ref x, .ref b] ∧ P.U.heap = h ∧ P.cells + 1 ≤ R.cells ∧ P.slots + n ≤ R.slots)
      (fun P _ v B => ∃ L, QV Z x N bs h n0 v B.U.heap L ∧ B.locs = P.locs ++ L ∧ B.cells = P.cells + 1 ∧ B.slots = P.slots + n) := by
  subst hn hN hb
  refine Back.mono (backArv hZ hw wi E V C K S hz (n32 (by omega)) l0 (by omega) (fun c hc => (hp c hc).2) hfr hlo) (fun P a hp => hp) (fun P a v B hp hq => ?_)
  obtain ⟨L, ⟨q1, q2, q3, q4, q5, q6, q7, ⟨kb, v1, v2⟩, q9⟩, hl, hc, hs⟩ := hq
  exact ⟨L, ⟨q1, fun y hy => by rw [q2 y hy]; exact hx0, q3, q5, q7, h.size, kb, hh0, Nat.le_refl _, Nat.ne_of_gt E.lt, q6, by rw [List.map_map]; exact v2⟩, hl, hc, hs⟩
end StrChars.Road
namespace StrChars
open Jvm Sem ClassFile Op Lib Jvm.Stand Jvm.Free.XT Jvm.Free.ALB Jvm.Free.JM Jvm.Free
open Jvm.Lib.Cold (StaticIs)
def hi8 (x : Int32) : Int32 := lo8 (x >>> ((8 : Int32) &&& 31))
/-- what StringUTF16.getChar makes of two bytes -/
def pairCh (u v : Int32) : Int32 := (((u &&& 255) <<< ((0 : Int32) &&& 31)) ||| ((v &&& 255) <<< ((8 : Int32) &&& 31))).toUInt32.toUInt16.toUInt32.toInt32
theorem lo8_and (x : Int32) : (lo8 x &&& 255).toBitVec.toNat = x.toBitVec.toNat % 256 := by
  have h : (lo8 x).toBitVec = (x.toBitVec.signExtend 8).signExtend 32 := by rw [lo8, Int8.toBitVec_toInt32, Int32.toBitVec_toInt8]
  rw [Int32.toBitVec_and, BitVec.toNat_and, h]
  have e : ((x.toBitVec.signExtend 8).signExtend 32).toNat % 256 = x.toBitVec.toNat % 256 := by
    rw [BitVec.toNat_signExtend]
    have hlt := x.toBitVec.isLt
    simp only [BitVec.toNat_setWidth, BitVec.toNat_signExtend]
    split <;> split <;> omega
  rw [← e]
  exact Nat.and_two_pow_sub_one_eq_mod _ 8
theorem pair_says {c : Int32} (h0 : ¬ c < 0) (h1 : ¬ 65535 < c) : pairCh (lo8 c) (hi8 c) = c := by
  rw [Int32.lt_iff_toInt_lt] at h0 h1
  have e0 : (0 : Int32).toInt = 0 := rfl
  have e1 : (65535 : Int32).toInt = 65535 := rfl
  have hc : c.toInt = c.toBitVec.toNat := by
    have := c.toBitVec.isLt
    have e : c.toInt = c.toBitVec.toInt := rfl
    rw [e] at h0 h1
    rw [e]
    rw [BitVec.toInt_eq_toNat_cond] at h0 h1 ⊢
    split at h0 <;> split <;> omega
  have hn : c.toBitVec.toNat < 65536 := by omega
  have a1 := lo8_and c
  have a2 : (hi8 c &&& 255).toBitVec.toNat = c.toBitVec.toNat / 256 := by
    rw [hi8, lo8_and]
    have e : ((8 : Int32) &&& 31) = 8 := by decide
    rw [e, Int32.toBitVec_shiftRight]
    have e2 : ((8 : Int32).toBitVec.smod 32) = 8#32 := by decide
    rw [e2, BitVec.sshiftRight_eq', BitVec.toNat_sshiftRight_of_msb_false (by rw [BitVec.msb_eq_false_iff_two_mul_lt]; omega)]
    show c.toBitVec.toNat >>> 8 % 256 = _
    rw [Nat.shiftRight_eq_div_pow]
    omega
  unfold pairCh
  apply Int32.toBitVec_inj.mp
  apply BitVec.eq_of_toNat_eq
  have f0 : ((0 : Int32) &&& 31) = 0 := by decide
  have f8 : ((8 : Int32) &&& 31) = 8 := by decide
  rw [f0, f8]
  have g : (((lo8 c &&& 255) <<< (0 : Int32)) ||| ((hi8 c &&& 255) <<< (8 : Int32))).toBitVec.toNat = c.toBitVec.toNat := by
    rw [Int32.toBitVec_or, Int32.toBitVec_shiftLeft, Int32.toBitVec_shiftLeft]
    have s0 : ((0 : Int32).toBitVec.smod 32) = 0#32 := by decide
    have s8 : ((8 : Int32).toBitVec.smod 32) = 8#32 := by decide
    rw [s0, s8, BitVec.toNat_or]
    simp only [BitVec.shiftLeft_eq', BitVec.toNat_shiftLeft, a1, a2]
    show (c.toBitVec.toNat % 256) <<< 0 % 2 ^ 32 ||| (c.toBitVec.toNat / 256) <<< 8 % 2 ^ 32 = _
    rw [Nat.shiftLeft_zero, Nat.mod_eq_of_lt (show c.toBitVec.toNat % 256 < 2 ^ 32 by omega), Nat.mod_eq_of_lt (show (c.toBitVec.toNat / 256) <<< 8 < 2 ^ 32 by rw [Nat.shiftLeft_eq]; omega), Nat.or_comm, ← Nat.shiftLeft_add_eq_or_of_lt (by omega), Nat.shiftLeft_eq]
    omega
  show BitVec.toNat (((((lo8 c &&& 255) <<< (0 : Int32)) ||| ((hi8 c &&& 255) <<< (8 : Int32))).toBitVec.setWidth 16).setWidth 32) = _
  rw [BitVec.toNat_setWidth, BitVec.toNat_setWidth, g]
  omega
end StrChars
namespace StrChars
open Jvm Sem ClassFile Op Lib Jvm.Stand Jvm.Free.XT Jvm.Free.ALB Jvm.Free.JM Jvm.Free
open Jvm.Lib.Cold (StaticIs)
/-- the array's cell V codes the n chars f 0 .. f (n - 1) by the coder cd, as the JDK does: coder 1 just where some char is above 255 -/
def Cod (cd : Int32) (n : Nat) (f : Nat → Int32) (V : Cell) : Prop := (cd = 0 ∧ V.slots.size = n ∧ ∀ j, j < n → V.slots[j]? = some (.int (lo8 (f j))) ∧ ¬ 255 < f j) ∨ (cd = 1 ∧ V.slots.size = 2 * n ∧ (∀ j, j < n → V.slots[2 * j]? = some (.int (lo8 (f j))) ∧ V.slots[2 * j + 1]? = some (.int (hi8 (f j)))) ∧ ∃ j, j < n ∧ 255 < f j)
/-- **x is a String of the n chars f 0 .. f (n - 1)**, Latin-1 or UTF-16; its array at t has the cell V -/
def Txt (x t : Addr) (V : Cell) (cd : Int32) (n : Nat) (f : Nat → Int32) (U : State) : Prop := Exact "java/lang/String" x U ∧ Has x "java/lang/String" "value" "[B" (.ref t) U ∧ Has x "java/lang/String" "coder" "B" (.int cd) U ∧ XT.Arr .byte t V U ∧ Cod cd n f V ∧ ∀ j, j < n → ¬ f j < 0 ∧ ¬ 65535 < f j
theorem Txt.mv {x t : Addr} {V : Cell} {cd : Int32} {n : Nat} {f : Nat → Int32} {U U' : State} (h : Txt x t V cd n f U) (hal : U.vm.Alike U'.vm) (hh : U'.heap = U.heap) : Txt x t V cd n f U' := ⟨h.1.mv hal hh, h.2.1.mv hal hh, h.2.2.1.mv hal hh, h.2.2.2.1.mv hal hh, h.2.2.2.2⟩
end StrChars
namespace StrChars.Road
open Jvm Sem ClassFile Op Lib Jvm.Stand Jvm.Free Jvm.Free.XT
open Jvm.Lib.Cold (StaticIs)
theorem consq {a : Array Value} {s : State} {c : Jvm.Cond} {L : List Jvm.Cond} (h0 : c.before a s = true) (h : ∀ w ∈ L, w.before a s = true) : ∀ w ∈ c :: L, w.before a s = true := fun w hw => (List.mem_cons.mp hw).elim (fun e => e ▸ h0) (h w)
/-- the bytes of the chars cs, low before high -/
def wideBytes : List Int32 → List Value
  | [] => []
  | c :: cs => .int (lo8 c) :: .int (hi8 c) :: wideBytes cs
theorem wide_lo (d : Value) : ∀ (cs : List Int32) (j : Nat), j < cs.length → (wideBytes cs).getD (2 * j) d = .int (lo8 (cs.getD j 0))
  | [], j, h => absurd h (Nat.not_lt_zero j)
  | c :: cs, 0, _ => rfl
  | c :: cs, j + 1, h => by
    have q := wide_lo d cs j (by simpa using h)
    rw [show 2 * (j + 1) = 2 * j + 1 + 1 from by omega]
    simpa [wideBytes] using q
theorem wide_hi (d : Value) : ∀ (cs : List Int32) (j : Nat), j < cs.length → (wideBytes cs).getD (2 * j + 1) d = .int (hi8 (cs.getD j 0))
  | [], j, h => absurd h (Nat.not_lt_zero j)
  | c :: cs, 0, _ => rfl
  | c :: cs, j + 1, h => by
    have q := wide_hi d cs j (by simpa using h)
    rw [show 2 * (j + 1) + 1 = 2 * j + 1 + 1 + 1 from by omega]
    simpa [wideBytes] using q
theorem low_at (d : Value) (cs : List Int32) (j : Nat) (h : j < cs.length) : (cs.map fun c => Value.int (lo8 c)).getD j d = .int (lo8 (cs.getD j 0)) := by
  simp [List.getD_eq_getElem?_getD, h]
/-- an array of N2 bytes vs codes the chars cs by the coder cd -/
def CodA (cs : List Int32) (cd N2 : Int32) (vs : List Value) : Prop := (cd = 0 ∧ N2 = Int32.ofNat cs.length ∧ vs = (cs.map fun c => Value.int (lo8 c)) ∧ ∀ c ∈ cs, ¬ 255 < c) ∨ (cd = 1 ∧ N2 = Int32.ofNat (2 * cs.length) ∧ vs = wideBytes cs ∧ ∃ c ∈ cs, 255 < c)
theorem CodA.cod {cs : List Int32} {cd N2 : Int32} {vs : List Value} {V : Cell} (h : CodA cs cd N2 vs) (hn : 2 * cs.length < 2 ^ 31) (hs : V.slots.size = N2.toNatClampNeg) (hv : RoadKit.Has V vs (.int 0)) : Cod cd cs.length (fun j => cs.getD j 0) V := by
  rcases h with ⟨rfl, rfl, rfl, h⟩ | ⟨rfl, rfl, rfl, c, hc, hw⟩
  · rw [n32 (by omega)] at hs
    exact Or.inl ⟨rfl, hs, fun j hj => ⟨by rw [hv j (by omega), low_at _ _ _ hj], by
      have e : cs.getD j 0 = cs[j] := by simp [List.getD_eq_getElem?_getD, hj]
      show ¬ 255 < cs.getD j 0
      rw [e]; exact h _ (List.getElem_mem _)⟩⟩
  · rw [n32 (by omega)] at hs
    obtain ⟨j, hj, rfl⟩ := List.getElem_of_mem hc
    exact Or.inr ⟨rfl, hs, fun j hj => ⟨by rw [hv _ (by omega), wide_lo _ _ _ hj], by rw [hv _ (by omega), wide_hi _ _ _ hj]⟩, j, hj, by
      have e : cs.getD j 0 = cs[j] := by simp [List.getD_eq_getElem?_getD, hj]
      show 255 < cs.getD j 0
      rw [e]; exact hw⟩
/-- an object of exactly java/lang/String, its two fields found: as the laws ask it -/
theorem strObj {Z U : State} {a0 : Array Value} {kI : Nat} (wi : (Jvm.Cond.instantiable ST kI).before a0 Z = true) (al : Z.vm.Alike U.vm) {x : Addr} {v0 c0 : Value} (E : RoadKit.Exa Z U.heap x ST) (V : RoadKit.Fld Z U.heap x ST "value" "[B" v0) (C : RoadKit.Fld Z U.heap x ST "coder" "B" c0) :
    ∃ (D : Cell) (fV fC : Field), Blank ST x D U ∧ Found ST "value" "[B" fV U ∧ Found ST "coder" "B" fC U ∧ D.slots[fV.slot]? = some v0 ∧ D.slots[fC.slot]? = some c0 ∧ RoadKit.slotOf Z ST "value" "[B" = fV.slot ∧ RoadKit.slotOf Z ST "coder" "B" = fC.slot := by
  obtain ⟨D, cfV, kV, iV, fV, hD, gV, stV, knV, obV, asV, slV⟩ := V
  obtain ⟨D', cfC, kC, iC, fC, hD', gC, stC, -, -, asC, slC⟩ := C
  cases hD.symm.trans hD'
  obtain ⟨D2, kD, e1, e2, e3, e4, e5⟩ := E
  cases hD.symm.trans e1
  obtain ⟨c2, k2, i1, i2, i3, -⟩ := Cond.instantiable_spec wi
  cases e2.symm.trans i1
  cases e3.symm.trans i2
  obtain ⟨kU, u1, u2⟩ := al.2.2 _ _ e3
  exact ⟨D, fV, fC, ⟨hD, ⟨knV, fun q hq => by rw [hq] at obV; cases obV⟩, by rw [al.findClass]; exact e2, kU, u1, by rw [u2]; exact i3, by rw [u2]; exact e5 i3⟩, ⟨SBG.found_only al ⟨cfV, kV, iV, gV⟩, stV⟩, ⟨SBG.found_only al ⟨cfC, kC, iC, gC⟩, stC⟩, slV, slC, by simp [RoadKit.slotOf, gV], by simp [RoadKit.slotOf, gC]⟩
theorem sta_is {Z U : State} (al : Z.vm.Alike U.vm) {C n d : String} {v : Value} (S : RoadKit.Sta Z U.heap C n d v) : StaticIs U C n d v := by
  obtain ⟨cfS, iS, kS, fS, st, cS, t1, t2, t3, t4, t5, t6, t7⟩ := S
  exact StaticIs.there (s := { Z with heap := U.heap }) ⟨cfS, iS, kS, fS, st, cS, t1, t2, t3, t4, t5, (fun q => by rw [q] at t6; cases t6), t7⟩ al rfl
end StrChars.Road
namespace StrChars
open Jvm Sem ClassFile Op Lib Jvm.Stand Jvm.Free.XT Jvm.Free.ALB Jvm.Free.JM Jvm.Free
open Jvm.Lib.Cold (StaticIs)
/-- what place i of a byte[]'s cell holds -/
def yv (A : Cell) (i : Nat) : Int32 := match A.slots[i]? with | some (.int x) => x | _ => 0
theorem yv_get {a : Addr} {A : Cell} {U : State} (h : XT.Arr .byte a A U) (ht : Typed .byte A) {i : Nat} (hi : i < A.slots.size) : A.slots[i]? = some (.int (yv A i)) := by
  have e := Array.getElem?_eq_getElem hi
  have f := ht i _ e
  unfold yv; rw [e]
  generalize A.slots[i] = v at f
  cases v <;> simp [fits] at f ⊢
/-- the two arrays are equal, place for place -/
def EqC (A B : Cell) : Prop := A.slots.size = B.slots.size ∧ ∀ i, i < A.slots.size → yv A i = yv B i
/-- a boolean that says whether p -/
def Says01 (q : Prop) (r : Option Value) (s u : State) : Prop := ∃ v : Int32, r = some (.int v) ∧ u.heap = s.heap ∧ ((v = 1 ∧ q) ∨ (v = 0 ∧ ¬ q))
theorem Says01.mv {q : Prop} : ∀ r (U U' V V' : State), U'.heap = U.heap → V.vm.Alike V'.vm → V'.heap = V.heap → Says01 q r U V → Says01 q r U' V' :=
  fun r U U' V V' h1 _ h2 ⟨v, a, b, c⟩ => ⟨v, a, by rw [h1, h2]; exact b, c⟩
namespace LEq
def yN : MethodName := ⟨"java/lang/StringLatin1", "equals", "([B[B)Z"⟩
abbrev yB : ByteArray := jdk_43_method_13_code
theorem d0 : decode yB 0 = .ok (.aload_n 0, 1) := by decide +kernel
theorem d1 : decode yB 1 = .ok (.arraylength, 1) := by decide +kernel
theorem d2 : decode yB 2 = .ok (.aload_n 1, 1) := by decide +kernel
theorem d3 : decode yB 3 = .ok (.arraylength, 1) := by decide +kernel
theorem d4 : decode yB 4 = .ok (.if_icmp (.ne) 30, 3) := by decide +kernel
theorem d7 : decode yB 7 = .ok (.iconst 0, 1) := by decide +kernel
theorem d8 : decode yB 8 = .ok (.istore_n 2, 1) := by decide +kernel
theorem d9 : decode yB 9 = .ok (.iload_n 2, 1) := by decide +kernel
theorem d10 : decode yB 10 = .ok (.aload_n 0, 1) := by decide +kernel
theorem d11 : decode yB 11 = .ok (.arraylength, 1) := by decide +kernel
theorem d12 : decode yB 12 = .ok (.if_icmp (.ge) 20, 3) := by decide +kernel
theorem d15 : decode yB 15 = .ok (.aload_n 0, 1) := by decide +kernel
theorem d16 : decode yB 16 = .ok (.iload_n 2, 1) := by decide +kernel
theorem d17 : decode yB 17 = .ok (.baload, 1) := by decide +kernel
theorem d18 : decode yB 18 = .ok (.aload_n 1, 1) := by decide +kernel
theorem d19 : decode yB 19 = .ok (.iload_n 2, 1) := by decide +kernel
theorem d20 : decode yB 20 = .ok (.baload, 1) := by decide +kernel
theorem d21 : decode yB 21 = .ok (.if_icmp (.eq) 5, 3) := by decide +kernel
theorem d24 : decode yB 24 = .ok (.iconst 0, 1) := by decide +kernel
theorem d25 : decode yB 25 = .ok (.ireturn, 1) := by decide +kernel
theorem d26 : decode yB 26 = .ok (.iinc 2 1, 3) := by decide +kernel
theorem d29 : decode yB 29 = .ok (.goto (-20), 3) := by decide +kernel
theorem d32 : decode yB 32 = .ok (.iconst 1, 1) := by decide +kernel
theorem d33 : decode yB 33 = .ok (.ireturn, 1) := by decide +kernel
theorem d34 : decode yB 34 = .ok (.iconst 0, 1) := by decide +kernel
theorem d35 : decode yB 35 = .ok (.ireturn, 1) := by decide +kernel
def site : List Cond := []
def tab : Cond := tabOf yN yB 3 (some .boolean) site
def P (a : Addr) (A : Cell) (b : Addr) (B : Cell) (args : Array Value) (s : State) : Prop := args = #[.ref a, .ref b] ∧ XT.Arr .byte a A s ∧ Typed .byte A ∧ XT.Arr .byte b B s ∧ Typed .byte B
/-- whether two byte[] are equal, place for place -/
theorem law (l : Launch) (a : Addr) (A : Cell) (b : Addr) (B : Cell) : Law l yN 2 2 0 0 yB 3 (some .boolean) site (P a A b B) (Says01 (EqC A B)) [] 0 0 := by
  refine Law.of_walk (plainFor_of_name (by decide +kernel)) (by decide +kernel) (by decide +kernel) (by decide) (fun _ _ h => by rw [h.1]; rfl) (fun _ U U' hal hh h => ⟨h.1, h.2.1.mv hal hh, h.2.2.1, h.2.2.2.1.mv hal hh, h.2.2.2.2⟩) (fun r U U' V V' h1 hal h2 h => Says01.mv r U U' V V' h1 hal h2 h) ?_
  intro p e s m args below meth c s₁ X0 hexec hbytes hml hret hlk hnm hown hh0 W hP
  obtain ⟨rfl, hA, tA, hB, tB⟩ := hP
  have a31 := hA.2.2.2
  have b31 := hB.2.2.2
  have hA0 := hA.mv X0.warmed.alike hh0
  have hB0 := hB.mv X0.warmed.alike hh0
  have c1 : Steps p.tables e below (s₁.setTop (entryFrame m #[.ref a, .ref b] 3)) (s₁.setTop (mkF m 0 #[.val (.ref a), .val (.ref b), .unset] [])) := entry rfl
  have c2 : Steps p.tables e below (s₁.setTop (entryFrame m #[.ref a, .ref b] 3)) (s₁.setTop (mkF m 4 #[.val (.ref a), .val (.ref b), .unset] [.int (Int32.ofNat B.slots.size), .int (Int32.ofNat A.slots.size)])) := c1.trans (by
    refine XS.aloadN X0.here hexec rfl (hb hbytes d0) rfl rfl ?_
    refine X0.alen hexec hA0 rfl rfl (hb hbytes d1) ?_
    refine XS.aloadN X0.here hexec rfl (hb hbytes d2) rfl rfl ?_
    refine X0.alen hexec hB0 rfl rfl (hb hbytes d3) ?_
    exact Steps.refl _)
  by_cases hs : A.slots.size = B.slots.size
  · have c3 : Steps p.tables e below (s₁.setTop (entryFrame m #[.ref a, .ref b] 3)) (s₁.setTop (mkF m 9 #[.val (.ref a), .val (.ref b), .val (.int 0)] [])) := c2.trans (by
      refine XS.icmpNo X0.here hexec rfl (hb hbytes d4) rfl (ii_ne_f (by rw [hs])) ?_
      refine iconstV X0.here hexec rfl 0 (hb hbytes d7) (by decide) ?_
      refine XS.istoreN X0.here hexec rfl (hb hbytes d8) rfl rfl ?_
      exact Steps.refl _)
    have loop : ∀ (r i : Nat), i + r = A.slots.size → (∀ j, j < i → yv A j = yv B j) → Steps p.tables e below (s₁.setTop (entryFrame m #[.ref a, .ref b] 3)) (s₁.setTop (mkF m 9 #[.val (.ref a), .val (.ref b), .val (.int (Int32.ofNat i))] [])) → ∃ (pc : Nat) (Ls : Array Slot) (v : Int32), (pc = 25 ∨ pc = 33) ∧ ((v = 1 ∧ EqC A B) ∨ (v = 0 ∧ ¬ EqC A B)) ∧ Steps p.tables e below (s₁.setTop (entryFrame m #[.ref a, .ref b] 3)) (s₁.setTop (mkF m pc Ls [.int v])) := by
      intro r
      induction r with
      | zero =>
        intro i hi he cl
        exact ⟨33, _, 1, Or.inr rfl, Or.inl ⟨rfl, hs, fun j hj => he j (by omega)⟩, cl.trans (by
          refine XS.iloadN X0.here hexec rfl (hb hbytes d9) rfl ?_
          refine XS.aloadN X0.here hexec rfl (hb hbytes d10) rfl rfl ?_
          refine X0.alen hexec hA0 rfl rfl (hb hbytes d11) ?_
          refine XS.icmpYes X0.here hexec rfl (pc0 := 12) rfl (hb hbytes d12) rfl (ii_ge_t (nlt32 (by omega) (by omega))) (by decide) rfl ?_
          refine iconstV X0.here hexec rfl 1 (hb hbytes d32) (by decide) ?_
          exact Steps.refl _)⟩
      | succ r ih =>
        intro i hi he cl
        have c4 : Steps p.tables e below (s₁.setTop (entryFrame m #[.ref a, .ref b] 3)) (s₁.setTop (mkF m 21 #[.val (.ref a), .val (.ref b), .val (.int (Int32.ofNat i))] [.int (yv B i), .int (yv A i)])) := cl.trans (by
          refine XS.iloadN X0.here hexec rfl (hb hbytes d9) rfl ?_
          refine XS.aloadN X0.here hexec rfl (hb hbytes d10) rfl rfl ?_
          refine X0.alen hexec hA0 rfl rfl (hb hbytes d11) ?_
          refine XS.icmpNo X0.here hexec rfl (hb hbytes d12) rfl (ii_ge_f (lt32 (by omega) (by omega))) ?_
          refine XS.aloadN X0.here hexec rfl (hb hbytes d15) rfl rfl ?_
          refine XS.iloadN X0.here hexec rfl (hb hbytes d16) rfl ?_
          refine X0.aget hexec hA0 rfl (yv_get hA tA (i := i) (by omega)) rfl rfl (hb hbytes d17) ?_
          refine XS.aloadN X0.here hexec rfl (hb hbytes d18) rfl rfl ?_
          refine XS.iloadN X0.here hexec rfl (hb hbytes d19) rfl ?_
          refine X0.aget hexec hB0 rfl (yv_get hB tB (i := i) (by omega)) rfl rfl (hb hbytes d20) ?_
          exact Steps.refl _)
        by_cases hv : yv A i = yv B i
        · have c5 : Steps p.tables e below (s₁.setTop (entryFrame m #[.ref a, .ref b] 3)) (s₁.setTop (mkF m 9 #[.val (.ref a), .val (.ref b), .val (.int (Int32.ofNat i + 1))] [])) := c4.trans (by
            refine XS.icmpYes X0.here hexec rfl (pc0 := 21) rfl (hb hbytes d21) rfl (ii_eq_t hv) (by decide) rfl ?_
            refine iincV X0.here hexec rfl 1 (hb hbytes d26) (by decide) rfl rfl ?_
            refine XS.goto X0.here hexec rfl (pc0 := 29) rfl (hb hbytes d29) (by decide) rfl ?_
            exact Steps.refl _)
          rw [succ32] at c5
          exact ih (i + 1) (by omega) (fun j hj => by
            by_cases e : j = i
            · rw [e]; exact hv
            · exact he j (by omega)) c5
        · exact ⟨25, _, 0, Or.inl rfl, Or.inr ⟨rfl, fun q => hv (q.2 i (by omega))⟩, c4.trans (by
            refine XS.icmpNo X0.here hexec rfl (hb hbytes d21) rfl (ii_eq_f hv) ?_
            refine iconstV X0.here hexec rfl 0 (hb hbytes d24) (by decide) ?_
            exact Steps.refl _)⟩
    obtain ⟨pc, Ls, v, hpc, hv, cz⟩ := loop A.slots.size 0 (by omega) (fun j hj => absurd hj (Nat.not_lt_zero j)) c3
    have nv : narrow .boolean (.int v) = .int v := by rcases hv with ⟨rfl, -⟩ | ⟨rfl, -⟩ <;> rfl
    rcases hpc with rfl | rfl
    · exact ⟨s₁, some (.int v), _, _, _, X0, rfl, rfl, rfl, (fun h => by cases h), ⟨v, rfl, hh0, hv⟩, fun fs hl => cz.trans (X0.ireturnOut hexec hret nv (Or.inr (Or.inl rfl)) (hb hbytes d25) hl)⟩
    · exact ⟨s₁, some (.int v), _, _, _, X0, rfl, rfl, rfl, (fun h => by cases h), ⟨v, rfl, hh0, hv⟩, fun fs hl => cz.trans (X0.ireturnOut hexec hret nv (Or.inr (Or.inl rfl)) (hb hbytes d33) hl)⟩
  · have c3 : Steps p.tables e below (s₁.setTop (entryFrame m #[.ref a, .ref b] 3)) (s₁.setTop (mkF m 35 #[.val (.ref a), .val (.ref b), .unset] [.int 0])) := c2.trans (by
      refine XS.icmpYes X0.here hexec rfl (pc0 := 4) rfl (hb hbytes d4) rfl (ii_ne_t (ne32 a31 b31 hs)) (by decide) rfl ?_
      refine iconstV X0.here hexec rfl 0 (hb hbytes d34) (by decide) ?_
      exact Steps.refl _)
    exact ⟨s₁, some (.int 0), _, _, _, X0, rfl, rfl, rfl, (fun h => by cases h), ⟨0, rfl, hh0, Or.inr ⟨rfl, fun q => hs q.1⟩⟩, fun fs hl => c3.trans (X0.ireturnOut hexec hret rfl (Or.inr (Or.inl rfl)) (hb hbytes d35) hl)⟩
end LEq
theorem Cod.ty {cd : Int32} {n : Nat} {f : Nat → Int32} {V : Cell} (h : Cod cd n f V) : Typed .byte V := fun i v hv => by
  have hi : i < V.slots.size := (Array.getElem?_eq_some_iff.mp hv).1
  rcases h with ⟨-, k1, k2⟩ | ⟨-, k1, k2, -⟩
  · rw [(k2 i (by omega)).1] at hv; cases hv; exact fits_lo8 _
  · rcases Nat.mod_two_eq_zero_or_one i with e | e
    · obtain ⟨j, rfl⟩ : ∃ j, i = 2 * j := ⟨i / 2, by omega⟩
      rw [(k2 j (by omega)).1] at hv; cases hv; exact fits_lo8 _
    · obtain ⟨j, rfl⟩ : ∃ j, i = 2 * j + 1 := ⟨i / 2, by omega⟩
      rw [(k2 j (by omega)).2] at hv; cases hv; exact fits_lo8 _
/-- the same text -/
def SameT (n : Nat) (f : Nat → Int32) (k : Nat) (g : Nat → Int32) : Prop := n = k ∧ ∀ j, j < n → f j = g j
theorem lo8_inj {x y : Int32} (h0 : ¬ x < 0) (h1 : ¬ 255 < x) (k0 : ¬ y < 0) (k1 : ¬ 255 < y) (h : lo8 x = lo8 y) : x = y := by
  rw [← lo8_mask h0 h1, ← lo8_mask k0 k1, h]
/-- arrays coded by one coder are equal just where the texts are -/
theorem Cod.eqv {cd : Int32} {n k : Nat} {f g : Nat → Int32} {V V' : Cell} (h : Cod cd n f V) (h' : Cod cd k g V') (hf : ∀ j, j < n → ¬ f j < 0 ∧ ¬ 65535 < f j) (hg : ∀ j, j < k → ¬ g j < 0 ∧ ¬ 65535 < g j) : EqC V V' ↔ SameT n f k g := by
  have yvv : ∀ {W : Cell} {i : Nat} {x : Int32}, W.slots[i]? = some (.int x) → yv W i = x := fun q => by unfold yv; rw [q]
  rcases h with ⟨rfl, k1, k2⟩ | ⟨rfl, k1, k2, -⟩
  · rcases h' with ⟨-, m1, m2⟩ | ⟨e, -⟩
    · constructor
      · rintro ⟨e1, e2⟩
        refine ⟨by omega, fun j hj => ?_⟩
        have q := e2 j (by omega)
        rw [yvv (k2 j hj).1, yvv (m2 j (by omega)).1] at q
        exact lo8_inj (hf j hj).1 (k2 j hj).2 (hg j (by omega)).1 (m2 j (by omega)).2 q
      · rintro ⟨rfl, e2⟩
        refine ⟨by omega, fun j hj => ?_⟩
        rw [yvv (k2 j (by omega)).1, yvv (m2 j (by omega)).1, e2 j (by omega)]
    · exact absurd e (by decide)
  · rcases h' with ⟨e, -⟩ | ⟨-, m1, m2, -⟩
    · exact absurd e (by decide)
    · constructor
      · rintro ⟨e1, e2⟩
        refine ⟨by omega, fun j hj => ?_⟩
        have q1 := e2 (2 * j) (by omega)
        have q2 := e2 (2 * j + 1) (by omega)
        rw [yvv (k2 j hj).1, yvv (m2 j (by omega)).1] at q1
        rw [yvv (k2 j hj).2, yvv (m2 j (by omega)).2] at q2
        rw [← pair_says (hf j hj).1 (hf j hj).2, ← pair_says (hg j (by omega)).1 (hg j (by omega)).2, q1, q2]
      · rintro ⟨rfl, e2⟩
        refine ⟨by omega, fun i hi => ?_⟩
        rcases Nat.mod_two_eq_zero_or_one i with e | e
        · obtain ⟨j, rfl⟩ : ∃ j, i = 2 * j := ⟨i / 2, by omega⟩
          rw [yvv (k2 j (by omega)).1, yvv (m2 j (by omega)).1, e2 j (by omega)]
        · obtain ⟨j, rfl⟩ : ∃ j, i = 2 * j + 1 := ⟨i / 2, by omega⟩
          rw [yvv (k2 j (by omega)).2, yvv (m2 j (by omega)).2, e2 j (by omega)]
/-- two codings differ: so do the texts -/
theorem Cod.dif {cd cd' : Int32} {n k : Nat} {f g : Nat → Int32} {V V' : Cell} (h : Cod cd n f V) (h' : Cod cd' k g V') (hne : ¬ cd = cd') : ¬ SameT n f k g := by
  rintro ⟨rfl, e⟩
  rcases h with ⟨rfl, -, k2⟩ | ⟨rfl, -, -, j, hj, hw⟩
  · rcases h' with ⟨rfl, -⟩ | ⟨-, -, -, j, hj, hw⟩
    · exact hne rfl
    · exact (k2 j hj).2 (by rw [e j hj]; exact hw)
  · rcases h' with ⟨-, -, m2⟩ | ⟨rfl, -⟩
    · exact (m2 j hj).2 (by rw [← e j hj]; exact hw)
    · exact hne rfl
/-- an object of exactly C is an instance of C -/
theorem cinst {p : Program} {l : Launch} {e : Env} {R : Room} {s : State} {m : MethodId} {args : Array Value} {below : List Frame} {meth : Method} {c : Code} {T : State} {locs : List Loc} {cells slots : Nat} (X : Stand p l e R s m args below meth c T locs cells slots) (hexec : p.tables.exec = Jvm.exec) {own C : String} {index : Nat} (hown : s.vm.findClass own = some m.cls) (hlink : (Cond.classLink own index C).before args s = true) {a : Addr} (hE : Exact C a T)
    {g : JFrame} (hg : g.method = m) {rest : List Value} (hstack : g.stack = .ref a :: rest) (hdg : decode c.code g.pc = .ok (.instanceof index, 3)) :
    ∃ T', Stand p l e R s m args below meth c T' locs cells slots ∧ T'.heap = T.heap ∧ ∀ target, Steps p.tables e below (T'.setTop { g with pc := g.pc + 3, stack := .int 1 :: rest }) target → Steps p.tables e below (T.setTop g) target := by
  obtain ⟨cB, h1, D, h2, h3, h4⟩ := hE
  have h1' : s.vm.findClass C = some cB := by rw [← X.warmed.alike.findClass]; exact h1
  obtain ⟨vm', X', st⟩ := X.instanceofYes hexec hown hlink h2 h4 h1' (by rw [h3]; exact Jvm.Free.SB.assignable_self _ _) hg hstack hdg
  exact ⟨_, X', rfl, st⟩
theorem cself {p : Program} {l : Launch} {e : Env} {R : Room} {s : State} {m : MethodId} {args : Array Value} {below : List Frame} {meth : Method} {c : Code} {T : State} {locs : List Loc} {cells slots : Nat} (X : Stand p l e R s m args below meth c T locs cells slots) (hexec : p.tables.exec = Jvm.exec) {own C : String} {index : Nat} (hown : s.vm.findClass own = some m.cls) (hlink : (Cond.classLink own index C).before args s = true) {a : Addr} (hE : Exact C a T)
    {g : JFrame} (hg : g.method = m) {rest : List Value} (hstack : g.stack = .ref a :: rest) (hdg : decode c.code g.pc = .ok (.checkcast index, 3)) :
    ∃ T', Stand p l e R s m args below meth c T' locs cells slots ∧ T'.heap = T.heap ∧ ∀ target, Steps p.tables e below (T'.setTop { g with pc := g.pc + 3, stack := .ref a :: rest }) target → Steps p.tables e below (T.setTop g) target := by
  obtain ⟨cB, h1, D, h2, h3, h4⟩ := hE
  have h1' : s.vm.findClass C = some cB := by rw [← X.warmed.alike.findClass]; exact h1
  obtain ⟨vm', X', st⟩ := X.checkcastYes hexec hown hlink h2 h4 h1' (by rw [h3]; exact Jvm.Free.SB.assignable_self _ _) hg hstack hdg
  exact ⟨_, X', rfl, fun t h => st t (by rw [← hstack] at h; exact h)⟩
namespace SEq
def yN : MethodName := ⟨"java/lang/String", "equals", "(Ljava/lang/Object;)Z"⟩
abbrev yB : ByteArray := jdk_42_method_66_code
theorem d0 : decode yB 0 = .ok (.aload_n 0, 1) := by decide +kernel
theorem d1 : decode yB 1 = .ok (.aload_n 1, 1) := by decide +kernel
theorem d2 : decode yB 2 = .ok (.if_acmp (.ne) 5, 3) := by decide +kernel
theorem d5 : decode yB 5 = .ok (.iconst 1, 1) := by decide +kernel
theorem d6 : decode yB 6 = .ok (.ireturn, 1) := by decide +kernel
theorem d7 : decode yB 7 = .ok (.aload_n 1, 1) := by decide +kernel
theorem d8 : decode yB 8 = .ok (.instanceof 10, 3) := by decide +kernel
theorem d11 : decode yB 11 = .ok (.ifCond (.eq) 43, 3) := by decide +kernel
theorem d14 : decode yB 14 = .ok (.aload_n 1, 1) := by decide +kernel
theorem d15 : decode yB 15 = .ok (.checkcast 10, 3) := by decide +kernel
theorem d18 : decode yB 18 = .ok (.astore_n 2, 1) := by decide +kernel
theorem d19 : decode yB 19 = .ok (.getstatic 38, 3) := by decide +kernel
theorem d22 : decode yB 22 = .ok (.ifCond (.eq) 14, 3) := by decide +kernel
theorem d25 : decode yB 25 = .ok (.aload_n 0, 1) := by decide +kernel
theorem d26 : decode yB 26 = .ok (.getfield 15, 3) := by decide +kernel
theorem d29 : decode yB 29 = .ok (.aload_n 2, 1) := by decide +kernel
theorem d30 : decode yB 30 = .ok (.getfield 15, 3) := by decide +kernel
theorem d33 : decode yB 33 = .ok (.if_icmp (.ne) 21, 3) := by decide +kernel
theorem d36 : decode yB 36 = .ok (.aload_n 0, 1) := by decide +kernel
theorem d37 : decode yB 37 = .ok (.getfield 9, 3) := by decide +kernel
theorem d40 : decode yB 40 = .ok (.aload_n 2, 1) := by decide +kernel
theorem d41 : decode yB 41 = .ok (.getfield 9, 3) := by decide +kernel
theorem d44 : decode yB 44 = .ok (.invokestatic 541, 3) := by decide +kernel
theorem d47 : decode yB 47 = .ok (.ifCond (.eq) 7, 3) := by decide +kernel
theorem d50 : decode yB 50 = .ok (.iconst 1, 1) := by decide +kernel
theorem d51 : decode yB 51 = .ok (.goto 4, 3) := by decide +kernel
theorem d54 : decode yB 54 = .ok (.iconst 0, 1) := by decide +kernel
theorem d55 : decode yB 55 = .ok (.ireturn, 1) := by decide +kernel
def site : List Cond := [.classLink "java/lang/String" 10 "java/lang/String", .fieldLink "java/lang/String" 38 "java/lang/String" "COMPACT_STRINGS" "Z", .fieldLink "java/lang/String" 15 "java/lang/String" "coder" "B", .fieldLink "java/lang/String" 9 "java/lang/String" "value" "[B", LEq.tab] ++ staticW "java/lang/String" 541 LEq.yN
def tab : Cond := tabOf yN yB 3 (some .boolean) site
def P (x t : Addr) (V : Cell) (cd : Int32) (n : Nat) (f : Nat → Int32) (y t' : Addr) (V' : Cell) (cd' : Int32) (k : Nat) (g : Nat → Int32) (z : Int32) (args : Array Value) (s : State) : Prop := args = #[.ref x, .ref y] ∧ Txt x t V cd n f s ∧ Txt y t' V' cd' k g s ∧ StaticIs s "java/lang/String" "COMPACT_STRINGS" "Z" (.int z) ∧ ¬ z = 0
/-- equals(Object) of two Strings: whether the texts are the same -/
theorem law (l : Launch) (x t : Addr) (V : Cell) (cd : Int32) (n : Nat) (f : Nat → Int32) (y t' : Addr) (V' : Cell) (cd' : Int32) (k : Nat) (g : Nat → Int32) (z : Int32) : Law l yN 2 1 1 14 yB 3 (some .boolean) site (P x t V cd n f y t' V' cd' k g z) (Says01 (SameT n f k g)) [] 0 0 := by
  refine Law.of_walk (plainFor_of_name (by decide +kernel)) (by decide +kernel) (by decide +kernel) (by decide) (fun _ _ h => by rw [h.1]; rfl) (fun _ U U' hal hh h => ⟨h.1, h.2.1.mv hal hh, h.2.2.1.mv hal hh, h.2.2.2.1.there hal hh, h.2.2.2.2⟩) (fun r U U' V V' h1 hal h2 h => Says01.mv r U U' V V' h1 hal h2 h) ?_
  intro p e s m args below meth c s₁ X0 hexec hbytes hml hret hlk hnm hown hh0 W hP
  obtain ⟨rfl, hx, hy, s1, hz⟩ := hP
  have c1 : Steps p.tables e below (s₁.setTop (entryFrame m #[.ref x, .ref y] 3)) (s₁.setTop (mkF m 2 #[.val (.ref x), .val (.ref y), .unset] [.ref y, .ref x])) := Steps.trans (entry rfl) (by
    show Steps p.tables e below (s₁.setTop (mkF m 0 #[.val (.ref x), .val (.ref y), .unset] [])) _
    refine XS.aloadN X0.here hexec rfl (hb hbytes d0) rfl rfl ?_
    refine XS.aloadN X0.here hexec rfl (hb hbytes d1) rfl rfl ?_
    exact Steps.refl _)
  by_cases hxy : x = y
  · have c2 : Steps p.tables e below (s₁.setTop (entryFrame m #[.ref x, .ref y] 3)) (s₁.setTop (mkF m 6 #[.val (.ref x), .val (.ref y), .unset] [.int 1])) := c1.trans (by
      refine acmpNo X0.here hexec rfl (hb hbytes d2) rfl rfl rfl (by simp [acmp, hxy]) ?_
      refine iconstV X0.here hexec rfl 1 (hb hbytes d5) (by decide) ?_
      exact Steps.refl _)
    subst hxy
    have ec : cd = cd' := by
      obtain ⟨D, fd, a1, a2, a3⟩ := hx.2.2.1
      obtain ⟨D', fd', b1, b2, b3⟩ := hy.2.2.1
      cases a1.symm.trans b1
      obtain ⟨q1, q2, q3, q4⟩ := a2.1
      obtain ⟨r1, r2, r3, r4⟩ := b2.1
      cases q4.symm.trans r4
      cases a3.symm.trans b3; rfl
    have et : t = t' := by
      obtain ⟨D, fd, a1, a2, a3⟩ := hx.2.1
      obtain ⟨D', fd', b1, b2, b3⟩ := hy.2.1
      cases a1.symm.trans b1
      obtain ⟨q1, q2, q3, q4⟩ := a2.1
      obtain ⟨r1, r2, r3, r4⟩ := b2.1
      cases q4.symm.trans r4
      cases a3.symm.trans b3; rfl
    subst ec et
    have ev : V = V' := by cases hx.2.2.2.1.1.symm.trans hy.2.2.2.1.1; rfl
    subst ev
    have hs : SameT n f k g := (Cod.eqv hx.2.2.2.2.1 hy.2.2.2.2.1 hx.2.2.2.2.2 hy.2.2.2.2.2).mp ⟨rfl, fun _ _ => rfl⟩
    exact ⟨s₁, some (.int 1), _, _, _, X0, rfl, rfl, rfl, (fun h => by cases h), ⟨1, rfl, hh0, Or.inl ⟨rfl, hs⟩⟩, fun fs hl => c2.trans (X0.ireturnOut hexec hret rfl (Or.inr (Or.inl rfl)) (hb hbytes d6) hl)⟩
  · have c2 : Steps p.tables e below (s₁.setTop (entryFrame m #[.ref x, .ref y] 3)) (s₁.setTop (mkF m 8 #[.val (.ref x), .val (.ref y), .unset] [.ref y])) := c1.trans (by
      refine acmpYes X0.here hexec rfl (pc0 := 2) rfl (hb hbytes d2) rfl rfl rfl (by simp [acmp, hxy]) (by decide) rfl ?_
      refine XS.aloadN X0.here hexec rfl (hb hbytes d7) rfl rfl ?_
      exact Steps.refl _)
    obtain ⟨T3, X3, q3, st3⟩ := cinst X0 hexec hown (wk W (.classLink "java/lang/String" 10 "java/lang/String")) (hy.mv X0.warmed.alike hh0).1 (g := (mkF m 8 #[.val (.ref x), .val (.ref y), .unset] [.ref y])) rfl (rest := []) rfl (hb hbytes d8)
    have hh3 := q3.trans hh0
    have c4 : Steps p.tables e below (s₁.setTop (entryFrame m #[.ref x, .ref y] 3)) (T3.setTop (mkF m 15 #[.val (.ref x), .val (.ref y), .unset] [.ref y])) := (c2.trans (st3 _ (Steps.refl _))).trans (by
      refine XS.ifNo X3.here hexec rfl (hb hbytes d11) rfl (i0_eq_f (by decide)) ?_
      refine XS.aloadN X3.here hexec rfl (hb hbytes d14) rfl rfl ?_
      exact Steps.refl _)
    obtain ⟨T5, X5, q5, st5⟩ := cself X3 hexec hown (wk W (.classLink "java/lang/String" 10 "java/lang/String")) (hy.mv X3.warmed.alike hh3).1 (g := (mkF m 15 #[.val (.ref x), .val (.ref y), .unset] [.ref y])) rfl (rest := []) rfl (hb hbytes d15)
    have hh5 := q5.trans hh3
    have c6 : Steps p.tables e below (s₁.setTop (entryFrame m #[.ref x, .ref y] 3)) (T5.setTop (mkF m 19 #[.val (.ref x), .val (.ref y), .val (.ref y)] [])) := (c4.trans (st5 _ (Steps.refl _))).trans (by
      refine XS.astoreN X5.here hexec rfl (hb hbytes d18) rfl rfl rfl ?_
      exact Steps.refl _)
    obtain ⟨T7, X7, q7, st7⟩ := X5.sget hexec hown (wk W (.fieldLink "java/lang/String" 38 "java/lang/String" "COMPACT_STRINGS" "Z")) s1 (fun _ _ h => by rw [hh5]; exact h) (g := (mkF m 19 #[.val (.ref x), .val (.ref y), .val (.ref y)] [])) rfl (hb hbytes d19)
    have hh7 := q7.trans hh5
    have c8 : Steps p.tables e below (s₁.setTop (entryFrame m #[.ref x, .ref y] 3)) (T7.setTop (mkF m 26 #[.val (.ref x), .val (.ref y), .val (.ref y)] [.ref x])) := (c6.trans (st7 _ (Steps.refl _))).trans (by
      refine XS.ifNo X7.here hexec rfl (hb hbytes d22) rfl (i0_eq_f hz) ?_
      refine XS.aloadN X7.here hexec rfl (hb hbytes d25) rfl rfl ?_
      exact Steps.refl _)
    obtain ⟨T9, X9, q9, st9⟩ := X7.hget hexec hown (wk W (.fieldLink "java/lang/String" 15 "java/lang/String" "coder" "B")) (hx.mv X7.warmed.alike hh7).2.2.1 (g := (mkF m 26 #[.val (.ref x), .val (.ref y), .val (.ref y)] [.ref x])) rfl (rest := []) rfl (hb hbytes d26)
    have hh9 := q9.trans hh7
    have c10 : Steps p.tables e below (s₁.setTop (entryFrame m #[.ref x, .ref y] 3)) (T9.setTop (mkF m 30 #[.val (.ref x), .val (.ref y), .val (.ref y)] [.ref y, .int cd])) := (c8.trans (st9 _ (Steps.refl _))).trans (by
      refine XS.aloadN X9.here hexec rfl (hb hbytes d29) rfl rfl ?_
      exact Steps.refl _)
    obtain ⟨T11, X11, q11, st11⟩ := X9.hget hexec hown (wk W (.fieldLink "java/lang/String" 15 "java/lang/String" "coder" "B")) (hy.mv X9.warmed.alike hh9).2.2.1 (g := (mkF m 30 #[.val (.ref x), .val (.ref y), .val (.ref y)] [.ref y, .int cd])) rfl (rest := [.int cd]) rfl (hb hbytes d30)
    have hh11 := q11.trans hh9
    have c12 : Steps p.tables e below (s₁.setTop (entryFrame m #[.ref x, .ref y] 3)) (T11.setTop (mkF m 33 #[.val (.ref x), .val (.ref y), .val (.ref y)] [.int cd', .int cd])) := c10.trans (st11 _ (Steps.refl _))
    by_cases hcd : cd = cd'
    · subst hcd
      have c13 : Steps p.tables e below (s₁.setTop (entryFrame m #[.ref x, .ref y] 3)) (T11.setTop (mkF m 37 #[.val (.ref x), .val (.ref y), .val (.ref y)] [.ref x])) := c12.trans (by
        refine XS.icmpNo X11.here hexec rfl (hb hbytes d33) rfl (ii_ne_f rfl) ?_
        refine XS.aloadN X11.here hexec rfl (hb hbytes d36) rfl rfl ?_
        exact Steps.refl _)
      obtain ⟨T14, X14, q14, st14⟩ := X11.hget hexec hown (wk W (.fieldLink "java/lang/String" 9 "java/lang/String" "value" "[B")) (hx.mv X11.warmed.alike hh11).2.1 (g := (mkF m 37 #[.val (.ref x), .val (.ref y), .val (.ref y)] [.ref x])) rfl (rest := []) rfl (hb hbytes d37)
      have hh14 := q14.trans hh11
      have c15 : Steps p.tables e below (s₁.setTop (entryFrame m #[.ref x, .ref y] 3)) (T14.setTop (mkF m 41 #[.val (.ref x), .val (.ref y), .val (.ref y)] [.ref y, .ref t])) := (c13.trans (st14 _ (Steps.refl _))).trans (by
        refine XS.aloadN X14.here hexec rfl (hb hbytes d40) rfl rfl ?_
        exact Steps.refl _)
      obtain ⟨T16, X16, q16, st16⟩ := X14.hget hexec hown (wk W (.fieldLink "java/lang/String" 9 "java/lang/String" "value" "[B")) (hy.mv X14.warmed.alike hh14).2.1 (g := (mkF m 41 #[.val (.ref x), .val (.ref y), .val (.ref y)] [.ref y, .ref t])) rfl (rest := [.ref t]) rfl (hb hbytes d41)
      have hh16 := q16.trans hh14
      have c17 : Steps p.tables e below (s₁.setTop (entryFrame m #[.ref x, .ref y] 3)) (T16.setTop (mkF m 44 #[.val (.ref x), .val (.ref y), .val (.ref y)] [.ref t', .ref t])) := c15.trans (st16 _ (Steps.refl _))
      obtain ⟨v18, T18, X18, E18, g18⟩ := X16.callS hexec (LEq.law l t V t' V') hown (wks W (staticW "java/lang/String" 541 LEq.yN)) (wk W LEq.tab) (W := 0) (Nat.le_of_ble_eq_true rfl) (Nat.le_of_ble_eq_true rfl) (Nat.le_refl _) (Nat.le_refl _) (g := (mkF m 44 #[.val (.ref x), .val (.ref y), .val (.ref y)] [.ref t', .ref t])) rfl (by rw [hml]; rfl) c17 (argsL := [.ref t, .ref t']) (rest := []) rfl rfl (by show 2 * 0 + 0 ≤ _; decide) (hb hbytes d44) (⟨rfl, hx.2.2.2.1.mv X16.warmed.alike hh16, hx.2.2.2.2.1.ty, hy.2.2.2.1.mv X16.warmed.alike hh16, hy.2.2.2.2.1.ty⟩)
      obtain ⟨v, rfl, q18, hv⟩ := E18
      have iff := Cod.eqv hx.2.2.2.2.1 hy.2.2.2.2.1 hx.2.2.2.2.2 hy.2.2.2.2.2
      rcases hv with ⟨rfl, he⟩ | ⟨rfl, he⟩
      · have c19 : Steps p.tables e below (s₁.setTop (entryFrame m #[.ref x, .ref y] 3)) (T18.setTop (mkF m 55 #[.val (.ref x), .val (.ref y), .val (.ref y)] [.int 1])) := Steps.trans g18 (by
          refine XS.ifNo X18.here hexec rfl (hb hbytes d47) rfl (i0_eq_f (by decide)) ?_
          refine iconstV X18.here hexec rfl 1 (hb hbytes d50) (by decide) ?_
          refine XS.goto X18.here hexec rfl (pc0 := 51) rfl (hb hbytes d51) (by decide) rfl ?_
          exact Steps.refl _)
        exact ⟨T18, some (.int 1), _, _, _, X18, rfl, rfl, rfl, (fun h => by cases h), ⟨1, rfl, q18.trans hh16, Or.inl ⟨rfl, iff.mp he⟩⟩, fun fs hl => c19.trans (X18.ireturnOut hexec hret rfl (Or.inr (Or.inl rfl)) (hb hbytes d55) hl)⟩
      · have c19 : Steps p.tables e below (s₁.setTop (entryFrame m #[.ref x, .ref y] 3)) (T18.setTop (mkF m 55 #[.val (.ref x), .val (.ref y), .val (.ref y)] [.int 0])) := Steps.trans g18 (by
          refine XS.ifYes X18.here hexec rfl (pc0 := 47) rfl (hb hbytes d47) rfl (i0_eq_t rfl) (by decide) rfl ?_
          refine iconstV X18.here hexec rfl 0 (hb hbytes d54) (by decide) ?_
          exact Steps.refl _)
        exact ⟨T18, some (.int 0), _, _, _, X18, rfl, rfl, rfl, (fun h => by cases h), ⟨0, rfl, q18.trans hh16, Or.inr ⟨rfl, fun q => he (iff.mpr q)⟩⟩, fun fs hl => c19.trans (X18.ireturnOut hexec hret rfl (Or.inr (Or.inl rfl)) (hb hbytes d55) hl)⟩
    · have c13 : Steps p.tables e below (s₁.setTop (entryFrame m #[.ref x, .ref y] 3)) (T11.setTop (mkF m 55 #[.val (.ref x), .val (.ref y), .val (.ref y)] [.int 0])) := c12.trans (by
        refine XS.icmpYes X11.here hexec rfl (pc0 := 33) rfl (hb hbytes d33) rfl (ii_ne_t hcd) (by decide) rfl ?_
        refine iconstV X11.here hexec rfl 0 (hb hbytes d54) (by decide) ?_
        exact Steps.refl _)
      exact ⟨T11, some (.int 0), _, _, _, X11, rfl, rfl, rfl, (fun h => by cases h), ⟨0, rfl, hh11, Or.inr ⟨rfl, Cod.dif hx.2.2.2.2.1 hy.2.2.2.2.1 hcd⟩⟩, fun fs hl => c13.trans (X11.ireturnOut hexec hret rfl (Or.inr (Or.inl rfl)) (hb hbytes d55) hl)⟩
theorem pays {l : Launch} {R : Room} {p : Program} {e : Env} {below : List Frame} {s : State} {sargs : Array Value} {len W : Nat} (x t : Addr) (V : Cell) (cd : Int32) (n : Nat) (f : Nat → Int32) (y t' : Addr) (V' : Cell) (cd' : Int32) (k : Nat) (g : Nat → Int32) (z : Int32) (htab : tab.before sargs s = true) (hfr : 2 ≤ R.frames) (hlo : W + 28 ≤ R.locals) :
    Back l R p e below s sargs yN len W (fun A₁ a₁ => A₁.cells + 0 ≤ R.cells ∧ A₁.slots + 0 ≤ R.slots ∧ P x t V cd n f y t' V' cd' k g z a₁ A₁.U) (fun A₁ _ v₁ B₁ => Says01 (SameT n f k g) v₁ A₁.U B₁.U ∧ B₁.locs = A₁.locs ++ [] ∧ B₁.cells = A₁.cells + 0 ∧ B₁.slots = A₁.slots + 0) :=
  (law l x t V cd n f y t' V' cd' k g z).pays htab hfr (by omega)
end SEq
end StrChars
namespace StrChars.Road
open Jvm Sem ClassFile Op Lib Jvm.Stand Jvm.Free Jvm.Free.XT
open Jvm.Lib.Cold (StaticIs)
/-- the words of String.equals(Object) -/
abbrev wordsEq : List Jvm.Cond := [.code SEq.yN SEq.yB 3 (some .boolean), .initialized ST, .classLink ST 10 ST, .fieldLink ST 38 ST "COMPACT_STRINGS" "Z", .fieldLink ST 15 ST "coder" "B", .fieldLink ST 9 ST "value" "[B", .methodLink ST 541 LEq.yN, .static LEq.yN, .code LEq.yN LEq.yB 3 (some .boolean), .initialized "java/lang/StringLatin1"]
theorem tabEq_of {a : Array Value} {s : State} (h : ∀ w ∈ wordsEq, w.before a s = true) : SEq.tab.before a s = true := by
  have hl : LEq.tab.before a s = true := unparts (wk h (.code LEq.yN LEq.yB 3 (some .boolean))) (wks h (.initialized LEq.yN.cls :: LEq.site))
  have q := consq hl h
  exact unparts (wk q (.code SEq.yN SEq.yB 3 (some .boolean))) (wks q (.initialized SEq.yN.cls :: SEq.site))
theorem movedEq {Z s : State} {a0 args : Array Value} (hZ : Z.Warmed39 s.vm) (hw : ∀ d ∈ wordsEq, d.before a0 Z = true) : ∀ d ∈ wordsEq, d.before args s = true := fun d hd => by
  have t : ∀ d ∈ wordsEq, (d.onTables && d.keepsFace) = true := by decide +kernel
  exact RoadKit.mv hZ (hw d hd) (t d hd)
/-- the road's facts of a String, as the laws ask it -/
theorem txt_of {Z U : State} {a0 : Array Value} {kI : Nat} (wi : (Jvm.Cond.instantiable ST kI).before a0 Z = true) (al : Z.vm.Alike U.vm) {x t : Addr} {kb : ClassId} {cs : List Int32} {cd N2 : Int32} {vs : List Value} (E : RoadKit.Exa Z U.heap x ST) (V : RoadKit.Fld Z U.heap x ST "value" "[B" (.ref t)) (C : RoadKit.Fld Z U.heap x ST "coder" "B" (.int cd)) (K : RoadKit.Arv Z U.heap t kb .byte N2 vs (.int 0)) (hc : CodA cs cd N2 vs) (hb : ∀ c ∈ cs, ¬ c < 0 ∧ ¬ (65535 : Int32) < c) (l2 : cs.length ≤ 4000) :
    ∃ A, Txt x t A cd cs.length (fun j => cs.getD j 0) U := by
  obtain ⟨A, K1, K2, K3, K4, K5, K6⟩ := K
  have hcod := hc.cod (by omega) K3 K5
  obtain ⟨D, fV, fC, hB, F1, F2, g1, g2, -, -⟩ := strObj wi al E V C
  exact ⟨A, ⟨_, hB.2.2.1, D, hB.1, rfl, by cases q : D.vm <;> first | rfl | exact absurd q (hB.2.1.2 _)⟩, Has.of hB F1 g1, Has.of hB F2 g2, ⟨K1.1, State.isArrayOf_alike al K1.2.1, K1.2.2, by rcases hcod with ⟨-, q, -⟩ | ⟨-, q, -⟩ <;> omega⟩, hcod, fun j hj => by
    have e : cs.getD j 0 = cs[j] := by simp [List.getD_eq_getElem?_getD, hj]
    show ¬ cs.getD j 0 < 0 ∧ ¬ 65535 < cs.getD j 0
    rw [e]; exact hb _ (List.getElem_mem _)⟩
theorem same_list (cs ds : List Int32) : SameT cs.length (fun j => cs.getD j 0) ds.length (fun j => ds.getD j 0) ↔ cs = ds := by
  constructor
  · rintro ⟨e, q⟩
    refine List.ext_getElem e fun j h1 h2 => ?_
    have := q j h1
    simpa [List.getD_eq_getElem?_getD, h1, h2] using this
  · rintro rfl
    exact ⟨rfl, fun _ _ => rfl⟩
/-- **equals(Object) OF TWO SUCH STRINGS**: 1 just where the chars are the same -/
theorem eqW {p : Program} {l : Launch} {e : Env} {R : Room} {s : State} {args : Array Value} {below : List Frame} {len W : Nat} {Z : State} {a0 : Array Value} {h : Heap} (hZ : Z.Warmed39 s.vm) (hw : ∀ d ∈ wordsEq, d.before a0 Z = true) {kI : Nat} (wi : (Jvm.Cond.instantiable ST kI).before a0 Z = true)
    {x t : Addr} {kb : ClassId} {cs : List Int32} {cd N2 : Int32} {vs : List Value} (E : RoadKit.Exa Z h x ST) (V : RoadKit.Fld Z h x ST "value" "[B" (.ref t)) (C : RoadKit.Fld Z h x ST "coder" "B" (.int cd)) (K : RoadKit.Arv Z h t kb .byte N2 vs (.int 0)) (hc : CodA cs cd N2 vs) (hb : ∀ c ∈ cs, ¬ c < 0 ∧ ¬ (65535 : Int32) < c) (l2 : cs.length ≤ 4000)
    {y t' : Addr} {kb' : ClassId} {ds : List Int32} {cd' N2' : Int32} {vs' : List Value} (E' : RoadKit.Exa Z h y ST) (V' : RoadKit.Fld Z h y ST "value" "[B" (.ref t')) (C' : RoadKit.Fld Z h y ST "coder" "B" (.int cd')) (K' : RoadKit.Arv Z h t' kb' .byte N2' vs' (.int 0)) (hc' : CodA ds cd' N2' vs') (hb' : ∀ c ∈ ds, ¬ c < 0 ∧ ¬ (65535 : Int32) < c) (l2' : ds.length ≤ 4000)
    {z : Int32} (S : RoadKit.Sta Z h ST "COMPACT_STRINGS" "Z" (.int z)) (hz : ¬ z = 0) (hfr : 2 ≤ R.frames) (hlo : W + 28 ≤ R.locals) :
    Back l R p e below s args (⟨"java/lang/String", "equals", "(Ljava/lang/Object;)Z"⟩ : MethodName) len W (fun P a => a = #[.ref x, .ref y] ∧ P.U.heap = h ∧ P.cells + 0 ≤ R.cells ∧ P.slots + 0 ≤ R.slots)
      (fun P _ v B => ∃ L, (((v = some (.int 1) ∧ cs = ds) ∨ (v = some (.int 0) ∧ ¬ cs = ds)) ∧ L = [] ∧ B.U.heap = h) ∧ B.locs = P.locs ++ L ∧ B.cells = P.cells + 0 ∧ B.slots = P.slots + 0) := by
  intro m meth c P g ig mk a X hg hsize hdg hW hn hp'
  obtain ⟨rfl, rfl, r1, r2⟩ := hp'
  have al : Z.vm.Alike P.U.vm := hZ.alike.trans X.warmed.alike
  obtain ⟨A, hx⟩ := txt_of wi al E V C K hc hb l2
  obtain ⟨A', hy⟩ := txt_of wi al E' V' C' K' hc' hb' l2'
  obtain ⟨v, B, X', ⟨⟨w, hv, hh, hq⟩, hl, hk, hs⟩, st⟩ := SEq.pays x t A cd cs.length (fun j => cs.getD j 0) y t' A' cd' ds.length (fun j => ds.getD j 0) z (tabEq_of (movedEq hZ hw)) hfr hlo m meth c P g ig mk _ X hg hsize hdg hW hn ⟨r1, r2, rfl, hx, hy, sta_is al S, hz⟩
  refine ⟨v, B, X', ⟨[], ⟨?_, rfl, hh⟩, hl, hk, hs⟩, st⟩
  rcases hq with ⟨rfl, q⟩ | ⟨rfl, q⟩
  · exact Or.inl ⟨hv, (same_list cs ds).mp q⟩
  · exact Or.inr ⟨hv, fun e => q ((same_list cs ds).mpr e)⟩
end StrChars.Road
namespace StrChars.Road
open Jvm Sem ClassFile Op Lib Jvm.Stand Jvm.Free Jvm.Free.XT
open Jvm.Lib.Cold (StaticIs)
/-- what backV says of its String, as the contracts of this text ask it: cs's low bytes, coder 0 -/
theorem codOf {cs : List Int32} {n : Nat} (hn : cs.length = n) (hb : ∀ c ∈ cs, ¬ 255 < c) : CodA cs 0 (Int32.ofNat n) ((cs.map lo8).map Value.int) := Or.inl ⟨rfl, by rw [hn], by simp [List.map_map, Function.comp_def], hb⟩
end StrChars.Road
end Jvm.Pilot.@@N@@

@@BLOCK:LamKit.lean.txt@@
namespace Jvm.Pilot.@@N@@
namespace Own
open Jvm Jvm.ClassFile Sem Op Lib Jvm.Free Jvm.Stand Jvm.LawKit Jvm.RoadKit
abbrev Gx := Bool × Launch × State × Array Value × List (String × Nat) × Nat
abbrev Gx.wd (G : Gx) : Bool := G.1
abbrev Gx.l (G : Gx) : Launch := G.2.1
abbrev Gx.Z (G : Gx) : State := G.2.2.1
abbrev Gx.a0 (G : Gx) : Array Value := G.2.2.2.1
abbrev Gx.EL (G : Gx) : List (String × Nat) := G.2.2.2.2.1
abbrev Gx.n0 (G : Gx) : Nat := G.2.2.2.2.2
abbrev Md := String × String × ByteArray × Nat × Option FieldType
abbrev Md.own (M : Md) : String := M.1
abbrev Md.nm (M : Md) : String := M.2.1
abbrev Md.code (M : Md) : ByteArray := M.2.2.1
abbrev Md.mx (M : Md) : Nat := M.2.2.2.1
abbrev Md.ret (M : Md) : Option FieldType := M.2.2.2.2
abbrev Cx := Program × Env × State × MethodId × Array Value × List Frame × Method × Code
abbrev Cx.p (X : Cx) : Program := X.1
abbrev Cx.e (X : Cx) : Env := X.2.1
abbrev Cx.s (X : Cx) : State := X.2.2.1
abbrev Cx.m (X : Cx) : MethodId := X.2.2.2.1
abbrev Cx.args (X : Cx) : Array Value := X.2.2.2.2.1
abbrev Cx.below (X : Cx) : List Frame := X.2.2.2.2.2.1
abbrev Cx.meth (X : Cx) : Method := X.2.2.2.2.2.2.1
abbrev Cx.c (X : Cx) : Code := X.2.2.2.2.2.2.2
def EndW (wd : Bool) (s : State) (o : Outcome) (t : State) (L : List Loc) (k n : Nat) : Prop := ReturnedEndW s o t L k n ∧ (wd = false → FrameEnd s o t L k n)
def Fix (G : Gx) (M : Md) (X : Cx) : Prop := X.p.tables.exec = Jvm.exec ∧ X.c.code = M.code ∧ X.c.maxLocals = M.mx ∧ X.meth.sig.returnType = M.ret ∧ X.meth.locks = false ∧ X.meth.name = M.nm ∧ EW G.Z G.a0 G.EL
def Wk (G : Gx) (M : Md) (R : Room) (X : Cx) (vm : Vm) (T : State) (h : Heap) (k n : Nat) : Prop :=
  Fix G M X ∧ ∃ (k0 : Nat) (L : List Loc), Stand X.p G.l X.e R (X.s.setVm vm) X.m X.args X.below X.meth X.c T L k n ∧ T.heap = h ∧ X.s.Since vm k0 ∧ k0 ≤ h.size ∧ G.Z.Warmed39 vm ∧ vm.findClass M.own = some X.m.cls ∧ Fr G.n0 L ∧ Old G.Z G.n0 h ∧ (G.wd = true → CHr G.Z G.EL X.s.vm X.s.heap vm h) ∧ (G.wd = false → vm = X.s.vm)
def Go (G : Gx) (R : Room) (X : Cx) (Q : Option Value → Heap → Prop) (S : State) : Prop :=
  ∃ (t : State) (o : Outcome), Steps X.p.tables X.e X.below S t ∧ t.status = .running ∧ Ended t X.below o ∧ ∃ (v : Option Value) (L : List Loc), o = .returned v ∧ (Q v t.heap ∧ Fr G.n0 L ∧ Old G.Z G.n0 t.heap) ∧ (G.wd = true → CHr G.Z G.EL X.s.vm X.s.heap t.vm t.heap) ∧ EndW G.wd X.s o t L R.cells R.slots
def Con (G : Gx) (y : MethodName) (bytes : ByteArray) (maxL : Nat) (ret : Option FieldType) (ws : List Cond) (rm : Room) (as : Array Value) (h : Heap) (Q : Option Value → Heap → Prop) : Prop :=
  MetFree G.l y (head1 (Cond.code y bytes maxL ret :: ws) rm) (fun a U => a = as ∧ G.Z.Warmed39 U.vm ∧ U.heap = h ∧ (G.wd = true → CHv G.Z G.EL U.vm h)) (fun _ _ _ _ _ => True)
    (fun _ U o U' => ∃ (v : Option Value) (L : List Loc), o = .returned v ∧ (Q v U'.heap ∧ Fr G.n0 L ∧ Old G.Z G.n0 U'.heap) ∧ (G.wd = true → CHr G.Z G.EL U.vm U.heap U'.vm U'.heap) ∧ EndW G.wd U o U' L rm.cells rm.slots)
def vQ (Q : Value → Heap → Prop) : Option Value → Heap → Prop := fun v h => ∃ x, v = some x ∧ Q x h
def nQ (Q : Heap → Prop) : Option Value → Heap → Prop := fun v h => v = none ∧ Q h
section Lay
variable {G : Gx} {M : Md} {R : Room} {X : Cx} {vm : Vm} {T : State} {h : Heap} {k n : Nat} {Q : Option Value → Heap → Prop}
theorem Go.of {S S' : State} (f : ∀ t, Steps X.p.tables X.e X.below S' t → Steps X.p.tables X.e X.below S t) (g : Go G R X Q S') : Go G R X Q S := by
  obtain ⟨t, o, h1, r⟩ := g; exact ⟨t, o, f t h1, r⟩
theorem Wk.hx (w : Wk G M R X vm T h k n) : X.p.tables.exec = Jvm.exec := w.1.1
theorem Wk.by_ (w : Wk G M R X vm T h k n) : X.c.code = M.code := w.1.2.1
theorem Wk.hml (w : Wk G M R X vm T h k n) : X.c.maxLocals = M.mx := w.1.2.2.1
theorem Wk.hret (w : Wk G M R X vm T h k n) : X.meth.sig.returnType = M.ret := w.1.2.2.2.1
theorem Wk.hlk (w : Wk G M R X vm T h k n) : X.meth.locks = false := w.1.2.2.2.2.1
theorem Wk.hnm (w : Wk G M R X vm T h k n) : X.meth.name = M.nm := w.1.2.2.2.2.2.1
theorem Wk.hEL (w : Wk G M R X vm T h k n) : EW G.Z G.a0 G.EL := w.1.2.2.2.2.2.2
theorem Wk.here (w : Wk G M R X vm T h k n) : At T X.m X.c X.below := by obtain ⟨-, k0, L, S, -⟩ := w; exact S.here
theorem Wk.heap (w : Wk G M R X vm T h k n) : T.heap = h := by obtain ⟨-, k0, L, S, e, -⟩ := w; exact e
theorem Wk.old (w : Wk G M R X vm T h k n) : Old G.Z G.n0 h := by obtain ⟨-, k0, L, -, -, -, -, -, -, -, q, -⟩ := w; exact q
theorem Wk.ch (w : Wk G M R X vm T h k n) : G.wd = true → CHr G.Z G.EL X.s.vm X.s.heap vm h := by obtain ⟨-, k0, L, -, -, -, -, -, -, -, -, q, -⟩ := w; exact q
theorem Wk.wz (w : Wk G M R X vm T h k n) : G.Z.Warmed39 vm := by obtain ⟨-, k0, L, -, -, -, -, q, -⟩ := w; exact q
theorem Wk.n0le (w : Wk G M R X vm T h k n) : G.n0 ≤ h.size := by have := w.old; rw [← this.1]; exact this.2.1
theorem Wk.sta (w : Wk G M R X vm T h k n) {C f d : String} {v : Value} (S : Sta G.Z G.Z.heap C f d v) : Sta G.Z h C f d v := S.ext w.old.2
theorem Wk.mono (w : Wk G M R X vm T h k n) {k' n' : Nat} (hk : k ≤ k') (hn : n ≤ n') : Wk G M R X vm T h k' n' := by
  obtain ⟨a, k0, L, S, r⟩ := w; exact ⟨a, k0, L, S.mono hk hn, r⟩
theorem Wk.aloadN (w : Wk G M R X vm T h k n) {pc q : Nat} {Ls : Array Slot} {st : List Value} {j : Fin 4} {v : Value} (hd : decode M.code pc = .ok (.aload_n j, 1)) (hl : Ls[j.val]? = some (.val v)) (hv : v.isRef = true) (hq : pc + 1 = q) (go : Go G R X Q (T.setTop (mkF X.m q Ls (v :: st)))) : Go G R X Q (T.setTop (mkF X.m pc Ls st)) := by
  subst hq
  exact go.of fun t r => XS.aloadN w.here w.hx rfl (hb w.by_ hd) hl hv r
theorem Wk.aload (w : Wk G M R X vm T h k n) {pc q : Nat} {Ls : Array Slot} {st : List Value} {j : Nat} {v : Value} (hd : decode M.code pc = .ok (.aload j, 2)) (hl : Ls[j]? = some (.val v)) (hv : v.isRef = true) (hq : pc + 2 = q) (go : Go G R X Q (T.setTop (mkF X.m q Ls (v :: st)))) : Go G R X Q (T.setTop (mkF X.m pc Ls st)) := by
  subst hq
  exact go.of fun t r => XS.aload w.here w.hx rfl (hb w.by_ hd) hl hv r
theorem Wk.iloadN (w : Wk G M R X vm T h k n) {pc q : Nat} {Ls : Array Slot} {st : List Value} {j : Fin 4} {v : Int32} (hd : decode M.code pc = .ok (.iload_n j, 1)) (hl : Ls[j.val]? = some (.val (.int v))) (hq : pc + 1 = q) (go : Go G R X Q (T.setTop (mkF X.m q Ls (.int v :: st)))) : Go G R X Q (T.setTop (mkF X.m pc Ls st)) := by
  subst hq
  exact go.of fun t r => XS.iloadN w.here w.hx rfl (hb w.by_ hd) hl r
theorem Wk.iload (w : Wk G M R X vm T h k n) {pc q : Nat} {Ls : Array Slot} {st : List Value} {j : Nat} {v : Int32} (hd : decode M.code pc = .ok (.iload j, 2)) (hl : Ls[j]? = some (.val (.int v))) (hq : pc + 2 = q) (go : Go G R X Q (T.setTop (mkF X.m q Ls (.int v :: st)))) : Go G R X Q (T.setTop (mkF X.m pc Ls st)) := by
  subst hq
  exact go.of fun t r => XS.iload w.here w.hx rfl (hb w.by_ hd) hl r
theorem Wk.lloadN (w : Wk G M R X vm T h k n) {pc q : Nat} {Ls : Array Slot} {st : List Value} {j : Fin 4} {v : Int64} (hd : decode M.code pc = .ok (.lload_n j, 1)) (hl : Ls[j.val]? = some (.val (.long v))) (hq : pc + 1 = q) (go : Go G R X Q (T.setTop (mkF X.m q Ls (.long v :: st)))) : Go G R X Q (T.setTop (mkF X.m pc Ls st)) := by
  subst hq
  exact go.of fun t r => XS.lloadN w.here w.hx rfl (hb w.by_ hd) hl r
theorem Wk.lload (w : Wk G M R X vm T h k n) {pc q : Nat} {Ls : Array Slot} {st : List Value} {j : Nat} {v : Int64} (hd : decode M.code pc = .ok (.lload j, 2)) (hl : Ls[j]? = some (.val (.long v))) (hq : pc + 2 = q) (go : Go G R X Q (T.setTop (mkF X.m q Ls (.long v :: st)))) : Go G R X Q (T.setTop (mkF X.m pc Ls st)) := by
  subst hq
  exact go.of fun t r => XS.lload w.here w.hx rfl (hb w.by_ hd) hl r
theorem Wk.istoreN (w : Wk G M R X vm T h k n) {pc q : Nat} {Ls : Array Slot} {st : List Value} {j : Fin 4} {x : Int32} {L2 : Array Slot} (hd : decode M.code pc = .ok (.istore_n j, 1)) (hl : storeLocals Ls j.val (.int x) = some L2) (hq : pc + 1 = q) (go : Go G R X Q (T.setTop (mkF X.m q L2 st))) : Go G R X Q (T.setTop (mkF X.m pc Ls (.int x :: st))) := by
  subst hq
  exact go.of fun t r => XS.istoreN w.here w.hx rfl (hb w.by_ hd) rfl hl r
theorem Wk.istore (w : Wk G M R X vm T h k n) {pc q : Nat} {Ls : Array Slot} {st : List Value} {j : Nat} {x : Int32} {L2 : Array Slot} (hd : decode M.code pc = .ok (.istore j, 2)) (hl : storeLocals Ls j (.int x) = some L2) (hq : pc + 2 = q) (go : Go G R X Q (T.setTop (mkF X.m q L2 st))) : Go G R X Q (T.setTop (mkF X.m pc Ls (.int x :: st))) := by
  subst hq
  exact go.of fun t r => XS.istore w.here w.hx rfl (hb w.by_ hd) rfl hl r
theorem Wk.lstoreN (w : Wk G M R X vm T h k n) {pc q : Nat} {Ls : Array Slot} {st : List Value} {j : Fin 4} {x : Int64} {L2 : Array Slot} (hd : decode M.code pc = .ok (.lstore_n j, 1)) (hl : storeLocals Ls j.val (.long x) = some L2) (hq : pc + 1 = q) (go : Go G R X Q (T.setTop (mkF X.m q L2 st))) : Go G R X Q (T.setTop (mkF X.m pc Ls (.long x :: st))) := by
  subst hq
  exact go.of fun t r => XS.lstoreN w.here w.hx rfl (hb w.by_ hd) rfl hl r
theorem Wk.lstore (w : Wk G M R X vm T h k n) {pc q : Nat} {Ls : Array Slot} {st : List Value} {j : Nat} {x : Int64} {L2 : Array Slot} (hd : decode M.code pc = .ok (.lstore j, 2)) (hl : storeLocals Ls j (.long x) = some L2) (hq : pc + 2 = q) (go : Go G R X Q (T.setTop (mkF X.m q L2 st))) : Go G R X Q (T.setTop (mkF X.m pc Ls (.long x :: st))) := by
  subst hq
  exact go.of fun t r => XS.lstore w.here w.hx rfl (hb w.by_ hd) rfl hl r
theorem Wk.astoreN (w : Wk G M R X vm T h k n) {pc q : Nat} {Ls : Array Slot} {st : List Value} {j : Fin 4} {x : Value} {L2 : Array Slot} (hd : decode M.code pc = .ok (.astore_n j, 1)) (hv : x.isRef = true) (hl : storeLocals Ls j.val x = some L2) (hq : pc + 1 = q) (go : Go G R X Q (T.setTop (mkF X.m q L2 st))) : Go G R X Q (T.setTop (mkF X.m pc Ls (x :: st))) := by
  subst hq
  exact go.of fun t r => XS.astoreN w.here w.hx rfl (hb w.by_ hd) rfl hv hl r
theorem Wk.astore (w : Wk G M R X vm T h k n) {pc q : Nat} {Ls : Array Slot} {st : List Value} {j : Nat} {x : Value} {L2 : Array Slot} (hd : decode M.code pc = .ok (.astore j, 2)) (hv : x.isRef = true) (hl : storeLocals Ls j x = some L2) (hq : pc + 2 = q) (go : Go G R X Q (T.setTop (mkF X.m q L2 st))) : Go G R X Q (T.setTop (mkF X.m pc Ls (x :: st))) := by
  subst hq
  exact go.of fun t r => XS.astore w.here w.hx rfl (hb w.by_ hd) rfl hv hl r
theorem Wk.aconst (w : Wk G M R X vm T h k n) {pc q : Nat} {Ls : Array Slot} {st : List Value} (hd : decode M.code pc = .ok (.aconst_null, 1)) (hq : pc + 1 = q) (go : Go G R X Q (T.setTop (mkF X.m q Ls (.null :: st)))) : Go G R X Q (T.setTop (mkF X.m pc Ls st)) := by
  subst hq
  exact go.of fun t r => XS.aconstNull w.here w.hx rfl (hb w.by_ hd) r
theorem Wk.iconst (w : Wk G M R X vm T h k n) {pc q : Nat} {Ls : Array Slot} {st : List Value} {i : Int} (v : Int32) (hd : decode M.code pc = .ok (.iconst i, 1)) (hv : Int32.ofInt i = v) (hq : pc + 1 = q) (go : Go G R X Q (T.setTop (mkF X.m q Ls (.int v :: st)))) : Go G R X Q (T.setTop (mkF X.m pc Ls st)) := by
  subst hq hv
  exact go.of fun t r => XS.iconst w.here w.hx rfl (hb w.by_ hd) r
theorem Wk.bipush (w : Wk G M R X vm T h k n) {pc q : Nat} {Ls : Array Slot} {st : List Value} {i : Int} (v : Int32) (hd : decode M.code pc = .ok (.bipush i, 2)) (hv : (Int8.ofInt i).toInt32 = v) (hq : pc + 2 = q) (go : Go G R X Q (T.setTop (mkF X.m q Ls (.int v :: st)))) : Go G R X Q (T.setTop (mkF X.m pc Ls st)) := by
  subst hq hv
  exact go.of fun t r => XS.bipush w.here w.hx rfl (hb w.by_ hd) r
theorem Wk.sipush (w : Wk G M R X vm T h k n) {pc q : Nat} {Ls : Array Slot} {st : List Value} {i : Int} (v : Int32) (hd : decode M.code pc = .ok (.sipush i, 3)) (hv : (Int16.ofInt i).toInt32 = v) (hq : pc + 3 = q) (go : Go G R X Q (T.setTop (mkF X.m q Ls (.int v :: st)))) : Go G R X Q (T.setTop (mkF X.m pc Ls st)) := by
  subst hq hv
  exact go.of fun t r => XS.sipush w.here w.hx rfl (hb w.by_ hd) r
theorem Wk.lconst (w : Wk G M R X vm T h k n) {pc q : Nat} {Ls : Array Slot} {st : List Value} {i : Fin 2} (v : Int64) (hd : decode M.code pc = .ok (.lconst i, 1)) (hv : Int64.ofNat i = v) (hq : pc + 1 = q) (go : Go G R X Q (T.setTop (mkF X.m q Ls (.long v :: st)))) : Go G R X Q (T.setTop (mkF X.m pc Ls st)) := by
  subst hq hv
  exact go.of fun t r => XS.lconst w.here w.hx rfl (hb w.by_ hd) r
theorem Wk.iadd (w : Wk G M R X vm T h k n) {pc q : Nat} {Ls : Array Slot} {st : List Value} {x y : Int32} (hd : decode M.code pc = .ok (.iadd, 1)) (hq : pc + 1 = q) (go : Go G R X Q (T.setTop (mkF X.m q Ls (.int (x + y) :: st)))) : Go G R X Q (T.setTop (mkF X.m pc Ls (.int y :: .int x :: st))) := by
  subst hq
  exact go.of fun t r => XS.iadd w.here w.hx rfl (hb w.by_ hd) rfl r
theorem Wk.isub (w : Wk G M R X vm T h k n) {pc q : Nat} {Ls : Array Slot} {st : List Value} {x y : Int32} (hd : decode M.code pc = .ok (.isub, 1)) (hq : pc + 1 = q) (go : Go G R X Q (T.setTop (mkF X.m q Ls (.int (x - y) :: st)))) : Go G R X Q (T.setTop (mkF X.m pc Ls (.int y :: .int x :: st))) := by
  subst hq
  exact go.of fun t r => XS.isub w.here w.hx rfl (hb w.by_ hd) rfl r
theorem Wk.imul (w : Wk G M R X vm T h k n) {pc q : Nat} {Ls : Array Slot} {st : List Value} {x y : Int32} (hd : decode M.code pc = .ok (.imul, 1)) (hq : pc + 1 = q) (go : Go G R X Q (T.setTop (mkF X.m q Ls (.int (x * y) :: st)))) : Go G R X Q (T.setTop (mkF X.m pc Ls (.int y :: .int x :: st))) := by
  subst hq
  exact go.of fun t r => XS.imul w.here w.hx rfl (hb w.by_ hd) rfl r
theorem Wk.iand (w : Wk G M R X vm T h k n) {pc q : Nat} {Ls : Array Slot} {st : List Value} {x y : Int32} (hd : decode M.code pc = .ok (.iand, 1)) (hq : pc + 1 = q) (go : Go G R X Q (T.setTop (mkF X.m q Ls (.int (x &&& y) :: st)))) : Go G R X Q (T.setTop (mkF X.m pc Ls (.int y :: .int x :: st))) := by
  subst hq
  exact go.of fun t r => XS.iand w.here w.hx rfl (hb w.by_ hd) rfl r
theorem Wk.ior (w : Wk G M R X vm T h k n) {pc q : Nat} {Ls : Array Slot} {st : List Value} {x y : Int32} (hd : decode M.code pc = .ok (.ior, 1)) (hq : pc + 1 = q) (go : Go G R X Q (T.setTop (mkF X.m q Ls (.int (x ||| y) :: st)))) : Go G R X Q (T.setTop (mkF X.m pc Ls (.int y :: .int x :: st))) := by
  subst hq
  exact go.of fun t r => XS.ior w.here w.hx rfl (hb w.by_ hd) rfl r
theorem Wk.ixor (w : Wk G M R X vm T h k n) {pc q : Nat} {Ls : Array Slot} {st : List Value} {x y : Int32} (hd : decode M.code pc = .ok (.ixor, 1)) (hq : pc + 1 = q) (go : Go G R X Q (T.setTop (mkF X.m q Ls (.int (x ^^^ y) :: st)))) : Go G R X Q (T.setTop (mkF X.m pc Ls (.int y :: .int x :: st))) := by
  subst hq
  exact go.of fun t r => XS.ixor w.here w.hx rfl (hb w.by_ hd) rfl r
theorem Wk.ishl (w : Wk G M R X vm T h k n) {pc q : Nat} {Ls : Array Slot} {st : List Value} {x y : Int32} (hd : decode M.code pc = .ok (.ishl, 1)) (hq : pc + 1 = q) (go : Go G R X Q (T.setTop (mkF X.m q Ls (.int (x <<< (y &&& 31)) :: st)))) : Go G R X Q (T.setTop (mkF X.m pc Ls (.int y :: .int x :: st))) := by
  subst hq
  exact go.of fun t r => XS.ishl w.here w.hx rfl (hb w.by_ hd) rfl r
theorem Wk.ishr (w : Wk G M R X vm T h k n) {pc q : Nat} {Ls : Array Slot} {st : List Value} {x y : Int32} (hd : decode M.code pc = .ok (.ishr, 1)) (hq : pc + 1 = q) (go : Go G R X Q (T.setTop (mkF X.m q Ls (.int (x >>> (y &&& 31)) :: st)))) : Go G R X Q (T.setTop (mkF X.m pc Ls (.int y :: .int x :: st))) := by
  subst hq
  exact go.of fun t r => XS.ishr w.here w.hx rfl (hb w.by_ hd) rfl r
theorem Wk.iushr (w : Wk G M R X vm T h k n) {pc q : Nat} {Ls : Array Slot} {st : List Value} {x y : Int32} (hd : decode M.code pc = .ok (.iushr, 1)) (hq : pc + 1 = q) (go : Go G R X Q (T.setTop (mkF X.m q Ls (.int ((x.toUInt32 >>> (y &&& 31).toUInt32).toInt32) :: st)))) : Go G R X Q (T.setTop (mkF X.m pc Ls (.int y :: .int x :: st))) := by
  subst hq
  exact go.of fun t r => XS.iushr w.here w.hx rfl (hb w.by_ hd) rfl r
theorem Wk.ladd (w : Wk G M R X vm T h k n) {pc q : Nat} {Ls : Array Slot} {st : List Value} {x y : Int64} (hd : decode M.code pc = .ok (.ladd, 1)) (hq : pc + 1 = q) (go : Go G R X Q (T.setTop (mkF X.m q Ls (.long (x + y) :: st)))) : Go G R X Q (T.setTop (mkF X.m pc Ls (.long y :: .long x :: st))) := by
  subst hq
  exact go.of fun t r => XS.ladd w.here w.hx rfl (hb w.by_ hd) rfl r
theorem Wk.lsub (w : Wk G M R X vm T h k n) {pc q : Nat} {Ls : Array Slot} {st : List Value} {x y : Int64} (hd : decode M.code pc = .ok (.lsub, 1)) (hq : pc + 1 = q) (go : Go G R X Q (T.setTop (mkF X.m q Ls (.long (x - y) :: st)))) : Go G R X Q (T.setTop (mkF X.m pc Ls (.long y :: .long x :: st))) := by
  subst hq
  exact go.of fun t r => XS.lsub w.here w.hx rfl (hb w.by_ hd) rfl r
theorem Wk.lmul (w : Wk G M R X vm T h k n) {pc q : Nat} {Ls : Array Slot} {st : List Value} {x y : Int64} (hd : decode M.code pc = .ok (.lmul, 1)) (hq : pc + 1 = q) (go : Go G R X Q (T.setTop (mkF X.m q Ls (.long (x * y) :: st)))) : Go G R X Q (T.setTop (mkF X.m pc Ls (.long y :: .long x :: st))) := by
  subst hq
  exact go.of fun t r => XS.lmul w.here w.hx rfl (hb w.by_ hd) rfl r
theorem Wk.land (w : Wk G M R X vm T h k n) {pc q : Nat} {Ls : Array Slot} {st : List Value} {x y : Int64} (hd : decode M.code pc = .ok (.land, 1)) (hq : pc + 1 = q) (go : Go G R X Q (T.setTop (mkF X.m q Ls (.long (x &&& y) :: st)))) : Go G R X Q (T.setTop (mkF X.m pc Ls (.long y :: .long x :: st))) := by
  subst hq
  exact go.of fun t r => XS.land w.here w.hx rfl (hb w.by_ hd) rfl r
theorem Wk.lor (w : Wk G M R X vm T h k n) {pc q : Nat} {Ls : Array Slot} {st : List Value} {x y : Int64} (hd : decode M.code pc = .ok (.lor, 1)) (hq : pc + 1 = q) (go : Go G R X Q (T.setTop (mkF X.m q Ls (.long (x ||| y) :: st)))) : Go G R X Q (T.setTop (mkF X.m pc Ls (.long y :: .long x :: st))) := by
  subst hq
  exact go.of fun t r => XS.lor w.here w.hx rfl (hb w.by_ hd) rfl r
theorem Wk.lxor (w : Wk G M R X vm T h k n) {pc q : Nat} {Ls : Array Slot} {st : List Value} {x y : Int64} (hd : decode M.code pc = .ok (.lxor, 1)) (hq : pc + 1 = q) (go : Go G R X Q (T.setTop (mkF X.m q Ls (.long (x ^^^ y) :: st)))) : Go G R X Q (T.setTop (mkF X.m pc Ls (.long y :: .long x :: st))) := by
  subst hq
  exact go.of fun t r => XS.lxor w.here w.hx rfl (hb w.by_ hd) rfl r
theorem Wk.lshl (w : Wk G M R X vm T h k n) {pc q : Nat} {Ls : Array Slot} {st : List Value} {x : Int64} {y : Int32} (hd : decode M.code pc = .ok (.lshl, 1)) (hq : pc + 1 = q) (go : Go G R X Q (T.setTop (mkF X.m q Ls (.long (x <<< (y &&& 0x3f).toInt64) :: st)))) : Go G R X Q (T.setTop (mkF X.m pc Ls (.int y :: .long x :: st))) := by
  subst hq
  exact go.of fun t r => XS.lshl w.here w.hx rfl (hb w.by_ hd) rfl r
theorem Wk.lshr (w : Wk G M R X vm T h k n) {pc q : Nat} {Ls : Array Slot} {st : List Value} {x : Int64} {y : Int32} (hd : decode M.code pc = .ok (.lshr, 1)) (hq : pc + 1 = q) (go : Go G R X Q (T.setTop (mkF X.m q Ls (.long (x >>> (y &&& 0x3f).toInt64) :: st)))) : Go G R X Q (T.setTop (mkF X.m pc Ls (.int y :: .long x :: st))) := by
  subst hq
  exact go.of fun t r => XS.lshr w.here w.hx rfl (hb w.by_ hd) rfl r
theorem Wk.lushr (w : Wk G M R X vm T h k n) {pc q : Nat} {Ls : Array Slot} {st : List Value} {x : Int64} {y : Int32} (hd : decode M.code pc = .ok (.lushr, 1)) (hq : pc + 1 = q) (go : Go G R X Q (T.setTop (mkF X.m q Ls (.long ((x.toUInt64 >>> (y &&& 0x3f).toInt64.toUInt64).toInt64) :: st)))) : Go G R X Q (T.setTop (mkF X.m pc Ls (.int y :: .long x :: st))) := by
  subst hq
  exact go.of fun t r => XS.lushr w.here w.hx rfl (hb w.by_ hd) rfl r
theorem Wk.lcmp (w : Wk G M R X vm T h k n) {pc q : Nat} {Ls : Array Slot} {st : List Value} {x y : Int64} (hd : decode M.code pc = .ok (.lcmp, 1)) (hq : pc + 1 = q) (go : Go G R X Q (T.setTop (mkF X.m q Ls (.int (lcmpW x y) :: st)))) : Go G R X Q (T.setTop (mkF X.m pc Ls (.long y :: .long x :: st))) := by
  subst hq
  exact go.of fun t r => XS.lcmp w.here w.hx rfl (hb w.by_ hd) rfl r
theorem Wk.idiv (w : Wk G M R X vm T h k n) {pc q : Nat} {Ls : Array Slot} {st : List Value} {x y : Int32} (hd : decode M.code pc = .ok (.idiv, 1)) (hy : y ≠ 0) (hq : pc + 1 = q) (go : Go G R X Q (T.setTop (mkF X.m q Ls (.int (x / y) :: st)))) : Go G R X Q (T.setTop (mkF X.m pc Ls (.int y :: .int x :: st))) := by
  subst hq
  exact go.of fun t r => XS.idiv w.here w.hx rfl (hb w.by_ hd) rfl hy r
theorem Wk.irem (w : Wk G M R X vm T h k n) {pc q : Nat} {Ls : Array Slot} {st : List Value} {x y : Int32} (hd : decode M.code pc = .ok (.irem, 1)) (hy : y ≠ 0) (hq : pc + 1 = q) (go : Go G R X Q (T.setTop (mkF X.m q Ls (.int (x % y) :: st)))) : Go G R X Q (T.setTop (mkF X.m pc Ls (.int y :: .int x :: st))) := by
  subst hq
  refine go.of fun t r => XS.irem w.here w.hx rfl (hb w.by_ hd) rfl hy ?_
  rw [irem_eq_mod]; exact r
theorem Wk.ineg (w : Wk G M R X vm T h k n) {pc q : Nat} {Ls : Array Slot} {st : List Value} {x : Int32} (hd : decode M.code pc = .ok (.ineg, 1)) (hq : pc + 1 = q) (go : Go G R X Q (T.setTop (mkF X.m q Ls (.int (-x) :: st)))) : Go G R X Q (T.setTop (mkF X.m pc Ls (.int x :: st))) := by
  subst hq
  exact go.of fun t r => XS.ineg w.here w.hx rfl (hb w.by_ hd) rfl r
theorem Wk.lneg (w : Wk G M R X vm T h k n) {pc q : Nat} {Ls : Array Slot} {st : List Value} {x : Int64} (hd : decode M.code pc = .ok (.lneg, 1)) (hq : pc + 1 = q) (go : Go G R X Q (T.setTop (mkF X.m q Ls (.long (-x) :: st)))) : Go G R X Q (T.setTop (mkF X.m pc Ls (.long x :: st))) := by
  subst hq
  exact go.of fun t r => XS.lneg w.here w.hx rfl (hb w.by_ hd) rfl r
theorem Wk.i2l (w : Wk G M R X vm T h k n) {pc q : Nat} {Ls : Array Slot} {st : List Value} {x : Int32} (hd : decode M.code pc = .ok (.i2l, 1)) (hq : pc + 1 = q) (go : Go G R X Q (T.setTop (mkF X.m q Ls (.long x.toInt64 :: st)))) : Go G R X Q (T.setTop (mkF X.m pc Ls (.int x :: st))) := by
  subst hq
  exact go.of fun t r => XS.i2l w.here w.hx rfl (hb w.by_ hd) rfl r
theorem Wk.i2b (w : Wk G M R X vm T h k n) {pc q : Nat} {Ls : Array Slot} {st : List Value} {x : Int32} (hd : decode M.code pc = .ok (.i2b, 1)) (hq : pc + 1 = q) (go : Go G R X Q (T.setTop (mkF X.m q Ls (.int x.toInt8.toInt32 :: st)))) : Go G R X Q (T.setTop (mkF X.m pc Ls (.int x :: st))) := by
  subst hq
  exact go.of fun t r => XS.i2b w.here w.hx rfl (hb w.by_ hd) rfl r
theorem Wk.i2c (w : Wk G M R X vm T h k n) {pc q : Nat} {Ls : Array Slot} {st : List Value} {x : Int32} (hd : decode M.code pc = .ok (.i2c, 1)) (hq : pc + 1 = q) (go : Go G R X Q (T.setTop (mkF X.m q Ls (.int x.toUInt32.toUInt16.toUInt32.toInt32 :: st)))) : Go G R X Q (T.setTop (mkF X.m pc Ls (.int x :: st))) := by
  subst hq
  exact go.of fun t r => XS.i2c w.here w.hx rfl (hb w.by_ hd) rfl r
theorem Wk.i2s (w : Wk G M R X vm T h k n) {pc q : Nat} {Ls : Array Slot} {st : List Value} {x : Int32} (hd : decode M.code pc = .ok (.i2s, 1)) (hq : pc + 1 = q) (go : Go G R X Q (T.setTop (mkF X.m q Ls (.int x.toInt16.toInt32 :: st)))) : Go G R X Q (T.setTop (mkF X.m pc Ls (.int x :: st))) := by
  subst hq
  exact go.of fun t r => XS.i2s w.here w.hx rfl (hb w.by_ hd) rfl r
theorem Wk.l2i (w : Wk G M R X vm T h k n) {pc q : Nat} {Ls : Array Slot} {st : List Value} {x : Int64} (hd : decode M.code pc = .ok (.l2i, 1)) (hq : pc + 1 = q) (go : Go G R X Q (T.setTop (mkF X.m q Ls (.int x.toInt32 :: st)))) : Go G R X Q (T.setTop (mkF X.m pc Ls (.long x :: st))) := by
  subst hq
  exact go.of fun t r => XS.l2i w.here w.hx rfl (hb w.by_ hd) rfl r
theorem Wk.dup (w : Wk G M R X vm T h k n) {pc q : Nat} {Ls : Array Slot} {st : List Value} {x : Value} (hd : decode M.code pc = .ok (.dup, 1)) (hc : x.category = 1) (hq : pc + 1 = q) (go : Go G R X Q (T.setTop (mkF X.m q Ls (x :: x :: st)))) : Go G R X Q (T.setTop (mkF X.m pc Ls (x :: st))) := by
  subst hq
  exact go.of fun t r => XS.dup w.here w.hx rfl (hb w.by_ hd) rfl hc r
theorem Wk.pop (w : Wk G M R X vm T h k n) {pc q : Nat} {Ls : Array Slot} {st : List Value} {x : Value} (hd : decode M.code pc = .ok (.pop, 1)) (hc : x.category = 1) (hq : pc + 1 = q) (go : Go G R X Q (T.setTop (mkF X.m q Ls st))) : Go G R X Q (T.setTop (mkF X.m pc Ls (x :: st))) := by
  subst hq
  exact go.of fun t r => XS.pop w.here w.hx rfl (hb w.by_ hd) rfl hc r
theorem Wk.dupX1 (w : Wk G M R X vm T h k n) {pc q : Nat} {Ls : Array Slot} {st : List Value} {x y : Value} (hd : decode M.code pc = .ok (.dup_x1, 1)) (hc : x.category = 1) (hc2 : y.category = 1) (hq : pc + 1 = q) (go : Go G R X Q (T.setTop (mkF X.m q Ls (x :: y :: x :: st)))) : Go G R X Q (T.setTop (mkF X.m pc Ls (x :: y :: st))) := by
  subst hq
  exact go.of fun t r => XS.dupX1 w.here w.hx rfl (hb w.by_ hd) rfl hc hc2 r
theorem Wk.dup2 (w : Wk G M R X vm T h k n) {pc q : Nat} {Ls : Array Slot} {st : List Value} {x y : Value} (hd : decode M.code pc = .ok (.dup2, 1)) (hc : x.category = 1) (hc2 : y.category = 1) (hq : pc + 1 = q) (go : Go G R X Q (T.setTop (mkF X.m q Ls (x :: y :: x :: y :: st)))) : Go G R X Q (T.setTop (mkF X.m pc Ls (x :: y :: st))) := by
  subst hq
  exact go.of fun t r => XT.dup2 w.here w.hx rfl (hb w.by_ hd) rfl hc hc2 r
theorem Wk.dup2L (w : Wk G M R X vm T h k n) {pc q : Nat} {Ls : Array Slot} {st : List Value} {x : Int64} (hd : decode M.code pc = .ok (.dup2, 1)) (hq : pc + 1 = q) (go : Go G R X Q (T.setTop (mkF X.m q Ls (.long x :: .long x :: st)))) : Go G R X Q (T.setTop (mkF X.m pc Ls (.long x :: st))) := by
  subst hq
  exact go.of fun t r => XT.dup2L w.here w.hx rfl (hb w.by_ hd) rfl r
theorem Wk.iinc (w : Wk G M R X vm T h k n) {pc q : Nat} {Ls L2 : Array Slot} {st : List Value} {j : Nat} {cst : Int} {x : Int32} (v : Int32) (hd : decode M.code pc = .ok (.iinc j cst, 3)) (hv : Int32.ofInt cst = v) (hl : Ls[j]? = some (.val (.int x))) (hl2 : storeLocals Ls j (.int (x + v)) = some L2) (hq : pc + 3 = q) (go : Go G R X Q (T.setTop (mkF X.m q L2 st))) : Go G R X Q (T.setTop (mkF X.m pc Ls st)) := by
  subst hq hv
  exact go.of fun t r => XS.iinc w.here w.hx rfl (hb w.by_ hd) hl hl2 r
theorem Wk.goto (w : Wk G M R X vm T h k n) {pc q : Nat} {Ls : Array Slot} {st : List Value} {o : Int} (hd : decode M.code pc = .ok (.goto o, 3)) (ho : 0 ≤ (pc : Int) + o) (hq : ((pc : Int) + o).toNat = q) (go : Go G R X Q (T.setTop (mkF X.m q Ls st))) : Go G R X Q (T.setTop (mkF X.m pc Ls st)) := by
  exact go.of fun t r => XS.goto w.here w.hx rfl (pc0 := pc) rfl (hb w.by_ hd) ho hq r
theorem Wk.ifY (w : Wk G M R X vm T h k n) {pc q : Nat} {Ls : Array Slot} {st : List Value} {cd : ClassFile.Cond} {x : Int32} {o : Int} (hd : decode M.code pc = .ok (.ifCond cd o, 3)) (hc : ifCond.holds cd x = true) (ho : 0 ≤ (pc : Int) + o) (hq : ((pc : Int) + o).toNat = q) (go : Go G R X Q (T.setTop (mkF X.m q Ls st))) : Go G R X Q (T.setTop (mkF X.m pc Ls (.int x :: st))) := by
  exact go.of fun t r => XS.ifYes w.here w.hx rfl (pc0 := pc) rfl (hb w.by_ hd) rfl hc ho hq r
theorem Wk.ifN (w : Wk G M R X vm T h k n) {pc q : Nat} {Ls : Array Slot} {st : List Value} {cd : ClassFile.Cond} {x : Int32} {o : Int} (hd : decode M.code pc = .ok (.ifCond cd o, 3)) (hc : ifCond.holds cd x = false) (hq : pc + 3 = q) (go : Go G R X Q (T.setTop (mkF X.m q Ls st))) : Go G R X Q (T.setTop (mkF X.m pc Ls (.int x :: st))) := by
  subst hq
  exact go.of fun t r => XS.ifNo w.here w.hx rfl (hb w.by_ hd) rfl hc r
theorem Wk.icY (w : Wk G M R X vm T h k n) {pc q : Nat} {Ls : Array Slot} {st : List Value} {cd : ClassFile.Cond} {x y : Int32} {o : Int} (hd : decode M.code pc = .ok (.if_icmp cd o, 3)) (hc : if_icmp.holds cd x y = true) (ho : 0 ≤ (pc : Int) + o) (hq : ((pc : Int) + o).toNat = q) (go : Go G R X Q (T.setTop (mkF X.m q Ls st))) : Go G R X Q (T.setTop (mkF X.m pc Ls (.int y :: .int x :: st))) := by
  exact go.of fun t r => XS.icmpYes w.here w.hx rfl (pc0 := pc) rfl (hb w.by_ hd) rfl hc ho hq r
theorem Wk.icN (w : Wk G M R X vm T h k n) {pc q : Nat} {Ls : Array Slot} {st : List Value} {cd : ClassFile.Cond} {x y : Int32} {o : Int} (hd : decode M.code pc = .ok (.if_icmp cd o, 3)) (hc : if_icmp.holds cd x y = false) (hq : pc + 3 = q) (go : Go G R X Q (T.setTop (mkF X.m q Ls st))) : Go G R X Q (T.setTop (mkF X.m pc Ls (.int y :: .int x :: st))) := by
  subst hq
  exact go.of fun t r => XS.icmpNo w.here w.hx rfl (hb w.by_ hd) rfl hc r
theorem Wk.nuY (w : Wk G M R X vm T h k n) {pc q : Nat} {Ls : Array Slot} {st : List Value} {o : Int} (hd : decode M.code pc = .ok (.ifnull o, 3)) (ho : 0 ≤ (pc : Int) + o) (hq : ((pc : Int) + o).toNat = q) (go : Go G R X Q (T.setTop (mkF X.m q Ls st))) : Go G R X Q (T.setTop (mkF X.m pc Ls (.null :: st))) := by
  exact go.of fun t r => XS.ifnullYes w.here w.hx rfl (pc0 := pc) rfl (hb w.by_ hd) rfl ho hq r
theorem Wk.nuN (w : Wk G M R X vm T h k n) {pc q : Nat} {Ls : Array Slot} {st : List Value} {b : Addr} {o : Int} (hd : decode M.code pc = .ok (.ifnull o, 3)) (hq : pc + 3 = q) (go : Go G R X Q (T.setTop (mkF X.m q Ls st))) : Go G R X Q (T.setTop (mkF X.m pc Ls (.ref b :: st))) := by
  subst hq
  exact go.of fun t r => XS.ifnullNo w.here w.hx rfl (hb w.by_ hd) rfl r
theorem Wk.nnY (w : Wk G M R X vm T h k n) {pc q : Nat} {Ls : Array Slot} {st : List Value} {b : Addr} {o : Int} (hd : decode M.code pc = .ok (.ifnonnull o, 3)) (ho : 0 ≤ (pc : Int) + o) (hq : ((pc : Int) + o).toNat = q) (go : Go G R X Q (T.setTop (mkF X.m q Ls st))) : Go G R X Q (T.setTop (mkF X.m pc Ls (.ref b :: st))) := by
  exact go.of fun t r => XS.ifnonnullYes w.here w.hx rfl (pc0 := pc) rfl (hb w.by_ hd) rfl ho hq r
theorem Wk.nnN (w : Wk G M R X vm T h k n) {pc q : Nat} {Ls : Array Slot} {st : List Value} {o : Int} (hd : decode M.code pc = .ok (.ifnonnull o, 3)) (hq : pc + 3 = q) (go : Go G R X Q (T.setTop (mkF X.m q Ls st))) : Go G R X Q (T.setTop (mkF X.m pc Ls (.null :: st))) := by
  subst hq
  exact go.of fun t r => XS.ifnonnullNo w.here w.hx rfl (hb w.by_ hd) rfl r
theorem Wk.acY (w : Wk G M R X vm T h k n) {pc q : Nat} {Ls : Array Slot} {st : List Value} {cd : ClassFile.ACond} {x y : Value} {o : Int} (hd : decode M.code pc = .ok (.if_acmp cd o, 3)) (hx : x.isRef = true) (hy : y.isRef = true) (hc : Jvm.Free.XT.acmp cd x y = true) (ho : 0 ≤ (pc : Int) + o) (hq : ((pc : Int) + o).toNat = q) (go : Go G R X Q (T.setTop (mkF X.m q Ls st))) : Go G R X Q (T.setTop (mkF X.m pc Ls (y :: x :: st))) := by
  exact go.of fun t r => XT.acmpYes w.here w.hx rfl (pc0 := pc) rfl (hb w.by_ hd) rfl hx hy hc ho hq r
theorem Wk.acN (w : Wk G M R X vm T h k n) {pc q : Nat} {Ls : Array Slot} {st : List Value} {cd : ClassFile.ACond} {x y : Value} {o : Int} (hd : decode M.code pc = .ok (.if_acmp cd o, 3)) (hx : x.isRef = true) (hy : y.isRef = true) (hc : Jvm.Free.XT.acmp cd x y = false) (hq : pc + 3 = q) (go : Go G R X Q (T.setTop (mkF X.m q Ls st))) : Go G R X Q (T.setTop (mkF X.m pc Ls (y :: x :: st))) := by
  subst hq
  exact go.of fun t r => XT.acmpNo w.here w.hx rfl (hb w.by_ hd) rfl hx hy hc r
theorem xrfl (h : Heap) : Ext h h := ⟨Nat.le_refl _, fun _ _ q => q⟩
theorem xtr {h h' h2 : Heap} (A : Ext h h') (B : Ext h' h2) : Ext h h2 := ⟨Nat.le_trans A.1 B.1, fun a c q => B.2 a c (A.2 a c q)⟩
theorem xkp {h0 h h' : Heap} {ws : List Addr} (E : Ext h0 h) (K : Keep h h' ws) (q : ∀ x ∈ ws, h0.size ≤ x) : Ext h0 h' := ⟨Nat.le_trans E.1 K.1, fun a c r => K.2.1 a c (E.2 a c r) fun z => absurd (Array.getElem?_eq_some_iff.mp r).1 (Nat.not_lt.mpr (q a z))⟩
theorem xkeep {h h' : Heap} (E : Ext h h') : Keep h h' [] := (Keep.refl h []).ext E
theorem sta_uniq {Z : State} {h : Heap} {C n d : String} {a b : Addr} (F : Sta Z h C n d (.ref a)) (E : Sta Z h C n d (.ref b)) : a = b := by
  obtain ⟨cf, i, k, f, st, cell, h1, h2, h3, h4, h5, h6, h7⟩ := F
  obtain ⟨cf', i', k', f', st', cell', g1, g2, g3, g4, g5, g6, g7⟩ := E
  cases h1.symm.trans g1
  cases h4.symm.trans g4
  cases h5.symm.trans g5
  cases h7.symm.trans g7
  rfl
theorem nin1 {x y : Nat} (q : x ≠ y) : x ∉ ([y] : List Addr) := fun z => q (List.mem_singleton.mp z)
theorem all1 {P : Addr → Prop} {a : Addr} (q : P a) : ∀ x ∈ [a], P x := fun x hx => by cases List.mem_singleton.mp hx; exact q
theorem Wk.sfE (w : Wk G M R X vm T h k n) {a : Addr} {C : String} (E : Exa G.Z h a C) (h1 : C ≠ "java/lang/String") (h2 : C ≠ "[B") : G.wd = true → Safe G.Z G.EL vm h a := fun _ => Safe.exa w.wz.alike E h1 h2
theorem Wk.sfA (w : Wk G M R X vm T h k n) {a : Addr} {kc : ClassId} {ty : FieldType} {N : Int32} {vs : List Value} {dv : Value} (A : Arv G.Z h a kc ty N vs dv) (ht : ty ≠ .byte) : G.wd = true → Safe G.Z G.EL vm h a := fun _ => Safe.arv w.wz.alike A ht
theorem Wk.sfN (w : Wk G M R X vm T h k n) {a : Addr} (q : h.size ≤ a) : G.wd = true → Safe G.Z G.EL vm h a := fun _ => Safe.new q
theorem blank_safe {Z : State} {EL : List (String × Nat)} {vm : Vm} {h : Heap} {x : Addr} (hal : Z.vm.Alike vm) (E : Exa Z h x "java/lang/String") (V : Fld Z h x "java/lang/String" "value" "[B" .null) : Safe Z EL vm h x := fun B => by
  obtain ⟨cell, kx, e1, e2, e3, e4, e5⟩ := E
  obtain ⟨cellV, cf, kf, i, f, v1, v2, v3, v4, v5, v6, v7⟩ := V
  cases e1.symm.trans v1
  obtain ⟨p, -, u, a, -, q, -, F, hy⟩ := B
  obtain ⟨cS, ⟨⟨s1, s2, s3, ⟨cv, kv, iv, s4, s4'⟩, -, s6, s7, s8, s9, s10, s11, -⟩, hfS, hcS⟩, -, hB, -⟩ := F
  rcases hy with rfl | rfl
  · cases e1.symm.trans (show h[q.sa]? = some q.sC from s1)
    obtain ⟨kz, z4⟩ := ff_back (U := Wst Z vm h) hal s4
    have := v2.symm.trans z4
    simp only [Option.some.injEq, Prod.mk.injEq] at this
    rw [this.2.2.2] at v7
    rw [s8] at v7
    cases v7
  · cases e1.symm.trans (show h[q.sd]? = some q.SA from s10)
    obtain ⟨-, k9, hk9, comp, hkind⟩ := s11
    have hB' : vm.findClass "[B" = some q.SA.cls := hB
    rw [hal.findClass] at hB'
    obtain ⟨k1, a1, a2⟩ := Vm.findClass_spec hB'
    obtain ⟨k2, b1, b2⟩ := Vm.findClass_spec e2
    cases a1.symm.trans b1
    rw [a2] at b2
    exact absurd b2 (by decide)
theorem Wk.sfB (w : Wk G M R X vm T h k n) {a : Addr} (E : Exa G.Z h a "java/lang/String") (V : Fld G.Z h a "java/lang/String" "value" "[B" .null) : G.wd = true → Safe G.Z G.EL vm h a := fun _ => blank_safe w.wz.alike E V
theorem Wk.newO (w : Wk G M R X vm T h k n) {pc q : Nat} {Ls : Array Slot} {st : List Value} {C : String} {index sz : Nat} (hd : decode M.code pc = .ok (.new index, 3)) (w1 : (Jvm.Cond.classLink M.own index C).before G.a0 G.Z = true) (w2 : (Jvm.Cond.instantiable C sz).before G.a0 G.Z = true) (w3 : (Jvm.Cond.initialized C).before G.a0 G.Z = true) (hc : k + 1 ≤ R.cells) (hl : n + sz ≤ R.slots) (hq : pc + 3 = q)
    (go : ∀ (T' : State) (h' : Heap) (b : Nat), b = h.size → Wk G M R X vm T' h' (k + 1) (n + sz) → Ext h h' → Exa G.Z h' b C → (∀ {O nm d : String} {ty : FieldType}, Laid G.Z G.a0 C O nm d → parseFieldDescriptor d = some ty → Fld G.Z h' b O nm d (defaultValue ty)) → Unt h' b → Go G R X Q (T'.setTop (mkF X.m q Ls (.ref b :: st)))) : Go G R X Q (T.setTop (mkF X.m pc Ls st)) := by
  subst hq
  obtain ⟨fx, k0, L, S, eh, hS, hk, hZ, hown, hF, ho, hch, hnw⟩ := w
  obtain ⟨T', h', X', e', E, A, D, U, st'⟩ := Jvm.RoadKit.newO S fx.1 hZ hown w1 w2 w3 eh (g := mkF X.m pc Ls st) rfl (hb fx.2.1 hd) hc hl
  exact (go T' h' h.size rfl ⟨fx, k0, L, X', e', hS, Nat.le_trans hk E.1, hZ, hown, hF, ho.ext E, fun b => (hch b).trans (CHr.ext E (hch b).1), hnw⟩ E A D U).of st'
theorem Wk.newP (w : Wk G M R X vm T h k n) {pc q : Nat} {Ls : Array Slot} {st : List Value} {aty : ArrayType} {N : Int32} (cap : Nat) (hd : decode M.code pc = .ok (.newarray aty, 2)) (w1 : (Jvm.Cond.arrayClass (newarray.typeOf aty)).before G.a0 G.Z = true) (hN : ¬ N < 0) (hcap : N.toNatClampNeg ≤ cap) (hb8 : cap * 8 ≤ 536870912) (hc : k + 1 ≤ R.cells) (hl : n + cap ≤ R.slots) (hq : pc + 2 = q)
    (go : ∀ (T' : State) (h' : Heap) (b : Nat) (kc : ClassId), b = h.size → Wk G M R X vm T' h' (k + 1) (n + cap) → Ext h h' → Arv G.Z h' b kc (newarray.typeOf aty) N [] (defaultValue (newarray.typeOf aty)) → Go G R X Q (T'.setTop (mkF X.m q Ls (.ref b :: st)))) : Go G R X Q (T.setTop (mkF X.m pc Ls (.int N :: st))) := by
  subst hq
  obtain ⟨fx, k0, L, S, eh, hS, hk, hZ, hown, hF, ho, hch, hnw⟩ := w
  obtain ⟨T', h', kc, X', e', E, A, st'⟩ := Jvm.RoadKit.newP S fx.1 hZ w1 eh (g := mkF X.m pc Ls (.int N :: st)) rfl (hb fx.2.1 hd) rfl hN (cap := cap) hcap hb8 hc hl
  exact (go T' h' h.size kc rfl ⟨fx, k0, L, X', e', hS, Nat.le_trans hk E.1, hZ, hown, hF, ho.ext E, fun b => (hch b).trans (CHr.ext E (hch b).1), hnw⟩ E (Arv.new A hN)).of st'
theorem Wk.newR (w : Wk G M R X vm T h k n) {pc q : Nat} {Ls : Array Slot} {st : List Value} {C : String} {index : Nat} {N : Int32} (cap : Nat) (hd : decode M.code pc = .ok (.anewarray index, 3)) (w1 : (Jvm.Cond.classLink M.own index C).before G.a0 G.Z = true) (w2 : (Jvm.Cond.arrayOver (.object C)).before G.a0 G.Z = true) (hN : ¬ N < 0) (hcap : N.toNatClampNeg ≤ cap) (hb8 : cap * 8 ≤ 536870912) (hc : k + 1 ≤ R.cells) (hl : n + cap ≤ R.slots) (hq : pc + 3 = q)
    (go : ∀ (T' : State) (h' : Heap) (b : Nat) (kc : ClassId), b = h.size → Wk G M R X vm T' h' (k + 1) (n + cap) → Ext h h' → Arv G.Z h' b kc (.object C) N [] .null → Ovr G.Z kc C → Go G R X Q (T'.setTop (mkF X.m q Ls (.ref b :: st)))) : Go G R X Q (T.setTop (mkF X.m pc Ls (.int N :: st))) := by
  subst hq
  obtain ⟨fx, k0, L, S, eh, hS, hk, hZ, hown, hF, ho, hch, hnw⟩ := w
  obtain ⟨T', h', kc, X', e', E, A, O, st'⟩ := Jvm.RoadKit.newR S fx.1 hZ hown w1 w2 eh (g := mkF X.m pc Ls (.int N :: st)) rfl (hb fx.2.1 hd) rfl hN (cap := cap) hcap hb8 hc hl
  exact (go T' h' h.size kc rfl ⟨fx, k0, L, X', e', hS, Nat.le_trans hk E.1, hZ, hown, hF, ho.ext E, fun b => (hch b).trans (CHr.ext E (hch b).1), hnw⟩ E (Arv.new A hN) O).of st'
theorem Wk.castore (w : Wk G M R X vm T h k n) {pc q : Nat} {Ls : Array Slot} {st : List Value} {b : Addr} {kc : ClassId} {N j x : Int32} {vs : List Value} {dv : Value} (i : Nat) (hd : decode M.code pc = .ok (.castore, 1)) (A : Arv G.Z h b kc .char N vs dv) (h0 : G.n0 ≤ b) (hj : ¬ j < 0 ∧ j < N) (hi : j.toNatClampNeg = i) (hlen : i < vs.length) (hq : pc + 1 = q)
    (go : ∀ (T' : State) (h' : Heap), Wk G M R X vm T' h' k n → Keep h h' [b] → Arv G.Z h' b kc .char N (vs.set i (.int (nar .char x))) dv → Go G R X Q (T'.setTop (mkF X.m q Ls st))) : Go G R X Q (T.setTop (mkF X.m pc Ls (.int x :: .int j :: .ref b :: st))) := by
  subst hq
  have sf := w.sfA A (by decide)
  obtain ⟨fx, k0, L, S, eh, hS, hk, hZ, hown, hF, ho, hch, hnw⟩ := w
  obtain ⟨cl, Ar, r1, r2, r3, H, Gf⟩ := A
  obtain ⟨T', h', X', e', W, st'⟩ := Jvm.RoadKit.stC S fx.1 hZ eh Ar (j := j) (x := x) (inb_of r2 hj) (g := mkF X.m pc Ls (.int x :: .int j :: .ref b :: st)) rfl rfl (hb fx.2.1 hd)
  have K := Keep.of_wr W
  exact (go T' h' ⟨fx, k0, _, X', e', hS, Nat.le_trans hk K.1, hZ, hown, Fr.snoc X' hF h0, ho.wr W h0, fun b' => (hch b').trans (CHr.wr W (sf b') (hch b').1), hnw⟩ K (Arv.set Ar r1 r2 r3 H Gf (fits_nar_char _) W i hi hlen)).of st'
theorem Wk.iastore (w : Wk G M R X vm T h k n) {pc q : Nat} {Ls : Array Slot} {st : List Value} {b : Addr} {kc : ClassId} {N j x : Int32} {vs : List Value} {dv : Value} (i : Nat) (hd : decode M.code pc = .ok (.iastore, 1)) (A : Arv G.Z h b kc .int N vs dv) (h0 : G.n0 ≤ b) (hj : ¬ j < 0 ∧ j < N) (hi : j.toNatClampNeg = i) (hlen : i < vs.length) (hq : pc + 1 = q)
    (go : ∀ (T' : State) (h' : Heap), Wk G M R X vm T' h' k n → Keep h h' [b] → Arv G.Z h' b kc .int N (vs.set i (.int x)) dv → Go G R X Q (T'.setTop (mkF X.m q Ls st))) : Go G R X Q (T.setTop (mkF X.m pc Ls (.int x :: .int j :: .ref b :: st))) := by
  subst hq
  have sf := w.sfA A (by decide)
  obtain ⟨fx, k0, L, S, eh, hS, hk, hZ, hown, hF, ho, hch, hnw⟩ := w
  obtain ⟨cl, Ar, r1, r2, r3, H, Gf⟩ := A
  obtain ⟨T', h', X', e', W, st'⟩ := Jvm.RoadKit.stI S fx.1 hZ eh Ar (j := j) (x := x) (inb_of r2 hj) (g := mkF X.m pc Ls (.int x :: .int j :: .ref b :: st)) rfl rfl (hb fx.2.1 hd)
  have K := Keep.of_wr W
  exact (go T' h' ⟨fx, k0, _, X', e', hS, Nat.le_trans hk K.1, hZ, hown, Fr.snoc X' hF h0, ho.wr W h0, fun b' => (hch b').trans (CHr.wr W (sf b') (hch b').1), hnw⟩ K (Arv.set Ar r1 r2 r3 H Gf rfl W i hi hlen)).of st'
theorem Wk.bastore (w : Wk G M R X vm T h k n) {pc q : Nat} {Ls : Array Slot} {st : List Value} {b : Addr} {kc : ClassId} {N j x : Int32} {vs : List Value} {dv : Value} (i : Nat) (hd : decode M.code pc = .ok (.bastore, 1)) (A : Arv G.Z h b kc .byte N vs dv) (h0 : G.n0 ≤ b) (sf : G.wd = true → Safe G.Z G.EL vm h b) (hj : ¬ j < 0 ∧ j < N) (hi : j.toNatClampNeg = i) (hlen : i < vs.length) (hq : pc + 1 = q)
    (go : ∀ (T' : State) (h' : Heap), Wk G M R X vm T' h' k n → Keep h h' [b] → (G.wd = true → Safe G.Z G.EL vm h' b) → Arv G.Z h' b kc .byte N (vs.set i (.int x.toInt8.toInt32)) dv → Go G R X Q (T'.setTop (mkF X.m q Ls st))) : Go G R X Q (T.setTop (mkF X.m pc Ls (.int x :: .int j :: .ref b :: st))) := by
  subst hq
  obtain ⟨fx, k0, L, S, eh, hS, hk, hZ, hown, hF, ho, hch, hnw⟩ := w
  obtain ⟨cl, Ar, r1, r2, r3, H, Gf⟩ := A
  obtain ⟨T', h', X', e', W, st'⟩ := Jvm.RoadKit.stB S fx.1 hZ eh Ar (j := j) (x := x) (inb_of r2 hj) (g := mkF X.m pc Ls (.int x :: .int j :: .ref b :: st)) rfl rfl (hb fx.2.1 hd)
  have K := Keep.of_wr W
  exact (go T' h' ⟨fx, k0, _, X', e', hS, Nat.le_trans hk K.1, hZ, hown, Fr.snoc X' hF h0, ho.wr W h0, fun b' => (hch b').trans (CHr.wr W (sf b') (hch b').1), hnw⟩ K (fun b' => (CHr.wr W (sf b') (hch b').1).safe Ar.lt (sf b')) (Arv.set Ar r1 r2 r3 H Gf (fits_nar_byte _) W i hi hlen)).of st'
theorem Wk.aastore (w : Wk G M R X vm T h k n) {pc q : Nat} {Ls : Array Slot} {st : List Value} {b : Addr} {kc : ClassId} {ty : FieldType} {N j : Int32} {v : Value} {vs : List Value} {dv : Value} (i : Nat) (hd : decode M.code pc = .ok (.aastore, 1)) (A : Arv G.Z h b kc ty N vs dv) (hty : ty.isReference = true) (F : Sto G.Z h b v) (hv : v.isRef = true) (h0 : G.n0 ≤ b) (hj : ¬ j < 0 ∧ j < N) (hi : j.toNatClampNeg = i) (hlen : i < vs.length) (hq : pc + 1 = q)
    (go : ∀ (T' : State) (h' : Heap), Wk G M R X vm T' h' k n → Keep h h' [b] → Arv G.Z h' b kc ty N (vs.set i v) dv → Go G R X Q (T'.setTop (mkF X.m q Ls st))) : Go G R X Q (T.setTop (mkF X.m pc Ls (v :: .int j :: .ref b :: st))) := by
  subst hq
  have hnb : ty ≠ .byte := fun e => by rw [e] at hty; cases hty
  have sf := w.sfA A hnb
  have hfit : fits ty v = true := by cases ty <;> first | (cases hty; done) | (rcases ref_cases hv with rfl | ⟨_, rfl⟩ <;> rfl)
  obtain ⟨fx, k0, L, S, eh, hS, hk, hZ, hown, hF, ho, hch, hnw⟩ := w
  obtain ⟨cl, Ar, r1, r2, r3, H, Gf⟩ := A
  obtain ⟨T', h', X', e', W, st'⟩ := Jvm.RoadKit.stR S fx.1 hZ eh Ar (j := j) (v := v) (inb_of r2 hj) hty F (g := mkF X.m pc Ls (v :: .int j :: .ref b :: st)) rfl rfl (hb fx.2.1 hd)
  have K := Keep.of_wr W
  exact (go T' h' ⟨fx, k0, _, X', e', hS, Nat.le_trans hk K.1, hZ, hown, Fr.snoc X' hF h0, ho.wr W h0, fun b' => (hch b').trans (CHr.wr W (sf b') (hch b').1), hnw⟩ K (Arv.set Ar r1 r2 r3 H Gf hfit W i hi hlen)).of st'
theorem Wk.getF (w : Wk G M R X vm T h k n) {pc q : Nat} {Ls : Array Slot} {st : List Value} {R0 O f d : String} {index : Nat} {a : Addr} {v : Value} (hd : decode M.code pc = .ok (.getfield index, 3)) (w1 : (Jvm.Cond.fieldLink M.own index R0 f d).before G.a0 G.Z = true) (via : Via G.Z R0 O f d) (F : Fld G.Z h a O f d v) (hq : pc + 3 = q)
    (go : ∀ T' : State, Wk G M R X vm T' h k n → Go G R X Q (T'.setTop (mkF X.m q Ls (v :: st)))) : Go G R X Q (T.setTop (mkF X.m pc Ls (.ref a :: st))) := by
  subst hq
  obtain ⟨fx, k0, L, S, eh, hS, hk, hZ, hown, r⟩ := w
  obtain ⟨T', X', e', st'⟩ := Jvm.RoadKit.getF (host := "") S fx.1 hZ hown (Or.inl w1) via eh F (g := mkF X.m pc Ls (.ref a :: st)) rfl rfl (hb fx.2.1 hd)
  exact (go T' ⟨fx, k0, L, X', e', hS, hk, hZ, hown, r⟩).of st'
theorem Wk.getS (w : Wk G M R X vm T h k n) {pc q : Nat} {Ls : Array Slot} {st : List Value} {R0 O f d : String} {index : Nat} {v : Value} (hd : decode M.code pc = .ok (.getstatic index, 3)) (w1 : (Jvm.Cond.fieldLink M.own index R0 f d).before G.a0 G.Z = true) (via : Via G.Z R0 O f d) (F : Sta G.Z G.Z.heap O f d v) (hq : pc + 3 = q)
    (go : ∀ T' : State, Wk G M R X vm T' h k n → Go G R X Q (T'.setTop (mkF X.m q Ls (v :: st)))) : Go G R X Q (T.setTop (mkF X.m pc Ls st)) := by
  subst hq
  have F' := w.sta F
  obtain ⟨fx, k0, L, S, eh, hS, hk, hZ, hown, r⟩ := w
  obtain ⟨T', X', e', st'⟩ := Jvm.RoadKit.getS (host := "") S fx.1 hZ hown w1 via eh F' (g := mkF X.m pc Ls st) rfl (hb fx.2.1 hd)
  exact (go T' ⟨fx, k0, L, X', e', hS, hk, hZ, hown, r⟩).of st'
theorem Wk.putF (w : Wk G M R X vm T h k n) {pc q : Nat} {Ls : Array Slot} {st : List Value} {R0 O f d C : String} {index kk : Nat} {ty : FieldType} {a : Addr} {v old : Value} (hd : decode M.code pc = .ok (.putfield index, 3)) (w1 : (Jvm.Cond.fieldLink M.own index R0 f d).before G.a0 G.Z = true) (via : Via G.Z R0 O f d) (F : Fld G.Z h a O f d old) (E : Exa G.Z h a C) (hlay : (Jvm.Cond.lays C O f d).before G.a0 G.Z = true ∨ ((Jvm.Cond.laysFinal C O f d).before G.a0 G.Z = true ∧ M.own = O ∧ M.nm = "<init>")) (wi : (Jvm.Cond.instantiable C kk).before G.a0 G.Z = true)
    (hty : parseFieldDescriptor d = some ty) (hn : narrow ty v = v) (hf : fits ty v = true) (h0 : G.n0 ≤ a) (sf : G.wd = true → Safe G.Z G.EL vm h a) (hq : pc + 3 = q)
    (go : ∀ (T' : State) (h' : Heap), Wk G M R X vm T' h' k n → Wr h h' a (Jvm.RoadKit.slotOf G.Z O f d) v → (G.wd = true → Safe G.Z G.EL vm h' a) → Go G R X Q (T'.setTop (mkF X.m q Ls st))) : Go G R X Q (T.setTop (mkF X.m pc Ls (v :: .ref a :: st))) := by
  subst hq
  have hnm := w.hnm
  obtain ⟨fx, k0, L, S, eh, hS, hk, hZ, hown, hF, ho, hch, hnw⟩ := w
  obtain ⟨T', h', X', e', W, st'⟩ := Jvm.RoadKit.putF (host := "") S fx.1 hZ hown (Or.inl w1) via eh F E (hlay.imp id fun z => ⟨z.1, z.2.1, hnm.trans z.2.2⟩) wi hty hn hf (g := mkF X.m pc Ls (v :: .ref a :: st)) rfl rfl (hb fx.2.1 hd)
  have K := Keep.of_wr W
  exact (go T' h' ⟨fx, k0, _, X', e', hS, Nat.le_trans hk K.1, hZ, hown, Fr.snoc X' hF h0, ho.wr W h0, fun b' => (hch b').trans (CHr.wr W (sf b') (hch b').1), hnw⟩ W (fun b' => (CHr.wr W (sf b') (hch b').1).safe F.lt (sf b'))).of st'
theorem Wk.castY (w : Wk G M R X vm T h k n) {pc q : Nat} {Ls : Array Slot} {st : List Value} {K : String} {index : Nat} {a : Addr} (hd : decode M.code pc = .ok (.checkcast index, 3)) (w1 : (Jvm.Cond.classLink M.own index K).before G.a0 G.Z = true) (F : Ins G.Z h a K true) (hq : pc + 3 = q)
    (go : ∀ T' : State, Wk G M R X vm T' h k n → Go G R X Q (T'.setTop (mkF X.m q Ls (.ref a :: st)))) : Go G R X Q (T.setTop (mkF X.m pc Ls (.ref a :: st))) := by
  subst hq
  obtain ⟨fx, k0, L, S, eh, hS, hk, hZ, hown, r⟩ := w
  obtain ⟨T', X', e', st'⟩ := Jvm.RoadKit.castY S fx.1 hZ hown w1 eh F (g := mkF X.m pc Ls (.ref a :: st)) rfl rfl (hb fx.2.1 hd)
  exact (go T' ⟨fx, k0, L, X', e', hS, hk, hZ, hown, r⟩).of st'
theorem Wk.instY (w : Wk G M R X vm T h k n) {pc q : Nat} {Ls : Array Slot} {st : List Value} {K : String} {index : Nat} {a : Addr} (hd : decode M.code pc = .ok (.instanceof index, 3)) (w1 : (Jvm.Cond.classLink M.own index K).before G.a0 G.Z = true) (F : Ins G.Z h a K true) (hq : pc + 3 = q)
    (go : ∀ T' : State, Wk G M R X vm T' h k n → Go G R X Q (T'.setTop (mkF X.m q Ls (.int 1 :: st)))) : Go G R X Q (T.setTop (mkF X.m pc Ls (.ref a :: st))) := by
  subst hq
  obtain ⟨fx, k0, L, S, eh, hS, hk, hZ, hown, r⟩ := w
  obtain ⟨T', X', e', st'⟩ := Jvm.RoadKit.instY S fx.1 hZ hown w1 eh F (g := mkF X.m pc Ls (.ref a :: st)) rfl rfl (hb fx.2.1 hd)
  exact (go T' ⟨fx, k0, L, X', e', hS, hk, hZ, hown, r⟩).of st'
theorem Wk.initO (w : Wk G M R X vm T h k n) {pc q : Nat} {Ls : Array Slot} {st : List Value} {index W : Nat} {a : Addr} (hd : decode M.code pc = .ok (.invokespecial index, 3)) (w1 : (Jvm.Cond.methodLink M.own index Lib.objectInit).before G.a0 G.Z = true) (w2 : (Jvm.Cond.instanceMethod Lib.objectInit).before G.a0 G.Z = true) (w3 : (Jvm.Cond.code Lib.objectInit ⟨#[0xb1]⟩ 1 none).before G.a0 G.Z = true) (hsz : Ls.size = M.mx) (hfr : 1 ≤ R.frames) (hW : (st.map fun v => v.category).sum ≤ W) (hlo : W + 12 ≤ R.locals) (hq : pc + 3 = q)
    (go : ∀ T' : State, Wk G M R X vm T' h k n → Go G R X Q (T'.setTop (mkF X.m q Ls st))) : Go G R X Q (T.setTop (mkF X.m pc Ls (.ref a :: st))) := by
  subst hq
  obtain ⟨fx, k0, L, S, eh, hS, hk, hZ, hown, r⟩ := w
  obtain ⟨T', X', e', st'⟩ := Jvm.RoadKit.initO S fx.1 hZ hown w1 w2 w3 eh (g := mkF X.m pc Ls (.ref a :: st)) rfl (hsz.trans fx.2.2.1.symm) rfl (hb fx.2.1 hd) hfr (W := W) (by show 2 * 0 + _ ≤ _; omega) hlo
  exact (go T' ⟨fx, k0, L, X', e', hS, hk, hZ, hown, r⟩).of st'
theorem Wk.ldcI (w : Wk G M R X vm T h k n) {pc q : Nat} {Ls : Array Slot} {st : List Value} {index : Nat} {v : Int32} (hd : decode M.code pc = .ok (.ldc index, 2)) (w1 : (Jvm.Cond.constant M.own index v).before G.a0 G.Z = true) (hq : pc + 2 = q) (go : Go G R X Q (T.setTop (mkF X.m q Ls (.int v :: st)))) : Go G R X Q (T.setTop (mkF X.m pc Ls st)) := by
  subst hq
  obtain ⟨fx, k0, L, S, eh, hS, hk, hZ, hown, r⟩ := w
  exact go.of fun t z => S.ldcI fx.1 hown (mv (s := X.s.setVm vm) hZ w1) (g := mkF X.m pc Ls st) rfl (hb fx.2.1 hd) z
theorem Wk.ldc2J (w : Wk G M R X vm T h k n) {pc q : Nat} {Ls : Array Slot} {st : List Value} {index : Nat} {v : Int64} (hd : decode M.code pc = .ok (.ldc2_w index, 3)) (w1 : (Jvm.Cond.constantLong M.own index v).before G.a0 G.Z = true) (hq : pc + 3 = q) (go : Go G R X Q (T.setTop (mkF X.m q Ls (.long v :: st)))) : Go G R X Q (T.setTop (mkF X.m pc Ls st)) := by
  subst hq
  obtain ⟨fx, k0, L, S, eh, hS, hk, hZ, hown, r⟩ := w
  exact go.of fun t z => S.ldc2J fx.1 hown (mv (s := X.s.setVm vm) hZ w1) (g := mkF X.m pc Ls st) rfl (hb fx.2.1 hd) z
theorem Wk.alen (w : Wk G M R X vm T h k n) {pc q : Nat} {Ls : Array Slot} {st : List Value} {b : Addr} {kc : ClassId} {ty : FieldType} {N : Int32} {vs : List Value} {dv : Value} (hd : decode M.code pc = .ok (.arraylength, 1)) (A : Arv G.Z h b kc ty N vs dv) (hq : pc + 1 = q) (go : Go G R X Q (T.setTop (mkF X.m q Ls (.int N :: st)))) : Go G R X Q (T.setTop (mkF X.m pc Ls (.ref b :: st))) := by
  subst hq
  obtain ⟨fx, k0, L, S, eh, hS, hk, hZ, hown, r⟩ := w
  obtain ⟨cl, Ar, r1, r2, r3, H, Gf⟩ := A
  refine go.of fun t z => S.arraylength fx.1 (by rw [eh]; exact Ar.1) (State.isArrayOf_alike hZ.alike Ar.2.1) (g := mkF X.m pc Ls (.ref b :: st)) rfl rfl (hb fx.2.1 hd) _ ?_
  rw [len_of r2 r3]; exact z
theorem Wk.aaload (w : Wk G M R X vm T h k n) {pc q : Nat} {Ls : Array Slot} {st : List Value} {b : Addr} {kc : ClassId} {ty : FieldType} {N j : Int32} {v : Value} {vs : List Value} {dv : Value} (hd : decode M.code pc = .ok (.aaload, 1)) (A : Arv G.Z h b kc ty N vs dv) (hty : ty.isReference = true) (hj : ¬ j < 0 ∧ j < N) (hv : vs.getD j.toNatClampNeg dv = v) (hq : pc + 1 = q) (go : Go G R X Q (T.setTop (mkF X.m q Ls (v :: st)))) : Go G R X Q (T.setTop (mkF X.m pc Ls (.int j :: .ref b :: st))) := by
  subst hq
  obtain ⟨fx, k0, L, S, eh, hS, hk, hZ, hown, r⟩ := w
  obtain ⟨cl, Ar, r1, r2, r3, H, Gf⟩ := A
  exact go.of fun t z => S.aaload fx.1 (j := j) (v := v) (by rw [eh]; exact Ar.1) (State.isArrayOf_alike hZ.alike Ar.2.1) hty Ar.2.2 (inb_of r2 hj) (H.at (inb_of r2 hj) hv) (g := mkF X.m pc Ls (.int j :: .ref b :: st)) rfl rfl (hb fx.2.1 hd) _ z
theorem Wk.caload (w : Wk G M R X vm T h k n) {pc q : Nat} {Ls : Array Slot} {st : List Value} {b : Addr} {kc : ClassId} {N j x : Int32} {vs : List Value} {dv : Value} (hd : decode M.code pc = .ok (.caload, 1)) (A : Arv G.Z h b kc .char N vs dv) (hj : ¬ j < 0 ∧ j < N) (hv : vs.getD j.toNatClampNeg dv = .int x) (hq : pc + 1 = q) (go : Go G R X Q (T.setTop (mkF X.m q Ls (.int x :: st)))) : Go G R X Q (T.setTop (mkF X.m pc Ls (.int j :: .ref b :: st))) := by
  subst hq
  obtain ⟨fx, k0, L, S, eh, hS, hk, hZ, hown, r⟩ := w
  obtain ⟨cl, Ar, r1, r2, r3, H, Gf⟩ := A
  exact go.of fun t z => S.caload fx.1 (j := j) (v := .int x) (by rw [eh]; exact Ar.1) (State.isArrayOf_alike hZ.alike Ar.2.1) Ar.2.2 (inb_of r2 hj) (H.at (inb_of r2 hj) hv) (g := mkF X.m pc Ls (.int j :: .ref b :: st)) rfl rfl (hb fx.2.1 hd) _ z
theorem Wk.baload (w : Wk G M R X vm T h k n) {pc q : Nat} {Ls : Array Slot} {st : List Value} {b : Addr} {kc : ClassId} {N j x : Int32} {vs : List Value} {dv : Value} (hd : decode M.code pc = .ok (.baload, 1)) (A : Arv G.Z h b kc .byte N vs dv) (hj : ¬ j < 0 ∧ j < N) (hv : vs.getD j.toNatClampNeg dv = .int x) (hq : pc + 1 = q) (go : Go G R X Q (T.setTop (mkF X.m q Ls (.int x :: st)))) : Go G R X Q (T.setTop (mkF X.m pc Ls (.int j :: .ref b :: st))) := by
  subst hq
  obtain ⟨fx, k0, L, S, eh, hS, hk, hZ, hown, r⟩ := w
  obtain ⟨cl, Ar, r1, r2, r3, H, Gf⟩ := A
  exact go.of fun t z => S.baloadBytes fx.1 (j := j) (v := .int x) (by rw [eh]; exact Ar.1) (State.isArrayOf_alike hZ.alike Ar.2.1) Ar.2.2 (inb_of r2 hj) (H.at (inb_of r2 hj) hv) (g := mkF X.m pc Ls (.int j :: .ref b :: st)) rfl rfl (hb fx.2.1 hd) _ z
theorem arv_sto {Z : State} {h : Heap} {b y : Addr} {kc : ClassId} {ty : FieldType} {N : Int32} {vs : List Value} {dv : Value} {C : String} (A : Arv Z h b kc ty N vs dv) (O : Ovr Z kc C) (I : Ins Z h y C true) : Sto Z h b (.ref y) := by
  obtain ⟨c, Ar, r1, -⟩ := A; exact Sto.ofV Ar r1 O I
def PayN (G : Gx) (R : Room) (X : Cx) (y : MethodName) (len W : Nat) (as : Array Value) (h : Heap) (k1 n1 : Nat) (Q1 : Option Value → Heap → Prop) (vm : Vm) : Prop :=
  Back G.l R X.p X.e X.below (X.s.setVm vm) X.args y len W (fun P a => a = as ∧ P.U.heap = h ∧ P.cells + k1 ≤ R.cells ∧ P.slots + n1 ≤ R.slots)
    (fun P _ v B => ∃ L, (Q1 v B.U.heap ∧ Fr G.n0 L ∧ Old G.Z G.n0 B.U.heap ∧ h.size ≤ B.U.heap.size ∧ (G.wd = true → CHr G.Z G.EL vm h vm B.U.heap)) ∧ B.locs = P.locs ++ L ∧ B.cells = P.cells + k1 ∧ B.slots = P.slots + n1)
def PayW (G : Gx) (R : Room) (X : Cx) (y : MethodName) (len W : Nat) (as : Array Value) (h : Heap) (k1 n1 : Nat) (Q1 : Option Value → Heap → Prop) (vm : Vm) : Prop :=
  G.wd = true ∧ BackS G.l R X.p X.e X.below (X.s.setVm vm) X.args y len W (fun P a => a = as ∧ P.U.heap = h ∧ P.cells + k1 ≤ R.cells ∧ P.slots + n1 ≤ R.slots)
    (fun P _ v B => ∃ L, (Q1 v B.U.heap ∧ Fr G.n0 L ∧ Old G.Z G.n0 B.U.heap ∧ (G.wd = true → CHr G.Z G.EL vm h B.U.vm B.U.heap)) ∧ B.locs = P.locs ++ L ∧ B.cells = P.cells + k1 ∧ B.slots = P.slots + n1)
def Pay (G : Gx) (R : Room) (X : Cx) (y : MethodName) (len W : Nat) (as : Array Value) (h : Heap) (k1 n1 : Nat) (Q1 : Option Value → Heap → Prop) (vm : Vm) : Prop := PayN G R X y len W as h k1 n1 Q1 vm ∨ PayW G R X y len W as h k1 n1 Q1 vm
theorem finN {k0 k1 n1 : Nat} {L : List Loc} {Q1 : Option Value → Heap → Prop} (fx : Fix G M X) (hS : X.s.Since vm k0) (hk : k0 ≤ h.size) (hZ : G.Z.Warmed39 vm) (hown : vm.findClass M.own = some X.m.cls) (hF : Fr G.n0 L) (hch : G.wd = true → CHr G.Z G.EL X.s.vm X.s.heap vm h) (hnw : G.wd = false → vm = X.s.vm)
    {v : Option Value} {B : Pt} (X' : Stand X.p G.l X.e R (X.s.setVm vm) X.m X.args X.below X.meth X.c B.U B.locs B.cells B.slots) (post : ∃ L', (Q1 v B.U.heap ∧ Fr G.n0 L' ∧ Old G.Z G.n0 B.U.heap ∧ h.size ≤ B.U.heap.size ∧ (G.wd = true → CHr G.Z G.EL vm h vm B.U.heap)) ∧ B.locs = L ++ L' ∧ B.cells = k + k1 ∧ B.slots = n + n1) :
    Wk G M R X vm B.U B.U.heap (k + k1) (n + n1) ∧ Q1 v B.U.heap := by
  obtain ⟨U, Lb, c, s⟩ := B
  obtain ⟨L', ⟨q1, q2, q3, q4, q5⟩, h1, h2, h3⟩ := post
  dsimp only [Pt.U, Pt.locs, Pt.cells, Pt.slots] at *
  subst h1 h2 h3
  exact ⟨⟨fx, k0, _, X', rfl, hS, Nat.le_trans hk q4, hZ, hown, Fr.app hF q2, q3, fun b => (hch b).trans (q5 b), hnw⟩, q1⟩
theorem finW {k0 k1 n1 : Nat} {L : List Loc} {Q1 : Option Value → Heap → Prop} (hwd : G.wd = true) (fx : Fix G M X) (hS : X.s.Since vm k0) (hk : k0 ≤ h.size) (hZ : G.Z.Warmed39 vm) (hown : vm.findClass M.own = some X.m.cls) (hF : Fr G.n0 L) (hch : G.wd = true → CHr G.Z G.EL X.s.vm X.s.heap vm h)
    {v : Option Value} {B : Pt} (X' : Stand X.p G.l X.e R ((X.s.setVm vm).setVm B.U.vm) X.m X.args X.below X.meth X.c B.U B.locs B.cells B.slots) (hS' : (X.s.setVm vm).Since B.U.vm B.U.heap.size) (hgr : h.size ≤ B.U.heap.size) (post : ∃ L', (Q1 v B.U.heap ∧ Fr G.n0 L' ∧ Old G.Z G.n0 B.U.heap ∧ (G.wd = true → CHr G.Z G.EL vm h B.U.vm B.U.heap)) ∧ B.locs = L ++ L' ∧ B.cells = k + k1 ∧ B.slots = n + n1) :
    Wk G M R X B.U.vm B.U B.U.heap (k + k1) (n + n1) ∧ Q1 v B.U.heap := by
  obtain ⟨U, Lb, c, s⟩ := B
  obtain ⟨L', ⟨q1, q2, q3, q5⟩, h1, h2, h3⟩ := post
  dsimp only [Pt.U, Pt.locs, Pt.cells, Pt.slots] at *
  subst h1 h2 h3
  exact ⟨⟨fx, U.heap.size, _, X', rfl, hS.trans hS' (Nat.le_trans hk hgr), Nat.le_refl _, State.Warmed39.trans (t := X.s.setVm vm) hZ hS'.1, by rw [hS'.1.alike.findClass]; exact hown, Fr.app hF q2, q3, fun b => (hch b).trans (q5 b), fun z => absurd (z.symm.trans hwd) (by decide)⟩, q1⟩
theorem Wk.callS (w : Wk G M R X vm T h k n) {pc q : Nat} {Ls : Array Slot} {st : List Value} {y : MethodName} {bytes : ByteArray} {maxL : Nat} {ret : Option FieldType} {index W k1 n1 : Nat} {argsL rest : List Value} {Q1 : Option Value → Heap → Prop} (hd : decode M.code pc = .ok (.invokestatic index, 3)) (w1 : (Jvm.Cond.methodLink M.own index y).before G.a0 G.Z = true) (w2 : (Jvm.Cond.static y).before G.a0 G.Z = true) (w3 : (Jvm.Cond.initialized y.cls).before G.a0 G.Z = true) (w4 : (Jvm.Cond.code y bytes maxL ret).before G.a0 G.Z = true) (hy : y.cls ≠ "java/lang/invoke/MethodHandle" ∧ y.cls ≠ "java/lang/invoke/VarHandle")
    (hst : st = argsL.reverse ++ rest) (hlen : ∀ sig, parseMethodDescriptor y.desc = some sig → argsL.length = sig.parameters.length) (hsz : Ls.size = M.mx) (hW : (rest.map fun v => v.category).sum ≤ W) (pay : Pay G R X y 3 W argsL.toArray h k1 n1 Q1 vm) (hc : k + k1 ≤ R.cells) (hl : n + n1 ≤ R.slots) (hq : pc + 3 = q)
    (go : ∀ (vm' : Vm) (T' : State) (h' : Heap) (v : Option Value), Wk G M R X vm' T' h' (k + k1) (n + n1) → Q1 v h' → Go G R X Q (T'.setTop (mkF X.m q Ls (v.toList ++ rest)))) : Go G R X Q (T.setTop (mkF X.m pc Ls st)) := by
  subst hst hq
  obtain ⟨fx, k0, L, S, eh, hS, hk, hZ, hown, hF, ho, hch, hnw⟩ := w
  rcases pay with pay | ⟨hwd, pay⟩
  · obtain ⟨v, vm₁, B, -, X', post, st'⟩ := Jvm.LawKit.callS S fx.1 hown (mv (s := X.s.setVm vm) hZ w1) (mv (s := X.s.setVm vm) hZ w2) (mv (s := X.s.setVm vm) hZ w3) (mv (s := X.s.setVm vm) hZ w4) hy pay (g := mkF X.m pc Ls (argsL.reverse ++ rest)) rfl (hsz.trans fx.2.2.1.symm) hlen rfl (by show 2 * 0 + _ ≤ _; omega) (hb fx.2.1 hd) (fun _ _ => ⟨rfl, eh, hc, hl⟩)
    obtain ⟨w2, q1⟩ := finN fx hS hk hZ hown hF hch hnw X' post
    exact (go _ _ _ v w2 q1).of st'
  · obtain ⟨v, vm₁, B, -, X', hS', hgr, post, st'⟩ := Jvm.RoadKit.callSS S fx.1 hown (mv (s := X.s.setVm vm) hZ w1) (mv (s := X.s.setVm vm) hZ w2) (mv (s := X.s.setVm vm) hZ w3) (mv (s := X.s.setVm vm) hZ w4) hy pay (g := mkF X.m pc Ls (argsL.reverse ++ rest)) rfl (hsz.trans fx.2.2.1.symm) hlen rfl (by show 2 * 0 + _ ≤ _; omega) (hb fx.2.1 hd) (fun _ _ => ⟨rfl, eh, hc, hl⟩)
    obtain ⟨w2, q1⟩ := finW hwd fx hS hk hZ hown hF hch X' hS' (by rw [← eh]; exact hgr) post
    exact (go _ _ _ v w2 q1).of fun t z => st'.trans z
theorem Wk.callC (w : Wk G M R X vm T h k n) {pc q : Nat} {Ls : Array Slot} {st : List Value} {y : MethodName} {bytes : ByteArray} {maxL : Nat} {index W k1 n1 : Nat} {a : Addr} {argsL rest : List Value} {Q1 : Option Value → Heap → Prop} (hd : decode M.code pc = .ok (.invokespecial index, 3)) (hy1 : y.name = "<init>") (w1 : (Jvm.Cond.methodLink M.own index y).before G.a0 G.Z = true) (w2 : (Jvm.Cond.instanceMethod y).before G.a0 G.Z = true) (w4 : (Jvm.Cond.code y bytes maxL none).before G.a0 G.Z = true) (hy : y.cls ≠ "java/lang/invoke/MethodHandle" ∧ y.cls ≠ "java/lang/invoke/VarHandle")
    (hst : st = argsL.reverse ++ .ref a :: rest) (hlen : ∀ sig, parseMethodDescriptor y.desc = some sig → argsL.length = sig.parameters.length) (hsz : Ls.size = M.mx) (hW : (rest.map fun v => v.category).sum ≤ W) (pay : Pay G R X y 3 W (.ref a :: argsL).toArray h k1 n1 Q1 vm) (hc : k + k1 ≤ R.cells) (hl : n + n1 ≤ R.slots) (hq : pc + 3 = q)
    (go : ∀ (vm' : Vm) (T' : State) (h' : Heap) (v : Option Value), Wk G M R X vm' T' h' (k + k1) (n + n1) → Q1 v h' → Go G R X Q (T'.setTop (mkF X.m q Ls (v.toList ++ rest)))) : Go G R X Q (T.setTop (mkF X.m pc Ls st)) := by
  subst hst hq
  obtain ⟨fx, k0, L, S, eh, hS, hk, hZ, hown, hF, ho, hch, hnw⟩ := w
  rcases pay with pay | ⟨hwd, pay⟩
  · obtain ⟨v, vm₁, B, -, X', post, st'⟩ := S.specialBack fx.1 hy1 hown (mv (s := X.s.setVm vm) hZ w1) (mv (s := X.s.setVm vm) hZ w2) (mv (s := X.s.setVm vm) hZ w4) hy pay (g := mkF X.m pc Ls (argsL.reverse ++ .ref a :: rest)) rfl (hsz.trans fx.2.2.1.symm) (Steps.refl _) (a := a) hlen rfl (by show 2 * 0 + _ ≤ _; omega) (hb fx.2.1 hd) (fun _ _ => ⟨rfl, eh, hc, hl⟩)
    obtain ⟨w2, q1⟩ := finN fx hS hk hZ hown hF hch hnw X' post
    exact (go _ _ _ v w2 q1).of fun t z => st'.trans z
  · obtain ⟨v, vm₁, B, -, X', hS', hgr, post, st'⟩ := S.specialBackS fx.1 hy1 hown (mv (s := X.s.setVm vm) hZ w1) (mv (s := X.s.setVm vm) hZ w2) (mv (s := X.s.setVm vm) hZ w4) hy pay (g := mkF X.m pc Ls (argsL.reverse ++ .ref a :: rest)) rfl (hsz.trans fx.2.2.1.symm) (Steps.refl _) (a := a) hlen rfl (by show 2 * 0 + _ ≤ _; omega) (hb fx.2.1 hd) (fun _ _ => ⟨rfl, eh, hc, hl⟩)
    obtain ⟨w2, q1⟩ := finW hwd fx hS hk hZ hown hF hch X' hS' (by rw [← eh]; exact hgr) post
    exact (go _ _ _ v w2 q1).of fun t z => st'.trans z
theorem Wk.callV (w : Wk G M R X vm T h k n) {pc q : Nat} {Ls : Array Slot} {st : List Value} {C : String} {y z : MethodName} {index W k1 n1 : Nat} {a : Addr} {argsL rest : List Value} {Q1 : Option Value → Heap → Prop} (hd : decode M.code pc = .ok (.invokevirtual index, 3)) (w1 : (Jvm.Cond.methodLink M.own index y).before G.a0 G.Z = true) (w2 : (Jvm.Cond.declares y).before G.a0 G.Z = true) (hnf : NotFace G.Z y) (w3 : (Jvm.Cond.selects C y z).before G.a0 G.Z = true) (w4 : (Jvm.Cond.instanceMethod z).before G.a0 G.Z = true) (hy : y.cls ≠ "java/lang/invoke/MethodHandle" ∧ y.cls ≠ "java/lang/invoke/VarHandle") (E : Exa G.Z h a C)
    (hst : st = argsL.reverse ++ .ref a :: rest) (hlen : ∀ sig, parseMethodDescriptor y.desc = some sig → argsL.length = sig.parameters.length) (hsz : Ls.size = M.mx) (hW : (rest.map fun v => v.category).sum ≤ W) (pay : Pay G R X z 3 W (.ref a :: argsL).toArray h k1 n1 Q1 vm) (hc : k + k1 ≤ R.cells) (hl : n + n1 ≤ R.slots) (hq : pc + 3 = q)
    (go : ∀ (vm' : Vm) (T' : State) (h' : Heap) (v : Option Value), Wk G M R X vm' T' h' (k + k1) (n + n1) → Q1 v h' → Go G R X Q (T'.setTop (mkF X.m q Ls (v.toList ++ rest)))) : Go G R X Q (T.setTop (mkF X.m pc Ls st)) := by
  subst hst hq
  obtain ⟨fx, k0, L, S, eh, hS, hk, hZ, hown, hF, ho, hch, hnw⟩ := w
  have hnf' : NotFace (X.s.setVm vm) y := fun r0 h0 => by
    have q0 : G.Z.methodNamed? y = some r0 := by
      have := State.methodNamed?_setVm (s := G.Z) (vm' := vm) hZ.alike (x := y)
      rw [← this]; exact h0
    obtain ⟨kr, g1, g2⟩ := hnf r0 q0
    obtain ⟨kr', g3, g4⟩ := hZ.alike.2.2 _ _ g1
    exact ⟨kr', g3, by rw [g4]; exact g2⟩
  obtain ⟨cB, kB, b1, b2, b3⟩ := isOf (s := X.s.setVm vm) hZ eh E
  rcases pay with pay | ⟨hwd, pay⟩
  · obtain ⟨v, vm₁, B, -, X', post, st'⟩ := S.virtualBack fx.1 hown (mv (s := X.s.setVm vm) hZ w1) (mv (s := X.s.setVm vm) hZ w2) hnf' (mv (s := X.s.setVm vm) hZ w3) (mv (s := X.s.setVm vm) hZ w4) hy pay b1 b3 (g := mkF X.m pc Ls (argsL.reverse ++ .ref a :: rest)) rfl (hsz.trans fx.2.2.1.symm) (Steps.refl _) hlen rfl (by show 2 * 0 + _ ≤ _; omega) (hb fx.2.1 hd) (fun _ _ => ⟨rfl, eh, hc, hl⟩)
    obtain ⟨w2, q1⟩ := finN fx hS hk hZ hown hF hch hnw X' post
    exact (go _ _ _ v w2 q1).of fun t z => st'.trans z
  · obtain ⟨v, vm₁, B, -, X', hS', hgr, post, st'⟩ := S.virtualBackS fx.1 hown (mv (s := X.s.setVm vm) hZ w1) (mv (s := X.s.setVm vm) hZ w2) hnf' (mv (s := X.s.setVm vm) hZ w3) (mv (s := X.s.setVm vm) hZ w4) hy pay b1 b3 (g := mkF X.m pc Ls (argsL.reverse ++ .ref a :: rest)) rfl (hsz.trans fx.2.2.1.symm) (Steps.refl _) hlen rfl (by show 2 * 0 + _ ≤ _; omega) (hb fx.2.1 hd) (fun _ _ => ⟨rfl, eh, hc, hl⟩)
    obtain ⟨w2, q1⟩ := finW hwd fx hS hk hZ hown hF hch X' hS' (by rw [← eh]; exact hgr) post
    exact (go _ _ _ v w2 q1).of fun t z => st'.trans z
theorem Wk.callI (w : Wk G M R X vm T h k n) {pc q : Nat} {Ls : Array Slot} {st : List Value} {C : String} {xi y : MethodName} {index count W k1 n1 : Nat} {a : Addr} {argsL rest : List Value} {Q1 : Option Value → Heap → Prop} (hd : decode M.code pc = .ok (.invokeinterface index count, 5)) (w1 : (Jvm.Cond.methodLink M.own index xi).before G.a0 G.Z = true) (w2 : (Jvm.Cond.declares xi).before G.a0 G.Z = true) (w3 : (Jvm.Cond.interfaceMethod xi.cls xi.cls xi.name xi.desc).before G.a0 G.Z = true) (w4 : (Jvm.Cond.selects C xi y).before G.a0 G.Z = true) (w5 : (Jvm.Cond.instanceMethod y).before G.a0 G.Z = true) (w6 : (Jvm.Cond.publicMethod y).before G.a0 G.Z = true) (w7 : (Jvm.Cond.unhidden C xi.name xi.desc).before G.a0 G.Z = true) (w8 : (Jvm.Cond.castable C xi.cls).before G.a0 G.Z = true) (hy : xi.cls ≠ "java/lang/invoke/MethodHandle" ∧ xi.cls ≠ "java/lang/invoke/VarHandle") (E : Exa G.Z h a C)
    (hst : st = argsL.reverse ++ .ref a :: rest) (hlen : ∀ sig, parseMethodDescriptor xi.desc = some sig → argsL.length = sig.parameters.length) (hsz : Ls.size = M.mx) (hW : (rest.map fun v => v.category).sum ≤ W) (pay : Pay G R X y 5 W (.ref a :: argsL).toArray h k1 n1 Q1 vm) (hc : k + k1 ≤ R.cells) (hl : n + n1 ≤ R.slots) (hq : pc + 5 = q)
    (go : ∀ (vm' : Vm) (T' : State) (h' : Heap) (v : Option Value), Wk G M R X vm' T' h' (k + k1) (n + n1) → Q1 v h' → Go G R X Q (T'.setTop (mkF X.m q Ls (v.toList ++ rest)))) : Go G R X Q (T.setTop (mkF X.m pc Ls st)) := by
  subst hst hq
  obtain ⟨fx, k0, L, S, eh, hS, hk, hZ, hown, hF, ho, hch, hnw⟩ := w
  obtain ⟨cB, kB, b1, b2, b3⟩ := isOf (s := X.s.setVm vm) hZ eh E
  rcases pay with pay | ⟨hwd, pay⟩
  · obtain ⟨v, vm₁, B, -, X', post, st'⟩ := S.interfaceBack fx.1 hown (mv (s := X.s.setVm vm) hZ w1) (mv (s := X.s.setVm vm) hZ w2) (mv (s := X.s.setVm vm) hZ w3 (by simp [Cond.onTables, Cond.keepsFace, Cond.keeps, Cond.steady, Cond.faceAtom]; exact hy)) (mv (s := X.s.setVm vm) hZ w4) (mv (s := X.s.setVm vm) hZ w5) (mv (s := X.s.setVm vm) hZ w6) (mv (s := X.s.setVm vm) hZ w7) (mv (s := X.s.setVm vm) hZ w8) hy pay b1 b2 b3 (g := mkF X.m pc Ls (argsL.reverse ++ .ref a :: rest)) rfl (hsz.trans fx.2.2.1.symm) (Steps.refl _) hlen rfl (by show 2 * 0 + _ ≤ _; omega) (hb fx.2.1 hd) (fun _ _ => ⟨rfl, eh, hc, hl⟩)
    obtain ⟨w2, q1⟩ := finN fx hS hk hZ hown hF hch hnw X' post
    exact (go _ _ _ v w2 q1).of fun t z => st'.trans z
  · obtain ⟨v, vm₁, B, -, X', hS', hgr, post, st'⟩ := S.interfaceBackS fx.1 hown (mv (s := X.s.setVm vm) hZ w1) (mv (s := X.s.setVm vm) hZ w2) (mv (s := X.s.setVm vm) hZ w3 (by simp [Cond.onTables, Cond.keepsFace, Cond.keeps, Cond.steady, Cond.faceAtom]; exact hy)) (mv (s := X.s.setVm vm) hZ w4) (mv (s := X.s.setVm vm) hZ w5) (mv (s := X.s.setVm vm) hZ w6) (mv (s := X.s.setVm vm) hZ w7) (mv (s := X.s.setVm vm) hZ w8) hy pay b1 b2 b3 (g := mkF X.m pc Ls (argsL.reverse ++ .ref a :: rest)) rfl (hsz.trans fx.2.2.1.symm) (Steps.refl _) hlen rfl (by show 2 * 0 + _ ≤ _; omega) (hb fx.2.1 hd) (fun _ _ => ⟨rfl, eh, hc, hl⟩)
    obtain ⟨w2, q1⟩ := finW hwd fx hS hk hZ hown hF hch X' hS' (by rw [← eh]; exact hgr) post
    exact (go _ _ _ v w2 q1).of fun t z => st'.trans z
theorem Con.pay {y : MethodName} {bytes : ByteArray} {maxL : Nat} {ret : Option FieldType} {rm : Room} {as : Array Value} {Q1 : Option Value → Heap → Prop} {len W : Nat} (H : Con G y bytes maxL ret [] rm as h Q1) (w : Wk G M R X vm T h k n) (wc : (Jvm.Cond.code y bytes maxL ret).before G.a0 G.Z = true) (wz : (Jvm.Cond.initialized y.cls).before G.a0 G.Z = true) (hf : rm.frames + 1 ≤ R.frames) (hl : W + (maxL + 11) + rm.locals ≤ R.locals) : Pay G R X y len W as h rm.cells rm.slots Q1 vm := by
  have hZ := w.wz
  have hEL := w.hEL
  have hch := w.ch
  cases hwd : G.wd with
  | false =>
    exact Or.inl (Back.of_free (bytes := bytes) (maxL := maxL) (ret := ret) (E := fun _ first o t L k n => k = rm.cells ∧ n = rm.slots ∧ first.heap.size ≤ t.heap.size ∧ ∃ v, o = .returned v ∧ (Q1 v t.heap ∧ Fr G.n0 L ∧ Old G.Z G.n0 t.heap)) H hf hl
      (fun m meth c A a Y hp => have hU : G.Z.Warmed39 A.U.vm := wtrans (s := X.s.setVm vm) hZ Y.warmed
        ⟨by show (Jvm.Cond.and _ .tt).before a A.U = true; rw [Cond.before_and, mv hU wc]; rfl, mv hU wc, mv hU wz, hp.2.2.1, hp.2.2.2⟩)
      (fun m meth c A a g mk Y hp => ⟨hp.1, wtrans (s := X.s.setVm vm) hZ Y.warmed, hp.2.1, fun b => absurd (hwd.symm.trans b) (by decide)⟩) (fun _ _ _ _ _ _ _ _ _ => trivial)
      (fun _ _ _ _ ⟨v, L, h1, h2, h3, h4⟩ => ⟨L, _, _, h4.2 hwd, rfl, rfl, (h4.1.2.2.2).2.1, v, h1, h2⟩)
      (fun m meth c A a g mk v t L k n Y hp _ _ ⟨e1, e2, e0, v', e3, e4⟩ => by
        cases e3; subst e1 e2
        refine ⟨L, ⟨e4.1, e4.2.1, e4.2.2, ?_, fun b => absurd (hwd.symm.trans b) (by decide)⟩, rfl, rfl, rfl⟩
        rw [← hp.2.1]; exact e0))
  | true =>
    refine Or.inr ⟨hwd, BackS.of_freeW (bytes := bytes) (maxL := maxL) (ret := ret) (E := fun _ first o t L k n => k = rm.cells ∧ n = rm.slots ∧ CHr G.Z G.EL first.vm first.heap t.vm t.heap ∧ ∃ v, o = .returned v ∧ (Q1 v t.heap ∧ Fr G.n0 L ∧ Old G.Z G.n0 t.heap)) H hf hl
      (fun m meth c A a Y hp => have hU : G.Z.Warmed39 A.U.vm := wtrans (s := X.s.setVm vm) hZ Y.warmed
        ⟨by show (Jvm.Cond.and _ .tt).before a A.U = true; rw [Cond.before_and, mv hU wc]; rfl, mv hU wc, mv hU wz, hp.2.2.1, hp.2.2.2⟩)
      (fun m meth c A a g mk Y hp => ⟨hp.1, wtrans (s := X.s.setVm vm) hZ Y.warmed, hp.2.1, fun b => (CHv.at Y hZ hEL (hch b).1).1⟩) (fun _ _ _ _ _ _ _ _ _ => trivial)
      (fun _ _ _ _ ⟨v, L, h1, h2, h3, h4⟩ => ⟨L, _, _, h4.1, rfl, rfl, h3 hwd, v, h1, h2⟩)
      (fun m meth c A a g mk v t L k n Y hp _ _ ⟨e1, e2, e0, v', e3, e4⟩ => by
        cases e3; subst e1 e2
        refine ⟨L, ⟨e4.1, e4.2.1, e4.2.2, fun b => (CHv.at Y hZ hEL (hch b).1).trans ?_⟩, rfl, rfl, rfl⟩
        rw [← hp.2.1]; exact e0)⟩
theorem Pay.pure {y : MethodName} {as : Array Value} {len W : Nat} {P : Option Value → Prop} (w : Wk G M R X vm T h k n) (H : Back G.l R X.p X.e X.below (X.s.setVm vm) X.args y len W (fun P a => a = as ∧ P.U.heap = h ∧ P.cells + 0 ≤ R.cells ∧ P.slots + 0 ≤ R.slots) (fun A _ v B => ∃ L, (P v ∧ L = [] ∧ B.U.heap = h) ∧ B.locs = A.locs ++ L ∧ B.cells = A.cells + 0 ∧ B.slots = A.slots + 0)) : Pay G R X y len W as h 0 0 (fun v h' => P v ∧ h = h') vm := by
  refine Or.inl (Back.mono H (fun P a hp => hp) (fun A a v B hp hq => ?_))
  obtain ⟨L, ⟨q1, rfl, q3⟩, r⟩ := hq
  exact ⟨[], ⟨⟨q1, q3.symm⟩, Fr.nil _, by rw [q3]; exact w.old, by rw [q3]; exact Nat.le_refl _, fun b => by rw [q3]; exact CHr.refl (w.ch b).1⟩, r⟩
theorem Pay.pureV {y : MethodName} {as : Array Value} {len W : Nat} {P : Value → Prop} (w : Wk G M R X vm T h k n) (H : Pay G R X y len W as h 0 0 (fun v h' => (∃ x, v = some x ∧ P x) ∧ h = h') vm) : Pay G R X y len W as h 0 0 (vQ fun x h' => P x ∧ h = h') vm := by
  have e : (vQ fun x h' => P x ∧ h = h') = (fun (v : Option Value) (h' : Heap) => (∃ x, v = some x ∧ P x) ∧ h = h') := by
    funext v h'
    apply propext
    exact ⟨fun ⟨x, a, b, c⟩ => ⟨⟨x, a, b⟩, c⟩, fun ⟨⟨x, a, b⟩, c⟩ => ⟨x, a, b, c⟩⟩
  rw [e]; exact H
theorem Con.intro {y : MethodName} {bytes : ByteArray} {maxL : Nat} {ret : Option FieldType} {ws : List Jvm.Cond} {rm : Room} {as : Array Value} {Ls : Array Slot} (hE : EW G.Z G.a0 G.EL) (ho : Old G.Z G.n0 h) (hpl : plainFor y = true) (hef : ∀ m, entryFrame m as maxL = mkF m 0 Ls [])
    (body : ∀ (X : Cx) (vm : Vm) (T : State), Wk G (y.cls, y.name, bytes, maxL, ret) rm X vm T h 0 0 → Go G rm X Q (T.setTop (mkF X.m 0 Ls []))) : Con G y bytes maxL ret ws rm as h Q := by
  refine MetFree.of_bodySF hpl hisR ?_
  intro p e s m args below meth c s₁ Bd hml0 hP hK
  obtain ⟨rfl, hZ, hh, hc⟩ := hP
  have X0 : Stand p G.l e rm s m args below meth c s₁ [] 0 0 := Stand.of_body Bd
  have e0 : s₁.heap = h := by rw [← hh, Bd.state]; rfl
  have w : Wk G (y.cls, y.name, bytes, maxL, ret) rm (p, e, s, m, args, below, meth, c) s.vm s₁ h 0 0 :=
    ⟨⟨Bd.exec, Bd.bytes, hml0, Bd.returns, Bd.notSynchronized, (name_of_methodNamed Bd.named Bd.method).1, hE⟩, 0, [], X0, e0, (State.WarmedH.refl s).since 0, Nat.zero_le _, hZ, findClass_of_methodNamed Bd.named, Fr.nil _, ho, fun b => by show CHr G.Z G.EL s.vm s.heap s.vm h; rw [hh]; exact CHr.refl (hc b), fun _ => rfl⟩
  obtain ⟨t, o, h1, h2, h3, h4⟩ := body _ _ _ w
  exact ⟨t, o, castTop (hef m) h1, h2, h3, h4⟩
theorem Wk.leave' (w : Wk G M R X vm T h k n) {v : Option Value} (hv : M.ret = none → v = none) (hk' : k ≤ R.cells) (hn' : n ≤ R.slots) (hQ : Q v h) {S0 : State} (f : ∀ fs, (∀ (f : JFrame) (acts : List Action), f.method = X.m → f.locked = none → f.entered = [] → (doReturn X.e (T.setTop f) acts v).1 = T.setFrames fs) → ∀ L, Stand X.p G.l X.e R (X.s.setVm vm) X.m X.args X.below X.meth X.c T L k n → Steps X.p.tables X.e X.below S0 (T.setFrames fs)) : Go G R X Q S0 := by
  have hEL := w.hEL
  obtain ⟨fx, k0, L, S, eh, hS, hk, hZ, hown, hF, ho, hch, hnw⟩ := w
  obtain ⟨fs, hr, hrun, hended, hW, hsame⟩ := S.leave (v := v) (fun z => hv (fx.2.2.2.1.symm.trans z)) fx.2.2.2.2.1
  obtain ⟨a, b, c⟩ := hS.ended (U := T.setFrames fs) hW (by show k0 ≤ T.heap.size; rw [eh]; exact hk) hsame
  refine ⟨T.setFrames fs, .returned v, f fs hr L S, hrun, hended, v, L, rfl, ⟨by show Q v T.heap; rw [eh]; exact hQ, hF, by show Old G.Z G.n0 T.heap; rw [eh]; exact ho⟩, fun z => ?_, ⟨⟨v, rfl⟩, a, b, c.mono hk' hn'⟩, fun z => ?_⟩
  · show CHr G.Z G.EL X.s.vm X.s.heap T.vm T.heap
    rw [eh]; exact (hch z).trans (CHv.at S hZ hEL (hch z).1)
  · have e := hnw z
    subst e
    exact ⟨⟨v, rfl⟩, hW, c.mono hk' hn'⟩
theorem Wk.retV (w : Wk G M R X vm T h k n) {pc : Nat} {Ls : Array Slot} (hd : decode M.code pc = .ok (.return_, 1)) (hret : M.ret = none) (hk' : k ≤ R.cells) (hn' : n ≤ R.slots) (hQ : Q none h) : Go G R X Q (T.setTop (mkF X.m pc Ls [])) := by
  have fx := w.1
  exact w.leave' (v := none) (fun _ => rfl) hk' hn' hQ fun fs hr L S => S.returnOut fx.1 (fx.2.2.2.1.trans hret) (hb fx.2.1 hd) hr
theorem Wk.ret (w : Wk G M R X vm T h k n) {pc : Nat} {Ls : Array Slot} {st : List Value} {v : Value} {t : FieldType} {i : Instr} (hd : decode M.code pc = .ok (i, 1)) (hret : M.ret = some t) (hn : narrow t v = v)
    (hi : (i = .ireturn ∧ (t = .int ∨ t = .boolean ∨ t = .byte ∨ t = .char ∨ t = .short) ∧ ∃ z, v = .int z) ∨ (i = .lreturn ∧ t = .long ∧ ∃ z, v = .long z) ∨ (i = .dreturn ∧ t = .double ∧ ∃ z, v = .double z) ∨ (i = .freturn ∧ t = .float ∧ ∃ z, v = .float z) ∨ (i = .areturn ∧ t.isReference = true ∧ v.isRef = true))
    (hk' : k ≤ R.cells) (hn' : n ≤ R.slots) (hQ : Q (some v) h) : Go G R X Q (T.setTop (mkF X.m pc Ls (v :: st))) := by
  have fx := w.1
  exact w.leave' (v := some v) (fun z => by rw [hret] at z; cases z) hk' hn' hQ fun fs hr L S => retOut S fx.1 (fx.2.2.2.1.trans hret) hn hi (hb fx.2.1 hd) hr
theorem Wk.retI (w : Wk G M R X vm T h k n) {pc : Nat} {Ls : Array Slot} {st : List Value} {z : Int32} (hd : decode M.code pc = .ok (.ireturn, 1)) (hret : M.ret = some .int) (hk' : k ≤ R.cells) (hn' : n ≤ R.slots) (hQ : Q (some (.int z)) h) : Go G R X Q (T.setTop (mkF X.m pc Ls (.int z :: st))) :=
  w.ret hd hret rfl (Or.inl ⟨rfl, Or.inl rfl, z, rfl⟩) hk' hn' hQ
theorem Wk.retZ (w : Wk G M R X vm T h k n) {pc : Nat} {Ls : Array Slot} {st : List Value} {z : Int32} {t : FieldType} (hd : decode M.code pc = .ok (.ireturn, 1)) (hret : M.ret = some t) (ht : t = .boolean ∨ t = .byte ∨ t = .char ∨ t = .short) (hn : narrow t (.int z) = .int z) (hk' : k ≤ R.cells) (hn' : n ≤ R.slots) (hQ : Q (some (.int z)) h) : Go G R X Q (T.setTop (mkF X.m pc Ls (.int z :: st))) :=
  w.ret hd hret hn (Or.inl ⟨rfl, Or.inr ht, z, rfl⟩) hk' hn' hQ
theorem Wk.retA (w : Wk G M R X vm T h k n) {pc : Nat} {Ls : Array Slot} {st : List Value} {v : Value} {t : FieldType} (hd : decode M.code pc = .ok (.areturn, 1)) (hret : M.ret = some t) (ht : t.isReference = true) (hv : v.isRef = true) (hk' : k ≤ R.cells) (hn' : n ≤ R.slots) (hQ : Q (some v) h) : Go G R X Q (T.setTop (mkF X.m pc Ls (v :: st))) :=
  w.ret hd hret (by cases t <;> first | (cases ht; done) | (rcases ref_cases hv with rfl | ⟨_, rfl⟩ <;> rfl)) (Or.inr (Or.inr (Or.inr (Or.inr ⟨rfl, ht, hv⟩)))) hk' hn' hQ
theorem Wk.retJ (w : Wk G M R X vm T h k n) {pc : Nat} {Ls : Array Slot} {st : List Value} {z : Int64} (hd : decode M.code pc = .ok (.lreturn, 1)) (hret : M.ret = some .long) (hk' : k ≤ R.cells) (hn' : n ≤ R.slots) (hQ : Q (some (.long z)) h) : Go G R X Q (T.setTop (mkF X.m pc Ls (.long z :: st))) :=
  w.ret hd hret rfl (Or.inr (Or.inl ⟨rfl, rfl, z, rfl⟩)) hk' hn' hQ
theorem Wk.ldcS (w : Wk G M R X vm T h k n) {pc q : Nat} {Ls : Array Slot} {st : List Value} {index sz : Nat} {text : String} {vs : List Value} {z : Int32} (hd : decode M.code pc = .ok (.ldc index, 2)) (hwd : G.wd = true) (w1 : (Jvm.Cond.stringLink M.own index text).before G.a0 G.Z = true) (wS : ∀ a ∈ Bundle.stringAtoms, a.before G.a0 G.Z = true) (hmem : (M.own, index) ∈ G.EL) (ht : (∀ c ∈ text.toList, c.toNat < 256) ∧ text.toList.map (fun c => Value.int (Jvm.Lit.byteI c.toNat.toUInt16)) = vs) (hz : ¬ z < 0) (hlz : z.toNatClampNeg = vs.length) (hn : 4 * text.toList.length ≤ sz) (hbig : sz ≤ 536870912) (hc : k + 2 ≤ R.cells) (hl : n + (sz + 4) ≤ R.slots) (hq : pc + 2 = q)
    (go : ∀ (vm' : Vm) (T' : State) (h' : Heap) (a b : Addr) (kb : ClassId), Wk G M R X vm' T' h' (k + 2) (n + (sz + 4)) → Ext h h' → CHr G.Z G.EL vm h vm' h' → Exa G.Z h' a "java/lang/String" → Fld G.Z h' a "java/lang/String" "coder" "B" (.int 0) → Fld G.Z h' a "java/lang/String" "value" "[B" (.ref b) → Arv G.Z h' b kb .byte z vs (.int 0) → Go G R X Q (T'.setTop (mkF X.m q Ls (.ref a :: st)))) : Go G R X Q (T.setTop (mkF X.m pc Ls st)) := by
  subst hq
  have hEL := w.hEL
  obtain ⟨fx, k0, L, S, eh, hS, hk, hZ, hown, hF, ho, hch, hnw⟩ := w
  obtain ⟨a, T', h', k1, b, kb, X', e', E, hS', hk', hZ', hown', A1, A2, A3, A4, -, -, hC, -, -, st'⟩ := ldcCH S fx.1 hZ hown w1 wS eh hS hk hEL hmem (hch hwd).1 ht hz hlz (g := mkF X.m pc Ls st) rfl (hb fx.2.1 hd) hn hbig hc hl
  exact (go T'.vm T' h' a b kb ⟨fx, k1, L, X', e', hS', hk', hZ', hown', hF, ho.ext E, fun z => (hch z).trans hC, fun z => absurd (z.symm.trans hwd) (by decide)⟩ E hC A1 A2 A3 A4).of st'
theorem Wk.ldcO (w : Wk G M R X vm T h k n) {pc q : Nat} {Ls : Array Slot} {st : List Value} {index sz : Nat} {text : String} (hd : decode M.code pc = .ok (.ldc index, 2)) (hwd : G.wd = true) (w1 : (Jvm.Cond.stringLink M.own index text).before G.a0 G.Z = true) (wS : ∀ a ∈ Bundle.stringAtoms, a.before G.a0 G.Z = true) (hn : 4 * text.toList.length ≤ sz) (hbig : sz ≤ 536870912) (hc : k + 2 ≤ R.cells) (hl : n + (sz + 4) ≤ R.slots) (hq : pc + 2 = q)
    (go : ∀ (vm' : Vm) (T' : State) (h' : Heap) (a : Addr), Wk G M R X vm' T' h' (k + 2) (n + (sz + 4)) → Ext h h' → CHr G.Z G.EL vm h vm' h' → Go G R X Q (T'.setTop (mkF X.m q Ls (.ref a :: st)))) : Go G R X Q (T.setTop (mkF X.m pc Ls st)) := by
  subst hq
  have hEL := w.hEL
  obtain ⟨fx, k0, L, S, eh, hS, hk, hZ, hown, hF, ho, hch, hnw⟩ := w
  obtain ⟨a, T', h', k1, X', e', E, hS', hk', hZ', hown', hC, -, st'⟩ := ldcOH S fx.1 hZ hown w1 wS eh hS hk hEL (hch hwd).1 (g := mkF X.m pc Ls st) rfl (hb fx.2.1 hd) hn hbig hc hl
  exact (go T'.vm T' h' a ⟨fx, k1, L, X', e', hS', hk', hZ', hown', hF, ho.ext E, fun z => (hch z).trans hC, fun z => absurd (z.symm.trans hwd) (by decide)⟩ E hC).of st'
end Lay
end Own
end Jvm.Pilot.@@N@@
namespace Jvm.Pilot.@@N@@
namespace Own
open Jvm Jvm.ClassFile Sem Op Lib Jvm.Free Jvm.Stand Jvm.LawKit Jvm.RoadKit
section Lay
variable {G : Gx} {M : Md} {R : Room} {X : Cx} {vm : Vm} {T : State} {h : Heap} {k n : Nat} {Q : Option Value → Heap → Prop}
theorem mvMN {Z s : State} {a0 args : Array Value} {own host : String} {y : MethodName} {index : Nat} (hZ : Z.Warmed39 s.vm) (w : (Jvm.Cond.methodLinkNest own index y host).before a0 Z = true) : (Jvm.Cond.methodLinkNest own index y host).before args s = true := (Cond.methodLinkNest_wide hZ w :)
theorem Wk.newRX (w : Wk G M R X vm T h k n) {pc q : Nat} {Ls : Array Slot} {st : List Value} {C : String} {index : Nat} {N : Int32} {ad : String} (cap : Nat) (hd : decode M.code pc = .ok (.anewarray index, 3)) (w1 : (Jvm.Cond.classLink M.own index C).before G.a0 G.Z = true) (w2 : (Jvm.Cond.arrayOver (.object C)).before G.a0 G.Z = true) (had : "[" ++ (FieldType.object C).toString = ad) (hN : ¬ N < 0) (hcap : N.toNatClampNeg ≤ cap) (hb8 : cap * 8 ≤ 536870912) (hc : k + 1 ≤ R.cells) (hl : n + cap ≤ R.slots) (hq : pc + 3 = q)
    (go : ∀ (T' : State) (h' : Heap) (b : Nat) (kc : ClassId), b = h.size → Wk G M R X vm T' h' (k + 1) (n + cap) → Ext h h' → Arv G.Z h' b kc (.object C) N [] .null → Ovr G.Z kc C → Exa G.Z h' b ad → Go G R X Q (T'.setTop (mkF X.m q Ls (.ref b :: st)))) : Go G R X Q (T.setTop (mkF X.m pc Ls (.int N :: st))) := by
  subst hq
  obtain ⟨fx, k0, L, S, eh, hS, hk, hZ, hown, hF, ho, hch, hnw⟩ := w
  obtain ⟨T', h', kc, X', e', E, A, Ea, O, st'⟩ := Jvm.RoadKit.newRE S fx.1 hZ hown w1 w2 eh (g := mkF X.m pc Ls (.int N :: st)) rfl (hb fx.2.1 hd) rfl hN (cap := cap) hcap hb8 hc hl had
  exact (go T' h' h.size kc rfl ⟨fx, k0, L, X', e', hS, Nat.le_trans hk E.1, hZ, hown, hF, ho.ext E, fun b => (hch b).trans (CHr.ext E (hch b).1), hnw⟩ E (Arv.new A hN) O Ea).of st'
theorem Wk.getSN (w : Wk G M R X vm T h k n) {pc q : Nat} {Ls : Array Slot} {st : List Value} {R0 O f d host : String} {index : Nat} {v : Value} (hd : decode M.code pc = .ok (.getstatic index, 3)) (w1 : (Jvm.Cond.fieldLinkNest M.own index R0 f d host).before G.a0 G.Z = true) (via : Via G.Z R0 O f d) (F : Sta G.Z G.Z.heap O f d v) (hq : pc + 3 = q)
    (go : ∀ T' : State, Wk G M R X vm T' h k n → Go G R X Q (T'.setTop (mkF X.m q Ls (v :: st)))) : Go G R X Q (T.setTop (mkF X.m pc Ls st)) := by
  subst hq
  have F' := w.sta F
  obtain ⟨fx, k0, L, S, eh, hS, hk, hZ, hown, r⟩ := w
  obtain ⟨T', X', e', st'⟩ := Jvm.RoadKit.getS2 (host := host) S fx.1 hZ hown (Or.inr w1) via eh F' (g := mkF X.m pc Ls st) rfl (hb fx.2.1 hd)
  exact (go T' ⟨fx, k0, L, X', e', hS, hk, hZ, hown, r⟩).of st'
theorem Wk.getFN (w : Wk G M R X vm T h k n) {pc q : Nat} {Ls : Array Slot} {st : List Value} {R0 O f d host : String} {index : Nat} {a : Addr} {v : Value} (hd : decode M.code pc = .ok (.getfield index, 3)) (w1 : (Jvm.Cond.fieldLinkNest M.own index R0 f d host).before G.a0 G.Z = true) (via : Via G.Z R0 O f d) (F : Fld G.Z h a O f d v) (hq : pc + 3 = q)
    (go : ∀ T' : State, Wk G M R X vm T' h k n → Go G R X Q (T'.setTop (mkF X.m q Ls (v :: st)))) : Go G R X Q (T.setTop (mkF X.m pc Ls (.ref a :: st))) := by
  subst hq
  obtain ⟨fx, k0, L, S, eh, hS, hk, hZ, hown, r⟩ := w
  obtain ⟨T', X', e', st'⟩ := Jvm.RoadKit.getF (host := host) S fx.1 hZ hown (Or.inr w1) via eh F (g := mkF X.m pc Ls (.ref a :: st)) rfl rfl (hb fx.2.1 hd)
  exact (go T' ⟨fx, k0, L, X', e', hS, hk, hZ, hown, r⟩).of st'
theorem Wk.callCN (w : Wk G M R X vm T h k n) {pc q : Nat} {Ls : Array Slot} {st : List Value} {y : MethodName} {host : String} {bytes : ByteArray} {maxL : Nat} {index W k1 n1 : Nat} {a : Addr} {argsL rest : List Value} {Q1 : Option Value → Heap → Prop} (hd : decode M.code pc = .ok (.invokespecial index, 3)) (hy1 : y.name = "<init>") (w1 : (Jvm.Cond.methodLinkNest M.own index y host).before G.a0 G.Z = true) (w2 : (Jvm.Cond.instanceMethod y).before G.a0 G.Z = true) (w4 : (Jvm.Cond.code y bytes maxL none).before G.a0 G.Z = true) (hy : y.cls ≠ "java/lang/invoke/MethodHandle" ∧ y.cls ≠ "java/lang/invoke/VarHandle")
    (hst : st = argsL.reverse ++ .ref a :: rest) (hlen : ∀ sig, parseMethodDescriptor y.desc = some sig → argsL.length = sig.parameters.length) (hsz : Ls.size = M.mx) (hW : (rest.map fun v => v.category).sum ≤ W) (pay : Pay G R X y 3 W (.ref a :: argsL).toArray h k1 n1 Q1 vm) (hc : k + k1 ≤ R.cells) (hl : n + n1 ≤ R.slots) (hq : pc + 3 = q)
    (go : ∀ (vm' : Vm) (T' : State) (h' : Heap) (v : Option Value), Wk G M R X vm' T' h' (k + k1) (n + n1) → Q1 v h' → Go G R X Q (T'.setTop (mkF X.m q Ls (v.toList ++ rest)))) : Go G R X Q (T.setTop (mkF X.m pc Ls st)) := by
  subst hst hq
  obtain ⟨fx, k0, L, S, eh, hS, hk, hZ, hown, hF, ho, hch, hnw⟩ := w
  rcases pay with pay | ⟨hwd, pay⟩
  · obtain ⟨v, vm₁, B, -, X', post, st'⟩ := S.specialBackNest fx.1 hy1 hown (mvMN (s := X.s.setVm vm) hZ w1) (mv (s := X.s.setVm vm) hZ w2) (mv (s := X.s.setVm vm) hZ w4) hy pay (g := mkF X.m pc Ls (argsL.reverse ++ .ref a :: rest)) rfl (hsz.trans fx.2.2.1.symm) (Steps.refl _) (a := a) hlen rfl (by show 2 * 0 + _ ≤ _; omega) (hb fx.2.1 hd) (fun _ _ => ⟨rfl, eh, hc, hl⟩)
    obtain ⟨w2, q1⟩ := finN fx hS hk hZ hown hF hch hnw X' post
    exact (go _ _ _ v w2 q1).of fun t z => st'.trans z
  · obtain ⟨v, vm₁, B, -, X', hS', hgr, post, st'⟩ := S.specialBackNestS fx.1 hy1 hown (mvMN (s := X.s.setVm vm) hZ w1) (mv (s := X.s.setVm vm) hZ w2) (mv (s := X.s.setVm vm) hZ w4) hy pay (g := mkF X.m pc Ls (argsL.reverse ++ .ref a :: rest)) rfl (hsz.trans fx.2.2.1.symm) (Steps.refl _) (a := a) hlen rfl (by show 2 * 0 + _ ≤ _; omega) (hb fx.2.1 hd) (fun _ _ => ⟨rfl, eh, hc, hl⟩)
    obtain ⟨w2, q1⟩ := finW hwd fx hS hk hZ hown hF hch X' hS' (by rw [← eh]; exact hgr) post
    exact (go _ _ _ v w2 q1).of fun t z => st'.trans z
theorem Wk.tswI (w : Wk G M R X vm T h k n) {pc q : Nat} {Ls : Array Slot} {st : List Value} {dflt low high : Int} {offs : Array Int} {len : Nat} {o : Int} {i : Int32} (hd : decode M.code pc = .ok (.tableswitch dflt low high offs, len)) (hin : ¬ (i.toInt < low ∨ i.toInt > high)) (hoff : offs[(i.toInt - low).toNat]? = some o) (ho : 0 ≤ (pc : Int) + o) (hq : ((pc : Int) + o).toNat = q) (go : Go G R X Q (T.setTop (mkF X.m q Ls st))) : Go G R X Q (T.setTop (mkF X.m pc Ls (.int i :: st))) :=
  go.of fun t r => XS.tswIn w.here w.hx rfl (pc0 := pc) rfl (hb w.by_ hd) rfl hin hoff ho hq r
theorem Wk.tswO (w : Wk G M R X vm T h k n) {pc q : Nat} {Ls : Array Slot} {st : List Value} {dflt low high : Int} {offs : Array Int} {len : Nat} {i : Int32} (hd : decode M.code pc = .ok (.tableswitch dflt low high offs, len)) (hout : i.toInt < low ∨ i.toInt > high) (ho : 0 ≤ (pc : Int) + dflt) (hq : ((pc : Int) + dflt).toNat = q) (go : Go G R X Q (T.setTop (mkF X.m q Ls st))) : Go G R X Q (T.setTop (mkF X.m pc Ls (.int i :: st))) :=
  go.of fun t r => XS.tswOut w.here w.hx rfl (pc0 := pc) rfl (hb w.by_ hd) rfl hout ho hq r
end Lay
end Own
end Jvm.Pilot.@@N@@

namespace Jvm.Pilot.@@N@@
namespace Own
open Jvm Jvm.ClassFile Sem Op Lib Jvm.Free Jvm.Stand Jvm.LawKit Jvm.RoadKit
def StrAt (Z : State) (h : Heap) (a : Addr) (cd : Int32) (cs : List Int32) : Prop := ∃ (t : Addr) (kb : ClassId) (N : Int32) (vs : List Value), Exa Z h a "java/lang/String" ∧ Fld Z h a "java/lang/String" "value" "[B" (.ref t) ∧ Fld Z h a "java/lang/String" "coder" "B" (.int cd) ∧ Arv Z h t kb .byte N vs (.int 0) ∧ StrChars.Road.CodA cs cd N vs ∧ (∀ c ∈ cs, ¬ c < 0 ∧ ¬ (65535 : Int32) < c) ∧ cs.length ≤ 4000
section
variable {Z : State} {h h' : Heap} {a : Addr} {cd : Int32} {cs : List Int32}
theorem StrAt.ext (F : StrAt Z h a cd cs) (E : Ext h h') : StrAt Z h' a cd cs := by
  obtain ⟨t, kb, N, vs, h1, h2, h3, h4, r⟩ := F; exact ⟨t, kb, N, vs, h1.ext E, h2.ext E, h3.ext E, h4.ext E, r⟩
theorem StrAt.exa (F : StrAt Z h a cd cs) : Exa Z h a "java/lang/String" := by obtain ⟨t, kb, N, vs, h1, -⟩ := F; exact h1
theorem StrAt.lt (F : StrAt Z h a cd cs) : a < h.size := F.exa.lt
theorem up_ (cs : List Int32) (h : ∀ c ∈ cs, ¬ c < 0 ∧ ¬ (255 : Int32) < c) : ∀ c ∈ cs, ¬ c < 0 ∧ ¬ (65535 : Int32) < c := fun c hc => ⟨(h c hc).1, fun q => (h c hc).2 (by rw [Int32.lt_iff_toInt_lt] at q ⊢; have e1 : (65535 : Int32).toInt = 65535 := rfl; have e2 : (255 : Int32).toInt = 255 := rfl; omega)⟩
theorem and255 (x : Int32) : ¬ nar .char ((x &&& (255 : Int32)).toUInt32.toUInt16.toUInt32.toInt32) < 0 ∧ ¬ (255 : Int32) < nar .char ((x &&& (255 : Int32)).toUInt32.toUInt16.toUInt32.toInt32) := by
  have t : ∀ k : Fin 256, ¬ nar .char ((Int32.ofNat k.val).toUInt32.toUInt16.toUInt32.toInt32) < 0 ∧ ¬ (255 : Int32) < nar .char ((Int32.ofNat k.val).toUInt32.toUInt16.toUInt32.toInt32) := by decide +kernel
  have h : (x &&& 255).toBitVec.toNat < 256 := by
    simp only [Int32.toBitVec_and, BitVec.toNat_and]
    exact Nat.lt_succ_of_le Nat.and_le_right
  have e : (x &&& 255) = Int32.ofNat (x &&& 255).toBitVec.toNat := by
    apply Int32.toBitVec_inj.mp
    show _ = BitVec.ofNat 32 _
    rw [BitVec.ofNat_toNat]; simp
  rw [e]
  exact t ⟨_, h⟩
def Lat (c : Int32) : Prop := ¬ c < 0 ∧ ¬ (255 : Int32) < c
theorem lat_mask (x : Int32) : Lat (nar .char ((x &&& (255 : Int32)).toUInt32.toUInt16.toUInt32.toInt32)) := and255 x
theorem lat0 : ∀ c ∈ ([] : List Int32), ¬ c < 0 ∧ ¬ (255 : Int32) < c := fun _ q => nomatch q
theorem latS {c : Int32} {cs : List Int32} (a : Lat c) (r : ∀ c ∈ cs, ¬ c < 0 ∧ ¬ (255 : Int32) < c) : ∀ d ∈ c :: cs, ¬ d < 0 ∧ ¬ (255 : Int32) < d := fun d hd => by
  rcases List.mem_cons.mp hd with rfl | hd
  · exact a
  · exact r d hd
end
section
variable {G : Gx} {M : Md} {R : Room} {X : Cx} {vm : Vm} {T : State} {h : Heap} {k n : Nat} {Q : Option Value → Heap → Prop}
abbrev strInit : MethodName := ⟨"java/lang/String", "<init>", "([C)V"⟩
theorem pay_newStr (w : Wk G M R X vm T h k n) (hws : ∀ d ∈ StrChars.Road.words, d.before G.a0 G.Z = true) (wi : (Jvm.Cond.instantiable "java/lang/String" 4).before G.a0 G.Z = true) (hcz : ∃ z : Int32, ¬ z = 0 ∧ Sta G.Z G.Z.heap "java/lang/String" "COMPACT_STRINGS" "Z" (.int z))
    {x b : Addr} {kC : ClassId} {cs : List Int32} {d : Value} {N : Int32} {nn W : Nat} (h0 : G.n0 ≤ x) (E : Exa G.Z h x "java/lang/String") (V : Fld G.Z h x "java/lang/String" "value" "[B" .null) (C : Fld G.Z h x "java/lang/String" "coder" "B" (.int 0)) (K : Arv G.Z h b kC .char N (cs.map Value.int) d) (hn : cs.length = nn) (hN : N = Int32.ofNat nn) (l0 : 0 < nn) (l2 : nn ≤ 4000) (hp : ∀ c ∈ cs, ¬ c < 0 ∧ ¬ (255 : Int32) < c) (hfr : 4 ≤ R.frames) (hlo : W + 65 ≤ R.locals) :
    Pay G R X strInit 3 W #[.ref x, .ref b] h 1 nn (nQ fun h' => Keep h h' [x] ∧ StrAt G.Z h' x 0 cs) vm := by
  obtain ⟨z, hz, S⟩ := hcz
  refine Or.inl (Back.mono (StrChars.Road.backV (s := X.s.setVm vm) w.wz hws wi (cs := cs) (n := nn) h0 w.n0le E V C K (w.sta S) hz hn hN l0 l2 hp rfl hfr hlo) (fun P a hp => hp) (fun P a v B _ hq => ?_))
  obtain ⟨L, ⟨q1, q2, q3, q4, q5, t, kb, u1, u2, u3, q6, q7⟩, r⟩ := hq
  exact ⟨L, ⟨⟨q1, q3, t, kb, N, _, q4, q6, q5, q7, hN ▸ StrChars.Road.codOf hn (fun c hc => (hp c hc).2), up_ cs hp, by omega⟩, q2, w.old.keep q3 (all1 h0), q3.1, fun b => CHr.keep q3 (all1 (blank_safe w.wz.alike E V)) (w.ch b).1⟩, r⟩
end

section
variable {G : Gx} {M : Md} {R : Room} {X : Cx} {vm : Vm} {T : State} {h : Heap} {k n : Nat} {Q : Option Value → Heap → Prop}
abbrev strEquals : MethodName := ⟨"java/lang/String", "equals", "(Ljava/lang/Object;)Z"⟩
theorem pay_eq (w : Wk G M R X vm T h k n) (hws : ∀ d ∈ StrChars.Road.wordsEq, d.before G.a0 G.Z = true) (wi : (Jvm.Cond.instantiable "java/lang/String" 4).before G.a0 G.Z = true) (hcz : ∃ z : Int32, ¬ z = 0 ∧ Sta G.Z G.Z.heap "java/lang/String" "COMPACT_STRINGS" "Z" (.int z))
    {x y : Addr} {cs ds : List Int32} {cd cd' : Int32} {W : Nat} (A : StrAt G.Z h x cd cs) (B : StrAt G.Z h y cd' ds) (hfr : 2 ≤ R.frames) (hlo : W + 28 ≤ R.locals) :
    Pay G R X strEquals 3 W #[.ref x, .ref y] h 0 0 (vQ fun v h' => (v = .int (if cs = ds then 1 else 0)) ∧ h = h') vm := by
  obtain ⟨z, hz, S⟩ := hcz
  obtain ⟨t, kb, N, vs, a1, a2, a3, a4, a5, a6, a7⟩ := A
  obtain ⟨t', kb', N', vs', b1, b2, b3, b4, b5, b6, b7⟩ := B
  refine Pay.pureV w (Pay.pure w (Back.mono (StrChars.Road.eqW (s := X.s.setVm vm) w.wz hws wi a1 a2 a3 a4 a5 a6 a7 b1 b2 b3 b4 b5 b6 b7 (w.sta S) hz hfr hlo) (fun P a hp => hp) (fun P a v B _ hq => ?_)))
  obtain ⟨L, ⟨q1, q2⟩, r⟩ := hq
  refine ⟨L, ⟨?_, q2⟩, r⟩
  rcases q1 with ⟨e1, e2⟩ | ⟨e1, e2⟩
  · exact ⟨_, e1, by rw [if_pos e2]⟩
  · exact ⟨_, e1, by rw [if_neg e2]⟩
end

section Lam
open Jvm.Lambda
variable {G : Gx} {M : Md} {R : Room} {X : Cx} {vm : Vm} {T : State} {h : Heap} {k n : Nat} {Q : Option Value → Heap → Prop}
theorem Con.introN {y : MethodName} {bytes : ByteArray} {maxL : Nat} {ret : Option FieldType} {ws : List Jvm.Cond} {rm : Room} {as : Array Value} {Ls : Array Slot} (hE : EW G.Z G.a0 G.EL) (ho : Old G.Z G.n0 h) (hpl : plainFor y = true) (hef : ∀ m, entryFrame m as maxL = mkF m 0 Ls [])
    (body : ∀ (X : Cx) (vm : Vm) (T : State), G.Z.methodNamed? y = some X.m → Wk G (y.cls, y.name, bytes, maxL, ret) rm X vm T h 0 0 → Go G rm X Q (T.setTop (mkF X.m 0 Ls []))) : Con G y bytes maxL ret ws rm as h Q := by
  refine MetFree.of_bodySF hpl hisR ?_
  intro p e s m args below meth c s₁ Bd hml0 hP hK
  obtain ⟨rfl, hZ, hh, hc⟩ := hP
  have X0 : Stand p G.l e rm s m args below meth c s₁ [] 0 0 := Stand.of_body Bd
  have e0 : s₁.heap = h := by rw [← hh, Bd.state]; rfl
  have w : Wk G (y.cls, y.name, bytes, maxL, ret) rm (p, e, s, m, args, below, meth, c) s.vm s₁ h 0 0 :=
    ⟨⟨Bd.exec, Bd.bytes, hml0, Bd.returns, Bd.notSynchronized, (name_of_methodNamed Bd.named Bd.method).1, hE⟩, 0, [], X0, e0, (State.WarmedH.refl s).since 0, Nat.zero_le _, hZ, findClass_of_methodNamed Bd.named, Fr.nil _, ho, fun b => by show CHr G.Z G.EL s.vm s.heap s.vm h; rw [hh]; exact CHr.refl (hc b), fun _ => rfl⟩
  have hN : G.Z.methodNamed? y = some m := by
    have q := State.methodNamed?_setVm (s := G.Z) hZ.alike y
    rw [← q]; exact Bd.named
  obtain ⟨t, o, h1, h2, h3, h4⟩ := body _ _ _ hN w
  exact ⟨t, o, castTop (hef m) h1, h2, h3, h4⟩
theorem push_ext (h : Heap) (c : Cell) : Ext h (h.push c) := ⟨by simp, fun a x q => by rw [Array.getElem?_push_lt (Array.getElem?_eq_some_iff.mp q).1]; exact (Array.getElem?_eq_getElem _).symm.trans q⟩
theorem Wk.lam (w : Wk G M R X vm T h k n) {y : MethodName} {pc q index fi : Nat} {σ : Lambda.Shape} {Ls : Array Slot} {st vals : List Value} (hN : G.Z.methodNamed? y = some X.m) (hd : decode M.code pc = .ok (.invokedynamic index, 5))
    (ws : (Jvm.Cond.lambdaSite y pc index σ).before G.a0 G.Z = true) (wO : (Jvm.Cond.instantiable "java/lang/Object" 0).before G.a0 G.Z = true) (hcap : σ.captured ≠ []) (hok : Jvm.LamKit.capOK σ y.cls fi 0 = true)
    (hlen : vals.length = σ.captured.length) (hfit : ∀ (i : Nat) t v, σ.captured[i]? = some t → vals[i]? = some v → narrow t v = v ∧ fits t v = true) (hls : Ls.size = M.mx)
    (hwords : ((vals.reverse ++ st).map fun v => v.category).sum + 3072 ≤ R.locals) (hc : k + 1 ≤ R.cells) (hl : n + vals.length ≤ R.slots) (hq : pc + 5 = q)
    (go : ∀ (T' : State) (h' : Heap) (b : Nat) (cK : ClassId), b = h.size → Wk G M R X vm T' h' (k + 1) (n + vals.length) → Ext h h' → Jvm.LamKit.Made G.Z y.cls σ cK → h'[b]? = some { cls := cK, slots := vals.toArray, vm := .none } → Go G R X Q (T'.setTop (mkF X.m q Ls (.ref b :: st)))) : Go G R X Q (T.setTop (mkF X.m pc Ls (vals.reverse ++ st))) := by
  subst hq
  have hml := w.hml
  obtain ⟨fx, k0, L, S, eh, hS, hk, hZ, hown, hF, ho, hch, hnw⟩ := w
  obtain ⟨cK, one, hat⟩ := Cond.lambdaSite_spec ws
  obtain ⟨mD, kD, cfD, i0, p0, lk, hmD, hkD, hcfD, hsh, -, hfind, hmade, hcan, hlk⟩ := State.lambdaAt?_spec hat
  cases hN.symm.trans hmD
  obtain ⟨kD', hkD', hnameD⟩ := className_of_methodNamed hN
  cases hkD.symm.trans hkD'
  rcases hlk with ⟨a, cell, -, -, hc0, -⟩ | ⟨rfl, -, -⟩
  · exact absurd hc0 hcap
  · obtain ⟨b, nt, desc, site, h1, h2, h3, h4⟩ := shapeOf?_site hsh
    obtain ⟨kc, f, hkc, hkind, hty, -⟩ := Jvm.LamKit.made_cap hok hkD hnameD hmade (Jvm.LamKit.noFields wO (State.WarmedH.refl G.Z))
    obtain ⟨kE, hkE, heE⟩ := hZ.alike.2.2 _ _ hkD
    obtain ⟨kF, hkF, heF⟩ := hZ.alike.2.2 _ _ hkc
    have tyF : kF.instanceTypes = σ.captured.toArray := by rw [heF]; exact hty
    have kindF : kF.kind = .ordinary := by rw [heF]; exact hkind
    have hz : ((kF.instanceTypes.toList.zip vals).map fun (t, v) => narrow t v) = vals := by rw [tyF]; exact Jvm.LamKit.zip_narrow _ _ hlen fun i t v a b => (hfit i t v a b).1
    have hw : X.e.platform.lambdaLinkWords = 3072 := by rw [S.admits.platform]
    have q := S.lambdaMakes fx.1 (g := mkF X.m pc Ls (vals.reverse ++ st)) rfl (by show Ls.size = X.c.maxLocals; rw [hls]; exact hml.symm) (hb fx.2.1 hd) (vals := vals) (rest := st) (k := kE) (kc := kF) (i0 := i0) (p0 := p0) (cK := cK) hkE (by rw [heE]; exact hfind) (by rw [heE]; exact hcfD) h1 h2 (parseLong_of_parse h3) (by rw [h4]; exact hlen) rfl hkF
      (by rw [hw]; simpa [mkF, JFrame.monitorRoom] using hwords) hc (by rw [hz]; exact hl)
      (fun i v hv => by
        rw [hz] at hv
        have hv' : vals[i]? = some v := by simpa using hv
        have hi : i < σ.captured.length := by rw [← hlen]; exact (List.getElem?_eq_some_iff.mp hv').1
        have := (hfit i _ v (List.getElem?_eq_getElem hi) hv').2
        have hkF' : vm.classes[cK]? = some kF := hkF
        simp [State.fitsSlot, State.slotType?, hkF', kindF, tyF, List.getElem?_eq_getElem hi, this])
    rw [hz] at q
    have E : Ext h (h.push { cls := cK, slots := vals.toArray, vm := .none }) := push_ext _ _
    refine (go _ (h.push { cls := cK, slots := vals.toArray, vm := .none }) h.size cK rfl ⟨fx, k0, L, by simpa using q.1, by rw [← eh]; rfl, hS, Nat.le_trans hk E.1, hZ, hown, hF, ho.ext E, fun b => (hch b).trans (CHr.ext E (hch b).1), hnw⟩ E ⟨_, kD, hkD, hnameD, hmade, hcan⟩ (by simp)).of ?_
    intro t ht
    refine q.2 t ?_
    rw [eh]; exact ht
end Lam

section WbLay
variable {G : Gx} {M : Md} {R : Room} {X : Cx} {vm : Vm} {T : State} {h : Heap} {k n : Nat} {Q : Option Value → Heap → Prop}
def Wb (G : Gx) (M : Md) (R : Room) (X : Cx) (vm : Vm) (T : State) (h : Heap) (k n : Nat) : Prop :=
  Fix G M X ∧ ∃ (k0 : Nat) (L : List Loc), Stand X.p G.l X.e R (X.s.setVm vm) X.m X.args X.below X.meth X.c T L k n ∧ T.heap = h ∧ X.s.Since vm k0 ∧ k0 ≤ h.size ∧ G.Z.Warmed39 vm ∧ True ∧ Fr G.n0 L ∧ Old G.Z G.n0 h ∧ (G.wd = true → CHr G.Z G.EL X.s.vm X.s.heap vm h) ∧ (G.wd = false → vm = X.s.vm)
theorem Wb.hx (w : Wb G M R X vm T h k n) : X.p.tables.exec = Jvm.exec := w.1.1
theorem Wb.by_ (w : Wb G M R X vm T h k n) : X.c.code = M.code := w.1.2.1
theorem Wb.hml (w : Wb G M R X vm T h k n) : X.c.maxLocals = M.mx := w.1.2.2.1
theorem Wb.hret (w : Wb G M R X vm T h k n) : X.meth.sig.returnType = M.ret := w.1.2.2.2.1
theorem Wb.hlk (w : Wb G M R X vm T h k n) : X.meth.locks = false := w.1.2.2.2.2.1
theorem Wb.hnm (w : Wb G M R X vm T h k n) : X.meth.name = M.nm := w.1.2.2.2.2.2.1
theorem Wb.hEL (w : Wb G M R X vm T h k n) : EW G.Z G.a0 G.EL := w.1.2.2.2.2.2.2
theorem Wb.here (w : Wb G M R X vm T h k n) : At T X.m X.c X.below := by obtain ⟨-, k0, L, S, -⟩ := w; exact S.here
theorem Wb.heap (w : Wb G M R X vm T h k n) : T.heap = h := by obtain ⟨-, k0, L, S, e, -⟩ := w; exact e
theorem Wb.old (w : Wb G M R X vm T h k n) : Old G.Z G.n0 h := by obtain ⟨-, k0, L, -, -, -, -, -, -, -, q, -⟩ := w; exact q
theorem Wb.ch (w : Wb G M R X vm T h k n) : G.wd = true → CHr G.Z G.EL X.s.vm X.s.heap vm h := by obtain ⟨-, k0, L, -, -, -, -, -, -, -, -, q, -⟩ := w; exact q
theorem Wb.wz (w : Wb G M R X vm T h k n) : G.Z.Warmed39 vm := by obtain ⟨-, k0, L, -, -, -, -, q, -⟩ := w; exact q
theorem Wb.aloadN (w : Wb G M R X vm T h k n) {pc q : Nat} {Ls : Array Slot} {st : List Value} {j : Fin 4} {v : Value} (hd : decode M.code pc = .ok (.aload_n j, 1)) (hl : Ls[j.val]? = some (.val v)) (hv : v.isRef = true) (hq : pc + 1 = q) (go : Go G R X Q (T.setTop (mkF X.m q Ls (v :: st)))) : Go G R X Q (T.setTop (mkF X.m pc Ls st)) := by
  subst hq
  exact go.of fun t r => XS.aloadN w.here w.hx rfl (hb w.by_ hd) hl hv r
theorem fbN {k0 k1 n1 : Nat} {L : List Loc} {Q1 : Option Value → Heap → Prop} (fx : Fix G M X) (hS : X.s.Since vm k0) (hk : k0 ≤ h.size) (hZ : G.Z.Warmed39 vm) (hown : True) (hF : Fr G.n0 L) (hch : G.wd = true → CHr G.Z G.EL X.s.vm X.s.heap vm h) (hnw : G.wd = false → vm = X.s.vm)
    {v : Option Value} {B : Pt} (X' : Stand X.p G.l X.e R (X.s.setVm vm) X.m X.args X.below X.meth X.c B.U B.locs B.cells B.slots) (post : ∃ L', (Q1 v B.U.heap ∧ Fr G.n0 L' ∧ Old G.Z G.n0 B.U.heap ∧ h.size ≤ B.U.heap.size ∧ (G.wd = true → CHr G.Z G.EL vm h vm B.U.heap)) ∧ B.locs = L ++ L' ∧ B.cells = k + k1 ∧ B.slots = n + n1) :
    Wb G M R X vm B.U B.U.heap (k + k1) (n + n1) ∧ Q1 v B.U.heap := by
  obtain ⟨U, Lb, c, s⟩ := B
  obtain ⟨L', ⟨q1, q2, q3, q4, q5⟩, h1, h2, h3⟩ := post
  dsimp only [Pt.U, Pt.locs, Pt.cells, Pt.slots] at *
  subst h1 h2 h3
  exact ⟨⟨fx, k0, _, X', rfl, hS, Nat.le_trans hk q4, hZ, hown, Fr.app hF q2, q3, fun b => (hch b).trans (q5 b), hnw⟩, q1⟩
theorem fbW {k0 k1 n1 : Nat} {L : List Loc} {Q1 : Option Value → Heap → Prop} (hwd : G.wd = true) (fx : Fix G M X) (hS : X.s.Since vm k0) (hk : k0 ≤ h.size) (hZ : G.Z.Warmed39 vm) (hown : True) (hF : Fr G.n0 L) (hch : G.wd = true → CHr G.Z G.EL X.s.vm X.s.heap vm h)
    {v : Option Value} {B : Pt} (X' : Stand X.p G.l X.e R ((X.s.setVm vm).setVm B.U.vm) X.m X.args X.below X.meth X.c B.U B.locs B.cells B.slots) (hS' : (X.s.setVm vm).Since B.U.vm B.U.heap.size) (hgr : h.size ≤ B.U.heap.size) (post : ∃ L', (Q1 v B.U.heap ∧ Fr G.n0 L' ∧ Old G.Z G.n0 B.U.heap ∧ (G.wd = true → CHr G.Z G.EL vm h B.U.vm B.U.heap)) ∧ B.locs = L ++ L' ∧ B.cells = k + k1 ∧ B.slots = n + n1) :
    Wb G M R X B.U.vm B.U B.U.heap (k + k1) (n + n1) ∧ Q1 v B.U.heap := by
  obtain ⟨U, Lb, c, s⟩ := B
  obtain ⟨L', ⟨q1, q2, q3, q5⟩, h1, h2, h3⟩ := post
  dsimp only [Pt.U, Pt.locs, Pt.cells, Pt.slots] at *
  subst h1 h2 h3
  exact ⟨⟨fx, U.heap.size, _, X', rfl, hS.trans hS' (Nat.le_trans hk hgr), Nat.le_refl _, State.Warmed39.trans (t := X.s.setVm vm) hZ hS'.1, trivial, Fr.app hF q2, q3, fun b => (hch b).trans (q5 b), fun z => absurd (z.symm.trans hwd) (by decide)⟩, q1⟩
theorem Con.payb {y : MethodName} {bytes : ByteArray} {maxL : Nat} {ret : Option FieldType} {rm : Room} {as : Array Value} {Q1 : Option Value → Heap → Prop} {len W : Nat} (H : Con G y bytes maxL ret [] rm as h Q1) (w : Wb G M R X vm T h k n) (wc : (Jvm.Cond.code y bytes maxL ret).before G.a0 G.Z = true) (wz : (Jvm.Cond.initialized y.cls).before G.a0 G.Z = true) (hf : rm.frames + 1 ≤ R.frames) (hl : W + (maxL + 11) + rm.locals ≤ R.locals) : Pay G R X y len W as h rm.cells rm.slots Q1 vm := by
  have hZ := w.wz
  have hEL := w.hEL
  have hch := w.ch
  cases hwd : G.wd with
  | false =>
    exact Or.inl (Back.of_free (bytes := bytes) (maxL := maxL) (ret := ret) (E := fun _ first o t L k n => k = rm.cells ∧ n = rm.slots ∧ first.heap.size ≤ t.heap.size ∧ ∃ v, o = .returned v ∧ (Q1 v t.heap ∧ Fr G.n0 L ∧ Old G.Z G.n0 t.heap)) H hf hl
      (fun m meth c A a Y hp => have hU : G.Z.Warmed39 A.U.vm := wtrans (s := X.s.setVm vm) hZ Y.warmed
        ⟨by show (Jvm.Cond.and _ .tt).before a A.U = true; rw [Cond.before_and, mv hU wc]; rfl, mv hU wc, mv hU wz, hp.2.2.1, hp.2.2.2⟩)
      (fun m meth c A a g mk Y hp => ⟨hp.1, wtrans (s := X.s.setVm vm) hZ Y.warmed, hp.2.1, fun b => absurd (hwd.symm.trans b) (by decide)⟩) (fun _ _ _ _ _ _ _ _ _ => trivial)
      (fun _ _ _ _ ⟨v, L, h1, h2, h3, h4⟩ => ⟨L, _, _, h4.2 hwd, rfl, rfl, (h4.1.2.2.2).2.1, v, h1, h2⟩)
      (fun m meth c A a g mk v t L k n Y hp _ _ ⟨e1, e2, e0, v', e3, e4⟩ => by
        cases e3; subst e1 e2
        refine ⟨L, ⟨e4.1, e4.2.1, e4.2.2, ?_, fun b => absurd (hwd.symm.trans b) (by decide)⟩, rfl, rfl, rfl⟩
        rw [← hp.2.1]; exact e0))
  | true =>
    refine Or.inr ⟨hwd, BackS.of_freeW (bytes := bytes) (maxL := maxL) (ret := ret) (E := fun _ first o t L k n => k = rm.cells ∧ n = rm.slots ∧ CHr G.Z G.EL first.vm first.heap t.vm t.heap ∧ ∃ v, o = .returned v ∧ (Q1 v t.heap ∧ Fr G.n0 L ∧ Old G.Z G.n0 t.heap)) H hf hl
      (fun m meth c A a Y hp => have hU : G.Z.Warmed39 A.U.vm := wtrans (s := X.s.setVm vm) hZ Y.warmed
        ⟨by show (Jvm.Cond.and _ .tt).before a A.U = true; rw [Cond.before_and, mv hU wc]; rfl, mv hU wc, mv hU wz, hp.2.2.1, hp.2.2.2⟩)
      (fun m meth c A a g mk Y hp => ⟨hp.1, wtrans (s := X.s.setVm vm) hZ Y.warmed, hp.2.1, fun b => (CHv.at Y hZ hEL (hch b).1).1⟩) (fun _ _ _ _ _ _ _ _ _ => trivial)
      (fun _ _ _ _ ⟨v, L, h1, h2, h3, h4⟩ => ⟨L, _, _, h4.1, rfl, rfl, h3 hwd, v, h1, h2⟩)
      (fun m meth c A a g mk v t L k n Y hp _ _ ⟨e1, e2, e0, v', e3, e4⟩ => by
        cases e3; subst e1 e2
        refine ⟨L, ⟨e4.1, e4.2.1, e4.2.2, fun b => (CHv.at Y hZ hEL (hch b).1).trans ?_⟩, rfl, rfl, rfl⟩
        rw [← hp.2.1]; exact e0)⟩
theorem Wb.leave' (w : Wb G M R X vm T h k n) {v : Option Value} (hv : M.ret = none → v = none) (hk' : k ≤ R.cells) (hn' : n ≤ R.slots) (hQ : Q v h) {S0 : State} (f : ∀ fs, (∀ (f : JFrame) (acts : List Action), f.method = X.m → f.locked = none → f.entered = [] → (doReturn X.e (T.setTop f) acts v).1 = T.setFrames fs) → ∀ L, Stand X.p G.l X.e R (X.s.setVm vm) X.m X.args X.below X.meth X.c T L k n → Steps X.p.tables X.e X.below S0 (T.setFrames fs)) : Go G R X Q S0 := by
  have hEL := w.hEL
  obtain ⟨fx, k0, L, S, eh, hS, hk, hZ, hown, hF, ho, hch, hnw⟩ := w
  obtain ⟨fs, hr, hrun, hended, hW, hsame⟩ := S.leave (v := v) (fun z => hv (fx.2.2.2.1.symm.trans z)) fx.2.2.2.2.1
  obtain ⟨a, b, c⟩ := hS.ended (U := T.setFrames fs) hW (by show k0 ≤ T.heap.size; rw [eh]; exact hk) hsame
  refine ⟨T.setFrames fs, .returned v, f fs hr L S, hrun, hended, v, L, rfl, ⟨by show Q v T.heap; rw [eh]; exact hQ, hF, by show Old G.Z G.n0 T.heap; rw [eh]; exact ho⟩, fun z => ?_, ⟨⟨v, rfl⟩, a, b, c.mono hk' hn'⟩, fun z => ?_⟩
  · show CHr G.Z G.EL X.s.vm X.s.heap T.vm T.heap
    rw [eh]; exact (hch z).trans (CHv.at S hZ hEL (hch z).1)
  · have e := hnw z
    subst e
    exact ⟨⟨v, rfl⟩, hW, c.mono hk' hn'⟩
theorem Wb.ret (w : Wb G M R X vm T h k n) {pc : Nat} {Ls : Array Slot} {st : List Value} {v : Value} {t : FieldType} {i : Instr} (hd : decode M.code pc = .ok (i, 1)) (hret : M.ret = some t) (hn : narrow t v = v)
    (hi : (i = .ireturn ∧ (t = .int ∨ t = .boolean ∨ t = .byte ∨ t = .char ∨ t = .short) ∧ ∃ z, v = .int z) ∨ (i = .lreturn ∧ t = .long ∧ ∃ z, v = .long z) ∨ (i = .dreturn ∧ t = .double ∧ ∃ z, v = .double z) ∨ (i = .freturn ∧ t = .float ∧ ∃ z, v = .float z) ∨ (i = .areturn ∧ t.isReference = true ∧ v.isRef = true))
    (hk' : k ≤ R.cells) (hn' : n ≤ R.slots) (hQ : Q (some v) h) : Go G R X Q (T.setTop (mkF X.m pc Ls (v :: st))) := by
  have fx := w.1
  exact w.leave' (v := some v) (fun z => by rw [hret] at z; cases z) hk' hn' hQ fun fs hr L S => retOut S fx.1 (fx.2.2.2.1.trans hret) hn hi (hb fx.2.1 hd) hr
theorem Wb.retI (w : Wb G M R X vm T h k n) {pc : Nat} {Ls : Array Slot} {st : List Value} {z : Int32} (hd : decode M.code pc = .ok (.ireturn, 1)) (hret : M.ret = some .int) (hk' : k ≤ R.cells) (hn' : n ≤ R.slots) (hQ : Q (some (.int z)) h) : Go G R X Q (T.setTop (mkF X.m pc Ls (.int z :: st))) :=
  w.ret hd hret rfl (Or.inl ⟨rfl, Or.inl rfl, z, rfl⟩) hk' hn' hQ
theorem Wb.retZ (w : Wb G M R X vm T h k n) {pc : Nat} {Ls : Array Slot} {st : List Value} {z : Int32} {t : FieldType} (hd : decode M.code pc = .ok (.ireturn, 1)) (hret : M.ret = some t) (ht : t = .boolean ∨ t = .byte ∨ t = .char ∨ t = .short) (hn : narrow t (.int z) = .int z) (hk' : k ≤ R.cells) (hn' : n ≤ R.slots) (hQ : Q (some (.int z)) h) : Go G R X Q (T.setTop (mkF X.m pc Ls (.int z :: st))) :=
  w.ret hd hret hn (Or.inl ⟨rfl, Or.inr ht, z, rfl⟩) hk' hn' hQ
theorem Wb.retA (w : Wb G M R X vm T h k n) {pc : Nat} {Ls : Array Slot} {st : List Value} {v : Value} {t : FieldType} (hd : decode M.code pc = .ok (.areturn, 1)) (hret : M.ret = some t) (ht : t.isReference = true) (hv : v.isRef = true) (hk' : k ≤ R.cells) (hn' : n ≤ R.slots) (hQ : Q (some v) h) : Go G R X Q (T.setTop (mkF X.m pc Ls (v :: st))) :=
  w.ret hd hret (by cases t <;> first | (cases ht; done) | (rcases ref_cases hv with rfl | ⟨_, rfl⟩ <;> rfl)) (Or.inr (Or.inr (Or.inr (Or.inr ⟨rfl, ht, hv⟩)))) hk' hn' hQ
theorem Wb.retJ (w : Wb G M R X vm T h k n) {pc : Nat} {Ls : Array Slot} {st : List Value} {z : Int64} (hd : decode M.code pc = .ok (.lreturn, 1)) (hret : M.ret = some .long) (hk' : k ≤ R.cells) (hn' : n ≤ R.slots) (hQ : Q (some (.long z)) h) : Go G R X Q (T.setTop (mkF X.m pc Ls (.long z :: st))) :=
  w.ret hd hret rfl (Or.inr (Or.inl ⟨rfl, rfl, z, rfl⟩)) hk' hn' hQ
end WbLay

section Fwd
open Jvm.Lambda Jvm.Free.HMW
variable {G : Gx} {M : Md} {R : Room} {X : Cx} {vm : Vm} {T : State} {h : Heap} {k n : Nat} {Q : Option Value → Heap → Prop}
/-- the same setting with the narrow frame -/
def Gx.nar (G : Gx) : Gx := (false, G.l, G.Z, G.a0, [], G.n0)
/-- the forwarder's record, as one check -/
def fwdK (σ : Lambda.Shape) (host : String) (fcode : ByteArray) (fml : Nat) (fret : Option FieldType) : Bool :=
  plainName (host ++ "$$Lambda") &&
  match σ.file host with
  | none => false
  | some D =>
    match (layoutMethods D).bind (·[1]?) with
    | some f => decide ((f.code.map fun c => (c.code.data, c.maxLocals)) = some (fcode.data, fml)) && decide (f.accessFlags = 1) && decide (f.sig.returnType = fret)
    | none => false
theorem made_fwd {st : Setting} {v : Vm} {d c : ClassId} {dk : Class} {σ : Lambda.Shape} {host : String} {fcode : ByteArray} {fml : Nat} {fret : Option FieldType} (hok : fwdK σ host fcode fml fret = true) (hd : v.classes[d]? = some dk) (hname : dk.name = host) (hm : isMade st v d σ c = true) :
    ∃ (kK : Class) (methk : Method) (ck : Code), v.classes[c]? = some kK ∧ plainName kK.name = true ∧ v.method? ⟨c, 1⟩ = some methk ∧ methk.code = some ck ∧ ck.code = fcode ∧ ck.maxLocals = fml ∧ methk.locks = false ∧ methk.accessFlags = 1 ∧ methk.sig.returnType = fret := by
  obtain ⟨dk', kK, ok, tk, file, cf, object, iface, toy, lay, methods, target, found, hd', hk, hfile, hcf, -, -, -, -, hms, -, -, -, -, hrec, -, -, -, -, -, hmeth, -⟩ := isMade_spec hm
  cases hd.symm.trans hd'
  rw [hname] at hcf
  unfold fwdK at hok
  rw [hcf, Bool.and_eq_true] at hok
  obtain ⟨hpn, hok⟩ := hok
  dsimp only at hok
  cases hf : (layoutMethods cf).bind (·[1]?) with
  | none => rw [hf] at hok; cases hok
  | some f =>
    rw [hf] at hok
    simp only [Bool.and_eq_true, decide_eq_true_eq] at hok
    obtain ⟨⟨fc, ffl⟩, fr⟩ := hok
    rw [hms] at hf
    obtain ⟨b, hb', hsame⟩ := hmeth 1 f hf
    obtain ⟨-, -, hsig, hfl, x, y, hx, hy, -, hml, hcd, -⟩ := sameMethod_spec hsame
    rw [hx] at fc
    simp only [Option.map_some, Option.some.injEq, Prod.mk.injEq] at fc
    refine ⟨kK, b, y, hk, by rw [hrec.1, hname]; exact hpn, by simp [Vm.method?, hk, hb'], hy, ?_, by rw [hml]; exact fc.2, ?_, by rw [hfl]; exact ffl, by rw [hsig]; exact fr⟩
    · rw [hcd]; exact ByteArray.ext fc.1
    · simp [Method.locks, Method.isSynchronized, hfl, ffl, hasFlag, Acc.synchronized]
/-- a class entry of the made class -/
def clsK (σ : Lambda.Shape) (host : String) (ci : Nat) (name : String) : Bool :=
  match σ.file host with
  | none => false
  | some D => match D.constantPool[ci]? with
    | some (.class_ n) => decide (D.constantPool.string? n = some name) && decide (ci ≠ D.thisClass)
    | _ => false
theorem made_cls {st : Setting} {v : Vm} {d c x : ClassId} {dk : Class} {σ : Lambda.Shape} {host name : String} {ci : Nat} (hok : clsK σ host ci name = true) (hd : v.classes[d]? = some dk) (hname : dk.name = host) (hm : isMade st v d σ c = true) (hx : v.findClass name = some x) : v.classReady c ci x := by
  obtain ⟨dk', kK, ok, tk, file, cf, object, iface, toy, lay, methods, target, found, hd', hk, hfile, hcf, -, -, -, -, -, -, -, -, -, -, -, -, -, -, -, -, -, -, hres, -⟩ := isMade_spec hm
  cases hd.symm.trans hd'
  rw [hname] at hcf
  unfold clsK at hok
  rw [hcf] at hok
  dsimp only at hok
  split at hok
  · rename_i n hci
    simp only [Bool.and_eq_true, decide_eq_true_eq] at hok
    exact ⟨kK, hk, hres ci _ (resolvedOf_class hci hok.2 hok.1 hx)⟩
  · cases hok
/-- the made class's reference to its target, an interface's method -/
def refK (σ : Lambda.Shape) (host : String) (idx ci : Nat) : Bool :=
  match σ.file host with
  | none => false
  | some D => match D.constantPool[idx]? with
    | some (.interfaceMethodref ci' nt) => decide (ci' = ci) && decide (D.constantPool.className? ci = some σ.implClass) && decide (D.constantPool.nameAndType? nt = some (σ.implName, σ.implDesc.toString))
    | _ => false
theorem resolvedOf_iface {e : Setting} {v : Vm} {cf : ClassFile} {fields : Array Field} {self : ClassId} {i ci nt : Nat} {cn name desc : String} {owner : ClassId} {kk : Class} {m : MethodId} (hi : cf.constantPool[i]? = some (.interfaceMethodref ci nt)) (hc : cf.constantPool.className? ci = some cn)
    (hf : v.findClass cn = some owner) (hk : v.classes[owner]? = some kk) (hnt : cf.constantPool.nameAndType? nt = some (name, desc)) (hl : ((methodIn owner name desc kk.isInterface none).ask e v).1 = .ok m) :
    (resolvedOf e v cf fields self)[i]? = some (some (.method m)) := by
  simp [resolvedOf, Array.getElem?_mapIdx, hi, hc, hf, hk, hnt, hl]
theorem made_iface {st : Setting} {v : Vm} {d c : ClassId} {dk : Class} {σ : Lambda.Shape} {host : String} {idx ci : Nat} (hok : refK σ host idx ci = true) (hd : v.classes[d]? = some dk) (hname : dk.name = host) (hm : isMade st v d σ c = true) :
    ∃ (kK tk : Class) (file : ClassFile) (toy : ClassId) (t : MethodId) (nt : Nat), v.classes[c]? = some kK ∧ kK.cf = some file ∧ file.constantPool[idx]? = some (.interfaceMethodref ci nt) ∧ v.findClass σ.implClass = some toy ∧ v.classes[toy]? = some tk ∧ ((methodIn toy σ.implName σ.implDesc.toString tk.isInterface none).ask st v).1 = .ok t ∧ v.methodReady c idx t := by
  obtain ⟨dk', kK, ok, tk, file, cf, object, iface, toy, lay, methods, target, found, hd', hk, hfile, hcf, -, -, -, -, -, ht, htk, hg, -, -, -, -, -, -, hpool, -, -, -, hres, -⟩ := isMade_spec hm
  cases hd.symm.trans hd'
  rw [hname] at hcf
  unfold refK at hok
  rw [hcf] at hok
  dsimp only at hok
  split at hok
  · rename_i ci' nt hidx
    simp only [Bool.and_eq_true, decide_eq_true_eq] at hok
    obtain ⟨⟨rfl, hcn⟩, hnt⟩ := hok
    exact ⟨kK, tk, file, toy, target, nt, hk, hfile, by rw [hpool.2.1]; exact hidx, ht, htk, hg, kK, hk, hres idx _ (resolvedOf_iface hidx hcn ht htk hnt hg)⟩
  · cases hok
/-- what is resolved stays resolved -/
theorem res39 {Z : State} {v : Vm} (hZ : Z.Warmed39 v) {c : ClassId} {kc : Class} {i : Nat} {r : Resolved} (hk : Z.vm.classes[c]? = some kc) (hr : kc.resolved[i]? = some (some r)) : ∃ k', v.classes[c]? = some k' ∧ k'.resolved[i]? = some (some r) ∧ k'.cf = kc.cf ∧ k'.fields = kc.fields := by
  obtain ⟨k', hk', he⟩ := hZ.alike.2.2 _ _ hk
  refine ⟨k', hk', ?_, by rw [he], by rw [he]⟩
  rcases hZ.entry hk hk' i with q | ⟨q, -⟩
  · rw [q]; exact hr
  · rw [hr] at q; cases q
theorem field39 {Z : State} {v : Vm} (hZ : Z.Warmed39 v) {c c' : ClassId} {i : Nat} {f : Field} (hr : Z.vm.fieldReady c i c' f) : v.fieldReady c i c' f := by
  obtain ⟨kk, j, kc, h1, h2, h3, h4⟩ := hr
  obtain ⟨k', a1, a2, -, -⟩ := res39 hZ h1 h2
  obtain ⟨k2, b1, b2⟩ := hZ.alike.2.2 _ _ h3
  exact ⟨k', j, k2, a1, a2, b1, by rw [b2]; exact h4⟩
theorem Wb.wT (w : Wb G M R X vm T h k n) : G.Z.Warmed39 T.vm := by
  obtain ⟨-, k0, L, S, -, -, -, hZ, -⟩ := w
  exact wtrans (s := X.s.setVm vm) hZ S.warmed
theorem Wb.getCap (w : Wb G M R X vm T h k n) {host : String} {σ : Lambda.Shape} {cK : ClassId} {fi i pc q : Nat} {Ls : Array Slot} {st : List Value} {a : Addr} {cell : Cell} {v : Value} (hm : X.m = ⟨cK, 1⟩) (hmd : Jvm.LamKit.Made G.Z host σ cK) (hok : Jvm.LamKit.capOK σ host fi i = true) (wO : (Jvm.Cond.instantiable "java/lang/Object" 0).before G.a0 G.Z = true)
    (hcell : h[a]? = some cell) (hvm : cell.vm = .none) (hv : cell.slots[i]? = some v) (hd : decode M.code pc = .ok (.getfield fi, 3)) (hq : pc + 3 = q) (go : Go G R X Q (T.setTop (mkF X.m q Ls (v :: st)))) : Go G R X Q (T.setTop (mkF X.m pc Ls (.ref a :: st))) := by
  subst hq
  have hx := w.hx
  have hd' := hb w.by_ hd
  have hh := w.here
  have hT := w.wT
  have eh := w.heap
  obtain ⟨d, dk, hd0, hdn, hmade, -⟩ := hmd
  obtain ⟨kc, f, -, -, -, hready, hst, hsl⟩ := Jvm.LamKit.made_cap hok hd0 hdn hmade (Jvm.LamKit.noFields wO (State.WarmedH.refl G.Z))
  have hr := field39 hT hready
  refine go.of fun t ht => ?_
  unfold mkF at ht ⊢
  jvm_step hh [hx, hd', getfield.wp_ready (e := X.e) (s := T) (f := { method := X.m, pc := pc, locals := Ls, stack := .ref a :: st, locked := none }) (c := cK) (field := f) (a := a) (rest := st) (cell := cell) (v := v) hh.top (by rw [hm]; exact hr) hst rfl (by rw [eh]; exact hcell) (by rw [hvm]; decide) (by rw [hsl]; exact hv)]
  exact ht
theorem Wb.castM (w : Wb G M R X vm T h k n) {host C : String} {σ : Lambda.Shape} {cK : ClassId} {ci pc q : Nat} {Ls : Array Slot} {st : List Value} {a : Addr} (hm : X.m = ⟨cK, 1⟩) (hmd : Jvm.LamKit.Made G.Z host σ cK) (hok : clsK σ host ci C = true) (I : Exa G.Z h a C) (wc : (Jvm.Cond.castable C C).before G.a0 G.Z = true)
    (hd : decode M.code pc = .ok (.checkcast ci, 3)) (hq : pc + 3 = q) (go : Go G R X Q (T.setTop (mkF X.m q Ls (.ref a :: st)))) : Go G R X Q (T.setTop (mkF X.m pc Ls (.ref a :: st))) := by
  subst hq
  have hx := w.hx
  have hd' := hb w.by_ hd
  have hh := w.here
  have hT := w.wT
  have eh := w.heap
  obtain ⟨d, dk, hd0, hdn, hmade, -⟩ := hmd
  obtain ⟨cC, tC, w1, w2, w3⟩ := Cond.castable_spec wc
  cases w1.symm.trans w2
  obtain ⟨kk, k1, k2⟩ := made_cls hok hd0 hdn hmade w1
  obtain ⟨k', r1, r2, -, -⟩ := res39 hT k1 k2
  obtain ⟨cell, ke, e1, e2, e3, e4, -⟩ := I
  cases w1.symm.trans e2
  obtain ⟨k3, q1, -⟩ := hT.alike.2.2 _ _ e3
  refine go.of fun t ht => ?_
  unfold mkF at ht ⊢
  jvm_step hh [hx, hd', checkcast.wp_ready (e := X.e) (s := T) (f := { method := X.m, pc := pc, locals := Ls, stack := .ref a :: st, locked := none }) (index := ci) (c := cell.cls) (x := .ref a) (rest := st) hh.top (by rw [hm]; exact ⟨k', r1, r2⟩) rfl]
  refine ⟨cell, by rw [eh]; exact e1, by first | exact e4 | (intro z; rw [e4]; exact VmData.noConfusion) | (intro z zz; rw [zz] at e4; cases e4), k3, q1, k3, q1, ?_⟩
  rw [if_pos (by rw [hT.alike.assignable]; exact w3)]
  exact ht
theorem Wb.callRaw (w : Wb G M R X vm T h k n) {pc q len W k1 n1 : Nat} {ig : Instr} {Ls : Array Slot} {st rest : List Value} {y : MethodName} {mk : MethodId} {as : Array Value} {Q1 : Option Value → Heap → Prop}
    (hd : decode M.code pc = .ok (ig, len)) (hn : G.Z.methodNamed? y = some mk) (hsz : Ls.size = M.mx) (hW : (rest.map fun v => v.category).sum ≤ W)
    (hraw : ∀ target, (∀ acts, Steps X.p.tables X.e X.below (doInvoke X.e (T.setTop (mkF X.m pc Ls rest)) acts mk as).1 target) → Steps X.p.tables X.e X.below (T.setTop (mkF X.m pc Ls st)) target)
    (pay : Pay G R X y len W as h k1 n1 Q1 vm) (hc : k + k1 ≤ R.cells) (hl : n + n1 ≤ R.slots) (hq : pc + len = q)
    (go : ∀ (vm' : Vm) (T' : State) (h' : Heap) (v : Option Value), Wb G M R X vm' T' h' (k + k1) (n + n1) → Q1 v h' → Go G R X Q (T'.setTop (mkF X.m q Ls (v.toList ++ rest)))) : Go G R X Q (T.setTop (mkF X.m pc Ls st)) := by
  subst hq
  have hT := w.wT
  have hn' : T.methodNamed? y = some mk := by
    have := State.methodNamed?_setVm (s := G.Z) (vm' := T.vm) hT.alike (x := y)
    rw [hn] at this; exact this
  obtain ⟨fx, k0, L, S, eh, hS, hk, hZ, hown, hF, ho, hch, hnw⟩ := w
  rcases pay with pay | ⟨hwd, pay⟩
  · obtain ⟨v, B, X', post, st'⟩ := pay X.m X.meth X.c ⟨T, L, k, n⟩ (mkF X.m pc Ls rest) ig mk as S rfl (hsz.trans fx.2.2.1.symm) (hb fx.2.1 hd) (by show 2 * 0 + _ ≤ _; simpa using hW) hn' ⟨rfl, eh, hc, hl⟩
    obtain ⟨w2, q1⟩ := fbN fx hS hk hZ hown hF hch hnw X' post
    exact (go _ _ _ v w2 q1).of fun t z => hraw t fun acts => by rw [doInvoke_state]; exact st'.trans z
  · obtain ⟨v, B, X', hS', hgr, post, st'⟩ := pay X.m X.meth X.c ⟨T, L, k, n⟩ (mkF X.m pc Ls rest) ig mk as S rfl (hsz.trans fx.2.2.1.symm) (hb fx.2.1 hd) (by show 2 * 0 + _ ≤ _; simpa using hW) hn' ⟨rfl, eh, hc, hl⟩
    obtain ⟨w2, q1⟩ := fbW hwd fx hS hk hZ hown hF hch X' hS' (by rw [← eh]; exact hgr) post
    exact (go _ _ _ v w2 q1).of fun t z => hraw t fun acts => by rw [doInvoke_state]; exact st'.trans z
/-- the forwarder's invokeinterface of its target xi on an object of class C, which selects y -/
theorem Wb.callItf (w : Wb G M R X vm T h k n) {host C : String} {σ : Lambda.Shape} {cK : ClassId} {xi y : MethodName} {idx ci count pc q W k1 n1 : Nat} {Ls : Array Slot} {st argsL rest : List Value} {a : Addr} {Q1 : Option Value → Heap → Prop} (hm : X.m = ⟨cK, 1⟩) (hmd : Jvm.LamKit.Made G.Z host σ cK)
    (hok : refK σ host idx ci = true) (hok2 : clsK σ host ci xi.cls = true) (hxi : xi.cls = σ.implClass ∧ xi.name = σ.implName ∧ xi.desc = σ.implDesc.toString)
    (w2 : (Jvm.Cond.declares xi).before G.a0 G.Z = true) (w3 : (Jvm.Cond.interfaceMethod xi.cls xi.cls xi.name xi.desc).before G.a0 G.Z = true) (w4 : (Jvm.Cond.selects C xi y).before G.a0 G.Z = true) (w5 : (Jvm.Cond.instanceMethod y).before G.a0 G.Z = true) (w6 : (Jvm.Cond.publicMethod y).before G.a0 G.Z = true) (w7 : (Jvm.Cond.unhidden C xi.name xi.desc).before G.a0 G.Z = true) (w8 : (Jvm.Cond.castable C xi.cls).before G.a0 G.Z = true) (E : Exa G.Z h a C)
    (hd : decode M.code pc = .ok (.invokeinterface idx count, 5)) (hst : st = argsL.reverse ++ .ref a :: rest) (hlen : ∀ sig, parseMethodDescriptor xi.desc = some sig → argsL.length = sig.parameters.length) (hsz : Ls.size = M.mx) (hW : (rest.map fun v => v.category).sum ≤ W)
    (pay : Pay G R X y 5 W (.ref a :: argsL).toArray h k1 n1 Q1 vm) (hc : k + k1 ≤ R.cells) (hl : n + n1 ≤ R.slots) (hq : pc + 5 = q)
    (go : ∀ (vm' : Vm) (T' : State) (h' : Heap) (v : Option Value), Wb G M R X vm' T' h' (k + k1) (n + n1) → Q1 v h' → Go G R X Q (T'.setTop (mkF X.m q Ls (v.toList ++ rest)))) : Go G R X Q (T.setTop (mkF X.m pc Ls st)) := by
  subst hst
  have hx := w.hx
  have hd' := hb w.by_ hd
  have hh := w.here
  have hT := w.wT
  have eh := w.heap
  have had : ∃ L, Stand X.p G.l X.e R (X.s.setVm vm) X.m X.args X.below X.meth X.c T L k n := by obtain ⟨-, k0, L, S, -⟩ := w; exact ⟨L, S⟩
  obtain ⟨_, S0⟩ := had
  have al := hT.alike
  obtain ⟨d, dk, hd0, hdn, hmade, -⟩ := hmd
  obtain ⟨r0, r, hn, hrm, hstR, hsigR⟩ := Cond.declares_spec w2
  obtain ⟨cL, kL, r1, hcL, hkL, hiL, hfoundL, hn1⟩ := Cond.interfaceMethod_spec w3
  cases hn.symm.trans hn1
  have hr0cls : r0.cls = cL := Option.some.inj ((findClass_of_methodNamed hn).symm.trans hcL)
  obtain ⟨hnameR, hdescR⟩ := name_of_methodNamed hn hrm
  obtain ⟨kK, tk, file, toy, t0, nt, hkK, hfile, hidx, htoy, htk, hlook, hready⟩ := made_iface hok hd0 hdn hmade
  obtain ⟨x1, x2, x3⟩ := hxi
  rw [← x1] at htoy
  cases hcL.symm.trans htoy
  cases hkL.symm.trans htk
  have ht0 : t0 = r0 := by
    have h1 : G.Z.methodFound? xi.cls xi.name xi.desc = some r0 := hfoundL
    simp only [State.methodFound?, hcL, hkL, Option.bind_eq_bind, Option.bind_some] at h1
    rw [x2, x3, hlook] at h1
    exact Option.some.inj h1
  subst ht0
  obtain ⟨kk1, a1, a2⟩ := made_cls hok2 hd0 hdn hmade hcL
  cases hkK.symm.trans a1
  obtain ⟨k', b1, b2, b3, -⟩ := res39 hT hkK a2
  obtain ⟨kk2, c1, c2⟩ := hready
  obtain ⟨k'', c3, c4, -, -⟩ := res39 hT c1 c2
  obtain ⟨mk, methM, hnamed, hmethM, -, habM⟩ := Cond.instanceMethod_spec w5
  obtain ⟨c5, r5, m5, q1, q2, q3, q4, -⟩ := Cond.selects_spec w4
  cases hfoundL.symm.trans q2
  cases hnamed.symm.trans q3
  have hpubM : hasFlag methM.accessFlags Acc.public_ = true := Cond.publicMethod_spec hnamed hmethM w6
  have hunh := Cond.unhidden_spec q1 w7
  obtain ⟨c6, t6, v1, v2, v3⟩ := Cond.castable_spec w8
  cases q1.symm.trans v1
  cases hcL.symm.trans v2
  obtain ⟨cell, ke, e1, e2, e3, e4, -⟩ := E
  cases q1.symm.trans e2
  obtain ⟨k9, g1, -⟩ := al.2.2 _ _ e3
  obtain ⟨kL', hkL', heL⟩ := al.2.2 _ _ hkL
  refine w.callRaw (y := y) (mk := mk) (as := (.ref a :: argsL).toArray) (rest := rest) hd hnamed hsz hW (fun target hrest => ?_) pay hc hl hq go
  unfold mkF at hrest ⊢
  jvm_step hh [hx, hd', invokeinterface.wp_ready (e := X.e) (s := T) (f := { method := X.m, pc := pc, locals := Ls, stack := argsL.reverse ++ .ref a :: rest, locked := none }) (index := idx) (count := count) (ci := ci) (nt := nt) (r0 := t0) (m := mk) (named := cL) (ck := k') (nk := kL') (kcell := k9) (cf := file) (r := r) (meth := methM) (args := argsL) (rest := rest) (cell := cell) (a := a)
    hh.top (by rw [hm]; exact ⟨k'', c3, c4⟩) (by rw [al.method?]; exact hrm) hstR (hlen _ hsigR) rfl (by rw [eh]; exact e1) (by first | exact e4 | (intro z zz; rw [zz] at e4; cases e4)) g1 (by rw [hm]; exact b1) (by rw [b3]; exact hfile) hidx b2 hkL' (by rw [heL]; exact hiL)
    (by rw [al.assignable]; exact v3) (by rw [al.selectMethod, Launch.admits_selectMethod S0.admits]; exact q4) (by rw [al.method?]; exact hmethM)
    (Or.inr (Or.inr (by rw [hnameR, hdescR, al.superclasses]; simp only [al.declaredIn]; exact hunh))) (Or.inl hpubM) habM]
  exact fun acts => hrest acts
/-- **invokeinterface ON A FUNCTION OBJECT**: its forwarder runs, in the narrow frame -/
theorem Wk.callLam (w : Wk G M R X vm T h k n) {pc q index count W fml : Nat} {Ls L0 : Array Slot} {st argsL rest : List Value} {xi : MethodName} {σ : Lambda.Shape} {host : String} {cK : ClassId} {a : Addr} {cell : Cell} {R' : Room} {fcode : ByteArray} {fret : Option FieldType} {Q1 : Option Value → Heap → Prop}
    (hd : decode M.code pc = .ok (.invokeinterface index count, 5)) (w1 : (Jvm.Cond.methodLink M.own index xi).before G.a0 G.Z = true) (w2 : (Jvm.Cond.declares xi).before G.a0 G.Z = true) (w3 : (Jvm.Cond.interfaceMethod xi.cls xi.cls xi.name xi.desc).before G.a0 G.Z = true) (hpoly : xi.cls ≠ "java/lang/invoke/MethodHandle" ∧ xi.cls ≠ "java/lang/invoke/VarHandle")
    (hxi : σ.iface = xi.cls ∧ σ.name = xi.name ∧ σ.sam.toString = xi.desc) (hmd : Jvm.LamKit.Made G.Z host σ cK) (hcell : h[a]? = some cell) (hcls : cell.cls = cK) (hvm : cell.vm = .none) (hok : fwdK σ host fcode fml fret = true)
    (hst : st = argsL.reverse ++ .ref a :: rest) (hlen : ∀ sig, parseMethodDescriptor xi.desc = some sig → argsL.length = sig.parameters.length) (hsz : Ls.size = M.mx) (hW : (rest.map fun v => v.category).sum ≤ W) (hL0 : ∀ mk, entryFrame mk (.ref a :: argsL).toArray fml = mkF mk 0 L0 [])
    (hfr : R'.frames + 1 ≤ R.frames) (hlo : W + (fml + 11) + R'.locals ≤ R.locals) (hc : k + R'.cells ≤ R.cells) (hl : n + R'.slots ≤ R.slots) (hq : pc + 5 = q) (hext : ∀ v h', Q1 v h' → Ext h h')
    (body : ∀ (X' : Cx) (T' : State), X'.m = ⟨cK, 1⟩ → Wb G.nar ("", X'.meth.name, fcode, fml, fret) R' X' X'.s.vm T' h 0 0 → Go G.nar R' X' Q1 (T'.setTop (mkF X'.m 0 L0 [])))
    (go : ∀ (vm' : Vm) (T' : State) (h' : Heap) (v : Option Value), Wk G M R X vm' T' h' (k + R'.cells) (n + R'.slots) → Q1 v h' → Go G R X Q (T'.setTop (mkF X.m q Ls (v.toList ++ rest)))) : Go G R X Q (T.setTop (mkF X.m pc Ls st)) := by
  subst hst hq
  obtain ⟨fx, k0, L, S, eh, hS, hk, hZ, hown, hF, ho, hch, hnw⟩ := w
  have al := hZ.alike
  obtain ⟨d, dk, hd0, hdn, hmade, hcan⟩ := hmd
  obtain ⟨kK, methk, ck, f1, f2, f3, f4, f5, f6, f7, f8, f9⟩ := made_fwd hok hd0 hdn hmade
  obtain ⟨kF, methK, g1, g2, g3, g4, g5⟩ := FnX.of_site hmade hcan hxi.1 hxi.2.1 hxi.2.2 w3 f1 f3 f8
  cases f3.symm.trans g2
  obtain ⟨r0, r, hn, hrm, hstR, hsigR⟩ := Cond.declares_spec w2
  obtain ⟨cL, kL, r1, hcL, hkL, hiL, -, hn1⟩ := Cond.interfaceMethod_spec w3
  cases hn.symm.trans hn1
  have hr0cls : r0.cls = cL := Option.some.inj ((findClass_of_methodNamed hn).symm.trans hcL)
  obtain ⟨hasg, hsel, hway⟩ := g5 r0 r hn hrm
  obtain ⟨kL', hkL', heL⟩ := al.2.2 _ _ hkL
  obtain ⟨kK', hkK', heK⟩ := al.2.2 _ _ f1
  subst hcls
  have hn' : (X.s.setVm vm).methodNamed? xi = some r0 := by
    have := State.methodNamed?_setVm (s := G.Z) (vm' := vm) al (x := xi)
    rw [hn] at this; exact this
  obtain ⟨vm₁, X₁, hstep⟩ := S.invokeinterface fx.1 hown (mv (s := X.s.setVm vm) hZ w1) hn' (by show vm.method? r0 = some r; rw [al.method?]; exact hrm) hstR (ki := kL') (by show vm.classes[r0.cls]? = some kL'; rw [hr0cls]; exact hkL') (by rw [heL]; exact hiL) hpoly (a := a) (cell := cell) (kcell := kK') (by rw [eh]; exact hcell) (fun z q => by rw [hvm] at q; cases q) hkK'
    (by show vm.assignable cell.cls r0.cls = true; rw [al.assignable]; exact hasg) (m' := ⟨cell.cls, 1⟩) (meth' := methk) (by show selectMethod X.e.platform vm cell.cls r0 = _; rw [al.selectMethod, Launch.admits_selectMethod S.admits]; exact hsel) (by show vm.method? _ = some methk; rw [al.method?]; exact f3)
    (by show ((cell.cls :: vm.superclasses cell.cls).any fun k => (declaredIn vm r.name r.desc k).any fun (_, y) => y.isPrivate || y.isStatic) = false; rw [al.superclasses]; simp only [al.declaredIn]; exact hway) g3 g4 (g := mkF X.m pc Ls (argsL.reverse ++ .ref a :: rest)) rfl (argsL := argsL) (rest := rest) (hlen _ hsigR) rfl (hb fx.2.1 hd)
  have hZ1 : G.Z.Warmed39 vm₁ := wtrans (s := X.s.setVm vm) (U := T.setVm vm₁) hZ X₁.warmed
  have al1 := hZ1.alike
  obtain ⟨k1', hk1', he1⟩ := al1.2.2 _ _ f1
  obtain ⟨Y₀, hin⟩ := X₁.into (g := mkF X.m pc Ls rest) rfl (hsz.trans fx.2.2.1.symm) (hb fx.2.1 hd) (mk := ⟨cell.cls, 1⟩) (methk := methk) (ck := ck) (.ref a :: argsL).toArray (R' := R') (by show vm₁.method? _ = some methk; rw [al1.method?]; exact f3) f4 f7
    (State.plainMethod.of_name (fun k' hk' => by cases hk1'.symm.trans hk'; rw [he1]; exact f2)) hfr (by rw [f6]; show 2 * 0 + _ + (fml + 11) + R'.locals ≤ _; have : ((mkF X.m pc Ls rest).stack.map fun v => v.category).sum ≤ W := hW; omega) hc hl
  rw [f6, hL0] at Y₀ hin
  generalize hU : ((T.setVm vm₁).setTop (mkF X.m pc Ls rest)).pushFrame (.java (mkF ⟨cell.cls, 1⟩ 0 L0 [])) = U at Y₀ hin
  have hheapU : U.heap = h := by rw [← hU, ← eh]; rfl
  have hvmU : U.vm = vm₁ := by rw [← hU]; rfl
  have wb : Wb G.nar ("", methk.name, fcode, fml, fret) R' (X.p, X.e, (T.setVm vm₁).calling (mkF X.m pc Ls rest) ⟨cell.cls, 1⟩ (.ref a :: argsL).toArray, ⟨cell.cls, 1⟩, (.ref a :: argsL).toArray, .java (mkF X.m pc Ls rest) :: X.below, methk, ck) ((T.setVm vm₁).calling (mkF X.m pc Ls rest) ⟨cell.cls, 1⟩ (.ref a :: argsL).toArray).vm U h 0 0 :=
    ⟨⟨fx.1, f5, f6, f9, f7, rfl, EW.nil⟩, 0, [], Y₀, hheapU, (State.WarmedH.refl _).since 0, Nat.zero_le _, hZ1, trivial, Fr.nil _, ho, fun b => Bool.noConfusion (show false = true from b), fun _ => rfl⟩
  obtain ⟨t, o, hs1, hrun, hend, v, Lb, rfl, ⟨hq1, hF', ho'⟩, -, hEnd⟩ := body _ U rfl wb
  obtain ⟨-, hWe, hsame⟩ := hEnd.2 rfl
  obtain ⟨T', X2, -, -, ht⟩ := X₁.outOf (g := mkF X.m pc Ls rest) rfl (hb fx.2.1 hd) hend hWe hsame
  have hheap' : T'.heap = t.heap := (congrArg State.heap ht).symm
  have E := hext v t.heap hq1
  have wk : Wk G M R X vm T' t.heap (k + R'.cells) (n + R'.slots) := ⟨fx, k0, _, X2, hheap', hS, Nat.le_trans hk E.1, hZ, hown, Fr.app hF hF', ho', fun b => (hch b).trans (CHr.ext E (hch b).1), hnw⟩
  refine (go vm T' t.heap v wk hq1).of fun tt z => hstep tt fun acts => ?_
  rw [show ({ mkF X.m pc Ls (argsL.reverse ++ .ref a :: rest) with stack := rest } : JFrame) = mkF X.m pc Ls rest from rfl, hin acts]
  refine (Steps.weaken (mid := [.java (mkF X.m pc Ls rest)]) hs1).trans ?_
  rw [ht]; exact z
end Fwd

section Direct
variable {G : Gx} {M : Md} {R : Room} {X : Cx} {vm : Vm} {T : State} {h : Heap} {k n : Nat} {Q : Option Value → Heap → Prop}
/-- a call paid by the callee's own walk in the narrow frame: no word on its class's initialisation is asked -/
theorem Pay.direct (w : Wk G M R X vm T h k n) {y : MethodName} {bytes : ByteArray} {maxL len W : Nat} {ret : Option FieldType} {R' : Room} {as : Array Value} {L0 : Array Slot} {Q1 : Option Value → Heap → Prop} (wc : (Jvm.Cond.code y bytes maxL ret).before G.a0 G.Z = true) (hpn : plainFor y = true) (hL0 : ∀ mk, entryFrame mk as maxL = mkF mk 0 L0 [])
    (hfr : R'.frames + 1 ≤ R.frames) (hlo : W + (maxL + 11) + R'.locals ≤ R.locals) (hext : ∀ v h', Q1 v h' → Ext h h')
    (body : ∀ (X' : Cx) (T' : State), Wk G.nar (y.cls, y.name, bytes, maxL, ret) R' X' X'.s.vm T' h 0 0 → Go G.nar R' X' Q1 (T'.setTop (mkF X'.m 0 L0 []))) : Pay G R X y len W as h R'.cells R'.slots Q1 vm := by
  have hZ := w.wz
  have ho := w.old
  have hch := w.ch
  have hx := w.hx
  refine Or.inl ?_
  intro m meth c A g ig mk a S hg hsz hd hW hn hp
  obtain ⟨U, Ls, c0, s0⟩ := A
  dsimp only [Pt.U, Pt.locs, Pt.cells, Pt.slots] at S hn hp ⊢
  obtain ⟨rfl, eh, hc, hl⟩ := hp
  have hU : G.Z.Warmed39 U.vm := wtrans (s := X.s.setVm vm) hZ S.warmed
  have wc' := mv (s := U) (args := a) hU wc
  obtain ⟨methY, cY, hmY, hcY, hbY, hlY, hrY, hkY, -⟩ := Cond.code_spec hn wc'
  obtain ⟨kY, hkY', hnY⟩ := className_of_methodNamed hn
  obtain ⟨Y₀, hin⟩ := S.into hg hsz hd a (mk := mk) (methk := methY) (ck := cY) (R' := R') hmY hcY hkY (State.plainMethod.of_named hpn hn hmY) hfr (by rw [hlY]; omega) hc hl
  rw [hlY, hL0] at Y₀ hin
  generalize hUU : (U.setTop g).pushFrame (.java (mkF mk 0 L0 [])) = V at Y₀ hin
  have hheapV : V.heap = h := by rw [← hUU, ← eh]; rfl
  have wk : Wk G.nar (y.cls, y.name, bytes, maxL, ret) R' (X.p, X.e, U.calling g mk a, mk, a, .java g :: X.below, methY, cY) (U.calling g mk a).vm V h 0 0 :=
    ⟨⟨hx, hbY, hlY, hrY, hkY, (name_of_methodNamed hn hmY).1, EW.nil⟩, 0, [], Y₀, hheapV, (State.WarmedH.refl _).since 0, Nat.zero_le _, hU, findClass_of_methodNamed hn, Fr.nil _, ho, fun b => Bool.noConfusion (show false = true from b), fun _ => rfl⟩
  obtain ⟨t, o, hs1, hrun, hend, v, Lb, rfl, ⟨hq1, hF', ho'⟩, -, hEnd⟩ := body _ V wk
  obtain ⟨-, hWe, hsame⟩ := hEnd.2 rfl
  obtain ⟨T', X2, -, -, ht⟩ := S.outOf hg hd hend hWe hsame
  have hheap' : T'.heap = t.heap := (congrArg State.heap ht).symm
  have E := hext v t.heap hq1
  refine ⟨v, ⟨T', Ls ++ Lb, c0 + R'.cells, s0 + R'.slots⟩, X2, ⟨Lb, ⟨?_, hF', ?_, ?_, fun b => ?_⟩, rfl, rfl, rfl⟩, ?_⟩
  · show Q1 v T'.heap; rw [hheap']; exact hq1
  · show Old G.Z G.n0 T'.heap; rw [hheap']; exact ho'
  · show h.size ≤ T'.heap.size; rw [hheap']; exact E.1
  · show CHr G.Z G.EL vm h vm T'.heap; rw [hheap']; exact CHr.ext E (hch b).1
  · show Steps X.p.tables X.e X.below _ (T'.setTop _)
    rw [hin [], ← ht]
    exact Steps.weaken (mid := [.java g]) hs1
end Direct

end Own
end Jvm.Pilot.@@N@@
namespace Jvm.Pilot.@@N@@
open Jvm Jvm.ClassFile Sem Op Lib Jvm.Free Jvm.Stand Jvm.LawKit Jvm.RoadKit Bundle Jvm.Pilot.@@N@@.Jvm.D Own
def Hyp (G : Gx) : Prop := (∀ d ∈ tables_1, d.before G.a0 G.Z = true) ∧ EW G.Z G.a0 G.EL ∧ (∃ z : Int32, ¬ z = 0 ∧ Sta G.Z G.Z.heap "java/lang/String" "COMPACT_STRINGS" "Z" (.int z)) ∧ (G.wd = true ∧ G.EL = consts_1) ∧ ∃ (es em : Nat), Sta G.Z G.Z.heap "java/util/ImmutableCollections" "EMPTY_SET" "Ljava/util/ImmutableCollections$SetN;" (.ref es) ∧ Exa G.Z G.Z.heap es "java/util/ImmutableCollections$SetN" ∧ Fld G.Z G.Z.heap es "java/util/ImmutableCollections$SetN" "size" "I" (.int 0) ∧ Sta G.Z G.Z.heap "java/util/ImmutableCollections" "EMPTY" "Ljava/lang/Object;" (.ref em) ∧ Exa G.Z G.Z.heap em "java/lang/Object"
theorem Hyp.tw {G : Gx} (H : Hyp G) {d : Jvm.Cond} (i : Nat) (q : tables_1[i]? = some d) : d.before G.a0 G.Z = true := H.1 d (List.mem_of_getElem? q)
theorem Hyp.el {G : Gx} (H : Hyp G) : EW G.Z G.a0 G.EL := H.2.1
theorem Hyp.cz {G : Gx} (H : Hyp G) : ∃ z : Int32, ¬ z = 0 ∧ Sta G.Z G.Z.heap "java/lang/String" "COMPACT_STRINGS" "Z" (.int z) := H.2.2.1
theorem Hyp.ws {G : Gx} (H : Hyp G) : ∀ d ∈ StrChars.Road.words, d.before G.a0 G.Z = true := fun d hd => H.1 d ((by decide +kernel : ∀ d ∈ StrChars.Road.words, d ∈ tables_1) d hd)
theorem Hyp.weq {G : Gx} (H : Hyp G) : ∀ d ∈ StrChars.Road.wordsEq, d.before G.a0 G.Z = true := fun d hd => H.1 d ((by decide +kernel : ∀ d ∈ StrChars.Road.wordsEq, d ∈ tables_1) d hd)
theorem Hyp.sa {G : Gx} (H : Hyp G) : ∀ d ∈ Bundle.stringAtoms, d.before G.a0 G.Z = true := fun d hd => H.1 d ((by decide +kernel : ∀ d ∈ Bundle.stringAtoms, d ∈ tables_1) d hd)
theorem Hyp.wd {G : Gx} (H : Hyp G) : G.wd = true := H.2.2.2.1.1
theorem Hyp.mem {G : Gx} (H : Hyp G) {p : String × Nat} (q : p ∈ consts_1) : p ∈ G.EL := H.2.2.2.1.2 ▸ q
theorem Hyp.mo {G : Gx} (H : Hyp G) : ∃ (es em : Nat), Sta G.Z G.Z.heap "java/util/ImmutableCollections" "EMPTY_SET" "Ljava/util/ImmutableCollections$SetN;" (.ref es) ∧ Exa G.Z G.Z.heap es "java/util/ImmutableCollections$SetN" ∧ Fld G.Z G.Z.heap es "java/util/ImmutableCollections$SetN" "size" "I" (.int 0) ∧ Sta G.Z G.Z.heap "java/util/ImmutableCollections" "EMPTY" "Ljava/lang/Object;" (.ref em) ∧ Exa G.Z G.Z.heap em "java/lang/Object" := H.2.2.2.2
theorem StrAt.lit {Z : State} {h : Heap} {a b : Addr} {kb : ClassId} {z : Int32} {vs : List Value} (cs : List Int32) (A1 : Exa Z h a "java/lang/String") (A2 : Fld Z h a "java/lang/String" "coder" "B" (.int 0)) (A3 : Fld Z h a "java/lang/String" "value" "[B" (.ref b)) (A4 : Arv Z h b kb .byte z vs (.int 0)) (e1 : z = Int32.ofNat cs.length) (e2 : vs = cs.map fun c => Value.int (StrChars.lo8 c)) (e3 : ∀ c ∈ cs, ¬ c < 0 ∧ ¬ (255 : Int32) < c) (e4 : cs.length ≤ 4000) : StrAt Z h a 0 cs :=
  ⟨b, kb, z, vs, A1, A3, A2, A4, Or.inl ⟨rfl, e1, e2, fun c hc => (e3 c hc).2⟩, up_ cs e3, e4⟩
def HypN (G : Gx) : Prop := (∀ d ∈ tables_1, d.before G.a0 G.Z = true) ∧ EW G.Z G.a0 G.EL ∧ (∃ z : Int32, ¬ z = 0 ∧ Sta G.Z G.Z.heap "java/lang/String" "COMPACT_STRINGS" "Z" (.int z)) ∧ True
theorem HypN.tw {G : Gx} (H : HypN G) {d : Jvm.Cond} (i : Nat) (q : tables_1[i]? = some d) : d.before G.a0 G.Z = true := H.1 d (List.mem_of_getElem? q)
theorem HypN.el {G : Gx} (H : HypN G) : EW G.Z G.a0 G.EL := H.2.1
theorem HypN.cz {G : Gx} (H : HypN G) : ∃ z : Int32, ¬ z = 0 ∧ Sta G.Z G.Z.heap "java/lang/String" "COMPACT_STRINGS" "Z" (.int z) := H.2.2.1
theorem HypN.ws {G : Gx} (H : HypN G) : ∀ d ∈ StrChars.Road.words, d.before G.a0 G.Z = true := fun d hd => H.1 d ((by decide +kernel : ∀ d ∈ StrChars.Road.words, d ∈ tables_1) d hd)
theorem HypN.weq {G : Gx} (H : HypN G) : ∀ d ∈ StrChars.Road.wordsEq, d.before G.a0 G.Z = true := fun d hd => H.1 d ((by decide +kernel : ∀ d ∈ StrChars.Road.wordsEq, d ∈ tables_1) d hd)
theorem Hyp.n {G : Gx} (H : Hyp G) : HypN G := ⟨H.1, H.2.1, H.2.2.1, trivial⟩
theorem Hyp.nar {G : Gx} (H : Hyp G) : HypN G.nar := ⟨H.1, EW.nil, H.2.2.1, trivial⟩
theorem HypN.nar {G : Gx} (H : HypN G) : HypN G.nar := ⟨H.1, EW.nil, H.2.2.1, trivial⟩
theorem ite_no {p : Prop} [Decidable p] (c : (if p then (1 : Int32) else 0) = 0) : ¬ p := fun q => by rw [if_pos q] at c; exact absurd c (by decide)
theorem ite_yes {p : Prop} [Decidable p] (c : ¬ (if p then (1 : Int32) else 0) = 0) : p := Classical.byContradiction fun q => c (if_neg q)
theorem nar_ite (p : Prop) [Decidable p] : narrow .boolean (.int (if p then (1 : Int32) else 0)) = .int (if p then (1 : Int32) else 0) := by by_cases q : p <;> simp only [q, if_true, if_false] <;> rfl
theorem fit1 {t : FieldType} {v : Value} (h1 : narrow t v = v) (h2 : fits t v = true) : ∀ (i : Nat) t' v', [t][i]? = some t' → [v][i]? = some v' → narrow t' v' = v' ∧ fits t' v' = true := by
  intro i t' v' a b
  match i with
  | 0 => cases a; cases b; exact ⟨h1, h2⟩
  | n + 1 => simp at a

theorem d0_0 : decode jdk_42_method_149_code 0 = .ok (.aload_n 0, 1) := by decide +kernel
theorem d0_1 : decode jdk_42_method_149_code 1 = .ok (.invokespecial 1, 3) := by decide +kernel
theorem d0_4 : decode jdk_42_method_149_code 4 = .ok (.iload_n 3, 1) := by decide +kernel
theorem d0_5 : decode jdk_42_method_149_code 5 = .ok (.ifCond .ne 22, 3) := by decide +kernel
theorem d0_8 : decode jdk_42_method_149_code 8 = .ok (.aload_n 0, 1) := by decide +kernel
theorem d0_9 : decode jdk_42_method_149_code 9 = .ok (.ldc 7, 2) := by decide +kernel
theorem d0_11 : decode jdk_42_method_149_code 11 = .ok (.getfield 9, 3) := by decide +kernel
theorem d0_14 : decode jdk_42_method_149_code 14 = .ok (.putfield 9, 3) := by decide +kernel
theorem d0_17 : decode jdk_42_method_149_code 17 = .ok (.aload_n 0, 1) := by decide +kernel
theorem d0_18 : decode jdk_42_method_149_code 18 = .ok (.ldc 7, 2) := by decide +kernel
theorem d0_20 : decode jdk_42_method_149_code 20 = .ok (.getfield 15, 3) := by decide +kernel
theorem d0_23 : decode jdk_42_method_149_code 23 = .ok (.putfield 15, 3) := by decide +kernel
theorem d0_26 : decode jdk_42_method_149_code 26 = .ok (.return_, 1) := by decide +kernel
theorem pn1 : plainName "java/lang/String" = true := by first | (simp [plainName, overriddenIn]; done) | decide +kernel
set_option maxRecDepth 65536 in
set_option maxHeartbeats 40000000 in
theorem con_init4e (G : Gx) (H : Hyp G) (x b : Nat) (h : Heap) (ho : Old G.Z G.n0 h) (E : Exa G.Z h x "java/lang/String") (V : Fld G.Z h x "java/lang/String" "value" "[B" .null) (C : Fld G.Z h x "java/lang/String" "coder" "B" (.int (0 : Int32))) (g : G.n0 ≤ x) :
    Con G (⟨"java/lang/String", "<init>", "([CIILjava/lang/Void;)V"⟩ : MethodName) jdk_42_method_149_code 6 none [] ({ frames := 1, cells := 4, slots := 8, locals := 12 } : Room) #[(.ref x), (.ref b), (.int (0 : Int32)), (.int (0 : Int32)), .null] h (nQ fun h' => Keep h h' [x] ∧ StrAt G.Z h' x 0 []) := by
  refine Con.intro H.el ho (plainFor_of_name pn1) (Ls := #[.val (.ref x), .val (.ref b), .val (.int (0 : Int32)), .val (.int (0 : Int32)), .val .null, .unset]) (fun m => by first | (simp [entryFrame, mkF, argsToLocals, Value.category]; done) | rfl) ?_
  intro X vm T w
  have ltx : x < h.size := E.lt
  refine w.aloadN (q := 1) d0_0 rfl rfl rfl ?_
  refine w.initO (q := 4) (W := 0) d0_1 (H.tw 15 rfl) (H.tw 16 rfl) (H.tw 17 rfl) rfl (by decide) (Nat.le_of_eq rfl) (by decide) rfl fun T1 w1 => ?_
  refine w1.iloadN (q := 5) d0_4 rfl rfl ?_
  refine w1.ifN (q := 8) d0_5 ((if0 _ _).trans (teq rfl).2) rfl ?_
  refine w1.aloadN (q := 9) d0_8 rfl rfl rfl ?_
  have sf0 := w1.sfB E V
  refine w1.ldcS (q := 11) (sz := 0) (vs := []) (z := 0) d0_9 H.wd (H.tw 18 rfl) H.sa (H.mem (by decide)) ⟨by decide, rfl⟩ (by decide) rfl (by decide) (by decide) (by decide) (by decide) rfl fun vm2 T2 h2 a2 bb2 kb2 w2 X2 ch2 A1_2 A2_2 A3_2 A4_2 => ?_
  have sz2 : h.size ≤ h2.size := X2.1
  have S2 : StrAt G.Z h2 a2 0 [] := StrAt.lit _ A1_2 A2_2 A3_2 A4_2 rfl rfl lat0 (by decide)
  replace E := E.ext X2
  have EX2 := E
  replace V := V.ext X2
  replace C := C.ext X2
  have sf1 : G.wd = true → Safe G.Z G.EL vm2 h2 x := fun z => ch2.safe ltx (sf0 z)
  refine w2.getF (q := 14) d0_11 (H.tw 24 rfl) Via.refl A3_2 rfl fun T3 w3 => ?_
  refine w3.putF (q := 17) d0_14 (H.tw 24 rfl) Via.refl V E (Or.inr ⟨(H.tw 20 rfl), rfl, rfl⟩) (H.tw 5 rfl) (ty := (.array .byte)) (by decide) rfl rfl g sf1 rfl fun T4 h4 w4 W4 sf4 => ?_
  have sz4 : h2.size ≤ h4.size := (Keep.of_wr W4).1
  replace E := E.wr W4
  replace C := C.other W4 (Or.inr (slot_ne (Or.inr (H.tw 21 rfl)) (Or.inr (H.tw 20 rfl)) (by decide) (t := .byte) (t' := (.array .byte)) (by decide) (by decide)))
  have V1 := V.same W4
  refine w4.aloadN (q := 18) d0_17 rfl rfl rfl ?_
  refine w4.ldcS (q := 20) (sz := 0) (vs := []) (z := 0) d0_18 H.wd (H.tw 18 rfl) H.sa (H.mem (by decide)) ⟨by decide, rfl⟩ (by decide) rfl (by decide) (by decide) (by decide) (by decide) rfl fun vm5 T5 h5 a5 bb5 kb5 w5 X5 ch5 A1_5 A2_5 A3_5 A4_5 => ?_
  have sz5 : h4.size ≤ h5.size := X5.1
  have S5 : StrAt G.Z h5 a5 0 [] := StrAt.lit _ A1_5 A2_5 A3_5 A4_5 rfl rfl lat0 (by decide)
  replace E := E.ext X5
  replace V1 := V1.ext X5
  replace C := C.ext X5
  have sf2 : G.wd = true → Safe G.Z G.EL vm5 h5 x := fun z => ch5.safe (Nat.lt_of_lt_of_le ltx (by omega)) (sf4 z)
  refine w5.getF (q := 23) d0_20 (H.tw 25 rfl) Via.refl A2_5 rfl fun T6 w6 => ?_
  refine w6.putF (q := 26) d0_23 (H.tw 25 rfl) Via.refl C E (Or.inr ⟨(H.tw 21 rfl), rfl, rfl⟩) (H.tw 5 rfl) (ty := .byte) (by decide) rfl rfl g sf2 rfl fun T7 h7 w7 W7 sf7 => ?_
  have sz7 : h5.size ≤ h7.size := (Keep.of_wr W7).1
  replace E := E.wr W7
  replace C := C.same W7
  replace V1 := V1.other W7 (Or.inr (slot_ne (Or.inr (H.tw 20 rfl)) (Or.inr (H.tw 21 rfl)) (by decide) (t := (.array .byte)) (t' := .byte) (by decide) (by decide)))
  have nx : bb2 ≠ x := fun z => Exa.neArv EX2 A4_2 (H.tw 5 rfl) z.symm
  have AA : Arv G.Z h7 bb2 kb2 .byte 0 [] (.int 0) := ((A4_2.other W4 nx).ext X5).other W7 nx
  have K1 : Keep h h7 [x] := ((((Keep.refl h [x]).ext X2).wr W4 (Or.inl (List.mem_singleton.mpr rfl))).ext X5).wr W7 (Or.inl (List.mem_singleton.mpr rfl))
  exact w7.retV d0_26 rfl (by decide) (by decide) ⟨rfl, K1, bb2, kb2, 0, [], E, V1, C, AA, Or.inl ⟨rfl, rfl, rfl, fun _ q => nomatch q⟩, (fun _ q => nomatch q), by decide⟩
theorem d2_0 : decode jdk_42_method_3_code 0 = .ok (.aload_n 0, 1) := by decide +kernel
theorem d2_1 : decode jdk_42_method_3_code 1 = .ok (.aload_n 1, 1) := by decide +kernel
theorem d2_2 : decode jdk_42_method_3_code 2 = .ok (.iconst 0, 1) := by decide +kernel
theorem d2_3 : decode jdk_42_method_3_code 3 = .ok (.aload_n 1, 1) := by decide +kernel
theorem d2_4 : decode jdk_42_method_3_code 4 = .ok (.arraylength, 1) := by decide +kernel
theorem d2_5 : decode jdk_42_method_3_code 5 = .ok (.aconst_null, 1) := by decide +kernel
theorem d2_6 : decode jdk_42_method_3_code 6 = .ok (.invokespecial 27, 3) := by decide +kernel
theorem pd3 : parseMethodDescriptor "([CIILjava/lang/Void;)V" = some ⟨[(.array .char), .int, .int, (.object "java/lang/Void")], none⟩ := by decide +kernel
theorem d2_9 : decode jdk_42_method_3_code 9 = .ok (.return_, 1) := by decide +kernel
set_option maxRecDepth 65536 in
set_option maxHeartbeats 40000000 in
theorem con_init1e (G : Gx) (H : Hyp G) (x b : Nat) (kc : ClassId) (dv : Value) (h : Heap) (ho : Old G.Z G.n0 h) (E : Exa G.Z h x "java/lang/String") (V : Fld G.Z h x "java/lang/String" "value" "[B" .null) (C : Fld G.Z h x "java/lang/String" "coder" "B" (.int (0 : Int32))) (g : G.n0 ≤ x) (A : Arv G.Z h b kc .char (0 : Int32) [] dv) :
    Con G (⟨"java/lang/String", "<init>", "([C)V"⟩ : MethodName) jdk_42_method_3_code 2 none [] ({ frames := 2, cells := 4, slots := 8, locals := 29 } : Room) #[(.ref x), (.ref b)] h (nQ fun h' => Keep h h' [x] ∧ StrAt G.Z h' x 0 []) := by
  refine Con.intro H.el ho (plainFor_of_name pn1) (Ls := #[.val (.ref x), .val (.ref b)]) (fun m => by first | (simp [entryFrame, mkF, argsToLocals, Value.category]; done) | rfl) ?_
  intro X vm T w
  refine w.aloadN (q := 1) d2_0 rfl rfl rfl ?_
  refine w.aloadN (q := 2) d2_1 rfl rfl rfl ?_
  refine w.iconst (q := 3) (0 : Int32) d2_2 rfl rfl ?_
  refine w.aloadN (q := 4) d2_3 rfl rfl rfl ?_
  refine w.alen (q := 5) d2_4 A rfl ?_
  refine w.aconst (q := 6) d2_5 rfl ?_
  refine w.callC (q := 9) d2_6 rfl (H.tw 11 rfl) (H.tw 12 rfl) (H.tw 14 rfl) (by decide) (a := x) (argsL := [(.ref b), (.int (0 : Int32)), (.int (0 : Int32)), .null]) (rest := []) rfl (lenOf pd3 rfl) rfl (W := 0) (Nat.le_of_eq rfl) ((con_init4e G H x b h w.old E V C g).pay w (H.tw 14 rfl) (H.tw 6 rfl) (by decide) (by decide)) (by decide) (by decide) rfl fun vm1 T1 h1 v1 w1 q1 => ?_
  obtain ⟨rfl, K1, S1⟩ := q1
  show Go _ _ _ _ (T1.setTop (mkF X.m 9 #[.val (.ref x), .val (.ref b)] []))
  exact w1.retV d2_9 rfl (by decide) (by decide) ⟨rfl, K1, S1⟩
theorem d4_0 : decode method_2_code 0 = .ok (.iload_n 0, 1) := by decide +kernel
theorem d4_1 : decode method_2_code 1 = .ok (.bipush 16, 2) := by decide +kernel
theorem d4_3 : decode method_2_code 3 = .ok (.iushr, 1) := by decide +kernel
theorem d4_4 : decode method_2_code 4 = .ok (.sipush 32767, 3) := by decide +kernel
theorem d4_7 : decode method_2_code 7 = .ok (.iand, 1) := by decide +kernel
theorem d4_8 : decode method_2_code 8 = .ok (.iconst 3, 1) := by decide +kernel
theorem d4_9 : decode method_2_code 9 = .ok (.irem, 1) := by decide +kernel
theorem d4_10 : decode method_2_code 10 = .ok (.istore_n 1, 1) := by decide +kernel
theorem d4_11 : decode method_2_code 11 = .ok (.iload_n 0, 1) := by decide +kernel
theorem d4_12 : decode method_2_code 12 = .ok (.sipush 255, 3) := by decide +kernel
theorem d4_15 : decode method_2_code 15 = .ok (.iand, 1) := by decide +kernel
theorem d4_16 : decode method_2_code 16 = .ok (.i2c, 1) := by decide +kernel
theorem d4_17 : decode method_2_code 17 = .ok (.istore_n 2, 1) := by decide +kernel
theorem d4_18 : decode method_2_code 18 = .ok (.iload_n 0, 1) := by decide +kernel
theorem d4_19 : decode method_2_code 19 = .ok (.bipush 8, 2) := by decide +kernel
theorem d4_21 : decode method_2_code 21 = .ok (.iushr, 1) := by decide +kernel
theorem d4_22 : decode method_2_code 22 = .ok (.sipush 255, 3) := by decide +kernel
theorem d4_25 : decode method_2_code 25 = .ok (.iand, 1) := by decide +kernel
theorem d4_26 : decode method_2_code 26 = .ok (.i2c, 1) := by decide +kernel
theorem d4_27 : decode method_2_code 27 = .ok (.istore_n 3, 1) := by decide +kernel
theorem d4_28 : decode method_2_code 28 = .ok (.iload_n 1, 1) := by decide +kernel
theorem d4_29 : decode method_2_code 29 = .ok (.ifCond .ne 14, 3) := by decide +kernel
theorem d4_32 : decode method_2_code 32 = .ok (.new 7, 3) := by decide +kernel
theorem d4_35 : decode method_2_code 35 = .ok (.dup, 1) := by decide +kernel
theorem d4_36 : decode method_2_code 36 = .ok (.iconst 0, 1) := by decide +kernel
theorem d4_37 : decode method_2_code 37 = .ok (.newarray .char, 2) := by decide +kernel
theorem d4_39 : decode method_2_code 39 = .ok (.invokespecial 9, 3) := by decide +kernel
theorem pd5 : parseMethodDescriptor "([C)V" = some ⟨[(.array .char)], none⟩ := by decide +kernel
theorem d4_42 : decode method_2_code 42 = .ok (.areturn, 1) := by decide +kernel
theorem d4_43 : decode method_2_code 43 = .ok (.iload_n 1, 1) := by decide +kernel
theorem d4_44 : decode method_2_code 44 = .ok (.iconst 1, 1) := by decide +kernel
theorem d4_45 : decode method_2_code 45 = .ok (.if_icmp .ne 18, 3) := by decide +kernel
theorem d4_48 : decode method_2_code 48 = .ok (.new 7, 3) := by decide +kernel
theorem d4_51 : decode method_2_code 51 = .ok (.dup, 1) := by decide +kernel
theorem d4_52 : decode method_2_code 52 = .ok (.iconst 1, 1) := by decide +kernel
theorem d4_53 : decode method_2_code 53 = .ok (.newarray .char, 2) := by decide +kernel
theorem d4_55 : decode method_2_code 55 = .ok (.dup, 1) := by decide +kernel
theorem d4_56 : decode method_2_code 56 = .ok (.iconst 0, 1) := by decide +kernel
theorem d4_57 : decode method_2_code 57 = .ok (.iload_n 2, 1) := by decide +kernel
theorem d4_58 : decode method_2_code 58 = .ok (.castore, 1) := by decide +kernel
theorem d4_59 : decode method_2_code 59 = .ok (.invokespecial 9, 3) := by decide +kernel
theorem d4_62 : decode method_2_code 62 = .ok (.areturn, 1) := by decide +kernel
theorem d4_63 : decode method_2_code 63 = .ok (.new 7, 3) := by decide +kernel
theorem d4_66 : decode method_2_code 66 = .ok (.dup, 1) := by decide +kernel
theorem d4_67 : decode method_2_code 67 = .ok (.iconst 2, 1) := by decide +kernel
theorem d4_68 : decode method_2_code 68 = .ok (.newarray .char, 2) := by decide +kernel
theorem d4_70 : decode method_2_code 70 = .ok (.dup, 1) := by decide +kernel
theorem d4_71 : decode method_2_code 71 = .ok (.iconst 0, 1) := by decide +kernel
theorem d4_72 : decode method_2_code 72 = .ok (.iload_n 2, 1) := by decide +kernel
theorem d4_73 : decode method_2_code 73 = .ok (.castore, 1) := by decide +kernel
theorem d4_74 : decode method_2_code 74 = .ok (.dup, 1) := by decide +kernel
theorem d4_75 : decode method_2_code 75 = .ok (.iconst 1, 1) := by decide +kernel
theorem d4_76 : decode method_2_code 76 = .ok (.iload_n 3, 1) := by decide +kernel
theorem d4_77 : decode method_2_code 77 = .ok (.castore, 1) := by decide +kernel
theorem d4_78 : decode method_2_code 78 = .ok (.invokespecial 9, 3) := by decide +kernel
theorem d4_81 : decode method_2_code 81 = .ok (.areturn, 1) := by decide +kernel
theorem pn6 : plainName "com/example/loomline/loomline/exchange/TextFormatOneOfPinLaw" = true := by first | (simp [plainName, overriddenIn]; done) | decide +kernel
set_option maxRecDepth 65536 in
set_option maxHeartbeats 40000000 in
theorem con_drawn (G : Gx) (H : Hyp G) (x0 : Int32) (h : Heap) (ho : Old G.Z G.n0 h)  :
    Con G (⟨"com/example/loomline/loomline/exchange/TextFormatOneOfPinLaw", "drawn", "(I)Ljava/lang/String;"⟩ : MethodName) method_2_code 4 (some (.object "java/lang/String")) [] ({ frames := 4, cells := 6, slots := 12, locals := 66 } : Room) #[(.int x0)] h (vQ fun v h' => ∃ (r : Nat) (cs : List Int32), v = .ref r ∧ Ext h h' ∧ StrAt G.Z h' r 0 cs) := by
  refine Con.intro H.el ho (plainFor_of_name pn6) (Ls := #[.val (.int x0), .unset, .unset, .unset]) (fun m => by first | (simp [entryFrame, mkF, argsToLocals, Value.category]; done) | rfl) ?_
  intro X vm T w
  refine w.iloadN (q := 1) d4_0 rfl rfl ?_
  refine w.bipush (q := 3) (16 : Int32) d4_1 rfl rfl ?_
  refine w.iushr (q := 4) d4_3 rfl ?_
  refine w.sipush (q := 7) (32767 : Int32) d4_4 rfl rfl ?_
  refine w.iand (q := 8) d4_7 rfl ?_
  refine w.iconst (q := 9) (3 : Int32) d4_8 rfl rfl ?_
  refine w.irem (q := 10) d4_9 (by decide) rfl ?_
  refine w.istoreN (q := 11) (L2 := #[.val (.int x0), .val (.int ((((x0.toUInt32 >>> ((16 : Int32) &&& 31).toUInt32).toInt32) &&& (32767 : Int32)) % (3 : Int32))), .unset, .unset]) d4_10 rfl rfl ?_
  refine w.iloadN (q := 12) d4_11 rfl rfl ?_
  refine w.sipush (q := 15) (255 : Int32) d4_12 rfl rfl ?_
  refine w.iand (q := 16) d4_15 rfl ?_
  refine w.i2c (q := 17) d4_16 rfl ?_
  refine w.istoreN (q := 18) (L2 := #[.val (.int x0), .val (.int ((((x0.toUInt32 >>> ((16 : Int32) &&& 31).toUInt32).toInt32) &&& (32767 : Int32)) % (3 : Int32))), .val (.int (x0 &&& (255 : Int32)).toUInt32.toUInt16.toUInt32.toInt32), .unset]) d4_17 rfl rfl ?_
  refine w.iloadN (q := 19) d4_18 rfl rfl ?_
  refine w.bipush (q := 21) (8 : Int32) d4_19 rfl rfl ?_
  refine w.iushr (q := 22) d4_21 rfl ?_
  refine w.sipush (q := 25) (255 : Int32) d4_22 rfl rfl ?_
  refine w.iand (q := 26) d4_25 rfl ?_
  refine w.i2c (q := 27) d4_26 rfl ?_
  refine w.istoreN (q := 28) (L2 := #[.val (.int x0), .val (.int ((((x0.toUInt32 >>> ((16 : Int32) &&& 31).toUInt32).toInt32) &&& (32767 : Int32)) % (3 : Int32))), .val (.int (x0 &&& (255 : Int32)).toUInt32.toUInt16.toUInt32.toInt32), .val (.int (((x0.toUInt32 >>> ((8 : Int32) &&& 31).toUInt32).toInt32) &&& (255 : Int32)).toUInt32.toUInt16.toUInt32.toInt32)]) d4_27 rfl rfl ?_
  refine w.iloadN (q := 29) d4_28 rfl rfl ?_
  by_cases c0 : ((((x0.toUInt32 >>> ((16 : Int32) &&& 31).toUInt32).toInt32) &&& (32767 : Int32)) % (3 : Int32)) = (0 : Int32)
  ·
    refine w.ifN (q := 32) d4_29 ((if0 _ _).trans (teq c0).2) rfl ?_
    refine w.newO (q := 35) d4_32 (H.tw 4 rfl) (H.tw 5 rfl) (H.tw 6 rfl) (by decide) (by decide) rfl fun T1 h1 b1 e1 w1 E1 A1 D1 U1 => ?_
    have lt1 : b1 < h1.size := A1.lt
    have sz1 : h.size ≤ h1.size := E1.1
    have F1_value : Fld G.Z h1 b1 "java/lang/String" "value" "[B" .null := D1 (Or.inr (H.tw 20 rfl)) (ty := (.array .byte)) (by decide)
    have F1_coder : Fld G.Z h1 b1 "java/lang/String" "coder" "B" (.int (0 : Int32)) := D1 (Or.inr (H.tw 21 rfl)) (ty := .byte) (by decide)
    have g1 : G.n0 ≤ b1 := by have := ho.2.1; have := ho.1; omega
    refine w1.dup (q := 36) d4_35 rfl rfl ?_
    refine w1.iconst (q := 37) (0 : Int32) d4_36 rfl rfl ?_
    refine w1.newP (q := 39) 0 d4_37 (H.tw 7 rfl) (by decide) (by decide) (by decide) (by decide) (by decide) rfl fun T2 h2 b2 kc2 e2 w2 E2 A2 => ?_
    replace A2 : Arv G.Z h2 b2 kc2 .char (0 : Int32) [] (.int (0 : Int32)) := A2.pad (pad_rep [] (.int (0 : Int32)) 0)
    have lt2 : b2 < h2.size := A2.lt
    have sz2 : h1.size ≤ h2.size := E2.1
    replace A1 := A1.ext E2
    replace F1_value := F1_value.ext E2
    replace F1_coder := F1_coder.ext E2
    refine w2.callC (q := 42) d4_39 rfl (H.tw 8 rfl) (H.tw 9 rfl) (H.tw 10 rfl) (by decide) (a := b1) (argsL := [(.ref b2)]) (rest := [(.ref b1)]) rfl (lenOf pd5 rfl) rfl (W := 1) (Nat.le_of_eq rfl) ((con_init1e G H b1 b2 kc2 _ h2 w2.old A1 F1_value F1_coder g1 A2).pay w2 (H.tw 10 rfl) (H.tw 6 rfl) (by decide) (by decide)) (by decide) (by decide) rfl fun vm3 T3 h3 v3 w3 q3 => ?_
    obtain ⟨rfl, K3, S3⟩ := q3
    show Go _ _ _ _ (T3.setTop (mkF X.m 42 #[.val (.int x0), .val (.int ((((x0.toUInt32 >>> ((16 : Int32) &&& 31).toUInt32).toInt32) &&& (32767 : Int32)) % (3 : Int32))), .val (.int (x0 &&& (255 : Int32)).toUInt32.toUInt16.toUInt32.toInt32), .val (.int (((x0.toUInt32 >>> ((8 : Int32) &&& 31).toUInt32).toInt32) &&& (255 : Int32)).toUInt32.toUInt16.toUInt32.toInt32)] [(.ref b1)]))
    have sz3 : h2.size ≤ h3.size := K3.1
    have X3 : Ext h h3 := xkp (xtr E1 E2) K3 (all1 (by omega))
    exact w3.retA d4_42 (t := (.object "java/lang/String")) rfl rfl rfl (by decide) (by decide) ⟨_, rfl, b1, _, rfl, X3, S3⟩
  ·
    refine w.ifY (q := 43) d4_29 ((if0 _ _).trans (feq c0).2) (by decide) (by decide) ?_
    refine w.iloadN (q := 44) d4_43 rfl rfl ?_
    refine w.iconst (q := 45) (1 : Int32) d4_44 rfl rfl ?_
    by_cases c1 : ((((x0.toUInt32 >>> ((16 : Int32) &&& 31).toUInt32).toInt32) &&& (32767 : Int32)) % (3 : Int32)) = (1 : Int32)
    ·
      refine w.icN (q := 48) d4_45 ((teq c1).2) rfl ?_
      refine w.newO (q := 51) d4_48 (H.tw 4 rfl) (H.tw 5 rfl) (H.tw 6 rfl) (by decide) (by decide) rfl fun T4 h4 b4 e4 w4 E4 A4 D4 U4 => ?_
      have lt4 : b4 < h4.size := A4.lt
      have sz4 : h.size ≤ h4.size := E4.1
      have F4_value : Fld G.Z h4 b4 "java/lang/String" "value" "[B" .null := D4 (Or.inr (H.tw 20 rfl)) (ty := (.array .byte)) (by decide)
      have F4_coder : Fld G.Z h4 b4 "java/lang/String" "coder" "B" (.int (0 : Int32)) := D4 (Or.inr (H.tw 21 rfl)) (ty := .byte) (by decide)
      have g4 : G.n0 ≤ b4 := by have := ho.2.1; have := ho.1; omega
      refine w4.dup (q := 52) d4_51 rfl rfl ?_
      refine w4.iconst (q := 53) (1 : Int32) d4_52 rfl rfl ?_
      refine w4.newP (q := 55) 1 d4_53 (H.tw 7 rfl) (by decide) (by decide) (by decide) (by decide) (by decide) rfl fun T5 h5 b5 kc5 e5 w5 E5 A5 => ?_
      replace A5 : Arv G.Z h5 b5 kc5 .char (1 : Int32) [(.int (0 : Int32))] (.int (0 : Int32)) := A5.pad (pad_rep [] (.int (0 : Int32)) 1)
      have lt5 : b5 < h5.size := A5.lt
      have sz5 : h4.size ≤ h5.size := E5.1
      have g5 : G.n0 ≤ b5 := by have := ho.2.1; have := ho.1; omega
      replace A4 := A4.ext E5
      replace F4_value := F4_value.ext E5
      replace F4_coder := F4_coder.ext E5
      refine w5.dup (q := 56) d4_55 rfl rfl ?_
      refine w5.iconst (q := 57) (0 : Int32) d4_56 rfl rfl ?_
      refine w5.iloadN (q := 58) d4_57 rfl rfl ?_
      refine w5.castore (q := 59) 0 d4_58 A5 g5 ⟨by decide, by decide⟩ rfl (Nat.le_of_ble_eq_true rfl) rfl fun T6 h6 w6 K6 A6 => ?_
      have sz6 : h5.size ≤ h6.size := K6.1
      replace A4 := A4.keep K6
      replace F4_value := F4_value.keep K6 (nin1 (by omega))
      replace F4_coder := F4_coder.keep K6 (nin1 (by omega))
      refine w6.callC (q := 62) d4_59 rfl (H.tw 8 rfl) (H.tw 9 rfl) (H.tw 10 rfl) (by decide) (a := b4) (argsL := [(.ref b5)]) (rest := [(.ref b4)]) rfl (lenOf pd5 rfl) rfl (W := 1) (Nat.le_of_eq rfl) (pay_newStr w6 H.ws (H.tw 5 rfl) H.cz (nn := 1) (cs := [nar .char (x0 &&& (255 : Int32)).toUInt32.toUInt16.toUInt32.toInt32]) g4 A4 F4_value F4_coder A6 rfl rfl (by decide) (by decide) (latS (lat_mask _) lat0) (by decide) (by decide)) (by decide) (by decide) rfl fun vm7 T7 h7 v7 w7 q7 => ?_
      obtain ⟨rfl, K7, S7⟩ := q7
      show Go _ _ _ _ (T7.setTop (mkF X.m 62 #[.val (.int x0), .val (.int ((((x0.toUInt32 >>> ((16 : Int32) &&& 31).toUInt32).toInt32) &&& (32767 : Int32)) % (3 : Int32))), .val (.int (x0 &&& (255 : Int32)).toUInt32.toUInt16.toUInt32.toInt32), .val (.int (((x0.toUInt32 >>> ((8 : Int32) &&& 31).toUInt32).toInt32) &&& (255 : Int32)).toUInt32.toUInt16.toUInt32.toInt32)] [(.ref b4)]))
      have sz7 : h6.size ≤ h7.size := K7.1
      have X7 : Ext h h7 := xkp (xkp (xtr E4 E5) K6 (all1 (by omega))) K7 (all1 (by omega))
      exact w7.retA d4_62 (t := (.object "java/lang/String")) rfl rfl rfl (by decide) (by decide) ⟨_, rfl, b4, _, rfl, X7, S7⟩
    ·
      refine w.icY (q := 63) d4_45 ((feq c1).2) (by decide) (by decide) ?_
      refine w.newO (q := 66) d4_63 (H.tw 4 rfl) (H.tw 5 rfl) (H.tw 6 rfl) (by decide) (by decide) rfl fun T8 h8 b8 e8 w8 E8 A8 D8 U8 => ?_
      have lt8 : b8 < h8.size := A8.lt
      have sz8 : h.size ≤ h8.size := E8.1
      have F8_value : Fld G.Z h8 b8 "java/lang/String" "value" "[B" .null := D8 (Or.inr (H.tw 20 rfl)) (ty := (.array .byte)) (by decide)
      have F8_coder : Fld G.Z h8 b8 "java/lang/String" "coder" "B" (.int (0 : Int32)) := D8 (Or.inr (H.tw 21 rfl)) (ty := .byte) (by decide)
      have g8 : G.n0 ≤ b8 := by have := ho.2.1; have := ho.1; omega
      refine w8.dup (q := 67) d4_66 rfl rfl ?_
      refine w8.iconst (q := 68) (2 : Int32) d4_67 rfl rfl ?_
      refine w8.newP (q := 70) 2 d4_68 (H.tw 7 rfl) (by decide) (by decide) (by decide) (by decide) (by decide) rfl fun T9 h9 b9 kc9 e9 w9 E9 A9 => ?_
      replace A9 : Arv G.Z h9 b9 kc9 .char (2 : Int32) [(.int (0 : Int32)), (.int (0 : Int32))] (.int (0 : Int32)) := A9.pad (pad_rep [] (.int (0 : Int32)) 2)
      have lt9 : b9 < h9.size := A9.lt
      have sz9 : h8.size ≤ h9.size := E9.1
      have g9 : G.n0 ≤ b9 := by have := ho.2.1; have := ho.1; omega
      replace A8 := A8.ext E9
      replace F8_value := F8_value.ext E9
      replace F8_coder := F8_coder.ext E9
      refine w9.dup (q := 71) d4_70 rfl rfl ?_
      refine w9.iconst (q := 72) (0 : Int32) d4_71 rfl rfl ?_
      refine w9.iloadN (q := 73) d4_72 rfl rfl ?_
      refine w9.castore (q := 74) 0 d4_73 A9 g9 ⟨by decide, by decide⟩ rfl (Nat.le_of_ble_eq_true rfl) rfl fun T10 h10 w10 K10 A10 => ?_
      have sz10 : h9.size ≤ h10.size := K10.1
      replace A8 := A8.keep K10
      replace F8_value := F8_value.keep K10 (nin1 (by omega))
      replace F8_coder := F8_coder.keep K10 (nin1 (by omega))
      refine w10.dup (q := 75) d4_74 rfl rfl ?_
      refine w10.iconst (q := 76) (1 : Int32) d4_75 rfl rfl ?_
      refine w10.iloadN (q := 77) d4_76 rfl rfl ?_
      refine w10.castore (q := 78) 1 d4_77 A10 g9 ⟨by decide, by decide⟩ rfl (Nat.le_of_ble_eq_true rfl) rfl fun T11 h11 w11 K11 A11 => ?_
      have sz11 : h10.size ≤ h11.size := K11.1
      replace A8 := A8.keep K11
      replace F8_value := F8_value.keep K11 (nin1 (by omega))
      replace F8_coder := F8_coder.keep K11 (nin1 (by omega))
      refine w11.callC (q := 81) d4_78 rfl (H.tw 8 rfl) (H.tw 9 rfl) (H.tw 10 rfl) (by decide) (a := b8) (argsL := [(.ref b9)]) (rest := [(.ref b8)]) rfl (lenOf pd5 rfl) rfl (W := 1) (Nat.le_of_eq rfl) (pay_newStr w11 H.ws (H.tw 5 rfl) H.cz (nn := 2) (cs := [nar .char (x0 &&& (255 : Int32)).toUInt32.toUInt16.toUInt32.toInt32, nar .char (((x0.toUInt32 >>> ((8 : Int32) &&& 31).toUInt32).toInt32) &&& (255 : Int32)).toUInt32.toUInt16.toUInt32.toInt32]) g8 A8 F8_value F8_coder A11 rfl rfl (by decide) (by decide) (latS (lat_mask _) (latS (lat_mask _) lat0)) (by decide) (by decide)) (by decide) (by decide) rfl fun vm12 T12 h12 v12 w12 q12 => ?_
      obtain ⟨rfl, K12, S12⟩ := q12
      show Go _ _ _ _ (T12.setTop (mkF X.m 81 #[.val (.int x0), .val (.int ((((x0.toUInt32 >>> ((16 : Int32) &&& 31).toUInt32).toInt32) &&& (32767 : Int32)) % (3 : Int32))), .val (.int (x0 &&& (255 : Int32)).toUInt32.toUInt16.toUInt32.toInt32), .val (.int (((x0.toUInt32 >>> ((8 : Int32) &&& 31).toUInt32).toInt32) &&& (255 : Int32)).toUInt32.toUInt16.toUInt32.toInt32)] [(.ref b8)]))
      have sz12 : h11.size ≤ h12.size := K12.1
      have X12 : Ext h h12 := xkp (xkp (xkp (xtr E8 E9) K10 (all1 (by omega))) K11 (all1 (by omega))) K12 (all1 (by omega))
      exact w12.retA d4_81 (t := (.object "java/lang/String")) rfl rfl rfl (by decide) (by decide) ⟨_, rfl, b8, _, rfl, X12, S12⟩
theorem d7_0 : decode jdk_31_method_10_code 0 = .ok (.aload_n 0, 1) := by decide +kernel
theorem d7_1 : decode jdk_31_method_10_code 1 = .ok (.ifnonnull 11, 3) := by decide +kernel
theorem d7_12 : decode jdk_31_method_10_code 12 = .ok (.aload_n 0, 1) := by decide +kernel
theorem d7_13 : decode jdk_31_method_10_code 13 = .ok (.areturn, 1) := by decide +kernel
theorem pn8 : plainName "java/util/Objects" = true := by first | (simp [plainName, overriddenIn]; done) | decide +kernel
set_option maxRecDepth 65536 in
set_option maxHeartbeats 40000000 in
theorem con_rnn (G : Gx) (H : HypN G) (a : Nat) (h : Heap) (ho : Old G.Z G.n0 h)  :
    Con G (⟨"java/util/Objects", "requireNonNull", "(Ljava/lang/Object;)Ljava/lang/Object;"⟩ : MethodName) jdk_31_method_10_code 1 (some (.object "java/lang/Object")) [] ({ frames := 0, cells := 0, slots := 0, locals := 0 } : Room) #[(.ref a)] h (vQ fun v h' => v = .ref a ∧ h = h') := by
  refine Con.intro H.el ho (plainFor_of_name pn8) (Ls := #[.val (.ref a)]) (fun m => by first | (simp [entryFrame, mkF, argsToLocals, Value.category]; done) | rfl) ?_
  intro X vm T w
  refine w.aloadN (q := 1) d7_0 rfl rfl rfl ?_
  refine w.nnY (q := 12) d7_1 (by decide) (by decide) ?_
  refine w.aloadN (q := 13) d7_12 rfl rfl rfl ?_
  exact w.retA d7_13 (t := (.object "java/lang/Object")) rfl rfl rfl (by decide) (by decide) ⟨_, rfl, ⟨rfl, rfl⟩⟩
theorem d9_0 : decode object_method_4_code 0 = .ok (.aload_n 0, 1) := by decide +kernel
theorem d9_1 : decode object_method_4_code 1 = .ok (.aload_n 1, 1) := by decide +kernel
theorem d9_2 : decode object_method_4_code 2 = .ok (.if_acmp .ne 7, 3) := by decide +kernel
theorem d9_9 : decode object_method_4_code 9 = .ok (.iconst 0, 1) := by decide +kernel
theorem d9_10 : decode object_method_4_code 10 = .ok (.ireturn, 1) := by decide +kernel
set_option maxRecDepth 65536 in
set_option maxHeartbeats 40000000 in
theorem con_oeq (G : Gx) (H : HypN G) (a b : Nat) (h : Heap) (ho : Old G.Z G.n0 h) (hne : ¬ a = b) :
    ∀ (X : Cx) (vm : Vm) (T : State), Wk G (((⟨"java/lang/Object", "equals", "(Ljava/lang/Object;)Z"⟩ : MethodName)).cls, ((⟨"java/lang/Object", "equals", "(Ljava/lang/Object;)Z"⟩ : MethodName)).name, object_method_4_code, 2, (some .boolean)) ({ frames := 0, cells := 0, slots := 0, locals := 0 } : Room) X vm T h 0 0 → Go G ({ frames := 0, cells := 0, slots := 0, locals := 0 } : Room) X (vQ fun v h' => v = .int 0 ∧ h = h') (T.setTop (mkF X.m 0 #[.val (.ref a), .val (.ref b)] [])) := by
  intro X vm T w
  refine w.aloadN (q := 1) d9_0 rfl rfl rfl ?_
  refine w.aloadN (q := 2) d9_1 rfl rfl rfl ?_
  refine w.acY (q := 9) d9_2 rfl rfl (XT.aa_ne_t (fun z => hne (Value.ref.inj z))) (by decide) (by decide) ?_
  refine w.iconst (q := 10) (0 : Int32) d9_9 rfl rfl ?_
  exact w.retZ d9_10 (t := .boolean) rfl (by decide) rfl (by decide) (by decide) ⟨_, rfl, ⟨rfl, rfl⟩⟩
theorem d10_0 : decode jdk_22_method_1_code 0 = .ok (.aload_n 0, 1) := by decide +kernel
theorem d10_1 : decode jdk_22_method_1_code 1 = .ok (.invokespecial 1, 3) := by decide +kernel
theorem d10_4 : decode jdk_22_method_1_code 4 = .ok (.return_, 1) := by decide +kernel
theorem pn11 : plainName "java/util/AbstractCollection" = true := by first | (simp [plainName, overriddenIn]; done) | decide +kernel
set_option maxRecDepth 65536 in
set_option maxHeartbeats 40000000 in
theorem con_ac (G : Gx) (H : Hyp G) (a : Nat) (h : Heap) (ho : Old G.Z G.n0 h)  :
    Con G (⟨"java/util/AbstractCollection", "<init>", "()V"⟩ : MethodName) jdk_22_method_1_code 1 none [] ({ frames := 1, cells := 0, slots := 0, locals := 12 } : Room) #[(.ref a)] h (nQ fun h' => h = h') := by
  refine Con.intro H.el ho (plainFor_of_name pn11) (Ls := #[.val (.ref a)]) (fun m => by first | (simp [entryFrame, mkF, argsToLocals, Value.category]; done) | rfl) ?_
  intro X vm T w
  refine w.aloadN (q := 1) d10_0 rfl rfl rfl ?_
  refine w.initO (q := 4) (W := 0) d10_1 (H.tw 118 rfl) (H.tw 16 rfl) (H.tw 17 rfl) rfl (by decide) (Nat.le_of_eq rfl) (by decide) rfl fun T1 w1 => ?_
  exact w1.retV d10_4 rfl (by decide) (by decide) ⟨rfl, rfl⟩
theorem d12_0 : decode jdk_47_method_1_code 0 = .ok (.aload_n 0, 1) := by decide +kernel
theorem d12_1 : decode jdk_47_method_1_code 1 = .ok (.invokespecial 1, 3) := by decide +kernel
theorem pd13 : parseMethodDescriptor "()V" = some ⟨[], none⟩ := by decide +kernel
theorem d12_4 : decode jdk_47_method_1_code 4 = .ok (.return_, 1) := by decide +kernel
theorem pn14 : plainName "java/util/ImmutableCollections$AbstractImmutableCollection" = true := by first | (simp [plainName, overriddenIn]; done) | decide +kernel
set_option maxRecDepth 65536 in
set_option maxHeartbeats 40000000 in
theorem con_aic (G : Gx) (H : Hyp G) (a : Nat) (h : Heap) (ho : Old G.Z G.n0 h)  :
    Con G (⟨"java/util/ImmutableCollections$AbstractImmutableCollection", "<init>", "()V"⟩ : MethodName) jdk_47_method_1_code 1 none [] ({ frames := 2, cells := 0, slots := 0, locals := 24 } : Room) #[(.ref a)] h (nQ fun h' => h = h') := by
  refine Con.intro H.el ho (plainFor_of_name pn14) (Ls := #[.val (.ref a)]) (fun m => by first | (simp [entryFrame, mkF, argsToLocals, Value.category]; done) | rfl) ?_
  intro X vm T w
  refine w.aloadN (q := 1) d12_0 rfl rfl rfl ?_
  refine w.callC (q := 4) d12_1 rfl (H.tw 112 rfl) (H.tw 113 rfl) (H.tw 117 rfl) (by decide) (a := a) (argsL := []) (rest := []) rfl (lenOf pd13 rfl) rfl (W := 0) (Nat.le_of_eq rfl) ((con_ac G H a _ w.old).pay w (H.tw 117 rfl) (H.tw 116 rfl) (by decide) (by decide)) (by decide) (by decide) rfl fun vm1 T1 h1 v1 w1 q1 => ?_
  obtain ⟨rfl, rfl⟩ := q1
  show Go _ _ _ _ (T1.setTop (mkF X.m 4 #[.val (.ref a)] []))
  exact w1.retV d12_4 rfl (by decide) (by decide) ⟨rfl, rfl⟩
theorem d15_0 : decode jdk_100_method_1_code 0 = .ok (.aload_n 0, 1) := by decide +kernel
theorem d15_1 : decode jdk_100_method_1_code 1 = .ok (.invokespecial 1, 3) := by decide +kernel
theorem d15_4 : decode jdk_100_method_1_code 4 = .ok (.return_, 1) := by decide +kernel
theorem pn16 : plainName "java/util/ImmutableCollections$AbstractImmutableSet" = true := by first | (simp [plainName, overriddenIn]; done) | decide +kernel
set_option maxRecDepth 65536 in
set_option maxHeartbeats 40000000 in
theorem con_ais (G : Gx) (H : Hyp G) (a : Nat) (h : Heap) (ho : Old G.Z G.n0 h)  :
    Con G (⟨"java/util/ImmutableCollections$AbstractImmutableSet", "<init>", "()V"⟩ : MethodName) jdk_100_method_1_code 1 none [] ({ frames := 3, cells := 0, slots := 0, locals := 36 } : Room) #[(.ref a)] h (nQ fun h' => h = h') := by
  refine Con.intro H.el ho (plainFor_of_name pn16) (Ls := #[.val (.ref a)]) (fun m => by first | (simp [entryFrame, mkF, argsToLocals, Value.category]; done) | rfl) ?_
  intro X vm T w
  refine w.aloadN (q := 1) d15_0 rfl rfl rfl ?_
  refine w.callC (q := 4) d15_1 rfl (H.tw 106 rfl) (H.tw 107 rfl) (H.tw 111 rfl) (by decide) (a := a) (argsL := []) (rest := []) rfl (lenOf pd13 rfl) rfl (W := 0) (Nat.le_of_eq rfl) ((con_aic G H a _ w.old).pay w (H.tw 111 rfl) (H.tw 110 rfl) (by decide) (by decide)) (by decide) (by decide) rfl fun vm1 T1 h1 v1 w1 q1 => ?_
  obtain ⟨rfl, rfl⟩ := q1
  show Go _ _ _ _ (T1.setTop (mkF X.m 4 #[.val (.ref a)] []))
  exact w1.retV d15_4 rfl (by decide) (by decide) ⟨rfl, rfl⟩
theorem d17_0 : decode jdk_101_method_1_code 0 = .ok (.aload_n 0, 1) := by decide +kernel
theorem d17_1 : decode jdk_101_method_1_code 1 = .ok (.invokespecial 1, 3) := by decide +kernel
theorem d17_4 : decode jdk_101_method_1_code 4 = .ok (.aload_n 0, 1) := by decide +kernel
theorem d17_5 : decode jdk_101_method_1_code 5 = .ok (.aload_n 1, 1) := by decide +kernel
theorem d17_6 : decode jdk_101_method_1_code 6 = .ok (.invokestatic 7, 3) := by decide +kernel
theorem pd18 : parseMethodDescriptor "(Ljava/lang/Object;)Ljava/lang/Object;" = some ⟨[(.object "java/lang/Object")], some (.object "java/lang/Object")⟩ := by decide +kernel
theorem d17_9 : decode jdk_101_method_1_code 9 = .ok (.putfield 13, 3) := by decide +kernel
theorem d17_12 : decode jdk_101_method_1_code 12 = .ok (.aload_n 0, 1) := by decide +kernel
theorem d17_13 : decode jdk_101_method_1_code 13 = .ok (.getstatic 19, 3) := by decide +kernel
theorem d17_16 : decode jdk_101_method_1_code 16 = .ok (.putfield 24, 3) := by decide +kernel
theorem d17_19 : decode jdk_101_method_1_code 19 = .ok (.return_, 1) := by decide +kernel
theorem pn19 : plainName "java/util/ImmutableCollections$Set12" = true := by first | (simp [plainName, overriddenIn]; done) | decide +kernel
set_option maxRecDepth 65536 in
set_option maxHeartbeats 40000000 in
theorem con_s1 (G : Gx) (H : Hyp G) (a x em : Nat) (Sem : Sta G.Z G.Z.heap "java/util/ImmutableCollections" "EMPTY" "Ljava/lang/Object;" (.ref em)) (h : Heap) (ho : Old G.Z G.n0 h) (E : Exa G.Z h a "java/util/ImmutableCollections$Set12") (F0 : Fld G.Z h a "java/util/ImmutableCollections$Set12" "e0" "Ljava/lang/Object;" .null) (F1 : Fld G.Z h a "java/util/ImmutableCollections$Set12" "e1" "Ljava/lang/Object;" .null) (g : G.n0 ≤ a) :
    Con G (⟨"java/util/ImmutableCollections$Set12", "<init>", "(Ljava/lang/Object;)V"⟩ : MethodName) jdk_101_method_1_code 2 none [] ({ frames := 4, cells := 0, slots := 0, locals := 48 } : Room) #[(.ref a), (.ref x)] h (nQ fun h' => Keep h h' [a] ∧ Exa G.Z h' a "java/util/ImmutableCollections$Set12" ∧ Fld G.Z h' a "java/util/ImmutableCollections$Set12" "e0" "Ljava/lang/Object;" (.ref x) ∧ Fld G.Z h' a "java/util/ImmutableCollections$Set12" "e1" "Ljava/lang/Object;" (.ref em)) := by
  refine Con.intro H.el ho (plainFor_of_name pn19) (Ls := #[.val (.ref a), .val (.ref x)]) (fun m => by first | (simp [entryFrame, mkF, argsToLocals, Value.category]; done) | rfl) ?_
  intro X vm T w
  refine w.aloadN (q := 1) d17_0 rfl rfl rfl ?_
  refine w.callC (q := 4) d17_1 rfl (H.tw 100 rfl) (H.tw 101 rfl) (H.tw 105 rfl) (by decide) (a := a) (argsL := []) (rest := []) rfl (lenOf pd13 rfl) rfl (W := 0) (Nat.le_of_eq rfl) ((con_ais G H a h ho).pay w (H.tw 105 rfl) (H.tw 104 rfl) (by decide) (by decide)) (by decide) (by decide) rfl fun vm1 T1 h1 v1 w1 q1 => ?_
  obtain ⟨rfl, rfl⟩ := q1
  show Go _ _ _ _ (T1.setTop (mkF X.m 4 #[.val (.ref a), .val (.ref x)] []))
  refine w1.aloadN (q := 5) d17_4 rfl rfl rfl ?_
  refine w1.aloadN (q := 6) d17_5 rfl rfl rfl ?_
  refine w1.callS (q := 9) d17_6 (H.tw 119 rfl) (H.tw 40 rfl) (H.tw 41 rfl) (H.tw 42 rfl) (by decide) (argsL := [(.ref x)]) (rest := [(.ref a)]) rfl (lenOf pd18 rfl) rfl (W := 1) (Nat.le_of_eq rfl) ((con_rnn G H.n x h ho).pay w1 (H.tw 42 rfl) (H.tw 41 rfl) (by decide) (by decide)) (by decide) (by decide) rfl fun vm2 T2 h2 v2 w2 q2 => ?_
  obtain ⟨_, rfl, rfl, rfl⟩ := q2
  show Go _ _ _ _ (T2.setTop (mkF X.m 9 #[.val (.ref a), .val (.ref x)] [(.ref x), (.ref a)]))
  refine w2.putF (q := 12) d17_9 (H.tw 120 rfl) Via.refl F0 E (Or.inr ⟨(H.tw 121 rfl), rfl, rfl⟩) (H.tw 94 rfl) (ty := (.object "java/lang/Object")) (by decide) rfl rfl g (w2.sfE E (by decide) (by decide)) rfl fun T3 h3 w3 W3 sf3 => ?_
  have sz3 : h.size ≤ h3.size := (Keep.of_wr W3).1
  replace E := E.wr W3
  replace F1 := F1.other W3 (Or.inr (slot_ne (Or.inr (H.tw 124 rfl)) (Or.inr (H.tw 121 rfl)) (by decide) (t := (.object "java/lang/Object")) (t' := (.object "java/lang/Object")) (by decide) (by decide)))
  replace F0 := F0.same W3
  refine w3.aloadN (q := 13) d17_12 rfl rfl rfl ?_
  refine w3.getSN (q := 16) d17_13 (H.tw 122 rfl) Via.refl Sem rfl fun T4 w4 => ?_
  refine w4.putF (q := 19) d17_16 (H.tw 123 rfl) Via.refl F1 E (Or.inr ⟨(H.tw 124 rfl), rfl, rfl⟩) (H.tw 94 rfl) (ty := (.object "java/lang/Object")) (by decide) rfl rfl g (w4.sfE E (by decide) (by decide)) rfl fun T5 h5 w5 W5 sf5 => ?_
  have sz5 : h3.size ≤ h5.size := (Keep.of_wr W5).1
  replace E := E.wr W5
  replace F0 := F0.other W5 (Or.inr (slot_ne (Or.inr (H.tw 121 rfl)) (Or.inr (H.tw 124 rfl)) (by decide) (t := (.object "java/lang/Object")) (t' := (.object "java/lang/Object")) (by decide) (by decide)))
  replace F1 := F1.same W5
  exact w5.retV d17_19 rfl (by decide) (by decide) ⟨rfl, (Keep.of_wr W3).trans (Keep.of_wr W5) (fun x hx => Or.inl hx), E, F0, F1⟩
theorem d20_0 : decode jdk_101_method_2_code 0 = .ok (.aload_n 0, 1) := by decide +kernel
theorem d20_1 : decode jdk_101_method_2_code 1 = .ok (.invokespecial 1, 3) := by decide +kernel
theorem d20_4 : decode jdk_101_method_2_code 4 = .ok (.aload_n 1, 1) := by decide +kernel
theorem d20_5 : decode jdk_101_method_2_code 5 = .ok (.aload_n 2, 1) := by decide +kernel
theorem d20_6 : decode jdk_101_method_2_code 6 = .ok (.invokestatic 7, 3) := by decide +kernel
theorem d20_9 : decode jdk_101_method_2_code 9 = .ok (.invokevirtual 27, 3) := by decide +kernel
theorem pd21 : parseMethodDescriptor "(Ljava/lang/Object;)Z" = some ⟨[(.object "java/lang/Object")], some .boolean⟩ := by decide +kernel
theorem d20_12 : decode jdk_101_method_2_code 12 = .ok (.ifCond .eq 30, 3) := by decide +kernel
theorem d20_42 : decode jdk_101_method_2_code 42 = .ok (.aload_n 0, 1) := by decide +kernel
theorem d20_43 : decode jdk_101_method_2_code 43 = .ok (.aload_n 1, 1) := by decide +kernel
theorem d20_44 : decode jdk_101_method_2_code 44 = .ok (.putfield 13, 3) := by decide +kernel
theorem d20_47 : decode jdk_101_method_2_code 47 = .ok (.aload_n 0, 1) := by decide +kernel
theorem d20_48 : decode jdk_101_method_2_code 48 = .ok (.aload_n 2, 1) := by decide +kernel
theorem d20_49 : decode jdk_101_method_2_code 49 = .ok (.putfield 24, 3) := by decide +kernel
theorem d20_52 : decode jdk_101_method_2_code 52 = .ok (.return_, 1) := by decide +kernel
set_option maxRecDepth 65536 in
set_option maxHeartbeats 40000000 in
theorem con_s2 (G : Gx) (H : Hyp G) (a x y : Nat) (cs ds : List Int32) (h : Heap) (ho : Old G.Z G.n0 h) (E : Exa G.Z h a "java/util/ImmutableCollections$Set12") (F0 : Fld G.Z h a "java/util/ImmutableCollections$Set12" "e0" "Ljava/lang/Object;" .null) (F1 : Fld G.Z h a "java/util/ImmutableCollections$Set12" "e1" "Ljava/lang/Object;" .null) (g : G.n0 ≤ a) (A : StrAt G.Z h x 0 cs) (B : StrAt G.Z h y 0 ds) (hne : ¬ cs = ds) :
    Con G (⟨"java/util/ImmutableCollections$Set12", "<init>", "(Ljava/lang/Object;Ljava/lang/Object;)V"⟩ : MethodName) jdk_101_method_2_code 3 none [] ({ frames := 4, cells := 0, slots := 0, locals := 48 } : Room) #[(.ref a), (.ref x), (.ref y)] h (nQ fun h' => Keep h h' [a] ∧ Exa G.Z h' a "java/util/ImmutableCollections$Set12" ∧ Fld G.Z h' a "java/util/ImmutableCollections$Set12" "e0" "Ljava/lang/Object;" (.ref x) ∧ Fld G.Z h' a "java/util/ImmutableCollections$Set12" "e1" "Ljava/lang/Object;" (.ref y)) := by
  refine Con.intro H.el ho (plainFor_of_name pn19) (Ls := #[.val (.ref a), .val (.ref x), .val (.ref y)]) (fun m => by first | (simp [entryFrame, mkF, argsToLocals, Value.category]; done) | rfl) ?_
  intro X vm T w
  refine w.aloadN (q := 1) d20_0 rfl rfl rfl ?_
  refine w.callC (q := 4) d20_1 rfl (H.tw 100 rfl) (H.tw 101 rfl) (H.tw 105 rfl) (by decide) (a := a) (argsL := []) (rest := []) rfl (lenOf pd13 rfl) rfl (W := 0) (Nat.le_of_eq rfl) ((con_ais G H a h ho).pay w (H.tw 105 rfl) (H.tw 104 rfl) (by decide) (by decide)) (by decide) (by decide) rfl fun vm1 T1 h1 v1 w1 q1 => ?_
  obtain ⟨rfl, rfl⟩ := q1
  show Go _ _ _ _ (T1.setTop (mkF X.m 4 #[.val (.ref a), .val (.ref x), .val (.ref y)] []))
  refine w1.aloadN (q := 5) d20_4 rfl rfl rfl ?_
  refine w1.aloadN (q := 6) d20_5 rfl rfl rfl ?_
  refine w1.callS (q := 9) d20_6 (H.tw 119 rfl) (H.tw 40 rfl) (H.tw 41 rfl) (H.tw 42 rfl) (by decide) (argsL := [(.ref y)]) (rest := [(.ref x)]) rfl (lenOf pd18 rfl) rfl (W := 1) (Nat.le_of_eq rfl) ((con_rnn G H.n y h ho).pay w1 (H.tw 42 rfl) (H.tw 41 rfl) (by decide) (by decide)) (by decide) (by decide) rfl fun vm2 T2 h2 v2 w2 q2 => ?_
  obtain ⟨_, rfl, rfl, rfl⟩ := q2
  show Go _ _ _ _ (T2.setTop (mkF X.m 9 #[.val (.ref a), .val (.ref x), .val (.ref y)] [(.ref y), (.ref x)]))
  refine w2.callV (q := 12) d20_9 (H.tw 131 rfl) (H.tw 132 rfl) (notFace_of_selects (C := "java/lang/Object") (args := G.a0) (H.tw 157 rfl)) (H.tw 134 rfl) (H.tw 67 rfl) (by decide) A.exa (argsL := [(.ref y)]) (rest := []) rfl (lenOf pd21 rfl) rfl (W := 0) (Nat.le_of_eq rfl) (pay_eq w2 H.weq (H.tw 5 rfl) H.cz A B (by decide) (by decide)) (by decide) (by decide) rfl fun vm3 T3 h3 v3 w3 q3 => ?_
  obtain ⟨_, rfl, rfl, rfl⟩ := q3
  show Go _ _ _ _ (T3.setTop (mkF X.m 12 #[.val (.ref a), .val (.ref x), .val (.ref y)] [(.int (if cs = ds then 1 else 0))]))
  refine w3.ifY (q := 42) d20_12 ((if0 _ _).trans (teq (if_neg hne)).1) (by decide) (by decide) ?_
  refine w3.aloadN (q := 43) d20_42 rfl rfl rfl ?_
  refine w3.aloadN (q := 44) d20_43 rfl rfl rfl ?_
  refine w3.putF (q := 47) d20_44 (H.tw 120 rfl) Via.refl F0 E (Or.inr ⟨(H.tw 121 rfl), rfl, rfl⟩) (H.tw 94 rfl) (ty := (.object "java/lang/Object")) (by decide) rfl rfl g (w3.sfE E (by decide) (by decide)) rfl fun T4 h4 w4 W4 sf4 => ?_
  have sz4 : h.size ≤ h4.size := (Keep.of_wr W4).1
  replace E := E.wr W4
  replace F1 := F1.other W4 (Or.inr (slot_ne (Or.inr (H.tw 124 rfl)) (Or.inr (H.tw 121 rfl)) (by decide) (t := (.object "java/lang/Object")) (t' := (.object "java/lang/Object")) (by decide) (by decide)))
  replace F0 := F0.same W4
  refine w4.aloadN (q := 48) d20_47 rfl rfl rfl ?_
  refine w4.aloadN (q := 49) d20_48 rfl rfl rfl ?_
  refine w4.putF (q := 52) d20_49 (H.tw 123 rfl) Via.refl F1 E (Or.inr ⟨(H.tw 124 rfl), rfl, rfl⟩) (H.tw 94 rfl) (ty := (.object "java/lang/Object")) (by decide) rfl rfl g (w4.sfE E (by decide) (by decide)) rfl fun T5 h5 w5 W5 sf5 => ?_
  have sz5 : h4.size ≤ h5.size := (Keep.of_wr W5).1
  replace E := E.wr W5
  replace F0 := F0.other W5 (Or.inr (slot_ne (Or.inr (H.tw 121 rfl)) (Or.inr (H.tw 124 rfl)) (by decide) (t := (.object "java/lang/Object")) (t' := (.object "java/lang/Object")) (by decide) (by decide)))
  replace F1 := F1.same W5
  exact w5.retV d20_52 rfl (by decide) (by decide) ⟨rfl, (Keep.of_wr W4).trans (Keep.of_wr W5) (fun x hx => Or.inl hx), E, F0, F1⟩
theorem d22_0 : decode jdk_96_method_17_code 0 = .ok (.getstatic 9, 3) := by decide +kernel
theorem d22_3 : decode jdk_96_method_17_code 3 = .ok (.areturn, 1) := by decide +kernel
theorem pn23 : plainName "java/util/Set" = true := by first | (simp [plainName, overriddenIn]; done) | decide +kernel
set_option maxRecDepth 65536 in
set_option maxHeartbeats 40000000 in
theorem con_of0 (G : Gx) (H : Hyp G) (es : Nat) (Ses : Sta G.Z G.Z.heap "java/util/ImmutableCollections" "EMPTY_SET" "Ljava/util/ImmutableCollections$SetN;" (.ref es)) (h : Heap) (ho : Old G.Z G.n0 h)  :
    Con G (⟨"java/util/Set", "of", "()Ljava/util/Set;"⟩ : MethodName) jdk_96_method_17_code 0 (some (.object "java/util/Set")) [] ({ frames := 0, cells := 0, slots := 0, locals := 0 } : Room) #[] h (vQ fun v h' => v = .ref es ∧ h = h') := by
  refine Con.intro H.el ho (plainFor_of_name pn23) (Ls := #[]) (fun m => by first | (simp [entryFrame, mkF, argsToLocals, Value.category]; done) | rfl) ?_
  intro X vm T w
  refine w.getS (q := 3) d22_0 (H.tw 31 rfl) Via.refl Ses rfl fun T1 w1 => ?_
  exact w1.retA d22_3 (t := (.object "java/util/Set")) rfl rfl rfl (by decide) (by decide) ⟨_, rfl, ⟨rfl, rfl⟩⟩
theorem d24_0 : decode jdk_96_method_18_code 0 = .ok (.new 15, 3) := by decide +kernel
theorem d24_3 : decode jdk_96_method_18_code 3 = .ok (.dup, 1) := by decide +kernel
theorem d24_4 : decode jdk_96_method_18_code 4 = .ok (.aload_n 0, 1) := by decide +kernel
theorem d24_5 : decode jdk_96_method_18_code 5 = .ok (.invokespecial 17, 3) := by decide +kernel
theorem pd25 : parseMethodDescriptor "(Ljava/lang/Object;)V" = some ⟨[(.object "java/lang/Object")], none⟩ := by decide +kernel
theorem d24_8 : decode jdk_96_method_18_code 8 = .ok (.areturn, 1) := by decide +kernel
set_option maxRecDepth 65536 in
set_option maxHeartbeats 40000000 in
theorem con_of1 (G : Gx) (H : Hyp G) (x em : Nat) (Sem : Sta G.Z G.Z.heap "java/util/ImmutableCollections" "EMPTY" "Ljava/lang/Object;" (.ref em)) (h : Heap) (ho : Old G.Z G.n0 h)  :
    Con G (⟨"java/util/Set", "of", "(Ljava/lang/Object;)Ljava/util/Set;"⟩ : MethodName) jdk_96_method_18_code 1 (some (.object "java/util/Set")) [] ({ frames := 5, cells := 1, slots := 2, locals := 62 } : Room) #[(.ref x)] h (vQ fun v h' => ∃ r : Nat, v = .ref r ∧ Ext h h' ∧ Exa G.Z h' r "java/util/ImmutableCollections$Set12" ∧ Fld G.Z h' r "java/util/ImmutableCollections$Set12" "e0" "Ljava/lang/Object;" (.ref x) ∧ Fld G.Z h' r "java/util/ImmutableCollections$Set12" "e1" "Ljava/lang/Object;" (.ref em)) := by
  refine Con.intro H.el ho (plainFor_of_name pn23) (Ls := #[.val (.ref x)]) (fun m => by first | (simp [entryFrame, mkF, argsToLocals, Value.category]; done) | rfl) ?_
  intro X vm T w
  refine w.newO (q := 3) d24_0 (H.tw 93 rfl) (H.tw 94 rfl) (H.tw 95 rfl) (by decide) (by decide) rfl fun T1 h1 b1 e1 w1 E1 A1 D1 U1 => ?_
  have lt1 : b1 < h1.size := A1.lt
  have sz1 : h.size ≤ h1.size := E1.1
  have F1_e0 : Fld G.Z h1 b1 "java/util/ImmutableCollections$Set12" "e0" "Ljava/lang/Object;" .null := D1 (Or.inr (H.tw 121 rfl)) (ty := (.object "java/lang/Object")) (by decide)
  have F1_e1 : Fld G.Z h1 b1 "java/util/ImmutableCollections$Set12" "e1" "Ljava/lang/Object;" .null := D1 (Or.inr (H.tw 124 rfl)) (ty := (.object "java/lang/Object")) (by decide)
  have g1 : G.n0 ≤ b1 := by have := ho.2.1; have := ho.1; omega
  refine w1.dup (q := 4) d24_3 rfl rfl ?_
  refine w1.aloadN (q := 5) d24_4 rfl rfl rfl ?_
  refine w1.callC (q := 8) d24_5 rfl (H.tw 96 rfl) (H.tw 97 rfl) (H.tw 99 rfl) (by decide) (a := b1) (argsL := [(.ref x)]) (rest := [(.ref b1)]) rfl (lenOf pd25 rfl) rfl (W := 1) (Nat.le_of_eq rfl) ((con_s1 G H b1 x em Sem h1 w1.old A1 F1_e0 F1_e1 g1).pay w1 (H.tw 99 rfl) (H.tw 95 rfl) (by decide) (by decide)) (by decide) (by decide) rfl fun vm2 T2 h2 v2 w2 q2 => ?_
  obtain ⟨rfl, K2, P1, P2, P3⟩ := q2
  show Go _ _ _ _ (T2.setTop (mkF X.m 8 #[.val (.ref x)] [(.ref b1)]))
  exact w2.retA d24_8 (t := (.object "java/util/Set")) rfl rfl rfl (by decide) (by decide) ⟨_, rfl, b1, rfl, xkp E1 K2 (all1 (by omega)), P1, P2, P3⟩
theorem d26_0 : decode jdk_96_method_19_code 0 = .ok (.new 15, 3) := by decide +kernel
theorem d26_3 : decode jdk_96_method_19_code 3 = .ok (.dup, 1) := by decide +kernel
theorem d26_4 : decode jdk_96_method_19_code 4 = .ok (.aload_n 0, 1) := by decide +kernel
theorem d26_5 : decode jdk_96_method_19_code 5 = .ok (.aload_n 1, 1) := by decide +kernel
theorem d26_6 : decode jdk_96_method_19_code 6 = .ok (.invokespecial 21, 3) := by decide +kernel
theorem pd27 : parseMethodDescriptor "(Ljava/lang/Object;Ljava/lang/Object;)V" = some ⟨[(.object "java/lang/Object"), (.object "java/lang/Object")], none⟩ := by decide +kernel
theorem d26_9 : decode jdk_96_method_19_code 9 = .ok (.areturn, 1) := by decide +kernel
set_option maxRecDepth 65536 in
set_option maxHeartbeats 40000000 in
theorem con_of2 (G : Gx) (H : Hyp G) (x y : Nat) (cs ds : List Int32) (h : Heap) (ho : Old G.Z G.n0 h) (A : StrAt G.Z h x 0 cs) (B : StrAt G.Z h y 0 ds) (hne : ¬ cs = ds) :
    Con G (⟨"java/util/Set", "of", "(Ljava/lang/Object;Ljava/lang/Object;)Ljava/util/Set;"⟩ : MethodName) jdk_96_method_19_code 2 (some (.object "java/util/Set")) [] ({ frames := 5, cells := 1, slots := 2, locals := 63 } : Room) #[(.ref x), (.ref y)] h (vQ fun v h' => ∃ r : Nat, v = .ref r ∧ Ext h h' ∧ Exa G.Z h' r "java/util/ImmutableCollections$Set12" ∧ Fld G.Z h' r "java/util/ImmutableCollections$Set12" "e0" "Ljava/lang/Object;" (.ref x) ∧ Fld G.Z h' r "java/util/ImmutableCollections$Set12" "e1" "Ljava/lang/Object;" (.ref y)) := by
  refine Con.intro H.el ho (plainFor_of_name pn23) (Ls := #[.val (.ref x), .val (.ref y)]) (fun m => by first | (simp [entryFrame, mkF, argsToLocals, Value.category]; done) | rfl) ?_
  intro X vm T w
  refine w.newO (q := 3) d26_0 (H.tw 93 rfl) (H.tw 94 rfl) (H.tw 95 rfl) (by decide) (by decide) rfl fun T1 h1 b1 e1 w1 E1 A1 D1 U1 => ?_
  have lt1 : b1 < h1.size := A1.lt
  have sz1 : h.size ≤ h1.size := E1.1
  have F1_e0 : Fld G.Z h1 b1 "java/util/ImmutableCollections$Set12" "e0" "Ljava/lang/Object;" .null := D1 (Or.inr (H.tw 121 rfl)) (ty := (.object "java/lang/Object")) (by decide)
  have F1_e1 : Fld G.Z h1 b1 "java/util/ImmutableCollections$Set12" "e1" "Ljava/lang/Object;" .null := D1 (Or.inr (H.tw 124 rfl)) (ty := (.object "java/lang/Object")) (by decide)
  have g1 : G.n0 ≤ b1 := by have := ho.2.1; have := ho.1; omega
  refine w1.dup (q := 4) d26_3 rfl rfl ?_
  refine w1.aloadN (q := 5) d26_4 rfl rfl rfl ?_
  refine w1.aloadN (q := 6) d26_5 rfl rfl rfl ?_
  refine w1.callC (q := 9) d26_6 rfl (H.tw 154 rfl) (H.tw 155 rfl) (H.tw 156 rfl) (by decide) (a := b1) (argsL := [(.ref x), (.ref y)]) (rest := [(.ref b1)]) rfl (lenOf pd27 rfl) rfl (W := 1) (Nat.le_of_eq rfl) ((con_s2 G H b1 x y _ _ h1 w1.old A1 F1_e0 F1_e1 g1 (A.ext E1) (B.ext E1) hne).pay w1 (H.tw 156 rfl) (H.tw 95 rfl) (by decide) (by decide)) (by decide) (by decide) rfl fun vm2 T2 h2 v2 w2 q2 => ?_
  obtain ⟨rfl, K2, P1, P2, P3⟩ := q2
  show Go _ _ _ _ (T2.setTop (mkF X.m 9 #[.val (.ref x), .val (.ref y)] [(.ref b1)]))
  exact w2.retA d26_9 (t := (.object "java/util/Set")) rfl rfl rfl (by decide) (by decide) ⟨_, rfl, b1, rfl, xkp E1 K2 (all1 (by omega)), P1, P2, P3⟩
theorem d28_0 : decode jdk_132_method_4_code 0 = .ok (.aload_n 1, 1) := by decide +kernel
theorem d28_1 : decode jdk_132_method_4_code 1 = .ok (.invokestatic 46, 3) := by decide +kernel
theorem d28_4 : decode jdk_132_method_4_code 4 = .ok (.pop, 1) := by decide +kernel
theorem d28_5 : decode jdk_132_method_4_code 5 = .ok (.aload_n 0, 1) := by decide +kernel
theorem d28_6 : decode jdk_132_method_4_code 6 = .ok (.getfield 9, 3) := by decide +kernel
theorem d28_9 : decode jdk_132_method_4_code 9 = .ok (.ifCond .le 15, 3) := by decide +kernel
theorem d28_24 : decode jdk_132_method_4_code 24 = .ok (.iconst 0, 1) := by decide +kernel
theorem d28_25 : decode jdk_132_method_4_code 25 = .ok (.ireturn, 1) := by decide +kernel
theorem pn29 : plainName "java/util/ImmutableCollections$SetN" = true := by first | (simp [plainName, overriddenIn]; done) | decide +kernel
set_option maxRecDepth 65536 in
set_option maxHeartbeats 40000000 in
theorem con_cN (G : Gx) (H : HypN G) (s t : Nat) (h : Heap) (ho : Old G.Z G.n0 h) (F : Fld G.Z h s "java/util/ImmutableCollections$SetN" "size" "I" (.int 0)) :
    Con G (⟨"java/util/ImmutableCollections$SetN", "contains", "(Ljava/lang/Object;)Z"⟩ : MethodName) jdk_132_method_4_code 2 (some .boolean) [] ({ frames := 1, cells := 0, slots := 0, locals := 12 } : Room) #[(.ref s), (.ref t)] h (vQ fun v h' => v = .int 0 ∧ h = h') := by
  refine Con.intro H.el ho (plainFor_of_name pn29) (Ls := #[.val (.ref s), .val (.ref t)]) (fun m => by first | (simp [entryFrame, mkF, argsToLocals, Value.category]; done) | rfl) ?_
  intro X vm T w
  refine w.aloadN (q := 1) d28_0 rfl rfl rfl ?_
  refine w.callS (q := 4) d28_1 (H.tw 87 rfl) (H.tw 40 rfl) (H.tw 41 rfl) (H.tw 42 rfl) (by decide) (argsL := [(.ref t)]) (rest := []) rfl (lenOf pd18 rfl) rfl (W := 0) (Nat.le_of_eq rfl) ((con_rnn G H t h ho).pay w (H.tw 42 rfl) (H.tw 41 rfl) (by decide) (by decide)) (by decide) (by decide) rfl fun vm1 T1 h1 v1 w1 q1 => ?_
  obtain ⟨_, rfl, rfl, rfl⟩ := q1
  show Go _ _ _ _ (T1.setTop (mkF X.m 4 #[.val (.ref s), .val (.ref t)] [(.ref t)]))
  refine w1.pop (q := 5) d28_4 rfl rfl ?_
  refine w1.aloadN (q := 6) d28_5 rfl rfl rfl ?_
  refine w1.getF (q := 9) d28_6 (H.tw 88 rfl) Via.refl F rfl fun T2 w2 => ?_
  refine w2.ifY (q := 24) d28_9 ((if0 _ _).trans (flt (by decide)).2.2.2) (by decide) (by decide) ?_
  refine w2.iconst (q := 25) (0 : Int32) d28_24 rfl rfl ?_
  exact w2.retZ d28_25 (t := .boolean) rfl (by decide) rfl (by decide) (by decide) ⟨_, rfl, ⟨rfl, rfl⟩⟩
theorem d30_0 : decode jdk_101_method_5_code 0 = .ok (.aload_n 1, 1) := by decide +kernel
theorem d30_1 : decode jdk_101_method_5_code 1 = .ok (.aload_n 0, 1) := by decide +kernel
theorem d30_2 : decode jdk_101_method_5_code 2 = .ok (.getfield 13, 3) := by decide +kernel
theorem d30_5 : decode jdk_101_method_5_code 5 = .ok (.invokevirtual 27, 3) := by decide +kernel
theorem d30_8 : decode jdk_101_method_5_code 8 = .ok (.ifCond .ne 14, 3) := by decide +kernel
theorem d30_11 : decode jdk_101_method_5_code 11 = .ok (.aload_n 0, 1) := by decide +kernel
theorem d30_12 : decode jdk_101_method_5_code 12 = .ok (.getfield 24, 3) := by decide +kernel
theorem d30_15 : decode jdk_101_method_5_code 15 = .ok (.aload_n 1, 1) := by decide +kernel
theorem d30_16 : decode jdk_101_method_5_code 16 = .ok (.invokevirtual 27, 3) := by decide +kernel
theorem d30_19 : decode jdk_101_method_5_code 19 = .ok (.ifCond .eq 7, 3) := by decide +kernel
theorem d30_26 : decode jdk_101_method_5_code 26 = .ok (.iconst 0, 1) := by decide +kernel
theorem d30_27 : decode jdk_101_method_5_code 27 = .ok (.ireturn, 1) := by decide +kernel
theorem d30_22 : decode jdk_101_method_5_code 22 = .ok (.iconst 1, 1) := by decide +kernel
theorem d30_23 : decode jdk_101_method_5_code 23 = .ok (.goto 4, 3) := by decide +kernel
set_option maxRecDepth 65536 in
set_option maxHeartbeats 40000000 in
theorem con_c1 (G : Gx) (H : HypN G) (s t x y : Nat) (ct ca : List Int32) (h : Heap) (ho : Old G.Z G.n0 h) (F0 : Fld G.Z h s "java/util/ImmutableCollections$Set12" "e0" "Ljava/lang/Object;" (.ref x)) (F1 : Fld G.Z h s "java/util/ImmutableCollections$Set12" "e1" "Ljava/lang/Object;" (.ref y)) (St : StrAt G.Z h t 0 ct) (A : StrAt G.Z h x 0 ca) (E : Exa G.Z h y "java/lang/Object") :
    Con G (⟨"java/util/ImmutableCollections$Set12", "contains", "(Ljava/lang/Object;)Z"⟩ : MethodName) jdk_101_method_5_code 2 (some .boolean) [] ({ frames := 2, cells := 0, slots := 0, locals := 28 } : Room) #[(.ref s), (.ref t)] h (vQ fun v h' => v = .int (if ct = ca then 1 else 0) ∧ h = h') := by
  refine Con.intro H.el ho (plainFor_of_name pn19) (Ls := #[.val (.ref s), .val (.ref t)]) (fun m => by first | (simp [entryFrame, mkF, argsToLocals, Value.category]; done) | rfl) ?_
  intro X vm T w
  refine w.aloadN (q := 1) d30_0 rfl rfl rfl ?_
  refine w.aloadN (q := 2) d30_1 rfl rfl rfl ?_
  refine w.getF (q := 5) d30_2 (H.tw 120 rfl) Via.refl F0 rfl fun T1 w1 => ?_
  refine w1.callV (q := 8) d30_5 (H.tw 131 rfl) (H.tw 132 rfl) (notFace_of_selects (C := "java/lang/Object") (args := G.a0) (H.tw 157 rfl)) (H.tw 134 rfl) (H.tw 67 rfl) (by decide) St.exa (argsL := [(.ref x)]) (rest := []) rfl (lenOf pd21 rfl) rfl (W := 0) (Nat.le_of_eq rfl) (pay_eq w1 H.weq (H.tw 5 rfl) H.cz St A (by decide) (by decide)) (by decide) (by decide) rfl fun vm2 T2 h2 v2 w2 q2 => ?_
  obtain ⟨_, rfl, rfl, rfl⟩ := q2
  show Go _ _ _ _ (T2.setTop (mkF X.m 8 #[.val (.ref s), .val (.ref t)] [(.int (if ct = ca then 1 else 0))]))
  by_cases c1 : (if ct = ca then 1 else 0) = (0 : Int32)
  ·
    refine w2.ifN (q := 11) d30_8 ((if0 _ _).trans (teq c1).2) rfl ?_
    refine w2.aloadN (q := 12) d30_11 rfl rfl rfl ?_
    refine w2.getF (q := 15) d30_12 (H.tw 123 rfl) Via.refl F1 rfl fun T3 w3 => ?_
    refine w3.aloadN (q := 16) d30_15 rfl rfl rfl ?_
    have ne : ¬ y = t := E.ne St.exa (by decide)
    refine w3.callV (q := 19) d30_16 (H.tw 131 rfl) (H.tw 132 rfl) (notFace_of_selects (C := "java/lang/Object") (args := G.a0) (H.tw 157 rfl)) (H.tw 157 rfl) (H.tw 133 rfl) (by decide) E (argsL := [(.ref t)]) (rest := []) rfl (lenOf pd21 rfl) rfl (W := 0) (Nat.le_of_eq rfl) (Pay.direct (R' := ({ frames := 0, cells := 0, slots := 0, locals := 0 } : Room)) (Q1 := (vQ fun v h' => v = .int 0 ∧ h = h')) w3 (H.tw 158 rfl) (by decide +kernel) (fun mk => by simp [entryFrame, mkF, argsToLocals, Value.category]) (by decide) (by decide) (fun v h' q => by obtain ⟨_, _, _, rfl⟩ := q; exact xrfl _) (fun X' T' wk => con_oeq G.nar H.nar y t h wk.old ne X' _ T' wk)) (by decide) (by decide) rfl fun vm4 T4 h4 v4 w4 q4 => ?_
    obtain ⟨_, rfl, rfl, rfl⟩ := q4
    show Go _ _ _ _ (T4.setTop (mkF X.m 19 #[.val (.ref s), .val (.ref t)] [(.int (0 : Int32))]))
    refine w4.ifY (q := 26) d30_19 ((if0 _ _).trans (teq rfl).1) (by decide) (by decide) ?_
    refine w4.iconst (q := 27) (0 : Int32) d30_26 rfl rfl ?_
    exact w4.retZ d30_27 (t := .boolean) rfl (by decide) rfl (by decide) (by decide) ⟨_, rfl, ⟨by rw [if_neg (ite_no c1)], rfl⟩⟩
  ·
    refine w2.ifY (q := 22) d30_8 ((if0 _ _).trans (feq c1).2) (by decide) (by decide) ?_
    refine w2.iconst (q := 23) (1 : Int32) d30_22 rfl rfl ?_
    refine w2.goto (q := 27) d30_23 (by decide) (by decide) ?_
    exact w2.retZ d30_27 (t := .boolean) rfl (by decide) rfl (by decide) (by decide) ⟨_, rfl, ⟨by rw [if_pos (ite_yes c1)], rfl⟩⟩
set_option maxRecDepth 65536 in
set_option maxHeartbeats 40000000 in
theorem con_c2 (G : Gx) (H : HypN G) (s t x y : Nat) (ct ca cb : List Int32) (h : Heap) (ho : Old G.Z G.n0 h) (F0 : Fld G.Z h s "java/util/ImmutableCollections$Set12" "e0" "Ljava/lang/Object;" (.ref x)) (F1 : Fld G.Z h s "java/util/ImmutableCollections$Set12" "e1" "Ljava/lang/Object;" (.ref y)) (St : StrAt G.Z h t 0 ct) (A : StrAt G.Z h x 0 ca) (B : StrAt G.Z h y 0 cb) :
    Con G (⟨"java/util/ImmutableCollections$Set12", "contains", "(Ljava/lang/Object;)Z"⟩ : MethodName) jdk_101_method_5_code 2 (some .boolean) [] ({ frames := 2, cells := 0, slots := 0, locals := 28 } : Room) #[(.ref s), (.ref t)] h (vQ fun v h' => v = .int (if ct = ca ∨ cb = ct then 1 else 0) ∧ h = h') := by
  refine Con.intro H.el ho (plainFor_of_name pn19) (Ls := #[.val (.ref s), .val (.ref t)]) (fun m => by first | (simp [entryFrame, mkF, argsToLocals, Value.category]; done) | rfl) ?_
  intro X vm T w
  refine w.aloadN (q := 1) d30_0 rfl rfl rfl ?_
  refine w.aloadN (q := 2) d30_1 rfl rfl rfl ?_
  refine w.getF (q := 5) d30_2 (H.tw 120 rfl) Via.refl F0 rfl fun T1 w1 => ?_
  refine w1.callV (q := 8) d30_5 (H.tw 131 rfl) (H.tw 132 rfl) (notFace_of_selects (C := "java/lang/Object") (args := G.a0) (H.tw 157 rfl)) (H.tw 134 rfl) (H.tw 67 rfl) (by decide) St.exa (argsL := [(.ref x)]) (rest := []) rfl (lenOf pd21 rfl) rfl (W := 0) (Nat.le_of_eq rfl) (pay_eq w1 H.weq (H.tw 5 rfl) H.cz St A (by decide) (by decide)) (by decide) (by decide) rfl fun vm2 T2 h2 v2 w2 q2 => ?_
  obtain ⟨_, rfl, rfl, rfl⟩ := q2
  show Go _ _ _ _ (T2.setTop (mkF X.m 8 #[.val (.ref s), .val (.ref t)] [(.int (if ct = ca then 1 else 0))]))
  by_cases c1 : (if ct = ca then 1 else 0) = (0 : Int32)
  ·
    refine w2.ifN (q := 11) d30_8 ((if0 _ _).trans (teq c1).2) rfl ?_
    refine w2.aloadN (q := 12) d30_11 rfl rfl rfl ?_
    refine w2.getF (q := 15) d30_12 (H.tw 123 rfl) Via.refl F1 rfl fun T3 w3 => ?_
    refine w3.aloadN (q := 16) d30_15 rfl rfl rfl ?_
    refine w3.callV (q := 19) d30_16 (H.tw 131 rfl) (H.tw 132 rfl) (notFace_of_selects (C := "java/lang/Object") (args := G.a0) (H.tw 157 rfl)) (H.tw 134 rfl) (H.tw 67 rfl) (by decide) B.exa (argsL := [(.ref t)]) (rest := []) rfl (lenOf pd21 rfl) rfl (W := 0) (Nat.le_of_eq rfl) (pay_eq w3 H.weq (H.tw 5 rfl) H.cz B St (by decide) (by decide)) (by decide) (by decide) rfl fun vm4 T4 h4 v4 w4 q4 => ?_
    obtain ⟨_, rfl, rfl, rfl⟩ := q4
    show Go _ _ _ _ (T4.setTop (mkF X.m 19 #[.val (.ref s), .val (.ref t)] [(.int (if cb = ct then 1 else 0))]))
    by_cases c2 : (if cb = ct then 1 else 0) = (0 : Int32)
    ·
      refine w4.ifY (q := 26) d30_19 ((if0 _ _).trans (teq c2).1) (by decide) (by decide) ?_
      refine w4.iconst (q := 27) (0 : Int32) d30_26 rfl rfl ?_
      exact w4.retZ d30_27 (t := .boolean) rfl (by decide) rfl (by decide) (by decide) ⟨_, rfl, ⟨by rw [if_neg (fun z => z.elim (ite_no c1) (ite_no c2))], rfl⟩⟩
    ·
      refine w4.ifN (q := 22) d30_19 ((if0 _ _).trans (feq c2).1) rfl ?_
      refine w4.iconst (q := 23) (1 : Int32) d30_22 rfl rfl ?_
      refine w4.goto (q := 27) d30_23 (by decide) (by decide) ?_
      exact w4.retZ d30_27 (t := .boolean) rfl (by decide) rfl (by decide) (by decide) ⟨_, rfl, ⟨by rw [if_pos (Or.inr (ite_yes c2))], rfl⟩⟩
  ·
    refine w2.ifY (q := 22) d30_8 ((if0 _ _).trans (feq c1).2) (by decide) (by decide) ?_
    refine w2.iconst (q := 23) (1 : Int32) d30_22 rfl rfl ?_
    refine w2.goto (q := 27) d30_23 (by decide) (by decide) ?_
    exact w2.retZ d30_27 (t := .boolean) rfl (by decide) rfl (by decide) (by decide) ⟨_, rfl, ⟨by rw [if_pos (Or.inl (ite_yes c1))], rfl⟩⟩
theorem d31_0 : decode jdk_30_method_1_code 0 = .ok (.aload_n 0, 1) := by decide +kernel
theorem d31_1 : decode jdk_30_method_1_code 1 = .ok (.invokespecial 1, 3) := by decide +kernel
theorem d31_4 : decode jdk_30_method_1_code 4 = .ok (.return_, 1) := by decide +kernel
theorem pn32 : plainName "java/lang/Record" = true := by first | (simp [plainName, overriddenIn]; done) | decide +kernel
set_option maxRecDepth 65536 in
set_option maxHeartbeats 40000000 in
theorem con_recinit (G : Gx) (H : Hyp G) (a : Nat) (h : Heap) (ho : Old G.Z G.n0 h)  :
    Con G (⟨"java/lang/Record", "<init>", "()V"⟩ : MethodName) jdk_30_method_1_code 1 none [] ({ frames := 1, cells := 0, slots := 0, locals := 12 } : Room) #[(.ref a)] h (nQ fun h' => h = h') := by
  refine Con.intro H.el ho (plainFor_of_name pn32) (Ls := #[.val (.ref a)]) (fun m => by first | (simp [entryFrame, mkF, argsToLocals, Value.category]; done) | rfl) ?_
  intro X vm T w
  refine w.aloadN (q := 1) d31_0 rfl rfl rfl ?_
  refine w.initO (q := 4) (W := 0) d31_1 (H.tw 55 rfl) (H.tw 16 rfl) (H.tw 17 rfl) rfl (by decide) (Nat.le_of_eq rfl) (by decide) rfl fun T1 w1 => ?_
  exact w1.retV d31_4 rfl (by decide) (by decide) ⟨rfl, rfl⟩
theorem d33_0 : decode prog_8_method_1_code 0 = .ok (.aload_n 0, 1) := by decide +kernel
theorem d33_1 : decode prog_8_method_1_code 1 = .ok (.invokespecial 1, 3) := by decide +kernel
theorem d33_4 : decode prog_8_method_1_code 4 = .ok (.aload_n 0, 1) := by decide +kernel
theorem d33_5 : decode prog_8_method_1_code 5 = .ok (.aload_n 1, 1) := by decide +kernel
theorem d33_6 : decode prog_8_method_1_code 6 = .ok (.putfield 7, 3) := by decide +kernel
theorem d33_9 : decode prog_8_method_1_code 9 = .ok (.aload_n 0, 1) := by decide +kernel
theorem d33_10 : decode prog_8_method_1_code 10 = .ok (.aload_n 2, 1) := by decide +kernel
theorem d33_11 : decode prog_8_method_1_code 11 = .ok (.putfield 13, 3) := by decide +kernel
theorem d33_14 : decode prog_8_method_1_code 14 = .ok (.return_, 1) := by decide +kernel
theorem pn34 : plainName "com/example/loomline/loomline/exchange/TextFormat" = true := by first | (simp [plainName, overriddenIn]; done) | decide +kernel
set_option maxRecDepth 65536 in
set_option maxHeartbeats 40000000 in
theorem con_tf (G : Gx) (H : Hyp G) (a : Nat) (dd ff : Nat) (h : Heap) (ho : Old G.Z G.n0 h) (E : Exa G.Z h a "com/example/loomline/loomline/exchange/TextFormat") (F_description : Fld G.Z h a "com/example/loomline/loomline/exchange/TextFormat" "description" "Ljava/lang/String;" .null) (F_test : Fld G.Z h a "com/example/loomline/loomline/exchange/TextFormat" "test" "Ljava/util/function/Predicate;" .null) (g : G.n0 ≤ a)  :
    Con G (⟨"com/example/loomline/loomline/exchange/TextFormat", "<init>", "(Ljava/lang/String;Ljava/util/function/Predicate;)V"⟩ : MethodName) prog_8_method_1_code 3 none [] ({ frames := 2, cells := 0, slots := 0, locals := 24 } : Room) #[(.ref a), (.ref dd), (.ref ff)] h (nQ fun h' => Keep h h' [a] ∧ Exa G.Z h' a "com/example/loomline/loomline/exchange/TextFormat" ∧ Fld G.Z h' a "com/example/loomline/loomline/exchange/TextFormat" "description" "Ljava/lang/String;" (.ref dd) ∧ Fld G.Z h' a "com/example/loomline/loomline/exchange/TextFormat" "test" "Ljava/util/function/Predicate;" (.ref ff)) := by
  refine Con.intro H.el ho (plainFor_of_name pn34) (Ls := #[.val (.ref a), .val (.ref dd), .val (.ref ff)]) (fun m => by first | (simp [entryFrame, mkF, argsToLocals, Value.category]; done) | rfl) ?_
  intro X vm T w
  refine w.aloadN (q := 1) d33_0 rfl rfl rfl ?_
  refine w.callC (q := 4) d33_1 rfl (H.tw 50 rfl) (H.tw 51 rfl) (H.tw 54 rfl) (by decide) (a := a) (argsL := []) (rest := []) rfl (lenOf pd13 rfl) rfl (W := 0) (Nat.le_of_eq rfl) ((con_recinit G H a h ho).pay w (H.tw 54 rfl) (H.tw 53 rfl) (by decide) (by decide)) (by decide) (by decide) rfl fun vm1 T1 h1 v1 w1 q1 => ?_
  obtain ⟨rfl, rfl⟩ := q1
  show Go _ _ _ _ (T1.setTop (mkF X.m 4 #[.val (.ref a), .val (.ref dd), .val (.ref ff)] []))
  refine w1.aloadN (q := 5) d33_4 rfl rfl rfl ?_
  refine w1.aloadN (q := 6) d33_5 rfl rfl rfl ?_
  refine w1.putF (q := 9) d33_6 (H.tw 56 rfl) Via.refl F_description E (Or.inr ⟨(H.tw 57 rfl), rfl, rfl⟩) (H.tw 38 rfl) (ty := (.object "java/lang/String")) (by decide) rfl rfl g (w1.sfE E (by decide) (by decide)) rfl fun T2 h2 w2 W2 sf2 => ?_
  have sz2 : h.size ≤ h2.size := (Keep.of_wr W2).1
  replace E := E.wr W2
  replace F_description := F_description.same W2
  replace F_test := F_test.other W2 (Or.inr (slot_ne (Or.inr (H.tw 59 rfl)) (Or.inr (H.tw 57 rfl)) (by decide) (t := (.object "java/util/function/Predicate")) (t' := (.object "java/lang/String")) (by decide) (by decide)))
  refine w2.aloadN (q := 10) d33_9 rfl rfl rfl ?_
  refine w2.aloadN (q := 11) d33_10 rfl rfl rfl ?_
  refine w2.putF (q := 14) d33_11 (H.tw 58 rfl) Via.refl F_test E (Or.inr ⟨(H.tw 59 rfl), rfl, rfl⟩) (H.tw 38 rfl) (ty := (.object "java/util/function/Predicate")) (by decide) rfl rfl g (w2.sfE E (by decide) (by decide)) rfl fun T3 h3 w3 W3 sf3 => ?_
  have sz3 : h2.size ≤ h3.size := (Keep.of_wr W3).1
  replace E := E.wr W3
  replace F_description := F_description.other W3 (Or.inr (slot_ne (Or.inr (H.tw 57 rfl)) (Or.inr (H.tw 59 rfl)) (by decide) (t := (.object "java/lang/String")) (t' := (.object "java/util/function/Predicate")) (by decide) (by decide)))
  replace F_test := F_test.same W3
  exact w3.retV d33_14 rfl (by decide) (by decide) ⟨rfl, ((Keep.of_wr W2).trans (Keep.of_wr W3) (fun x hx => Or.inl hx)), E, F_description, F_test⟩
theorem d35_0 : decode prog_8_method_16_code 0 = .ok (.aload_n 0, 1) := by decide +kernel
theorem d35_1 : decode prog_8_method_16_code 1 = .ok (.getfield 7, 3) := by decide +kernel
theorem d35_4 : decode prog_8_method_16_code 4 = .ok (.areturn, 1) := by decide +kernel
set_option maxRecDepth 65536 in
set_option maxHeartbeats 40000000 in
theorem con_desc (G : Gx) (H : Hyp G) (a : Nat) (v : Value) (hv : v.isRef = true) (h : Heap) (ho : Old G.Z G.n0 h) (F : Fld G.Z h a "com/example/loomline/loomline/exchange/TextFormat" "description" "Ljava/lang/String;" v) :
    Con G (⟨"com/example/loomline/loomline/exchange/TextFormat", "description", "()Ljava/lang/String;"⟩ : MethodName) prog_8_method_16_code 1 (some (.object "java/lang/String")) [] ({ frames := 0, cells := 0, slots := 0, locals := 0 } : Room) #[(.ref a)] h (vQ fun v' h' => v' = v ∧ h = h') := by
  refine Con.intro H.el ho (plainFor_of_name pn34) (Ls := #[.val (.ref a)]) (fun m => by first | (simp [entryFrame, mkF, argsToLocals, Value.category]; done) | rfl) ?_
  intro X vm T w
  refine w.aloadN (q := 1) d35_0 rfl rfl rfl ?_
  refine w.getF (q := 4) d35_1 (H.tw 56 rfl) Via.refl F rfl fun T1 w1 => ?_
  exact w1.retA d35_4 (t := (.object "java/lang/String")) rfl rfl hv (by decide) (by decide) ⟨_, rfl, ⟨rfl, rfl⟩⟩
def shp : Lambda.Shape := (Jvm.Lambda.Shape.mk "java/util/function/Predicate" "test" (MethodDescriptor.mk ([(FieldType.object "java/lang/Object")] : List FieldType) (Option.some FieldType.boolean)) ([(FieldType.object "java/util/Set")] : List FieldType) 9 "java/util/Set" "contains" (MethodDescriptor.mk ([(FieldType.object "java/lang/Object")] : List FieldType) (Option.some FieldType.boolean)) true (MethodDescriptor.mk ([(FieldType.object "java/lang/String")] : List FieldType) (Option.some FieldType.boolean)))
theorem d36_0 : decode prog_8_method_5_code 0 = .ok (.new 8, 3) := by decide +kernel
theorem d36_3 : decode prog_8_method_5_code 3 = .ok (.dup, 1) := by decide +kernel
theorem d36_4 : decode prog_8_method_5_code 4 = .ok (.aload_n 0, 1) := by decide +kernel
theorem d36_5 : decode prog_8_method_5_code 5 = .ok (.aload_n 1, 1) := by decide +kernel
theorem d36_6 : decode prog_8_method_5_code 6 = .ok (.dup, 1) := by decide +kernel
theorem d36_7 : decode prog_8_method_5_code 7 = .ok (.invokestatic 38, 3) := by decide +kernel
theorem d36_10 : decode prog_8_method_5_code 10 = .ok (.pop, 1) := by decide +kernel
theorem d36_11 : decode prog_8_method_5_code 11 = .ok (.invokedynamic 50, 5) := by decide +kernel
theorem d36_16 : decode prog_8_method_5_code 16 = .ok (.invokespecial 47, 3) := by decide +kernel
theorem pd37 : parseMethodDescriptor "(Ljava/lang/String;Ljava/util/function/Predicate;)V" = some ⟨[(.object "java/lang/String"), (.object "java/util/function/Predicate")], none⟩ := by decide +kernel
theorem d36_19 : decode prog_8_method_5_code 19 = .ok (.areturn, 1) := by decide +kernel
set_option maxRecDepth 65536 in
set_option maxHeartbeats 40000000 in
theorem con_one (G : Gx) (H : Hyp G) (d s : Nat) (h : Heap) (ho : Old G.Z G.n0 h)  :
    Con G (⟨"com/example/loomline/loomline/exchange/TextFormat", "oneOf", "(Ljava/lang/String;Ljava/util/Set;)Lcom/example/loomline/loomline/exchange/TextFormat;"⟩ : MethodName) prog_8_method_5_code 2 (some (.object "com/example/loomline/loomline/exchange/TextFormat")) [] ({ frames := 3, cells := 2, slots := 3, locals := 3076 } : Room) #[(.ref d), (.ref s)] h (vQ fun v h' => ∃ (r ff : Nat) (cK : ClassId), v = .ref r ∧ Ext h h' ∧ Exa G.Z h' r "com/example/loomline/loomline/exchange/TextFormat" ∧ Fld G.Z h' r "com/example/loomline/loomline/exchange/TextFormat" "description" "Ljava/lang/String;" (.ref d) ∧ Fld G.Z h' r "com/example/loomline/loomline/exchange/TextFormat" "test" "Ljava/util/function/Predicate;" (.ref ff) ∧ Jvm.LamKit.Made G.Z "com/example/loomline/loomline/exchange/TextFormat" shp cK ∧ h'[ff]? = some { cls := cK, slots := #[.ref s], vm := .none }) := by
  refine Con.introN H.el ho (plainFor_of_name pn34) (Ls := #[.val (.ref d), .val (.ref s)]) (fun m => by first | (simp [entryFrame, mkF, argsToLocals, Value.category]; done) | rfl) ?_
  intro X vm T hN w
  refine w.newO (q := 3) d36_0 (H.tw 37 rfl) (H.tw 38 rfl) (H.tw 35 rfl) (by decide) (by decide) rfl fun T1 h1 b1 e1 w1 E1 A1 D1 U1 => ?_
  have lt1 : b1 < h1.size := A1.lt
  have sz1 : h.size ≤ h1.size := E1.1
  have F1_description : Fld G.Z h1 b1 "com/example/loomline/loomline/exchange/TextFormat" "description" "Ljava/lang/String;" .null := D1 (Or.inr (H.tw 57 rfl)) (ty := (.object "java/lang/String")) (by decide)
  have F1_test : Fld G.Z h1 b1 "com/example/loomline/loomline/exchange/TextFormat" "test" "Ljava/util/function/Predicate;" .null := D1 (Or.inr (H.tw 59 rfl)) (ty := (.object "java/util/function/Predicate")) (by decide)
  have g1 : G.n0 ≤ b1 := by have := ho.2.1; have := ho.1; omega
  refine w1.dup (q := 4) d36_3 rfl rfl ?_
  refine w1.aloadN (q := 5) d36_4 rfl rfl rfl ?_
  refine w1.aloadN (q := 6) d36_5 rfl rfl rfl ?_
  refine w1.dup (q := 7) d36_6 rfl rfl ?_
  refine w1.callS (q := 10) d36_7 (H.tw 39 rfl) (H.tw 40 rfl) (H.tw 41 rfl) (H.tw 42 rfl) (by decide) (argsL := [(.ref s)]) (rest := [(.ref s), (.ref d), (.ref b1), (.ref b1)]) rfl (lenOf pd18 rfl) rfl (W := 4) (Nat.le_of_eq rfl) ((con_rnn G H.n s h1 w1.old).pay w1 (H.tw 42 rfl) (H.tw 41 rfl) (by decide) (by decide)) (by decide) (by decide) rfl fun vm2 T2 h2 v2 w2 q2 => ?_
  obtain ⟨_, rfl, rfl, rfl⟩ := q2
  show Go _ _ _ _ (T2.setTop (mkF X.m 10 #[.val (.ref d), .val (.ref s)] [(.ref s), (.ref s), (.ref d), (.ref b1), (.ref b1)]))
  refine w2.pop (q := 11) d36_10 rfl rfl ?_
  refine w2.lam (q := 16) (fi := 15) (vals := [(.ref s)]) (st := [(.ref d), (.ref b1), (.ref b1)]) hN d36_11 (H.tw 43 rfl) (H.tw 46 rfl) (by decide) (by decide +kernel) rfl (fit1 (t := .object "java/util/Set") rfl rfl) rfl (Nat.le_of_ble_eq_true rfl) (by decide) (Nat.le_of_ble_eq_true rfl) rfl fun T3 h3 b3 cK3 e3 w3 E3 Mk3 Cl3 => ?_
  replace w3 : Wk G _ _ X _ T3 h3 2 3 := w3
  have sz3 : h1.size ≤ h3.size := E3.1
  show Go _ _ _ _ (T3.setTop (mkF X.m 16 #[.val (.ref d), .val (.ref s)] [(.ref b3), (.ref d), (.ref b1), (.ref b1)]))
  have ltl : b3 < h3.size := by have := (Array.getElem?_eq_some_iff.mp Cl3).1; exact this
  refine w3.callC (q := 19) d36_16 rfl (H.tw 47 rfl) (H.tw 48 rfl) (H.tw 49 rfl) (by decide) (a := b1) (argsL := [(.ref d), (.ref b3)]) (rest := [(.ref b1)]) rfl (lenOf pd37 rfl) rfl (W := 1) (Nat.le_of_eq rfl) ((con_tf G H b1 d b3 h3 w3.old (A1.ext E3) (F1_description.ext E3) (F1_test.ext E3) g1).pay w3 (H.tw 49 rfl) (H.tw 35 rfl) (by decide) (by decide)) (by decide) (by decide) rfl fun vm4 T4 h4 v4 w4 q4 => ?_
  obtain ⟨rfl, K4, P1, P2, P3⟩ := q4
  show Go _ _ _ _ (T4.setTop (mkF X.m 19 #[.val (.ref d), .val (.ref s)] [(.ref b1)]))
  exact w4.retA d36_19 (t := (.object "com/example/loomline/loomline/exchange/TextFormat")) rfl rfl rfl (by decide) (by decide) ⟨_, rfl, b1, b3, cK3, rfl, xkp (xtr E1 E3) K4 (all1 (by omega)), P1, P2, P3, Mk3, K4.2.1 _ _ Cl3 (nin1 (by omega))⟩
def fc : ByteArray := ⟨#[0x2a, 0xb4, 0x00, 0x0f, 0x2b, 0xc0, 0x00, 0x13, 0xb9, 0x00, 0x18, 0x02, 0x00, 0xac]⟩
theorem fc_0 : decode fc 0 = .ok (.aload_n 0, 1) := by decide +kernel
theorem fc_1 : decode fc 1 = .ok (.getfield 15, 3) := by decide +kernel
theorem fc_4 : decode fc 4 = .ok (.aload_n 1, 1) := by decide +kernel
theorem fc_5 : decode fc 5 = .ok (.checkcast 19, 3) := by decide +kernel
theorem fc_8 : decode fc 8 = .ok (.invokeinterface 24 2, 5) := by decide +kernel
theorem fc_13 : decode fc 13 = .ok (.ireturn, 1) := by decide +kernel
theorem d38_0 : decode prog_8_method_3_code 0 = .ok (.aload_n 0, 1) := by decide +kernel
theorem d38_1 : decode prog_8_method_3_code 1 = .ok (.getfield 13, 3) := by decide +kernel
theorem d38_4 : decode prog_8_method_3_code 4 = .ok (.aload_n 1, 1) := by decide +kernel
theorem d38_5 : decode prog_8_method_3_code 5 = .ok (.invokeinterface 27 2, 5) := by decide +kernel
theorem d38_10 : decode prog_8_method_3_code 10 = .ok (.ireturn, 1) := by decide +kernel
set_option maxRecDepth 65536 in
set_option maxHeartbeats 40000000 in
theorem con_mN (G : Gx) (H : Hyp G) (a t ff s : Nat) (cK : ClassId) (ct : List Int32)  (h : Heap) (ho : Old G.Z G.n0 h) (Ft : Fld G.Z h a "com/example/loomline/loomline/exchange/TextFormat" "test" "Ljava/util/function/Predicate;" (.ref ff)) (Mk : Jvm.LamKit.Made G.Z "com/example/loomline/loomline/exchange/TextFormat" shp cK) (Cl : h[ff]? = some { cls := cK, slots := #[.ref s], vm := .none }) (Es : Exa G.Z h s "java/util/ImmutableCollections$SetN") (St : StrAt G.Z h t 0 ct) (F : Fld G.Z h s "java/util/ImmutableCollections$SetN" "size" "I" (.int 0)) :
    Con G (⟨"com/example/loomline/loomline/exchange/TextFormat", "matches", "(Ljava/lang/String;)Z"⟩ : MethodName) prog_8_method_3_code 2 (some .boolean) [] ({ frames := 3, cells := 0, slots := 0, locals := 38 } : Room) #[(.ref a), (.ref t)] h (vQ fun v h' => v = .int 0 ∧ h = h') := by
  refine Con.intro H.el ho (plainFor_of_name pn34) (Ls := #[.val (.ref a), .val (.ref t)]) (fun m => by first | (simp [entryFrame, mkF, argsToLocals, Value.category]; done) | rfl) ?_
  intro X vm T w
  refine w.aloadN (q := 1) d38_0 rfl rfl rfl ?_
  refine w.getF (q := 4) d38_1 (H.tw 58 rfl) Via.refl Ft rfl fun T1 w1 => ?_
  refine w1.aloadN (q := 5) d38_4 rfl rfl rfl ?_
  refine w1.callLam (q := 10) (W := 0) (R' := ({ frames := 2, cells := 0, slots := 0, locals := 25 } : Room)) (fcode := fc) (fml := 2) (fret := some .boolean) (L0 := #[.val (.ref ff), .val (.ref t)]) (argsL := [.ref t]) (rest := []) (Q1 := vQ fun v h' => v = .int 0 ∧ h = h') d38_5 (H.tw 75 rfl) (H.tw 76 rfl) (H.tw 77 rfl) (by decide) ⟨rfl, rfl, by decide +kernel⟩ Mk Cl rfl rfl (by decide +kernel) rfl (lenOf pd21 rfl) rfl (Nat.le_refl _) (fun mk => by simp [entryFrame, mkF, argsToLocals, Value.category]) (by decide) (by decide) (by decide) (by decide) rfl (fun v h' q => by obtain ⟨_, _, _, rfl⟩ := q; exact xrfl _) (fun X' T' hm wb => ?_) (fun vm2 T2 h2 v2 w2 q2 => ?_)
  ·
    refine wb.aloadN (q := 1) fc_0 rfl rfl rfl ?_
    refine wb.getCap (q := 4) (i := 0) hm Mk (by decide +kernel) (H.tw 46 rfl) Cl rfl rfl fc_1 rfl ?_
    refine wb.aloadN (q := 5) fc_4 rfl rfl rfl ?_
    refine wb.castM (q := 8) (C := "java/lang/String") hm Mk (by decide +kernel) St.exa (H.tw 13 rfl) fc_5 rfl ?_
    refine wb.callItf (q := 13) (C := "java/util/ImmutableCollections$SetN") (xi := (⟨"java/util/Set", "contains", "(Ljava/lang/Object;)Z"⟩ : MethodName)) (y := (⟨"java/util/ImmutableCollections$SetN", "contains", "(Ljava/lang/Object;)Z"⟩ : MethodName)) (ci := 21) (argsL := [.ref t]) (rest := []) (W := 0) hm Mk (by decide +kernel) (by decide +kernel) ⟨rfl, rfl, by decide +kernel⟩ (H.tw 78 rfl) (H.tw 84 rfl) (H.tw 79 rfl) (H.tw 80 rfl) (H.tw 82 rfl) (H.tw 83 rfl) (H.tw 85 rfl) Es fc_8 rfl (lenOf pd21 rfl) rfl (Nat.le_refl _) ((con_cN G.nar H.nar s t h wb.old F).payb wb (H.tw 86 rfl) (H.tw 81 rfl) (by decide) (by decide)) (by decide) (by decide) rfl fun vm2 T2 h2 v2 w2 q2 => ?_
    obtain ⟨_, rfl, rfl, rfl⟩ := q2
    exact w2.retZ fc_13 (t := .boolean) rfl (by decide) rfl (by decide) (by decide) ⟨_, rfl, rfl, rfl⟩
  ·
    obtain ⟨_, rfl, rfl, rfl⟩ := q2
    show Go _ _ _ _ (T2.setTop (mkF X.m 10 #[.val (.ref a), .val (.ref t)] [(.int (0 : Int32))]))
    exact w2.retZ d38_10 (t := .boolean) rfl (by decide) rfl (by decide) (by decide) ⟨_, rfl, ⟨rfl, rfl⟩⟩
set_option maxRecDepth 65536 in
set_option maxHeartbeats 40000000 in
theorem con_m1 (G : Gx) (H : Hyp G) (a t ff s : Nat) (cK : ClassId) (ct : List Int32) (x y : Nat) (ca : List Int32) (h : Heap) (ho : Old G.Z G.n0 h) (Ft : Fld G.Z h a "com/example/loomline/loomline/exchange/TextFormat" "test" "Ljava/util/function/Predicate;" (.ref ff)) (Mk : Jvm.LamKit.Made G.Z "com/example/loomline/loomline/exchange/TextFormat" shp cK) (Cl : h[ff]? = some { cls := cK, slots := #[.ref s], vm := .none }) (Es : Exa G.Z h s "java/util/ImmutableCollections$Set12") (St : StrAt G.Z h t 0 ct) (F0 : Fld G.Z h s "java/util/ImmutableCollections$Set12" "e0" "Ljava/lang/Object;" (.ref x)) (F1 : Fld G.Z h s "java/util/ImmutableCollections$Set12" "e1" "Ljava/lang/Object;" (.ref y)) (A : StrAt G.Z h x 0 ca) (E : Exa G.Z h y "java/lang/Object") :
    Con G (⟨"com/example/loomline/loomline/exchange/TextFormat", "matches", "(Ljava/lang/String;)Z"⟩ : MethodName) prog_8_method_3_code 2 (some .boolean) [] ({ frames := 4, cells := 0, slots := 0, locals := 54 } : Room) #[(.ref a), (.ref t)] h (vQ fun v h' => v = .int (if ct = ca then 1 else 0) ∧ h = h') := by
  refine Con.intro H.el ho (plainFor_of_name pn34) (Ls := #[.val (.ref a), .val (.ref t)]) (fun m => by first | (simp [entryFrame, mkF, argsToLocals, Value.category]; done) | rfl) ?_
  intro X vm T w
  refine w.aloadN (q := 1) d38_0 rfl rfl rfl ?_
  refine w.getF (q := 4) d38_1 (H.tw 58 rfl) Via.refl Ft rfl fun T1 w1 => ?_
  refine w1.aloadN (q := 5) d38_4 rfl rfl rfl ?_
  refine w1.callLam (q := 10) (W := 0) (R' := ({ frames := 3, cells := 0, slots := 0, locals := 41 } : Room)) (fcode := fc) (fml := 2) (fret := some .boolean) (L0 := #[.val (.ref ff), .val (.ref t)]) (argsL := [.ref t]) (rest := []) (Q1 := vQ fun v h' => v = .int (if ct = ca then 1 else 0) ∧ h = h') d38_5 (H.tw 75 rfl) (H.tw 76 rfl) (H.tw 77 rfl) (by decide) ⟨rfl, rfl, by decide +kernel⟩ Mk Cl rfl rfl (by decide +kernel) rfl (lenOf pd21 rfl) rfl (Nat.le_refl _) (fun mk => by simp [entryFrame, mkF, argsToLocals, Value.category]) (by decide) (by decide) (by decide) (by decide) rfl (fun v h' q => by obtain ⟨_, _, _, rfl⟩ := q; exact xrfl _) (fun X' T' hm wb => ?_) (fun vm2 T2 h2 v2 w2 q2 => ?_)
  ·
    refine wb.aloadN (q := 1) fc_0 rfl rfl rfl ?_
    refine wb.getCap (q := 4) (i := 0) hm Mk (by decide +kernel) (H.tw 46 rfl) Cl rfl rfl fc_1 rfl ?_
    refine wb.aloadN (q := 5) fc_4 rfl rfl rfl ?_
    refine wb.castM (q := 8) (C := "java/lang/String") hm Mk (by decide +kernel) St.exa (H.tw 13 rfl) fc_5 rfl ?_
    refine wb.callItf (q := 13) (C := "java/util/ImmutableCollections$Set12") (xi := (⟨"java/util/Set", "contains", "(Ljava/lang/Object;)Z"⟩ : MethodName)) (y := (⟨"java/util/ImmutableCollections$Set12", "contains", "(Ljava/lang/Object;)Z"⟩ : MethodName)) (ci := 21) (argsL := [.ref t]) (rest := []) (W := 0) hm Mk (by decide +kernel) (by decide +kernel) ⟨rfl, rfl, by decide +kernel⟩ (H.tw 78 rfl) (H.tw 84 rfl) (H.tw 125 rfl) (H.tw 126 rfl) (H.tw 127 rfl) (H.tw 128 rfl) (H.tw 129 rfl) Es fc_8 rfl (lenOf pd21 rfl) rfl (Nat.le_refl _) ((con_c1 G.nar H.nar s t x y ct ca h wb.old F0 F1 St A E).payb wb (H.tw 130 rfl) (H.tw 95 rfl) (by decide) (by decide)) (by decide) (by decide) rfl fun vm2 T2 h2 v2 w2 q2 => ?_
    obtain ⟨_, rfl, rfl, rfl⟩ := q2
    exact w2.retZ fc_13 (t := .boolean) rfl (by decide) (nar_ite _) (by decide) (by decide) ⟨_, rfl, rfl, rfl⟩
  ·
    obtain ⟨_, rfl, rfl, rfl⟩ := q2
    show Go _ _ _ _ (T2.setTop (mkF X.m 10 #[.val (.ref a), .val (.ref t)] [(.int (if ct = ca then 1 else 0))]))
    exact w2.retZ d38_10 (t := .boolean) rfl (by decide) (nar_ite _) (by decide) (by decide) ⟨_, rfl, ⟨rfl, rfl⟩⟩
set_option maxRecDepth 65536 in
set_option maxHeartbeats 40000000 in
theorem con_m2 (G : Gx) (H : Hyp G) (a t ff s : Nat) (cK : ClassId) (ct : List Int32) (x y : Nat) (ca cb : List Int32) (h : Heap) (ho : Old G.Z G.n0 h) (Ft : Fld G.Z h a "com/example/loomline/loomline/exchange/TextFormat" "test" "Ljava/util/function/Predicate;" (.ref ff)) (Mk : Jvm.LamKit.Made G.Z "com/example/loomline/loomline/exchange/TextFormat" shp cK) (Cl : h[ff]? = some { cls := cK, slots := #[.ref s], vm := .none }) (Es : Exa G.Z h s "java/util/ImmutableCollections$Set12") (St : StrAt G.Z h t 0 ct) (F0 : Fld G.Z h s "java/util/ImmutableCollections$Set12" "e0" "Ljava/lang/Object;" (.ref x)) (F1 : Fld G.Z h s "java/util/ImmutableCollections$Set12" "e1" "Ljava/lang/Object;" (.ref y)) (A : StrAt G.Z h x 0 ca) (B : StrAt G.Z h y 0 cb) :
    Con G (⟨"com/example/loomline/loomline/exchange/TextFormat", "matches", "(Ljava/lang/String;)Z"⟩ : MethodName) prog_8_method_3_code 2 (some .boolean) [] ({ frames := 4, cells := 0, slots := 0, locals := 54 } : Room) #[(.ref a), (.ref t)] h (vQ fun v h' => v = .int (if ct = ca ∨ cb = ct then 1 else 0) ∧ h = h') := by
  refine Con.intro H.el ho (plainFor_of_name pn34) (Ls := #[.val (.ref a), .val (.ref t)]) (fun m => by first | (simp [entryFrame, mkF, argsToLocals, Value.category]; done) | rfl) ?_
  intro X vm T w
  refine w.aloadN (q := 1) d38_0 rfl rfl rfl ?_
  refine w.getF (q := 4) d38_1 (H.tw 58 rfl) Via.refl Ft rfl fun T1 w1 => ?_
  refine w1.aloadN (q := 5) d38_4 rfl rfl rfl ?_
  refine w1.callLam (q := 10) (W := 0) (R' := ({ frames := 3, cells := 0, slots := 0, locals := 41 } : Room)) (fcode := fc) (fml := 2) (fret := some .boolean) (L0 := #[.val (.ref ff), .val (.ref t)]) (argsL := [.ref t]) (rest := []) (Q1 := vQ fun v h' => v = .int (if ct = ca ∨ cb = ct then 1 else 0) ∧ h = h') d38_5 (H.tw 75 rfl) (H.tw 76 rfl) (H.tw 77 rfl) (by decide) ⟨rfl, rfl, by decide +kernel⟩ Mk Cl rfl rfl (by decide +kernel) rfl (lenOf pd21 rfl) rfl (Nat.le_refl _) (fun mk => by simp [entryFrame, mkF, argsToLocals, Value.category]) (by decide) (by decide) (by decide) (by decide) rfl (fun v h' q => by obtain ⟨_, _, _, rfl⟩ := q; exact xrfl _) (fun X' T' hm wb => ?_) (fun vm2 T2 h2 v2 w2 q2 => ?_)
  ·
    refine wb.aloadN (q := 1) fc_0 rfl rfl rfl ?_
    refine wb.getCap (q := 4) (i := 0) hm Mk (by decide +kernel) (H.tw 46 rfl) Cl rfl rfl fc_1 rfl ?_
    refine wb.aloadN (q := 5) fc_4 rfl rfl rfl ?_
    refine wb.castM (q := 8) (C := "java/lang/String") hm Mk (by decide +kernel) St.exa (H.tw 13 rfl) fc_5 rfl ?_
    refine wb.callItf (q := 13) (C := "java/util/ImmutableCollections$Set12") (xi := (⟨"java/util/Set", "contains", "(Ljava/lang/Object;)Z"⟩ : MethodName)) (y := (⟨"java/util/ImmutableCollections$Set12", "contains", "(Ljava/lang/Object;)Z"⟩ : MethodName)) (ci := 21) (argsL := [.ref t]) (rest := []) (W := 0) hm Mk (by decide +kernel) (by decide +kernel) ⟨rfl, rfl, by decide +kernel⟩ (H.tw 78 rfl) (H.tw 84 rfl) (H.tw 125 rfl) (H.tw 126 rfl) (H.tw 127 rfl) (H.tw 128 rfl) (H.tw 129 rfl) Es fc_8 rfl (lenOf pd21 rfl) rfl (Nat.le_refl _) ((con_c2 G.nar H.nar s t x y ct ca cb h wb.old F0 F1 St A B).payb wb (H.tw 130 rfl) (H.tw 95 rfl) (by decide) (by decide)) (by decide) (by decide) rfl fun vm2 T2 h2 v2 w2 q2 => ?_
    obtain ⟨_, rfl, rfl, rfl⟩ := q2
    exact w2.retZ fc_13 (t := .boolean) rfl (by decide) (nar_ite _) (by decide) (by decide) ⟨_, rfl, rfl, rfl⟩
  ·
    obtain ⟨_, rfl, rfl, rfl⟩ := q2
    show Go _ _ _ _ (T2.setTop (mkF X.m 10 #[.val (.ref a), .val (.ref t)] [(.int (if ct = ca ∨ cb = ct then 1 else 0))]))
    exact w2.retZ d38_10 (t := .boolean) rfl (by decide) (nar_ite _) (by decide) (by decide) ⟨_, rfl, ⟨rfl, rfl⟩⟩
theorem pd39 : parseMethodDescriptor "(I)Ljava/lang/String;" = some ⟨[.int], some (.object "java/lang/String")⟩ := by decide +kernel
theorem pd40 : parseMethodDescriptor "()Ljava/util/Set;" = some ⟨[], some (.object "java/util/Set")⟩ := by decide +kernel
theorem pd41 : parseMethodDescriptor "(Ljava/lang/String;Ljava/util/Set;)Lcom/example/loomline/loomline/exchange/TextFormat;" = some ⟨[(.object "java/lang/String"), (.object "java/util/Set")], some (.object "com/example/loomline/loomline/exchange/TextFormat")⟩ := by decide +kernel
theorem pd42 : parseMethodDescriptor "()Ljava/lang/String;" = some ⟨[], some (.object "java/lang/String")⟩ := by decide +kernel
theorem pd43 : parseMethodDescriptor "(Ljava/lang/String;)Z" = some ⟨[(.object "java/lang/String")], some .boolean⟩ := by decide +kernel
theorem pd44 : parseMethodDescriptor "(Ljava/lang/Object;)Ljava/util/Set;" = some ⟨[(.object "java/lang/Object")], some (.object "java/util/Set")⟩ := by decide +kernel
theorem pd45 : parseMethodDescriptor "(Ljava/lang/Object;Ljava/lang/Object;)Ljava/util/Set;" = some ⟨[(.object "java/lang/Object"), (.object "java/lang/Object")], some (.object "java/util/Set")⟩ := by decide +kernel
set_option maxRecDepth 65536 in
set_option maxHeartbeats 40000000 in
theorem con_law (G : Gx) (H : Hyp G) (x0 x1 x2 x3 x4 : Int32) (h : Heap) (ho : Old G.Z G.n0 h)  :
    Con G x code maxLocals ret tables_1 room_1 #[(.int x0), (.int x1), (.int x2), (.int x3), (.int x4)] h (vQ fun v _ => v = .int 1) := by
  refine Con.intro H.el ho (plainFor_of_name pn6) (Ls := #[.val (.int x0), .val (.int x1), .val (.int x2), .val (.int x3), .val (.int x4), .unset, .unset, .unset, .unset, .unset, .unset, .unset, .unset, .unset, .unset, .unset]) (fun m => by first | (simp [entryFrame, mkF, argsToLocals, Value.category, maxLocals]; done) | rfl) ?_
  intro X vm T w
  obtain ⟨es, em, Ses, Ees, Fes, Sem, Eem⟩ := H.mo
  refine w.iloadN (q := 1) at_0 rfl rfl ?_
  refine w.callS (q := 4) at_1 (H.tw 0 rfl) (H.tw 1 rfl) (H.tw 2 rfl) (H.tw 3 rfl) (by decide) (argsL := [(.int x0)]) (rest := []) rfl (lenOf pd39 rfl) rfl (W := 0) (Nat.le_of_eq rfl) ((con_drawn G H x0 h w.old).pay w (H.tw 3 rfl) (H.tw 2 rfl) (by decide) (by decide)) (by decide) (by decide) rfl fun vm1 T1 h1 v1 w1 q1 => ?_
  obtain ⟨_, rfl, a, ca, rfl, X1, Sa⟩ := q1
  show Go _ _ _ _ (T1.setTop (mkF X.m 4 #[.val (.int x0), .val (.int x1), .val (.int x2), .val (.int x3), .val (.int x4), .unset, .unset, .unset, .unset, .unset, .unset, .unset, .unset, .unset, .unset, .unset] [(.ref a)]))
  refine w1.astore (q := 6) (L2 := #[.val (.int x0), .val (.int x1), .val (.int x2), .val (.int x3), .val (.int x4), .val (.ref a), .unset, .unset, .unset, .unset, .unset, .unset, .unset, .unset, .unset, .unset]) at_4 rfl rfl rfl ?_
  refine w1.iloadN (q := 7) at_6 rfl rfl ?_
  refine w1.callS (q := 10) at_7 (H.tw 0 rfl) (H.tw 1 rfl) (H.tw 2 rfl) (H.tw 3 rfl) (by decide) (argsL := [(.int x1)]) (rest := []) rfl (lenOf pd39 rfl) rfl (W := 0) (Nat.le_of_eq rfl) ((con_drawn G H x1 h1 w1.old).pay w1 (H.tw 3 rfl) (H.tw 2 rfl) (by decide) (by decide)) (by decide) (by decide) rfl fun vm2 T2 h2 v2 w2 q2 => ?_
  obtain ⟨_, rfl, b, cb, rfl, X2, Sb⟩ := q2
  show Go _ _ _ _ (T2.setTop (mkF X.m 10 #[.val (.int x0), .val (.int x1), .val (.int x2), .val (.int x3), .val (.int x4), .val (.ref a), .unset, .unset, .unset, .unset, .unset, .unset, .unset, .unset, .unset, .unset] [(.ref b)]))
  replace Sa := Sa.ext X2
  refine w2.astore (q := 12) (L2 := #[.val (.int x0), .val (.int x1), .val (.int x2), .val (.int x3), .val (.int x4), .val (.ref a), .val (.ref b), .unset, .unset, .unset, .unset, .unset, .unset, .unset, .unset, .unset]) at_10 rfl rfl rfl ?_
  refine w2.iloadN (q := 13) at_12 rfl rfl ?_
  refine w2.callS (q := 16) at_13 (H.tw 0 rfl) (H.tw 1 rfl) (H.tw 2 rfl) (H.tw 3 rfl) (by decide) (argsL := [(.int x2)]) (rest := []) rfl (lenOf pd39 rfl) rfl (W := 0) (Nat.le_of_eq rfl) ((con_drawn G H x2 h2 w2.old).pay w2 (H.tw 3 rfl) (H.tw 2 rfl) (by decide) (by decide)) (by decide) (by decide) rfl fun vm3 T3 h3 v3 w3 q3 => ?_
  obtain ⟨_, rfl, c, cc, rfl, X3, Sc⟩ := q3
  show Go _ _ _ _ (T3.setTop (mkF X.m 16 #[.val (.int x0), .val (.int x1), .val (.int x2), .val (.int x3), .val (.int x4), .val (.ref a), .val (.ref b), .unset, .unset, .unset, .unset, .unset, .unset, .unset, .unset, .unset] [(.ref c)]))
  replace Sa := Sa.ext X3
  replace Sb := Sb.ext X3
  refine w3.astore (q := 18) (L2 := #[.val (.int x0), .val (.int x1), .val (.int x2), .val (.int x3), .val (.int x4), .val (.ref a), .val (.ref b), .val (.ref c), .unset, .unset, .unset, .unset, .unset, .unset, .unset, .unset]) at_16 rfl rfl rfl ?_
  refine w3.iloadN (q := 19) at_18 rfl rfl ?_
  refine w3.callS (q := 22) at_19 (H.tw 0 rfl) (H.tw 1 rfl) (H.tw 2 rfl) (H.tw 3 rfl) (by decide) (argsL := [(.int x3)]) (rest := []) rfl (lenOf pd39 rfl) rfl (W := 0) (Nat.le_of_eq rfl) ((con_drawn G H x3 h3 w3.old).pay w3 (H.tw 3 rfl) (H.tw 2 rfl) (by decide) (by decide)) (by decide) (by decide) rfl fun vm4 T4 h4 v4 w4 q4 => ?_
  obtain ⟨_, rfl, d, cd, rfl, X4, Sd⟩ := q4
  show Go _ _ _ _ (T4.setTop (mkF X.m 22 #[.val (.int x0), .val (.int x1), .val (.int x2), .val (.int x3), .val (.int x4), .val (.ref a), .val (.ref b), .val (.ref c), .unset, .unset, .unset, .unset, .unset, .unset, .unset, .unset] [(.ref d)]))
  replace Sa := Sa.ext X4
  replace Sb := Sb.ext X4
  replace Sc := Sc.ext X4
  refine w4.astore (q := 24) (L2 := #[.val (.int x0), .val (.int x1), .val (.int x2), .val (.int x3), .val (.int x4), .val (.ref a), .val (.ref b), .val (.ref c), .val (.ref d), .unset, .unset, .unset, .unset, .unset, .unset, .unset]) at_22 rfl rfl rfl ?_
  refine w4.iload (q := 26) at_24 rfl rfl ?_
  refine w4.ldcI (q := 28) at_26 (H.tw 26 rfl) rfl ?_
  refine w4.iand (q := 29) at_28 rfl ?_
  refine w4.iconst (q := 30) (3 : Int32) at_29 rfl rfl ?_
  refine w4.irem (q := 31) at_30 (by decide) rfl ?_
  obtain ⟨size, e_size⟩ : ∃ z, z = ((x4 &&& (2147483647 : Int32)) % (3 : Int32)) := ⟨_, rfl⟩
  rw [← e_size]
  refine w4.istore (q := 33) (L2 := #[.val (.int x0), .val (.int x1), .val (.int x2), .val (.int x3), .val (.int x4), .val (.ref a), .val (.ref b), .val (.ref c), .val (.ref d), .val (.int size), .unset, .unset, .unset, .unset, .unset, .unset]) at_31 rfl rfl ?_
  refine w4.iload (q := 35) at_33 rfl rfl ?_
  refine w4.bipush (q := 37) (8 : Int32) at_35 rfl rfl ?_
  refine w4.iushr (q := 38) at_37 rfl ?_
  refine w4.sipush (q := 41) (255 : Int32) at_38 rfl rfl ?_
  refine w4.iand (q := 42) at_41 rfl ?_
  refine w4.iconst (q := 43) (3 : Int32) at_42 rfl rfl ?_
  refine w4.irem (q := 44) at_43 (by decide) rfl ?_
  obtain ⟨pick, e_pick⟩ : ∃ z, z = ((((x4.toUInt32 >>> ((8 : Int32) &&& 31).toUInt32).toInt32) &&& (255 : Int32)) % (3 : Int32)) := ⟨_, rfl⟩
  rw [← e_pick]
  refine w4.istore (q := 46) (L2 := #[.val (.int x0), .val (.int x1), .val (.int x2), .val (.int x3), .val (.int x4), .val (.ref a), .val (.ref b), .val (.ref c), .val (.ref d), .val (.int size), .val (.int pick), .unset, .unset, .unset, .unset, .unset]) at_44 rfl rfl ?_
  refine w4.iload (q := 48) at_46 rfl rfl ?_
  have key : ∀ (tx : Nat) (ct : List Int32), StrAt G.Z h4 tx 0 ct → Go G room_1 X (vQ fun v _ => v = .int 1) (T4.setTop (mkF X.m 71 #[.val (.int x0), .val (.int x1), .val (.int x2), .val (.int x3), .val (.int x4), .val (.ref a), .val (.ref b), .val (.ref c), .val (.ref d), .val (.int size), .val (.int pick), .val (.ref tx), .unset, .unset, .unset, .unset] [])) := by
    intro tx ct Stx
    refine w4.iload (q := 73) at_71 rfl rfl ?_
    by_cases z0 : size = (0 : Int32)
    ·
      refine w4.ifN (q := 76) at_73 ((if0 _ _).trans (teq z0).2) rfl ?_
      refine w4.callS (q := 79) at_76 (H.tw 27 rfl) (H.tw 28 rfl) (H.tw 29 rfl) (H.tw 30 rfl) (by decide) (argsL := []) (rest := []) rfl (lenOf pd40 rfl) rfl (W := 0) (Nat.le_of_eq rfl) ((con_of0 G H es Ses h4 w4.old).pay w4 (H.tw 30 rfl) (H.tw 29 rfl) (by decide) (by decide)) (by decide) (by decide) rfl fun vm5 T5 h5 v5 w5 q5 => ?_
      obtain ⟨_, rfl, rfl, rfl⟩ := q5
      show Go _ _ _ _ (T5.setTop (mkF X.m 79 #[.val (.int x0), .val (.int x1), .val (.int x2), .val (.int x3), .val (.int x4), .val (.ref a), .val (.ref b), .val (.ref c), .val (.ref d), .val (.int size), .val (.int pick), .val (.ref tx), .unset, .unset, .unset, .unset] [(.ref es)]))
      have Es := Ees.ext w5.old.2
      have Fs := Fes.ext w5.old.2
      have eqT : (0 : Int32) = 0 := rfl
      refine w5.astore (q := 81) (L2 := #[.val (.int x0), .val (.int x1), .val (.int x2), .val (.int x3), .val (.int x4), .val (.ref a), .val (.ref b), .val (.ref c), .val (.ref d), .val (.int size), .val (.int pick), .val (.ref tx), .val (.ref es), .unset, .unset, .unset]) at_79 rfl rfl rfl ?_
      refine w5.iconst (q := 82) (0 : Int32) at_81 rfl rfl ?_
      refine w5.istore (q := 84) (L2 := #[.val (.int x0), .val (.int x1), .val (.int x2), .val (.int x3), .val (.int x4), .val (.ref a), .val (.ref b), .val (.ref c), .val (.ref d), .val (.int size), .val (.int pick), .val (.ref tx), .val (.ref es), .val (.int (0 : Int32)), .unset, .unset]) at_82 rfl rfl ?_
      refine w5.iconst (q := 85) (0 : Int32) at_84 rfl rfl ?_
      refine w5.istore (q := 87) (L2 := #[.val (.int x0), .val (.int x1), .val (.int x2), .val (.int x3), .val (.int x4), .val (.ref a), .val (.ref b), .val (.ref c), .val (.ref d), .val (.int size), .val (.int pick), .val (.ref tx), .val (.ref es), .val (.int (0 : Int32)), .val (.int (0 : Int32)), .unset]) at_85 rfl rfl ?_
      refine w5.goto (q := 177) at_87 (by decide) (by decide) ?_
      refine w5.aload (q := 179) at_177 rfl rfl rfl ?_
      refine w5.aload (q := 181) at_179 rfl rfl rfl ?_
      refine w5.callS (q := 184) at_181 (H.tw 33 rfl) (H.tw 34 rfl) (H.tw 35 rfl) (H.tw 36 rfl) (by decide) (argsL := [(.ref d), (.ref es)]) (rest := []) rfl (lenOf pd41 rfl) rfl (W := 0) (Nat.le_of_eq rfl) ((con_one G H d es h4 w5.old).pay w5 (H.tw 36 rfl) (H.tw 35 rfl) (by decide) (by decide)) (by decide) (by decide) rfl fun vm6 T6 h6 v6 w6 q6 => ?_
      obtain ⟨_, rfl, r, ff, cK, rfl, X6, Er, Fd, Ft, Mk, Cl⟩ := q6
      show Go _ _ _ _ (T6.setTop (mkF X.m 184 #[.val (.int x0), .val (.int x1), .val (.int x2), .val (.int x3), .val (.int x4), .val (.ref a), .val (.ref b), .val (.ref c), .val (.ref d), .val (.int size), .val (.int pick), .val (.ref tx), .val (.ref es), .val (.int (0 : Int32)), .val (.int (0 : Int32)), .unset] [(.ref r)]))
      replace Sa := Sa.ext X6
      replace Sb := Sb.ext X6
      replace Sd := Sd.ext X6
      replace Stx := Stx.ext X6
      replace Es := Es.ext X6
      replace Fs := Fs.ext X6
      refine w6.astore (q := 186) (L2 := #[.val (.int x0), .val (.int x1), .val (.int x2), .val (.int x3), .val (.int x4), .val (.ref a), .val (.ref b), .val (.ref c), .val (.ref d), .val (.int size), .val (.int pick), .val (.ref tx), .val (.ref es), .val (.int (0 : Int32)), .val (.int (0 : Int32)), .val (.ref r)]) at_184 rfl rfl rfl ?_
      refine w6.aload (q := 188) at_186 rfl rfl rfl ?_
      refine w6.callV (q := 191) at_188 (H.tw 60 rfl) (H.tw 61 rfl) (notFace_of_selects (C := "com/example/loomline/loomline/exchange/TextFormat") (args := G.a0) (H.tw 63 rfl)) (H.tw 63 rfl) (H.tw 62 rfl) (by decide) Er (argsL := []) (rest := []) rfl (lenOf pd42 rfl) rfl (W := 0) (Nat.le_of_eq rfl) ((con_desc G H r (.ref d) rfl h6 w6.old Fd).pay w6 (H.tw 64 rfl) (H.tw 35 rfl) (by decide) (by decide)) (by decide) (by decide) rfl fun vm7 T7 h7 v7 w7 q7 => ?_
      obtain ⟨_, rfl, rfl, rfl⟩ := q7
      show Go _ _ _ _ (T7.setTop (mkF X.m 191 #[.val (.int x0), .val (.int x1), .val (.int x2), .val (.int x3), .val (.int x4), .val (.ref a), .val (.ref b), .val (.ref c), .val (.ref d), .val (.int size), .val (.int pick), .val (.ref tx), .val (.ref es), .val (.int (0 : Int32)), .val (.int (0 : Int32)), .val (.ref r)] [(.ref d)]))
      refine w7.aload (q := 193) at_191 rfl rfl rfl ?_
      refine w7.callV (q := 196) at_193 (H.tw 65 rfl) (H.tw 66 rfl) (notFace_of_selects (C := "java/lang/String") (args := G.a0) (H.tw 68 rfl)) (H.tw 68 rfl) (H.tw 67 rfl) (by decide) Sd.exa (argsL := [(.ref d)]) (rest := []) rfl (lenOf pd21 rfl) rfl (W := 0) (Nat.le_of_eq rfl) (pay_eq w7 H.weq (H.tw 5 rfl) H.cz Sd Sd (by decide) (by decide)) (by decide) (by decide) rfl fun vm8 T8 h8 v8 w8 q8 => ?_
      obtain ⟨_, rfl, rfl, rfl⟩ := q8
      show Go _ _ _ _ (T8.setTop (mkF X.m 196 #[.val (.int x0), .val (.int x1), .val (.int x2), .val (.int x3), .val (.int x4), .val (.ref a), .val (.ref b), .val (.ref c), .val (.ref d), .val (.int size), .val (.int pick), .val (.ref tx), .val (.ref es), .val (.int (0 : Int32)), .val (.int (0 : Int32)), .val (.ref r)] [(.int (if cd = cd then 1 else 0))]))
      refine w8.ifN (q := 199) at_196 ((if0 _ _).trans (feq (by rw [if_pos rfl]; decide)).1) rfl ?_
      refine w8.aload (q := 201) at_199 rfl rfl rfl ?_
      refine w8.aload (q := 203) at_201 rfl rfl rfl ?_
      refine w8.callV (q := 206) at_203 (H.tw 70 rfl) (H.tw 71 rfl) (notFace_of_selects (C := "com/example/loomline/loomline/exchange/TextFormat") (args := G.a0) (H.tw 73 rfl)) (H.tw 73 rfl) (H.tw 72 rfl) (by decide) Er (argsL := [(.ref tx)]) (rest := []) rfl (lenOf pd43 rfl) rfl (W := 0) (Nat.le_of_eq rfl) ((con_mN G H r tx ff es cK ct h6 w8.old Ft Mk Cl Es Stx Fs).pay w8 (H.tw 74 rfl) (H.tw 35 rfl) (by decide) (by decide)) (by decide) (by decide) rfl fun vm9 T9 h9 v9 w9 q9 => ?_
      obtain ⟨_, rfl, rfl, rfl⟩ := q9
      show Go _ _ _ _ (T9.setTop (mkF X.m 206 #[.val (.int x0), .val (.int x1), .val (.int x2), .val (.int x3), .val (.int x4), .val (.ref a), .val (.ref b), .val (.ref c), .val (.ref d), .val (.int size), .val (.int pick), .val (.ref tx), .val (.ref es), .val (.int (0 : Int32)), .val (.int (0 : Int32)), .val (.ref r)] [(.int (0 : Int32))]))
      refine w9.iload (q := 208) at_206 rfl rfl ?_
      refine w9.icN (q := 211) at_208 ((teq eqT).2) rfl ?_
      refine w9.aload (q := 213) at_211 rfl rfl rfl ?_
      refine w9.aload (q := 215) at_213 rfl rfl rfl ?_
      refine w9.callV (q := 218) at_215 (H.tw 70 rfl) (H.tw 71 rfl) (notFace_of_selects (C := "com/example/loomline/loomline/exchange/TextFormat") (args := G.a0) (H.tw 73 rfl)) (H.tw 73 rfl) (H.tw 72 rfl) (by decide) Er (argsL := [(.ref a)]) (rest := []) rfl (lenOf pd43 rfl) rfl (W := 0) (Nat.le_of_eq rfl) ((con_mN G H r a ff es cK ca h6 w9.old Ft Mk Cl Es Sa Fs).pay w9 (H.tw 74 rfl) (H.tw 35 rfl) (by decide) (by decide)) (by decide) (by decide) rfl fun vm10 T10 h10 v10 w10 q10 => ?_
      obtain ⟨_, rfl, rfl, rfl⟩ := q10
      show Go _ _ _ _ (T10.setTop (mkF X.m 218 #[.val (.int x0), .val (.int x1), .val (.int x2), .val (.int x3), .val (.int x4), .val (.ref a), .val (.ref b), .val (.ref c), .val (.ref d), .val (.int size), .val (.int pick), .val (.ref tx), .val (.ref es), .val (.int (0 : Int32)), .val (.int (0 : Int32)), .val (.ref r)] [(.int (0 : Int32))]))
      refine w10.iload (q := 220) at_218 rfl rfl ?_
      refine w10.icN (q := 223) at_220 ((teq rfl).2) rfl ?_
      refine w10.iconst (q := 224) (1 : Int32) at_223 rfl rfl ?_
      refine w10.goto (q := 228) at_224 (by decide) (by decide) ?_
      exact w10.retZ at_228 (t := .boolean) rfl (by decide) rfl (by decide) (by decide) ⟨_, rfl, rfl⟩
    ·
      refine w4.ifY (q := 90) at_73 ((if0 _ _).trans (feq z0).2) (by decide) (by decide) ?_
      refine w4.iload (q := 92) at_90 rfl rfl ?_
      refine w4.iconst (q := 93) (1 : Int32) at_92 rfl rfl ?_
      by_cases z1 : size = (1 : Int32)
      ·
        refine w4.icN (q := 96) at_93 ((teq z1).2) rfl ?_
        refine w4.aload (q := 98) at_96 rfl rfl rfl ?_
        refine w4.callS (q := 101) at_98 (H.tw 90 rfl) (H.tw 91 rfl) (H.tw 29 rfl) (H.tw 92 rfl) (by decide) (argsL := [(.ref a)]) (rest := []) rfl (lenOf pd44 rfl) rfl (W := 0) (Nat.le_of_eq rfl) ((con_of1 G H a em Sem h4 w4.old).pay w4 (H.tw 92 rfl) (H.tw 29 rfl) (by decide) (by decide)) (by decide) (by decide) rfl fun vm11 T11 h11 v11 w11 q11 => ?_
        obtain ⟨_, rfl, s1, rfl, X11, Es, F0, F1⟩ := q11
        show Go _ _ _ _ (T11.setTop (mkF X.m 101 #[.val (.int x0), .val (.int x1), .val (.int x2), .val (.int x3), .val (.int x4), .val (.ref a), .val (.ref b), .val (.ref c), .val (.ref d), .val (.int size), .val (.int pick), .val (.ref tx), .unset, .unset, .unset, .unset] [(.ref s1)]))
        refine w11.astore (q := 103) (L2 := #[.val (.int x0), .val (.int x1), .val (.int x2), .val (.int x3), .val (.int x4), .val (.ref a), .val (.ref b), .val (.ref c), .val (.ref d), .val (.int size), .val (.int pick), .val (.ref tx), .val (.ref s1), .unset, .unset, .unset]) at_101 rfl rfl rfl ?_
        refine w11.aload (q := 105) at_103 rfl rfl rfl ?_
        refine w11.aload (q := 107) at_105 rfl rfl rfl ?_
        have Em := Eem.ext w11.old.2
        replace Sa := Sa.ext X11
        replace Sb := Sb.ext X11
        replace Sd := Sd.ext X11
        replace Stx := Stx.ext X11
        refine w11.callV (q := 110) at_107 (H.tw 65 rfl) (H.tw 66 rfl) (notFace_of_selects (C := "java/lang/String") (args := G.a0) (H.tw 68 rfl)) (H.tw 68 rfl) (H.tw 67 rfl) (by decide) Stx.exa (argsL := [(.ref a)]) (rest := []) rfl (lenOf pd21 rfl) rfl (W := 0) (Nat.le_of_eq rfl) (pay_eq w11 H.weq (H.tw 5 rfl) H.cz Stx Sa (by decide) (by decide)) (by decide) (by decide) rfl fun vm12 T12 h12 v12 w12 q12 => ?_
        obtain ⟨_, rfl, rfl, rfl⟩ := q12
        show Go _ _ _ _ (T12.setTop (mkF X.m 110 #[.val (.int x0), .val (.int x1), .val (.int x2), .val (.int x3), .val (.int x4), .val (.ref a), .val (.ref b), .val (.ref c), .val (.ref d), .val (.int size), .val (.int pick), .val (.ref tx), .val (.ref s1), .unset, .unset, .unset] [(.int (if ct = ca then 1 else 0))]))
        have eqT : (if ct = ca then (1 : Int32) else 0) = (if ct = ca then 1 else 0) := rfl
        refine w12.istore (q := 112) (L2 := #[.val (.int x0), .val (.int x1), .val (.int x2), .val (.int x3), .val (.int x4), .val (.ref a), .val (.ref b), .val (.ref c), .val (.ref d), .val (.int size), .val (.int pick), .val (.ref tx), .val (.ref s1), .val (.int (if ct = ca then 1 else 0)), .unset, .unset]) at_110 rfl rfl ?_
        refine w12.iconst (q := 113) (1 : Int32) at_112 rfl rfl ?_
        refine w12.istore (q := 115) (L2 := #[.val (.int x0), .val (.int x1), .val (.int x2), .val (.int x3), .val (.int x4), .val (.ref a), .val (.ref b), .val (.ref c), .val (.ref d), .val (.int size), .val (.int pick), .val (.ref tx), .val (.ref s1), .val (.int (if ct = ca then 1 else 0)), .val (.int (1 : Int32)), .unset]) at_113 rfl rfl ?_
        refine w12.goto (q := 177) at_115 (by decide) (by decide) ?_
        refine w12.aload (q := 179) at_177 rfl rfl rfl ?_
        refine w12.aload (q := 181) at_179 rfl rfl rfl ?_
        refine w12.callS (q := 184) at_181 (H.tw 33 rfl) (H.tw 34 rfl) (H.tw 35 rfl) (H.tw 36 rfl) (by decide) (argsL := [(.ref d), (.ref s1)]) (rest := []) rfl (lenOf pd41 rfl) rfl (W := 0) (Nat.le_of_eq rfl) ((con_one G H d s1 h11 w12.old).pay w12 (H.tw 36 rfl) (H.tw 35 rfl) (by decide) (by decide)) (by decide) (by decide) rfl fun vm13 T13 h13 v13 w13 q13 => ?_
        obtain ⟨_, rfl, r, ff, cK, rfl, X13, Er, Fd, Ft, Mk, Cl⟩ := q13
        show Go _ _ _ _ (T13.setTop (mkF X.m 184 #[.val (.int x0), .val (.int x1), .val (.int x2), .val (.int x3), .val (.int x4), .val (.ref a), .val (.ref b), .val (.ref c), .val (.ref d), .val (.int size), .val (.int pick), .val (.ref tx), .val (.ref s1), .val (.int (if ct = ca then 1 else 0)), .val (.int (1 : Int32)), .unset] [(.ref r)]))
        replace Sa := Sa.ext X13
        replace Sb := Sb.ext X13
        replace Sd := Sd.ext X13
        replace Stx := Stx.ext X13
        replace Es := Es.ext X13
        replace F0 := F0.ext X13
        replace F1 := F1.ext X13
        replace Em := Em.ext X13
        refine w13.astore (q := 186) (L2 := #[.val (.int x0), .val (.int x1), .val (.int x2), .val (.int x3), .val (.int x4), .val (.ref a), .val (.ref b), .val (.ref c), .val (.ref d), .val (.int size), .val (.int pick), .val (.ref tx), .val (.ref s1), .val (.int (if ct = ca then 1 else 0)), .val (.int (1 : Int32)), .val (.ref r)]) at_184 rfl rfl rfl ?_
        refine w13.aload (q := 188) at_186 rfl rfl rfl ?_
        refine w13.callV (q := 191) at_188 (H.tw 60 rfl) (H.tw 61 rfl) (notFace_of_selects (C := "com/example/loomline/loomline/exchange/TextFormat") (args := G.a0) (H.tw 63 rfl)) (H.tw 63 rfl) (H.tw 62 rfl) (by decide) Er (argsL := []) (rest := []) rfl (lenOf pd42 rfl) rfl (W := 0) (Nat.le_of_eq rfl) ((con_desc G H r (.ref d) rfl h13 w13.old Fd).pay w13 (H.tw 64 rfl) (H.tw 35 rfl) (by decide) (by decide)) (by decide) (by decide) rfl fun vm14 T14 h14 v14 w14 q14 => ?_
        obtain ⟨_, rfl, rfl, rfl⟩ := q14
        show Go _ _ _ _ (T14.setTop (mkF X.m 191 #[.val (.int x0), .val (.int x1), .val (.int x2), .val (.int x3), .val (.int x4), .val (.ref a), .val (.ref b), .val (.ref c), .val (.ref d), .val (.int size), .val (.int pick), .val (.ref tx), .val (.ref s1), .val (.int (if ct = ca then 1 else 0)), .val (.int (1 : Int32)), .val (.ref r)] [(.ref d)]))
        refine w14.aload (q := 193) at_191 rfl rfl rfl ?_
        refine w14.callV (q := 196) at_193 (H.tw 65 rfl) (H.tw 66 rfl) (notFace_of_selects (C := "java/lang/String") (args := G.a0) (H.tw 68 rfl)) (H.tw 68 rfl) (H.tw 67 rfl) (by decide) Sd.exa (argsL := [(.ref d)]) (rest := []) rfl (lenOf pd21 rfl) rfl (W := 0) (Nat.le_of_eq rfl) (pay_eq w14 H.weq (H.tw 5 rfl) H.cz Sd Sd (by decide) (by decide)) (by decide) (by decide) rfl fun vm15 T15 h15 v15 w15 q15 => ?_
        obtain ⟨_, rfl, rfl, rfl⟩ := q15
        show Go _ _ _ _ (T15.setTop (mkF X.m 196 #[.val (.int x0), .val (.int x1), .val (.int x2), .val (.int x3), .val (.int x4), .val (.ref a), .val (.ref b), .val (.ref c), .val (.ref d), .val (.int size), .val (.int pick), .val (.ref tx), .val (.ref s1), .val (.int (if ct = ca then 1 else 0)), .val (.int (1 : Int32)), .val (.ref r)] [(.int (if cd = cd then 1 else 0))]))
        refine w15.ifN (q := 199) at_196 ((if0 _ _).trans (feq (by rw [if_pos rfl]; decide)).1) rfl ?_
        refine w15.aload (q := 201) at_199 rfl rfl rfl ?_
        refine w15.aload (q := 203) at_201 rfl rfl rfl ?_
        refine w15.callV (q := 206) at_203 (H.tw 70 rfl) (H.tw 71 rfl) (notFace_of_selects (C := "com/example/loomline/loomline/exchange/TextFormat") (args := G.a0) (H.tw 73 rfl)) (H.tw 73 rfl) (H.tw 72 rfl) (by decide) Er (argsL := [(.ref tx)]) (rest := []) rfl (lenOf pd43 rfl) rfl (W := 0) (Nat.le_of_eq rfl) ((con_m1 G H r tx ff s1 cK ct a em ca h13 w15.old Ft Mk Cl Es Stx F0 F1 Sa Em).pay w15 (H.tw 74 rfl) (H.tw 35 rfl) (by decide) (by decide)) (by decide) (by decide) rfl fun vm16 T16 h16 v16 w16 q16 => ?_
        obtain ⟨_, rfl, rfl, rfl⟩ := q16
        show Go _ _ _ _ (T16.setTop (mkF X.m 206 #[.val (.int x0), .val (.int x1), .val (.int x2), .val (.int x3), .val (.int x4), .val (.ref a), .val (.ref b), .val (.ref c), .val (.ref d), .val (.int size), .val (.int pick), .val (.ref tx), .val (.ref s1), .val (.int (if ct = ca then 1 else 0)), .val (.int (1 : Int32)), .val (.ref r)] [(.int (if ct = ca then 1 else 0))]))
        refine w16.iload (q := 208) at_206 rfl rfl ?_
        refine w16.icN (q := 211) at_208 ((teq eqT).2) rfl ?_
        refine w16.aload (q := 213) at_211 rfl rfl rfl ?_
        refine w16.aload (q := 215) at_213 rfl rfl rfl ?_
        refine w16.callV (q := 218) at_215 (H.tw 70 rfl) (H.tw 71 rfl) (notFace_of_selects (C := "com/example/loomline/loomline/exchange/TextFormat") (args := G.a0) (H.tw 73 rfl)) (H.tw 73 rfl) (H.tw 72 rfl) (by decide) Er (argsL := [(.ref a)]) (rest := []) rfl (lenOf pd43 rfl) rfl (W := 0) (Nat.le_of_eq rfl) ((con_m1 G H r a ff s1 cK ca a em ca h13 w16.old Ft Mk Cl Es Sa F0 F1 Sa Em).pay w16 (H.tw 74 rfl) (H.tw 35 rfl) (by decide) (by decide)) (by decide) (by decide) rfl fun vm17 T17 h17 v17 w17 q17 => ?_
        obtain ⟨_, rfl, rfl, rfl⟩ := q17
        show Go _ _ _ _ (T17.setTop (mkF X.m 218 #[.val (.int x0), .val (.int x1), .val (.int x2), .val (.int x3), .val (.int x4), .val (.ref a), .val (.ref b), .val (.ref c), .val (.ref d), .val (.int size), .val (.int pick), .val (.ref tx), .val (.ref s1), .val (.int (if ct = ca then 1 else 0)), .val (.int (1 : Int32)), .val (.ref r)] [(.int (if ca = ca then 1 else 0))]))
        refine w17.iload (q := 220) at_218 rfl rfl ?_
        refine w17.icN (q := 223) at_220 ((teq (if_pos rfl)).2) rfl ?_
        refine w17.iconst (q := 224) (1 : Int32) at_223 rfl rfl ?_
        refine w17.goto (q := 228) at_224 (by decide) (by decide) ?_
        exact w17.retZ at_228 (t := .boolean) rfl (by decide) rfl (by decide) (by decide) ⟨_, rfl, rfl⟩
      ·
        refine w4.icY (q := 118) at_93 ((feq z1).2) (by decide) (by decide) ?_
        refine w4.aload (q := 120) at_118 rfl rfl rfl ?_
        refine w4.aload (q := 122) at_120 rfl rfl rfl ?_
        refine w4.callV (q := 125) at_122 (H.tw 65 rfl) (H.tw 66 rfl) (notFace_of_selects (C := "java/lang/String") (args := G.a0) (H.tw 68 rfl)) (H.tw 68 rfl) (H.tw 67 rfl) (by decide) Sa.exa (argsL := [(.ref b)]) (rest := []) rfl (lenOf pd21 rfl) rfl (W := 0) (Nat.le_of_eq rfl) (pay_eq w4 H.weq (H.tw 5 rfl) H.cz Sa Sb (by decide) (by decide)) (by decide) (by decide) rfl fun vm18 T18 h18 v18 w18 q18 => ?_
        obtain ⟨_, rfl, rfl, rfl⟩ := q18
        show Go _ _ _ _ (T18.setTop (mkF X.m 125 #[.val (.int x0), .val (.int x1), .val (.int x2), .val (.int x3), .val (.int x4), .val (.ref a), .val (.ref b), .val (.ref c), .val (.ref d), .val (.int size), .val (.int pick), .val (.ref tx), .unset, .unset, .unset, .unset] [(.int (if ca = cb then 1 else 0))]))
        by_cases z2 : (if ca = cb then 1 else 0) = (0 : Int32)
        ·
          refine w18.ifY (q := 138) at_125 ((if0 _ _).trans (teq z2).1) (by decide) (by decide) ?_
          refine w18.aload (q := 140) at_138 rfl rfl rfl ?_
          refine w18.aload (q := 142) at_140 rfl rfl rfl ?_
          refine w18.callS (q := 145) at_142 (H.tw 151 rfl) (H.tw 152 rfl) (H.tw 29 rfl) (H.tw 153 rfl) (by decide) (argsL := [(.ref a), (.ref b)]) (rest := []) rfl (lenOf pd45 rfl) rfl (W := 0) (Nat.le_of_eq rfl) ((con_of2 G H a b ca cb h4 w18.old Sa Sb (ite_no z2)).pay w18 (H.tw 153 rfl) (H.tw 29 rfl) (by decide) (by decide)) (by decide) (by decide) rfl fun vm19 T19 h19 v19 w19 q19 => ?_
          obtain ⟨_, rfl, s1, rfl, X19, Es, F0, F1⟩ := q19
          show Go _ _ _ _ (T19.setTop (mkF X.m 145 #[.val (.int x0), .val (.int x1), .val (.int x2), .val (.int x3), .val (.int x4), .val (.ref a), .val (.ref b), .val (.ref c), .val (.ref d), .val (.int size), .val (.int pick), .val (.ref tx), .unset, .unset, .unset, .unset] [(.ref s1)]))
          refine w19.astore (q := 147) (L2 := #[.val (.int x0), .val (.int x1), .val (.int x2), .val (.int x3), .val (.int x4), .val (.ref a), .val (.ref b), .val (.ref c), .val (.ref d), .val (.int size), .val (.int pick), .val (.ref tx), .val (.ref s1), .unset, .unset, .unset]) at_145 rfl rfl rfl ?_
          refine w19.aload (q := 149) at_147 rfl rfl rfl ?_
          refine w19.aload (q := 151) at_149 rfl rfl rfl ?_
          replace Sa := Sa.ext X19
          replace Sb := Sb.ext X19
          replace Sd := Sd.ext X19
          replace Stx := Stx.ext X19
          refine w19.callV (q := 154) at_151 (H.tw 65 rfl) (H.tw 66 rfl) (notFace_of_selects (C := "java/lang/String") (args := G.a0) (H.tw 68 rfl)) (H.tw 68 rfl) (H.tw 67 rfl) (by decide) Stx.exa (argsL := [(.ref a)]) (rest := []) rfl (lenOf pd21 rfl) rfl (W := 0) (Nat.le_of_eq rfl) (pay_eq w19 H.weq (H.tw 5 rfl) H.cz Stx Sa (by decide) (by decide)) (by decide) (by decide) rfl fun vm20 T20 h20 v20 w20 q20 => ?_
          obtain ⟨_, rfl, rfl, rfl⟩ := q20
          show Go _ _ _ _ (T20.setTop (mkF X.m 154 #[.val (.int x0), .val (.int x1), .val (.int x2), .val (.int x3), .val (.int x4), .val (.ref a), .val (.ref b), .val (.ref c), .val (.ref d), .val (.int size), .val (.int pick), .val (.ref tx), .val (.ref s1), .unset, .unset, .unset] [(.int (if ct = ca then 1 else 0))]))
          by_cases z3 : (if ct = ca then 1 else 0) = (0 : Int32)
          ·
            refine w20.ifN (q := 157) at_154 ((if0 _ _).trans (teq z3).2) rfl ?_
            refine w20.aload (q := 159) at_157 rfl rfl rfl ?_
            refine w20.aload (q := 161) at_159 rfl rfl rfl ?_
            refine w20.callV (q := 164) at_161 (H.tw 65 rfl) (H.tw 66 rfl) (notFace_of_selects (C := "java/lang/String") (args := G.a0) (H.tw 68 rfl)) (H.tw 68 rfl) (H.tw 67 rfl) (by decide) Stx.exa (argsL := [(.ref b)]) (rest := []) rfl (lenOf pd21 rfl) rfl (W := 0) (Nat.le_of_eq rfl) (pay_eq w20 H.weq (H.tw 5 rfl) H.cz Stx Sb (by decide) (by decide)) (by decide) (by decide) rfl fun vm21 T21 h21 v21 w21 q21 => ?_
            obtain ⟨_, rfl, rfl, rfl⟩ := q21
            show Go _ _ _ _ (T21.setTop (mkF X.m 164 #[.val (.int x0), .val (.int x1), .val (.int x2), .val (.int x3), .val (.int x4), .val (.ref a), .val (.ref b), .val (.ref c), .val (.ref d), .val (.int size), .val (.int pick), .val (.ref tx), .val (.ref s1), .unset, .unset, .unset] [(.int (if ct = cb then 1 else 0))]))
            by_cases z4 : (if ct = cb then 1 else 0) = (0 : Int32)
            ·
              refine w21.ifY (q := 171) at_164 ((if0 _ _).trans (teq z4).1) (by decide) (by decide) ?_
              have eqT : (if ct = ca ∨ cb = ct then (1 : Int32) else 0) = 0 := if_neg (fun z => z.elim (ite_no z3) (fun e => ite_no z4 e.symm))
              refine w21.iconst (q := 172) (0 : Int32) at_171 rfl rfl ?_
              refine w21.istore (q := 174) (L2 := #[.val (.int x0), .val (.int x1), .val (.int x2), .val (.int x3), .val (.int x4), .val (.ref a), .val (.ref b), .val (.ref c), .val (.ref d), .val (.int size), .val (.int pick), .val (.ref tx), .val (.ref s1), .val (.int (0 : Int32)), .unset, .unset]) at_172 rfl rfl ?_
              refine w21.iconst (q := 175) (1 : Int32) at_174 rfl rfl ?_
              refine w21.istore (q := 177) (L2 := #[.val (.int x0), .val (.int x1), .val (.int x2), .val (.int x3), .val (.int x4), .val (.ref a), .val (.ref b), .val (.ref c), .val (.ref d), .val (.int size), .val (.int pick), .val (.ref tx), .val (.ref s1), .val (.int (0 : Int32)), .val (.int (1 : Int32)), .unset]) at_175 rfl rfl ?_
              refine w21.aload (q := 179) at_177 rfl rfl rfl ?_
              refine w21.aload (q := 181) at_179 rfl rfl rfl ?_
              refine w21.callS (q := 184) at_181 (H.tw 33 rfl) (H.tw 34 rfl) (H.tw 35 rfl) (H.tw 36 rfl) (by decide) (argsL := [(.ref d), (.ref s1)]) (rest := []) rfl (lenOf pd41 rfl) rfl (W := 0) (Nat.le_of_eq rfl) ((con_one G H d s1 h19 w21.old).pay w21 (H.tw 36 rfl) (H.tw 35 rfl) (by decide) (by decide)) (by decide) (by decide) rfl fun vm22 T22 h22 v22 w22 q22 => ?_
              obtain ⟨_, rfl, r, ff, cK, rfl, X22, Er, Fd, Ft, Mk, Cl⟩ := q22
              show Go _ _ _ _ (T22.setTop (mkF X.m 184 #[.val (.int x0), .val (.int x1), .val (.int x2), .val (.int x3), .val (.int x4), .val (.ref a), .val (.ref b), .val (.ref c), .val (.ref d), .val (.int size), .val (.int pick), .val (.ref tx), .val (.ref s1), .val (.int (0 : Int32)), .val (.int (1 : Int32)), .unset] [(.ref r)]))
              replace Sa := Sa.ext X22
              replace Sb := Sb.ext X22
              replace Sd := Sd.ext X22
              replace Stx := Stx.ext X22
              replace Es := Es.ext X22
              replace F0 := F0.ext X22
              replace F1 := F1.ext X22
              refine w22.astore (q := 186) (L2 := #[.val (.int x0), .val (.int x1), .val (.int x2), .val (.int x3), .val (.int x4), .val (.ref a), .val (.ref b), .val (.ref c), .val (.ref d), .val (.int size), .val (.int pick), .val (.ref tx), .val (.ref s1), .val (.int (0 : Int32)), .val (.int (1 : Int32)), .val (.ref r)]) at_184 rfl rfl rfl ?_
              refine w22.aload (q := 188) at_186 rfl rfl rfl ?_
              refine w22.callV (q := 191) at_188 (H.tw 60 rfl) (H.tw 61 rfl) (notFace_of_selects (C := "com/example/loomline/loomline/exchange/TextFormat") (args := G.a0) (H.tw 63 rfl)) (H.tw 63 rfl) (H.tw 62 rfl) (by decide) Er (argsL := []) (rest := []) rfl (lenOf pd42 rfl) rfl (W := 0) (Nat.le_of_eq rfl) ((con_desc G H r (.ref d) rfl h22 w22.old Fd).pay w22 (H.tw 64 rfl) (H.tw 35 rfl) (by decide) (by decide)) (by decide) (by decide) rfl fun vm23 T23 h23 v23 w23 q23 => ?_
              obtain ⟨_, rfl, rfl, rfl⟩ := q23
              show Go _ _ _ _ (T23.setTop (mkF X.m 191 #[.val (.int x0), .val (.int x1), .val (.int x2), .val (.int x3), .val (.int x4), .val (.ref a), .val (.ref b), .val (.ref c), .val (.ref d), .val (.int size), .val (.int pick), .val (.ref tx), .val (.ref s1), .val (.int (0 : Int32)), .val (.int (1 : Int32)), .val (.ref r)] [(.ref d)]))
              refine w23.aload (q := 193) at_191 rfl rfl rfl ?_
              refine w23.callV (q := 196) at_193 (H.tw 65 rfl) (H.tw 66 rfl) (notFace_of_selects (C := "java/lang/String") (args := G.a0) (H.tw 68 rfl)) (H.tw 68 rfl) (H.tw 67 rfl) (by decide) Sd.exa (argsL := [(.ref d)]) (rest := []) rfl (lenOf pd21 rfl) rfl (W := 0) (Nat.le_of_eq rfl) (pay_eq w23 H.weq (H.tw 5 rfl) H.cz Sd Sd (by decide) (by decide)) (by decide) (by decide) rfl fun vm24 T24 h24 v24 w24 q24 => ?_
              obtain ⟨_, rfl, rfl, rfl⟩ := q24
              show Go _ _ _ _ (T24.setTop (mkF X.m 196 #[.val (.int x0), .val (.int x1), .val (.int x2), .val (.int x3), .val (.int x4), .val (.ref a), .val (.ref b), .val (.ref c), .val (.ref d), .val (.int size), .val (.int pick), .val (.ref tx), .val (.ref s1), .val (.int (0 : Int32)), .val (.int (1 : Int32)), .val (.ref r)] [(.int (if cd = cd then 1 else 0))]))
              refine w24.ifN (q := 199) at_196 ((if0 _ _).trans (feq (by rw [if_pos rfl]; decide)).1) rfl ?_
              refine w24.aload (q := 201) at_199 rfl rfl rfl ?_
              refine w24.aload (q := 203) at_201 rfl rfl rfl ?_
              refine w24.callV (q := 206) at_203 (H.tw 70 rfl) (H.tw 71 rfl) (notFace_of_selects (C := "com/example/loomline/loomline/exchange/TextFormat") (args := G.a0) (H.tw 73 rfl)) (H.tw 73 rfl) (H.tw 72 rfl) (by decide) Er (argsL := [(.ref tx)]) (rest := []) rfl (lenOf pd43 rfl) rfl (W := 0) (Nat.le_of_eq rfl) ((con_m2 G H r tx ff s1 cK ct a b ca cb h22 w24.old Ft Mk Cl Es Stx F0 F1 Sa Sb).pay w24 (H.tw 74 rfl) (H.tw 35 rfl) (by decide) (by decide)) (by decide) (by decide) rfl fun vm25 T25 h25 v25 w25 q25 => ?_
              obtain ⟨_, rfl, rfl, rfl⟩ := q25
              show Go _ _ _ _ (T25.setTop (mkF X.m 206 #[.val (.int x0), .val (.int x1), .val (.int x2), .val (.int x3), .val (.int x4), .val (.ref a), .val (.ref b), .val (.ref c), .val (.ref d), .val (.int size), .val (.int pick), .val (.ref tx), .val (.ref s1), .val (.int (0 : Int32)), .val (.int (1 : Int32)), .val (.ref r)] [(.int (if ct = ca ∨ cb = ct then 1 else 0))]))
              refine w25.iload (q := 208) at_206 rfl rfl ?_
              refine w25.icN (q := 211) at_208 ((teq eqT).2) rfl ?_
              refine w25.aload (q := 213) at_211 rfl rfl rfl ?_
              refine w25.aload (q := 215) at_213 rfl rfl rfl ?_
              refine w25.callV (q := 218) at_215 (H.tw 70 rfl) (H.tw 71 rfl) (notFace_of_selects (C := "com/example/loomline/loomline/exchange/TextFormat") (args := G.a0) (H.tw 73 rfl)) (H.tw 73 rfl) (H.tw 72 rfl) (by decide) Er (argsL := [(.ref a)]) (rest := []) rfl (lenOf pd43 rfl) rfl (W := 0) (Nat.le_of_eq rfl) ((con_m2 G H r a ff s1 cK ca a b ca cb h22 w25.old Ft Mk Cl Es Sa F0 F1 Sa Sb).pay w25 (H.tw 74 rfl) (H.tw 35 rfl) (by decide) (by decide)) (by decide) (by decide) rfl fun vm26 T26 h26 v26 w26 q26 => ?_
              obtain ⟨_, rfl, rfl, rfl⟩ := q26
              show Go _ _ _ _ (T26.setTop (mkF X.m 218 #[.val (.int x0), .val (.int x1), .val (.int x2), .val (.int x3), .val (.int x4), .val (.ref a), .val (.ref b), .val (.ref c), .val (.ref d), .val (.int size), .val (.int pick), .val (.ref tx), .val (.ref s1), .val (.int (0 : Int32)), .val (.int (1 : Int32)), .val (.ref r)] [(.int (if ca = ca ∨ cb = ca then 1 else 0))]))
              refine w26.iload (q := 220) at_218 rfl rfl ?_
              refine w26.icN (q := 223) at_220 ((teq (if_pos (Or.inl rfl))).2) rfl ?_
              refine w26.iconst (q := 224) (1 : Int32) at_223 rfl rfl ?_
              refine w26.goto (q := 228) at_224 (by decide) (by decide) ?_
              exact w26.retZ at_228 (t := .boolean) rfl (by decide) rfl (by decide) (by decide) ⟨_, rfl, rfl⟩
            ·
              refine w21.ifN (q := 167) at_164 ((if0 _ _).trans (feq z4).1) rfl ?_
              have eqT : (if ct = ca ∨ cb = ct then (1 : Int32) else 0) = 1 := if_pos (Or.inr (ite_yes z4).symm)
              refine w21.iconst (q := 168) (1 : Int32) at_167 rfl rfl ?_
              refine w21.goto (q := 172) at_168 (by decide) (by decide) ?_
              refine w21.istore (q := 174) (L2 := #[.val (.int x0), .val (.int x1), .val (.int x2), .val (.int x3), .val (.int x4), .val (.ref a), .val (.ref b), .val (.ref c), .val (.ref d), .val (.int size), .val (.int pick), .val (.ref tx), .val (.ref s1), .val (.int (1 : Int32)), .unset, .unset]) at_172 rfl rfl ?_
              refine w21.iconst (q := 175) (1 : Int32) at_174 rfl rfl ?_
              refine w21.istore (q := 177) (L2 := #[.val (.int x0), .val (.int x1), .val (.int x2), .val (.int x3), .val (.int x4), .val (.ref a), .val (.ref b), .val (.ref c), .val (.ref d), .val (.int size), .val (.int pick), .val (.ref tx), .val (.ref s1), .val (.int (1 : Int32)), .val (.int (1 : Int32)), .unset]) at_175 rfl rfl ?_
              refine w21.aload (q := 179) at_177 rfl rfl rfl ?_
              refine w21.aload (q := 181) at_179 rfl rfl rfl ?_
              refine w21.callS (q := 184) at_181 (H.tw 33 rfl) (H.tw 34 rfl) (H.tw 35 rfl) (H.tw 36 rfl) (by decide) (argsL := [(.ref d), (.ref s1)]) (rest := []) rfl (lenOf pd41 rfl) rfl (W := 0) (Nat.le_of_eq rfl) ((con_one G H d s1 h19 w21.old).pay w21 (H.tw 36 rfl) (H.tw 35 rfl) (by decide) (by decide)) (by decide) (by decide) rfl fun vm27 T27 h27 v27 w27 q27 => ?_
              obtain ⟨_, rfl, r, ff, cK, rfl, X27, Er, Fd, Ft, Mk, Cl⟩ := q27
              show Go _ _ _ _ (T27.setTop (mkF X.m 184 #[.val (.int x0), .val (.int x1), .val (.int x2), .val (.int x3), .val (.int x4), .val (.ref a), .val (.ref b), .val (.ref c), .val (.ref d), .val (.int size), .val (.int pick), .val (.ref tx), .val (.ref s1), .val (.int (1 : Int32)), .val (.int (1 : Int32)), .unset] [(.ref r)]))
              replace Sa := Sa.ext X27
              replace Sb := Sb.ext X27
              replace Sd := Sd.ext X27
              replace Stx := Stx.ext X27
              replace Es := Es.ext X27
              replace F0 := F0.ext X27
              replace F1 := F1.ext X27
              refine w27.astore (q := 186) (L2 := #[.val (.int x0), .val (.int x1), .val (.int x2), .val (.int x3), .val (.int x4), .val (.ref a), .val (.ref b), .val (.ref c), .val (.ref d), .val (.int size), .val (.int pick), .val (.ref tx), .val (.ref s1), .val (.int (1 : Int32)), .val (.int (1 : Int32)), .val (.ref r)]) at_184 rfl rfl rfl ?_
              refine w27.aload (q := 188) at_186 rfl rfl rfl ?_
              refine w27.callV (q := 191) at_188 (H.tw 60 rfl) (H.tw 61 rfl) (notFace_of_selects (C := "com/example/loomline/loomline/exchange/TextFormat") (args := G.a0) (H.tw 63 rfl)) (H.tw 63 rfl) (H.tw 62 rfl) (by decide) Er (argsL := []) (rest := []) rfl (lenOf pd42 rfl) rfl (W := 0) (Nat.le_of_eq rfl) ((con_desc G H r (.ref d) rfl h27 w27.old Fd).pay w27 (H.tw 64 rfl) (H.tw 35 rfl) (by decide) (by decide)) (by decide) (by decide) rfl fun vm28 T28 h28 v28 w28 q28 => ?_
              obtain ⟨_, rfl, rfl, rfl⟩ := q28
              show Go _ _ _ _ (T28.setTop (mkF X.m 191 #[.val (.int x0), .val (.int x1), .val (.int x2), .val (.int x3), .val (.int x4), .val (.ref a), .val (.ref b), .val (.ref c), .val (.ref d), .val (.int size), .val (.int pick), .val (.ref tx), .val (.ref s1), .val (.int (1 : Int32)), .val (.int (1 : Int32)), .val (.ref r)] [(.ref d)]))
              refine w28.aload (q := 193) at_191 rfl rfl rfl ?_
              refine w28.callV (q := 196) at_193 (H.tw 65 rfl) (H.tw 66 rfl) (notFace_of_selects (C := "java/lang/String") (args := G.a0) (H.tw 68 rfl)) (H.tw 68 rfl) (H.tw 67 rfl) (by decide) Sd.exa (argsL := [(.ref d)]) (rest := []) rfl (lenOf pd21 rfl) rfl (W := 0) (Nat.le_of_eq rfl) (pay_eq w28 H.weq (H.tw 5 rfl) H.cz Sd Sd (by decide) (by decide)) (by decide) (by decide) rfl fun vm29 T29 h29 v29 w29 q29 => ?_
              obtain ⟨_, rfl, rfl, rfl⟩ := q29
              show Go _ _ _ _ (T29.setTop (mkF X.m 196 #[.val (.int x0), .val (.int x1), .val (.int x2), .val (.int x3), .val (.int x4), .val (.ref a), .val (.ref b), .val (.ref c), .val (.ref d), .val (.int size), .val (.int pick), .val (.ref tx), .val (.ref s1), .val (.int (1 : Int32)), .val (.int (1 : Int32)), .val (.ref r)] [(.int (if cd = cd then 1 else 0))]))
              refine w29.ifN (q := 199) at_196 ((if0 _ _).trans (feq (by rw [if_pos rfl]; decide)).1) rfl ?_
              refine w29.aload (q := 201) at_199 rfl rfl rfl ?_
              refine w29.aload (q := 203) at_201 rfl rfl rfl ?_
              refine w29.callV (q := 206) at_203 (H.tw 70 rfl) (H.tw 71 rfl) (notFace_of_selects (C := "com/example/loomline/loomline/exchange/TextFormat") (args := G.a0) (H.tw 73 rfl)) (H.tw 73 rfl) (H.tw 72 rfl) (by decide) Er (argsL := [(.ref tx)]) (rest := []) rfl (lenOf pd43 rfl) rfl (W := 0) (Nat.le_of_eq rfl) ((con_m2 G H r tx ff s1 cK ct a b ca cb h27 w29.old Ft Mk Cl Es Stx F0 F1 Sa Sb).pay w29 (H.tw 74 rfl) (H.tw 35 rfl) (by decide) (by decide)) (by decide) (by decide) rfl fun vm30 T30 h30 v30 w30 q30 => ?_
              obtain ⟨_, rfl, rfl, rfl⟩ := q30
              show Go _ _ _ _ (T30.setTop (mkF X.m 206 #[.val (.int x0), .val (.int x1), .val (.int x2), .val (.int x3), .val (.int x4), .val (.ref a), .val (.ref b), .val (.ref c), .val (.ref d), .val (.int size), .val (.int pick), .val (.ref tx), .val (.ref s1), .val (.int (1 : Int32)), .val (.int (1 : Int32)), .val (.ref r)] [(.int (if ct = ca ∨ cb = ct then 1 else 0))]))
              refine w30.iload (q := 208) at_206 rfl rfl ?_
              refine w30.icN (q := 211) at_208 ((teq eqT).2) rfl ?_
              refine w30.aload (q := 213) at_211 rfl rfl rfl ?_
              refine w30.aload (q := 215) at_213 rfl rfl rfl ?_
              refine w30.callV (q := 218) at_215 (H.tw 70 rfl) (H.tw 71 rfl) (notFace_of_selects (C := "com/example/loomline/loomline/exchange/TextFormat") (args := G.a0) (H.tw 73 rfl)) (H.tw 73 rfl) (H.tw 72 rfl) (by decide) Er (argsL := [(.ref a)]) (rest := []) rfl (lenOf pd43 rfl) rfl (W := 0) (Nat.le_of_eq rfl) ((con_m2 G H r a ff s1 cK ca a b ca cb h27 w30.old Ft Mk Cl Es Sa F0 F1 Sa Sb).pay w30 (H.tw 74 rfl) (H.tw 35 rfl) (by decide) (by decide)) (by decide) (by decide) rfl fun vm31 T31 h31 v31 w31 q31 => ?_
              obtain ⟨_, rfl, rfl, rfl⟩ := q31
              show Go _ _ _ _ (T31.setTop (mkF X.m 218 #[.val (.int x0), .val (.int x1), .val (.int x2), .val (.int x3), .val (.int x4), .val (.ref a), .val (.ref b), .val (.ref c), .val (.ref d), .val (.int size), .val (.int pick), .val (.ref tx), .val (.ref s1), .val (.int (1 : Int32)), .val (.int (1 : Int32)), .val (.ref r)] [(.int (if ca = ca ∨ cb = ca then 1 else 0))]))
              refine w31.iload (q := 220) at_218 rfl rfl ?_
              refine w31.icN (q := 223) at_220 ((teq (if_pos (Or.inl rfl))).2) rfl ?_
              refine w31.iconst (q := 224) (1 : Int32) at_223 rfl rfl ?_
              refine w31.goto (q := 228) at_224 (by decide) (by decide) ?_
              exact w31.retZ at_228 (t := .boolean) rfl (by decide) rfl (by decide) (by decide) ⟨_, rfl, rfl⟩
          ·
            refine w20.ifY (q := 167) at_154 ((if0 _ _).trans (feq z3).2) (by decide) (by decide) ?_
            have eqT : (if ct = ca ∨ cb = ct then (1 : Int32) else 0) = 1 := if_pos (Or.inl (ite_yes z3))
            refine w20.iconst (q := 168) (1 : Int32) at_167 rfl rfl ?_
            refine w20.goto (q := 172) at_168 (by decide) (by decide) ?_
            refine w20.istore (q := 174) (L2 := #[.val (.int x0), .val (.int x1), .val (.int x2), .val (.int x3), .val (.int x4), .val (.ref a), .val (.ref b), .val (.ref c), .val (.ref d), .val (.int size), .val (.int pick), .val (.ref tx), .val (.ref s1), .val (.int (1 : Int32)), .unset, .unset]) at_172 rfl rfl ?_
            refine w20.iconst (q := 175) (1 : Int32) at_174 rfl rfl ?_
            refine w20.istore (q := 177) (L2 := #[.val (.int x0), .val (.int x1), .val (.int x2), .val (.int x3), .val (.int x4), .val (.ref a), .val (.ref b), .val (.ref c), .val (.ref d), .val (.int size), .val (.int pick), .val (.ref tx), .val (.ref s1), .val (.int (1 : Int32)), .val (.int (1 : Int32)), .unset]) at_175 rfl rfl ?_
            refine w20.aload (q := 179) at_177 rfl rfl rfl ?_
            refine w20.aload (q := 181) at_179 rfl rfl rfl ?_
            refine w20.callS (q := 184) at_181 (H.tw 33 rfl) (H.tw 34 rfl) (H.tw 35 rfl) (H.tw 36 rfl) (by decide) (argsL := [(.ref d), (.ref s1)]) (rest := []) rfl (lenOf pd41 rfl) rfl (W := 0) (Nat.le_of_eq rfl) ((con_one G H d s1 h19 w20.old).pay w20 (H.tw 36 rfl) (H.tw 35 rfl) (by decide) (by decide)) (by decide) (by decide) rfl fun vm32 T32 h32 v32 w32 q32 => ?_
            obtain ⟨_, rfl, r, ff, cK, rfl, X32, Er, Fd, Ft, Mk, Cl⟩ := q32
            show Go _ _ _ _ (T32.setTop (mkF X.m 184 #[.val (.int x0), .val (.int x1), .val (.int x2), .val (.int x3), .val (.int x4), .val (.ref a), .val (.ref b), .val (.ref c), .val (.ref d), .val (.int size), .val (.int pick), .val (.ref tx), .val (.ref s1), .val (.int (1 : Int32)), .val (.int (1 : Int32)), .unset] [(.ref r)]))
            replace Sa := Sa.ext X32
            replace Sb := Sb.ext X32
            replace Sd := Sd.ext X32
            replace Stx := Stx.ext X32
            replace Es := Es.ext X32
            replace F0 := F0.ext X32
            replace F1 := F1.ext X32
            refine w32.astore (q := 186) (L2 := #[.val (.int x0), .val (.int x1), .val (.int x2), .val (.int x3), .val (.int x4), .val (.ref a), .val (.ref b), .val (.ref c), .val (.ref d), .val (.int size), .val (.int pick), .val (.ref tx), .val (.ref s1), .val (.int (1 : Int32)), .val (.int (1 : Int32)), .val (.ref r)]) at_184 rfl rfl rfl ?_
            refine w32.aload (q := 188) at_186 rfl rfl rfl ?_
            refine w32.callV (q := 191) at_188 (H.tw 60 rfl) (H.tw 61 rfl) (notFace_of_selects (C := "com/example/loomline/loomline/exchange/TextFormat") (args := G.a0) (H.tw 63 rfl)) (H.tw 63 rfl) (H.tw 62 rfl) (by decide) Er (argsL := []) (rest := []) rfl (lenOf pd42 rfl) rfl (W := 0) (Nat.le_of_eq rfl) ((con_desc G H r (.ref d) rfl h32 w32.old Fd).pay w32 (H.tw 64 rfl) (H.tw 35 rfl) (by decide) (by decide)) (by decide) (by decide) rfl fun vm33 T33 h33 v33 w33 q33 => ?_
            obtain ⟨_, rfl, rfl, rfl⟩ := q33
            show Go _ _ _ _ (T33.setTop (mkF X.m 191 #[.val (.int x0), .val (.int x1), .val (.int x2), .val (.int x3), .val (.int x4), .val (.ref a), .val (.ref b), .val (.ref c), .val (.ref d), .val (.int size), .val (.int pick), .val (.ref tx), .val (.ref s1), .val (.int (1 : Int32)), .val (.int (1 : Int32)), .val (.ref r)] [(.ref d)]))
            refine w33.aload (q := 193) at_191 rfl rfl rfl ?_
            refine w33.callV (q := 196) at_193 (H.tw 65 rfl) (H.tw 66 rfl) (notFace_of_selects (C := "java/lang/String") (args := G.a0) (H.tw 68 rfl)) (H.tw 68 rfl) (H.tw 67 rfl) (by decide) Sd.exa (argsL := [(.ref d)]) (rest := []) rfl (lenOf pd21 rfl) rfl (W := 0) (Nat.le_of_eq rfl) (pay_eq w33 H.weq (H.tw 5 rfl) H.cz Sd Sd (by decide) (by decide)) (by decide) (by decide) rfl fun vm34 T34 h34 v34 w34 q34 => ?_
            obtain ⟨_, rfl, rfl, rfl⟩ := q34
            show Go _ _ _ _ (T34.setTop (mkF X.m 196 #[.val (.int x0), .val (.int x1), .val (.int x2), .val (.int x3), .val (.int x4), .val (.ref a), .val (.ref b), .val (.ref c), .val (.ref d), .val (.int size), .val (.int pick), .val (.ref tx), .val (.ref s1), .val (.int (1 : Int32)), .val (.int (1 : Int32)), .val (.ref r)] [(.int (if cd = cd then 1 else 0))]))
            refine w34.ifN (q := 199) at_196 ((if0 _ _).trans (feq (by rw [if_pos rfl]; decide)).1) rfl ?_
            refine w34.aload (q := 201) at_199 rfl rfl rfl ?_
            refine w34.aload (q := 203) at_201 rfl rfl rfl ?_
            refine w34.callV (q := 206) at_203 (H.tw 70 rfl) (H.tw 71 rfl) (notFace_of_selects (C := "com/example/loomline/loomline/exchange/TextFormat") (args := G.a0) (H.tw 73 rfl)) (H.tw 73 rfl) (H.tw 72 rfl) (by decide) Er (argsL := [(.ref tx)]) (rest := []) rfl (lenOf pd43 rfl) rfl (W := 0) (Nat.le_of_eq rfl) ((con_m2 G H r tx ff s1 cK ct a b ca cb h32 w34.old Ft Mk Cl Es Stx F0 F1 Sa Sb).pay w34 (H.tw 74 rfl) (H.tw 35 rfl) (by decide) (by decide)) (by decide) (by decide) rfl fun vm35 T35 h35 v35 w35 q35 => ?_
            obtain ⟨_, rfl, rfl, rfl⟩ := q35
            show Go _ _ _ _ (T35.setTop (mkF X.m 206 #[.val (.int x0), .val (.int x1), .val (.int x2), .val (.int x3), .val (.int x4), .val (.ref a), .val (.ref b), .val (.ref c), .val (.ref d), .val (.int size), .val (.int pick), .val (.ref tx), .val (.ref s1), .val (.int (1 : Int32)), .val (.int (1 : Int32)), .val (.ref r)] [(.int (if ct = ca ∨ cb = ct then 1 else 0))]))
            refine w35.iload (q := 208) at_206 rfl rfl ?_
            refine w35.icN (q := 211) at_208 ((teq eqT).2) rfl ?_
            refine w35.aload (q := 213) at_211 rfl rfl rfl ?_
            refine w35.aload (q := 215) at_213 rfl rfl rfl ?_
            refine w35.callV (q := 218) at_215 (H.tw 70 rfl) (H.tw 71 rfl) (notFace_of_selects (C := "com/example/loomline/loomline/exchange/TextFormat") (args := G.a0) (H.tw 73 rfl)) (H.tw 73 rfl) (H.tw 72 rfl) (by decide) Er (argsL := [(.ref a)]) (rest := []) rfl (lenOf pd43 rfl) rfl (W := 0) (Nat.le_of_eq rfl) ((con_m2 G H r a ff s1 cK ca a b ca cb h32 w35.old Ft Mk Cl Es Sa F0 F1 Sa Sb).pay w35 (H.tw 74 rfl) (H.tw 35 rfl) (by decide) (by decide)) (by decide) (by decide) rfl fun vm36 T36 h36 v36 w36 q36 => ?_
            obtain ⟨_, rfl, rfl, rfl⟩ := q36
            show Go _ _ _ _ (T36.setTop (mkF X.m 218 #[.val (.int x0), .val (.int x1), .val (.int x2), .val (.int x3), .val (.int x4), .val (.ref a), .val (.ref b), .val (.ref c), .val (.ref d), .val (.int size), .val (.int pick), .val (.ref tx), .val (.ref s1), .val (.int (1 : Int32)), .val (.int (1 : Int32)), .val (.ref r)] [(.int (if ca = ca ∨ cb = ca then 1 else 0))]))
            refine w36.iload (q := 220) at_218 rfl rfl ?_
            refine w36.icN (q := 223) at_220 ((teq (if_pos (Or.inl rfl))).2) rfl ?_
            refine w36.iconst (q := 224) (1 : Int32) at_223 rfl rfl ?_
            refine w36.goto (q := 228) at_224 (by decide) (by decide) ?_
            exact w36.retZ at_228 (t := .boolean) rfl (by decide) rfl (by decide) (by decide) ⟨_, rfl, rfl⟩
        ·
          refine w18.ifN (q := 128) at_125 ((if0 _ _).trans (feq z2).1) rfl ?_
          refine w18.aload (q := 130) at_128 rfl rfl rfl ?_
          refine w18.callS (q := 133) at_130 (H.tw 90 rfl) (H.tw 91 rfl) (H.tw 29 rfl) (H.tw 92 rfl) (by decide) (argsL := [(.ref a)]) (rest := []) rfl (lenOf pd44 rfl) rfl (W := 0) (Nat.le_of_eq rfl) ((con_of1 G H a em Sem h4 w18.old).pay w18 (H.tw 92 rfl) (H.tw 29 rfl) (by decide) (by decide)) (by decide) (by decide) rfl fun vm37 T37 h37 v37 w37 q37 => ?_
          obtain ⟨_, rfl, s1, rfl, X37, Es, F0, F1⟩ := q37
          show Go _ _ _ _ (T37.setTop (mkF X.m 133 #[.val (.int x0), .val (.int x1), .val (.int x2), .val (.int x3), .val (.int x4), .val (.ref a), .val (.ref b), .val (.ref c), .val (.ref d), .val (.int size), .val (.int pick), .val (.ref tx), .unset, .unset, .unset, .unset] [(.ref s1)]))
          refine w37.astore (q := 135) (L2 := #[.val (.int x0), .val (.int x1), .val (.int x2), .val (.int x3), .val (.int x4), .val (.ref a), .val (.ref b), .val (.ref c), .val (.ref d), .val (.int size), .val (.int pick), .val (.ref tx), .val (.ref s1), .unset, .unset, .unset]) at_133 rfl rfl rfl ?_
          refine w37.goto (q := 147) at_135 (by decide) (by decide) ?_
          refine w37.aload (q := 149) at_147 rfl rfl rfl ?_
          refine w37.aload (q := 151) at_149 rfl rfl rfl ?_
          have Em := Eem.ext w37.old.2
          replace Sa := Sa.ext X37
          replace Sb := Sb.ext X37
          replace Sd := Sd.ext X37
          replace Stx := Stx.ext X37
          refine w37.callV (q := 154) at_151 (H.tw 65 rfl) (H.tw 66 rfl) (notFace_of_selects (C := "java/lang/String") (args := G.a0) (H.tw 68 rfl)) (H.tw 68 rfl) (H.tw 67 rfl) (by decide) Stx.exa (argsL := [(.ref a)]) (rest := []) rfl (lenOf pd21 rfl) rfl (W := 0) (Nat.le_of_eq rfl) (pay_eq w37 H.weq (H.tw 5 rfl) H.cz Stx Sa (by decide) (by decide)) (by decide) (by decide) rfl fun vm38 T38 h38 v38 w38 q38 => ?_
          obtain ⟨_, rfl, rfl, rfl⟩ := q38
          show Go _ _ _ _ (T38.setTop (mkF X.m 154 #[.val (.int x0), .val (.int x1), .val (.int x2), .val (.int x3), .val (.int x4), .val (.ref a), .val (.ref b), .val (.ref c), .val (.ref d), .val (.int size), .val (.int pick), .val (.ref tx), .val (.ref s1), .unset, .unset, .unset] [(.int (if ct = ca then 1 else 0))]))
          by_cases z3 : (if ct = ca then 1 else 0) = (0 : Int32)
          ·
            refine w38.ifN (q := 157) at_154 ((if0 _ _).trans (teq z3).2) rfl ?_
            refine w38.aload (q := 159) at_157 rfl rfl rfl ?_
            refine w38.aload (q := 161) at_159 rfl rfl rfl ?_
            refine w38.callV (q := 164) at_161 (H.tw 65 rfl) (H.tw 66 rfl) (notFace_of_selects (C := "java/lang/String") (args := G.a0) (H.tw 68 rfl)) (H.tw 68 rfl) (H.tw 67 rfl) (by decide) Stx.exa (argsL := [(.ref b)]) (rest := []) rfl (lenOf pd21 rfl) rfl (W := 0) (Nat.le_of_eq rfl) (pay_eq w38 H.weq (H.tw 5 rfl) H.cz Stx Sb (by decide) (by decide)) (by decide) (by decide) rfl fun vm39 T39 h39 v39 w39 q39 => ?_
            obtain ⟨_, rfl, rfl, rfl⟩ := q39
            show Go _ _ _ _ (T39.setTop (mkF X.m 164 #[.val (.int x0), .val (.int x1), .val (.int x2), .val (.int x3), .val (.int x4), .val (.ref a), .val (.ref b), .val (.ref c), .val (.ref d), .val (.int size), .val (.int pick), .val (.ref tx), .val (.ref s1), .unset, .unset, .unset] [(.int (if ct = cb then 1 else 0))]))
            by_cases z4 : (if ct = cb then 1 else 0) = (0 : Int32)
            ·
              refine w39.ifY (q := 171) at_164 ((if0 _ _).trans (teq z4).1) (by decide) (by decide) ?_
              have eqT : (if ct = ca then (1 : Int32) else 0) = 0 := if_neg (ite_no z3)
              refine w39.iconst (q := 172) (0 : Int32) at_171 rfl rfl ?_
              refine w39.istore (q := 174) (L2 := #[.val (.int x0), .val (.int x1), .val (.int x2), .val (.int x3), .val (.int x4), .val (.ref a), .val (.ref b), .val (.ref c), .val (.ref d), .val (.int size), .val (.int pick), .val (.ref tx), .val (.ref s1), .val (.int (0 : Int32)), .unset, .unset]) at_172 rfl rfl ?_
              refine w39.iconst (q := 175) (1 : Int32) at_174 rfl rfl ?_
              refine w39.istore (q := 177) (L2 := #[.val (.int x0), .val (.int x1), .val (.int x2), .val (.int x3), .val (.int x4), .val (.ref a), .val (.ref b), .val (.ref c), .val (.ref d), .val (.int size), .val (.int pick), .val (.ref tx), .val (.ref s1), .val (.int (0 : Int32)), .val (.int (1 : Int32)), .unset]) at_175 rfl rfl ?_
              refine w39.aload (q := 179) at_177 rfl rfl rfl ?_
              refine w39.aload (q := 181) at_179 rfl rfl rfl ?_
              refine w39.callS (q := 184) at_181 (H.tw 33 rfl) (H.tw 34 rfl) (H.tw 35 rfl) (H.tw 36 rfl) (by decide) (argsL := [(.ref d), (.ref s1)]) (rest := []) rfl (lenOf pd41 rfl) rfl (W := 0) (Nat.le_of_eq rfl) ((con_one G H d s1 h37 w39.old).pay w39 (H.tw 36 rfl) (H.tw 35 rfl) (by decide) (by decide)) (by decide) (by decide) rfl fun vm40 T40 h40 v40 w40 q40 => ?_
              obtain ⟨_, rfl, r, ff, cK, rfl, X40, Er, Fd, Ft, Mk, Cl⟩ := q40
              show Go _ _ _ _ (T40.setTop (mkF X.m 184 #[.val (.int x0), .val (.int x1), .val (.int x2), .val (.int x3), .val (.int x4), .val (.ref a), .val (.ref b), .val (.ref c), .val (.ref d), .val (.int size), .val (.int pick), .val (.ref tx), .val (.ref s1), .val (.int (0 : Int32)), .val (.int (1 : Int32)), .unset] [(.ref r)]))
              replace Sa := Sa.ext X40
              replace Sb := Sb.ext X40
              replace Sd := Sd.ext X40
              replace Stx := Stx.ext X40
              replace Es := Es.ext X40
              replace F0 := F0.ext X40
              replace F1 := F1.ext X40
              replace Em := Em.ext X40
              refine w40.astore (q := 186) (L2 := #[.val (.int x0), .val (.int x1), .val (.int x2), .val (.int x3), .val (.int x4), .val (.ref a), .val (.ref b), .val (.ref c), .val (.ref d), .val (.int size), .val (.int pick), .val (.ref tx), .val (.ref s1), .val (.int (0 : Int32)), .val (.int (1 : Int32)), .val (.ref r)]) at_184 rfl rfl rfl ?_
              refine w40.aload (q := 188) at_186 rfl rfl rfl ?_
              refine w40.callV (q := 191) at_188 (H.tw 60 rfl) (H.tw 61 rfl) (notFace_of_selects (C := "com/example/loomline/loomline/exchange/TextFormat") (args := G.a0) (H.tw 63 rfl)) (H.tw 63 rfl) (H.tw 62 rfl) (by decide) Er (argsL := []) (rest := []) rfl (lenOf pd42 rfl) rfl (W := 0) (Nat.le_of_eq rfl) ((con_desc G H r (.ref d) rfl h40 w40.old Fd).pay w40 (H.tw 64 rfl) (H.tw 35 rfl) (by decide) (by decide)) (by decide) (by decide) rfl fun vm41 T41 h41 v41 w41 q41 => ?_
              obtain ⟨_, rfl, rfl, rfl⟩ := q41
              show Go _ _ _ _ (T41.setTop (mkF X.m 191 #[.val (.int x0), .val (.int x1), .val (.int x2), .val (.int x3), .val (.int x4), .val (.ref a), .val (.ref b), .val (.ref c), .val (.ref d), .val (.int size), .val (.int pick), .val (.ref tx), .val (.ref s1), .val (.int (0 : Int32)), .val (.int (1 : Int32)), .val (.ref r)] [(.ref d)]))
              refine w41.aload (q := 193) at_191 rfl rfl rfl ?_
              refine w41.callV (q := 196) at_193 (H.tw 65 rfl) (H.tw 66 rfl) (notFace_of_selects (C := "java/lang/String") (args := G.a0) (H.tw 68 rfl)) (H.tw 68 rfl) (H.tw 67 rfl) (by decide) Sd.exa (argsL := [(.ref d)]) (rest := []) rfl (lenOf pd21 rfl) rfl (W := 0) (Nat.le_of_eq rfl) (pay_eq w41 H.weq (H.tw 5 rfl) H.cz Sd Sd (by decide) (by decide)) (by decide) (by decide) rfl fun vm42 T42 h42 v42 w42 q42 => ?_
              obtain ⟨_, rfl, rfl, rfl⟩ := q42
              show Go _ _ _ _ (T42.setTop (mkF X.m 196 #[.val (.int x0), .val (.int x1), .val (.int x2), .val (.int x3), .val (.int x4), .val (.ref a), .val (.ref b), .val (.ref c), .val (.ref d), .val (.int size), .val (.int pick), .val (.ref tx), .val (.ref s1), .val (.int (0 : Int32)), .val (.int (1 : Int32)), .val (.ref r)] [(.int (if cd = cd then 1 else 0))]))
              refine w42.ifN (q := 199) at_196 ((if0 _ _).trans (feq (by rw [if_pos rfl]; decide)).1) rfl ?_
              refine w42.aload (q := 201) at_199 rfl rfl rfl ?_
              refine w42.aload (q := 203) at_201 rfl rfl rfl ?_
              refine w42.callV (q := 206) at_203 (H.tw 70 rfl) (H.tw 71 rfl) (notFace_of_selects (C := "com/example/loomline/loomline/exchange/TextFormat") (args := G.a0) (H.tw 73 rfl)) (H.tw 73 rfl) (H.tw 72 rfl) (by decide) Er (argsL := [(.ref tx)]) (rest := []) rfl (lenOf pd43 rfl) rfl (W := 0) (Nat.le_of_eq rfl) ((con_m1 G H r tx ff s1 cK ct a em ca h40 w42.old Ft Mk Cl Es Stx F0 F1 Sa Em).pay w42 (H.tw 74 rfl) (H.tw 35 rfl) (by decide) (by decide)) (by decide) (by decide) rfl fun vm43 T43 h43 v43 w43 q43 => ?_
              obtain ⟨_, rfl, rfl, rfl⟩ := q43
              show Go _ _ _ _ (T43.setTop (mkF X.m 206 #[.val (.int x0), .val (.int x1), .val (.int x2), .val (.int x3), .val (.int x4), .val (.ref a), .val (.ref b), .val (.ref c), .val (.ref d), .val (.int size), .val (.int pick), .val (.ref tx), .val (.ref s1), .val (.int (0 : Int32)), .val (.int (1 : Int32)), .val (.ref r)] [(.int (if ct = ca then 1 else 0))]))
              refine w43.iload (q := 208) at_206 rfl rfl ?_
              refine w43.icN (q := 211) at_208 ((teq eqT).2) rfl ?_
              refine w43.aload (q := 213) at_211 rfl rfl rfl ?_
              refine w43.aload (q := 215) at_213 rfl rfl rfl ?_
              refine w43.callV (q := 218) at_215 (H.tw 70 rfl) (H.tw 71 rfl) (notFace_of_selects (C := "com/example/loomline/loomline/exchange/TextFormat") (args := G.a0) (H.tw 73 rfl)) (H.tw 73 rfl) (H.tw 72 rfl) (by decide) Er (argsL := [(.ref a)]) (rest := []) rfl (lenOf pd43 rfl) rfl (W := 0) (Nat.le_of_eq rfl) ((con_m1 G H r a ff s1 cK ca a em ca h40 w43.old Ft Mk Cl Es Sa F0 F1 Sa Em).pay w43 (H.tw 74 rfl) (H.tw 35 rfl) (by decide) (by decide)) (by decide) (by decide) rfl fun vm44 T44 h44 v44 w44 q44 => ?_
              obtain ⟨_, rfl, rfl, rfl⟩ := q44
              show Go _ _ _ _ (T44.setTop (mkF X.m 218 #[.val (.int x0), .val (.int x1), .val (.int x2), .val (.int x3), .val (.int x4), .val (.ref a), .val (.ref b), .val (.ref c), .val (.ref d), .val (.int size), .val (.int pick), .val (.ref tx), .val (.ref s1), .val (.int (0 : Int32)), .val (.int (1 : Int32)), .val (.ref r)] [(.int (if ca = ca then 1 else 0))]))
              refine w44.iload (q := 220) at_218 rfl rfl ?_
              refine w44.icN (q := 223) at_220 ((teq (if_pos rfl)).2) rfl ?_
              refine w44.iconst (q := 224) (1 : Int32) at_223 rfl rfl ?_
              refine w44.goto (q := 228) at_224 (by decide) (by decide) ?_
              exact w44.retZ at_228 (t := .boolean) rfl (by decide) rfl (by decide) (by decide) ⟨_, rfl, rfl⟩
            ·
              refine w39.ifN (q := 167) at_164 ((if0 _ _).trans (feq z4).1) rfl ?_
              have eqT : (if ct = ca then (1 : Int32) else 0) = 1 := if_pos ((ite_yes z4).trans (ite_yes z2).symm)
              refine w39.iconst (q := 168) (1 : Int32) at_167 rfl rfl ?_
              refine w39.goto (q := 172) at_168 (by decide) (by decide) ?_
              refine w39.istore (q := 174) (L2 := #[.val (.int x0), .val (.int x1), .val (.int x2), .val (.int x3), .val (.int x4), .val (.ref a), .val (.ref b), .val (.ref c), .val (.ref d), .val (.int size), .val (.int pick), .val (.ref tx), .val (.ref s1), .val (.int (1 : Int32)), .unset, .unset]) at_172 rfl rfl ?_
              refine w39.iconst (q := 175) (1 : Int32) at_174 rfl rfl ?_
              refine w39.istore (q := 177) (L2 := #[.val (.int x0), .val (.int x1), .val (.int x2), .val (.int x3), .val (.int x4), .val (.ref a), .val (.ref b), .val (.ref c), .val (.ref d), .val (.int size), .val (.int pick), .val (.ref tx), .val (.ref s1), .val (.int (1 : Int32)), .val (.int (1 : Int32)), .unset]) at_175 rfl rfl ?_
              refine w39.aload (q := 179) at_177 rfl rfl rfl ?_
              refine w39.aload (q := 181) at_179 rfl rfl rfl ?_
              refine w39.callS (q := 184) at_181 (H.tw 33 rfl) (H.tw 34 rfl) (H.tw 35 rfl) (H.tw 36 rfl) (by decide) (argsL := [(.ref d), (.ref s1)]) (rest := []) rfl (lenOf pd41 rfl) rfl (W := 0) (Nat.le_of_eq rfl) ((con_one G H d s1 h37 w39.old).pay w39 (H.tw 36 rfl) (H.tw 35 rfl) (by decide) (by decide)) (by decide) (by decide) rfl fun vm45 T45 h45 v45 w45 q45 => ?_
              obtain ⟨_, rfl, r, ff, cK, rfl, X45, Er, Fd, Ft, Mk, Cl⟩ := q45
              show Go _ _ _ _ (T45.setTop (mkF X.m 184 #[.val (.int x0), .val (.int x1), .val (.int x2), .val (.int x3), .val (.int x4), .val (.ref a), .val (.ref b), .val (.ref c), .val (.ref d), .val (.int size), .val (.int pick), .val (.ref tx), .val (.ref s1), .val (.int (1 : Int32)), .val (.int (1 : Int32)), .unset] [(.ref r)]))
              replace Sa := Sa.ext X45
              replace Sb := Sb.ext X45
              replace Sd := Sd.ext X45
              replace Stx := Stx.ext X45
              replace Es := Es.ext X45
              replace F0 := F0.ext X45
              replace F1 := F1.ext X45
              replace Em := Em.ext X45
              refine w45.astore (q := 186) (L2 := #[.val (.int x0), .val (.int x1), .val (.int x2), .val (.int x3), .val (.int x4), .val (.ref a), .val (.ref b), .val (.ref c), .val (.ref d), .val (.int size), .val (.int pick), .val (.ref tx), .val (.ref s1), .val (.int (1 : Int32)), .val (.int (1 : Int32)), .val (.ref r)]) at_184 rfl rfl rfl ?_
              refine w45.aload (q := 188) at_186 rfl rfl rfl ?_
              refine w45.callV (q := 191) at_188 (H.tw 60 rfl) (H.tw 61 rfl) (notFace_of_selects (C := "com/example/loomline/loomline/exchange/TextFormat") (args := G.a0) (H.tw 63 rfl)) (H.tw 63 rfl) (H.tw 62 rfl) (by decide) Er (argsL := []) (rest := []) rfl (lenOf pd42 rfl) rfl (W := 0) (Nat.le_of_eq rfl) ((con_desc G H r (.ref d) rfl h45 w45.old Fd).pay w45 (H.tw 64 rfl) (H.tw 35 rfl) (by decide) (by decide)) (by decide) (by decide) rfl fun vm46 T46 h46 v46 w46 q46 => ?_
              obtain ⟨_, rfl, rfl, rfl⟩ := q46
              show Go _ _ _ _ (T46.setTop (mkF X.m 191 #[.val (.int x0), .val (.int x1), .val (.int x2), .val (.int x3), .val (.int x4), .val (.ref a), .val (.ref b), .val (.ref c), .val (.ref d), .val (.int size), .val (.int pick), .val (.ref tx), .val (.ref s1), .val (.int (1 : Int32)), .val (.int (1 : Int32)), .val (.ref r)] [(.ref d)]))
              refine w46.aload (q := 193) at_191 rfl rfl rfl ?_
              refine w46.callV (q := 196) at_193 (H.tw 65 rfl) (H.tw 66 rfl) (notFace_of_selects (C := "java/lang/String") (args := G.a0) (H.tw 68 rfl)) (H.tw 68 rfl) (H.tw 67 rfl) (by decide) Sd.exa (argsL := [(.ref d)]) (rest := []) rfl (lenOf pd21 rfl) rfl (W := 0) (Nat.le_of_eq rfl) (pay_eq w46 H.weq (H.tw 5 rfl) H.cz Sd Sd (by decide) (by decide)) (by decide) (by decide) rfl fun vm47 T47 h47 v47 w47 q47 => ?_
              obtain ⟨_, rfl, rfl, rfl⟩ := q47
              show Go _ _ _ _ (T47.setTop (mkF X.m 196 #[.val (.int x0), .val (.int x1), .val (.int x2), .val (.int x3), .val (.int x4), .val (.ref a), .val (.ref b), .val (.ref c), .val (.ref d), .val (.int size), .val (.int pick), .val (.ref tx), .val (.ref s1), .val (.int (1 : Int32)), .val (.int (1 : Int32)), .val (.ref r)] [(.int (if cd = cd then 1 else 0))]))
              refine w47.ifN (q := 199) at_196 ((if0 _ _).trans (feq (by rw [if_pos rfl]; decide)).1) rfl ?_
              refine w47.aload (q := 201) at_199 rfl rfl rfl ?_
              refine w47.aload (q := 203) at_201 rfl rfl rfl ?_
              refine w47.callV (q := 206) at_203 (H.tw 70 rfl) (H.tw 71 rfl) (notFace_of_selects (C := "com/example/loomline/loomline/exchange/TextFormat") (args := G.a0) (H.tw 73 rfl)) (H.tw 73 rfl) (H.tw 72 rfl) (by decide) Er (argsL := [(.ref tx)]) (rest := []) rfl (lenOf pd43 rfl) rfl (W := 0) (Nat.le_of_eq rfl) ((con_m1 G H r tx ff s1 cK ct a em ca h45 w47.old Ft Mk Cl Es Stx F0 F1 Sa Em).pay w47 (H.tw 74 rfl) (H.tw 35 rfl) (by decide) (by decide)) (by decide) (by decide) rfl fun vm48 T48 h48 v48 w48 q48 => ?_
              obtain ⟨_, rfl, rfl, rfl⟩ := q48
              show Go _ _ _ _ (T48.setTop (mkF X.m 206 #[.val (.int x0), .val (.int x1), .val (.int x2), .val (.int x3), .val (.int x4), .val (.ref a), .val (.ref b), .val (.ref c), .val (.ref d), .val (.int size), .val (.int pick), .val (.ref tx), .val (.ref s1), .val (.int (1 : Int32)), .val (.int (1 : Int32)), .val (.ref r)] [(.int (if ct = ca then 1 else 0))]))
              refine w48.iload (q := 208) at_206 rfl rfl ?_
              refine w48.icN (q := 211) at_208 ((teq eqT).2) rfl ?_
              refine w48.aload (q := 213) at_211 rfl rfl rfl ?_
              refine w48.aload (q := 215) at_213 rfl rfl rfl ?_
              refine w48.callV (q := 218) at_215 (H.tw 70 rfl) (H.tw 71 rfl) (notFace_of_selects (C := "com/example/loomline/loomline/exchange/TextFormat") (args := G.a0) (H.tw 73 rfl)) (H.tw 73 rfl) (H.tw 72 rfl) (by decide) Er (argsL := [(.ref a)]) (rest := []) rfl (lenOf pd43 rfl) rfl (W := 0) (Nat.le_of_eq rfl) ((con_m1 G H r a ff s1 cK ca a em ca h45 w48.old Ft Mk Cl Es Sa F0 F1 Sa Em).pay w48 (H.tw 74 rfl) (H.tw 35 rfl) (by decide) (by decide)) (by decide) (by decide) rfl fun vm49 T49 h49 v49 w49 q49 => ?_
              obtain ⟨_, rfl, rfl, rfl⟩ := q49
              show Go _ _ _ _ (T49.setTop (mkF X.m 218 #[.val (.int x0), .val (.int x1), .val (.int x2), .val (.int x3), .val (.int x4), .val (.ref a), .val (.ref b), .val (.ref c), .val (.ref d), .val (.int size), .val (.int pick), .val (.ref tx), .val (.ref s1), .val (.int (1 : Int32)), .val (.int (1 : Int32)), .val (.ref r)] [(.int (if ca = ca then 1 else 0))]))
              refine w49.iload (q := 220) at_218 rfl rfl ?_
              refine w49.icN (q := 223) at_220 ((teq (if_pos rfl)).2) rfl ?_
              refine w49.iconst (q := 224) (1 : Int32) at_223 rfl rfl ?_
              refine w49.goto (q := 228) at_224 (by decide) (by decide) ?_
              exact w49.retZ at_228 (t := .boolean) rfl (by decide) rfl (by decide) (by decide) ⟨_, rfl, rfl⟩
          ·
            refine w38.ifY (q := 167) at_154 ((if0 _ _).trans (feq z3).2) (by decide) (by decide) ?_
            have eqT : (if ct = ca then (1 : Int32) else 0) = 1 := if_pos (ite_yes z3)
            refine w38.iconst (q := 168) (1 : Int32) at_167 rfl rfl ?_
            refine w38.goto (q := 172) at_168 (by decide) (by decide) ?_
            refine w38.istore (q := 174) (L2 := #[.val (.int x0), .val (.int x1), .val (.int x2), .val (.int x3), .val (.int x4), .val (.ref a), .val (.ref b), .val (.ref c), .val (.ref d), .val (.int size), .val (.int pick), .val (.ref tx), .val (.ref s1), .val (.int (1 : Int32)), .unset, .unset]) at_172 rfl rfl ?_
            refine w38.iconst (q := 175) (1 : Int32) at_174 rfl rfl ?_
            refine w38.istore (q := 177) (L2 := #[.val (.int x0), .val (.int x1), .val (.int x2), .val (.int x3), .val (.int x4), .val (.ref a), .val (.ref b), .val (.ref c), .val (.ref d), .val (.int size), .val (.int pick), .val (.ref tx), .val (.ref s1), .val (.int (1 : Int32)), .val (.int (1 : Int32)), .unset]) at_175 rfl rfl ?_
            refine w38.aload (q := 179) at_177 rfl rfl rfl ?_
            refine w38.aload (q := 181) at_179 rfl rfl rfl ?_
            refine w38.callS (q := 184) at_181 (H.tw 33 rfl) (H.tw 34 rfl) (H.tw 35 rfl) (H.tw 36 rfl) (by decide) (argsL := [(.ref d), (.ref s1)]) (rest := []) rfl (lenOf pd41 rfl) rfl (W := 0) (Nat.le_of_eq rfl) ((con_one G H d s1 h37 w38.old).pay w38 (H.tw 36 rfl) (H.tw 35 rfl) (by decide) (by decide)) (by decide) (by decide) rfl fun vm50 T50 h50 v50 w50 q50 => ?_
            obtain ⟨_, rfl, r, ff, cK, rfl, X50, Er, Fd, Ft, Mk, Cl⟩ := q50
            show Go _ _ _ _ (T50.setTop (mkF X.m 184 #[.val (.int x0), .val (.int x1), .val (.int x2), .val (.int x3), .val (.int x4), .val (.ref a), .val (.ref b), .val (.ref c), .val (.ref d), .val (.int size), .val (.int pick), .val (.ref tx), .val (.ref s1), .val (.int (1 : Int32)), .val (.int (1 : Int32)), .unset] [(.ref r)]))
            replace Sa := Sa.ext X50
            replace Sb := Sb.ext X50
            replace Sd := Sd.ext X50
            replace Stx := Stx.ext X50
            replace Es := Es.ext X50
            replace F0 := F0.ext X50
            replace F1 := F1.ext X50
            replace Em := Em.ext X50
            refine w50.astore (q := 186) (L2 := #[.val (.int x0), .val (.int x1), .val (.int x2), .val (.int x3), .val (.int x4), .val (.ref a), .val (.ref b), .val (.ref c), .val (.ref d), .val (.int size), .val (.int pick), .val (.ref tx), .val (.ref s1), .val (.int (1 : Int32)), .val (.int (1 : Int32)), .val (.ref r)]) at_184 rfl rfl rfl ?_
            refine w50.aload (q := 188) at_186 rfl rfl rfl ?_
            refine w50.callV (q := 191) at_188 (H.tw 60 rfl) (H.tw 61 rfl) (notFace_of_selects (C := "com/example/loomline/loomline/exchange/TextFormat") (args := G.a0) (H.tw 63 rfl)) (H.tw 63 rfl) (H.tw 62 rfl) (by decide) Er (argsL := []) (rest := []) rfl (lenOf pd42 rfl) rfl (W := 0) (Nat.le_of_eq rfl) ((con_desc G H r (.ref d) rfl h50 w50.old Fd).pay w50 (H.tw 64 rfl) (H.tw 35 rfl) (by decide) (by decide)) (by decide) (by decide) rfl fun vm51 T51 h51 v51 w51 q51 => ?_
            obtain ⟨_, rfl, rfl, rfl⟩ := q51
            show Go _ _ _ _ (T51.setTop (mkF X.m 191 #[.val (.int x0), .val (.int x1), .val (.int x2), .val (.int x3), .val (.int x4), .val (.ref a), .val (.ref b), .val (.ref c), .val (.ref d), .val (.int size), .val (.int pick), .val (.ref tx), .val (.ref s1), .val (.int (1 : Int32)), .val (.int (1 : Int32)), .val (.ref r)] [(.ref d)]))
            refine w51.aload (q := 193) at_191 rfl rfl rfl ?_
            refine w51.callV (q := 196) at_193 (H.tw 65 rfl) (H.tw 66 rfl) (notFace_of_selects (C := "java/lang/String") (args := G.a0) (H.tw 68 rfl)) (H.tw 68 rfl) (H.tw 67 rfl) (by decide) Sd.exa (argsL := [(.ref d)]) (rest := []) rfl (lenOf pd21 rfl) rfl (W := 0) (Nat.le_of_eq rfl) (pay_eq w51 H.weq (H.tw 5 rfl) H.cz Sd Sd (by decide) (by decide)) (by decide) (by decide) rfl fun vm52 T52 h52 v52 w52 q52 => ?_
            obtain ⟨_, rfl, rfl, rfl⟩ := q52
            show Go _ _ _ _ (T52.setTop (mkF X.m 196 #[.val (.int x0), .val (.int x1), .val (.int x2), .val (.int x3), .val (.int x4), .val (.ref a), .val (.ref b), .val (.ref c), .val (.ref d), .val (.int size), .val (.int pick), .val (.ref tx), .val (.ref s1), .val (.int (1 : Int32)), .val (.int (1 : Int32)), .val (.ref r)] [(.int (if cd = cd then 1 else 0))]))
            refine w52.ifN (q := 199) at_196 ((if0 _ _).trans (feq (by rw [if_pos rfl]; decide)).1) rfl ?_
            refine w52.aload (q := 201) at_199 rfl rfl rfl ?_
            refine w52.aload (q := 203) at_201 rfl rfl rfl ?_
            refine w52.callV (q := 206) at_203 (H.tw 70 rfl) (H.tw 71 rfl) (notFace_of_selects (C := "com/example/loomline/loomline/exchange/TextFormat") (args := G.a0) (H.tw 73 rfl)) (H.tw 73 rfl) (H.tw 72 rfl) (by decide) Er (argsL := [(.ref tx)]) (rest := []) rfl (lenOf pd43 rfl) rfl (W := 0) (Nat.le_of_eq rfl) ((con_m1 G H r tx ff s1 cK ct a em ca h50 w52.old Ft Mk Cl Es Stx F0 F1 Sa Em).pay w52 (H.tw 74 rfl) (H.tw 35 rfl) (by decide) (by decide)) (by decide) (by decide) rfl fun vm53 T53 h53 v53 w53 q53 => ?_
            obtain ⟨_, rfl, rfl, rfl⟩ := q53
            show Go _ _ _ _ (T53.setTop (mkF X.m 206 #[.val (.int x0), .val (.int x1), .val (.int x2), .val (.int x3), .val (.int x4), .val (.ref a), .val (.ref b), .val (.ref c), .val (.ref d), .val (.int size), .val (.int pick), .val (.ref tx), .val (.ref s1), .val (.int (1 : Int32)), .val (.int (1 : Int32)), .val (.ref r)] [(.int (if ct = ca then 1 else 0))]))
            refine w53.iload (q := 208) at_206 rfl rfl ?_
            refine w53.icN (q := 211) at_208 ((teq eqT).2) rfl ?_
            refine w53.aload (q := 213) at_211 rfl rfl rfl ?_
            refine w53.aload (q := 215) at_213 rfl rfl rfl ?_
            refine w53.callV (q := 218) at_215 (H.tw 70 rfl) (H.tw 71 rfl) (notFace_of_selects (C := "com/example/loomline/loomline/exchange/TextFormat") (args := G.a0) (H.tw 73 rfl)) (H.tw 73 rfl) (H.tw 72 rfl) (by decide) Er (argsL := [(.ref a)]) (rest := []) rfl (lenOf pd43 rfl) rfl (W := 0) (Nat.le_of_eq rfl) ((con_m1 G H r a ff s1 cK ca a em ca h50 w53.old Ft Mk Cl Es Sa F0 F1 Sa Em).pay w53 (H.tw 74 rfl) (H.tw 35 rfl) (by decide) (by decide)) (by decide) (by decide) rfl fun vm54 T54 h54 v54 w54 q54 => ?_
            obtain ⟨_, rfl, rfl, rfl⟩ := q54
            show Go _ _ _ _ (T54.setTop (mkF X.m 218 #[.val (.int x0), .val (.int x1), .val (.int x2), .val (.int x3), .val (.int x4), .val (.ref a), .val (.ref b), .val (.ref c), .val (.ref d), .val (.int size), .val (.int pick), .val (.ref tx), .val (.ref s1), .val (.int (1 : Int32)), .val (.int (1 : Int32)), .val (.ref r)] [(.int (if ca = ca then 1 else 0))]))
            refine w54.iload (q := 220) at_218 rfl rfl ?_
            refine w54.icN (q := 223) at_220 ((teq (if_pos rfl)).2) rfl ?_
            refine w54.iconst (q := 224) (1 : Int32) at_223 rfl rfl ?_
            refine w54.goto (q := 228) at_224 (by decide) (by decide) ?_
            exact w54.retZ at_228 (t := .boolean) rfl (by decide) rfl (by decide) (by decide) ⟨_, rfl, rfl⟩
  by_cases p0 : pick = (0 : Int32)
  ·
    refine w4.ifN (q := 51) at_48 ((if0 _ _).trans (teq p0).2) rfl ?_
    refine w4.aload (q := 53) at_51 rfl rfl rfl ?_
    refine w4.goto (q := 69) at_53 (by decide) (by decide) ?_
    refine w4.astore (q := 71) (L2 := #[.val (.int x0), .val (.int x1), .val (.int x2), .val (.int x3), .val (.int x4), .val (.ref a), .val (.ref b), .val (.ref c), .val (.ref d), .val (.int size), .val (.int pick), .val (.ref a), .unset, .unset, .unset, .unset]) at_69 rfl rfl rfl ?_
    exact key a ca Sa
  ·
    refine w4.ifY (q := 56) at_48 ((if0 _ _).trans (feq p0).2) (by decide) (by decide) ?_
    refine w4.iload (q := 58) at_56 rfl rfl ?_
    refine w4.iconst (q := 59) (1 : Int32) at_58 rfl rfl ?_
    by_cases p1 : pick = (1 : Int32)
    ·
      refine w4.icN (q := 62) at_59 ((teq p1).2) rfl ?_
      refine w4.aload (q := 64) at_62 rfl rfl rfl ?_
      refine w4.goto (q := 69) at_64 (by decide) (by decide) ?_
      refine w4.astore (q := 71) (L2 := #[.val (.int x0), .val (.int x1), .val (.int x2), .val (.int x3), .val (.int x4), .val (.ref a), .val (.ref b), .val (.ref c), .val (.ref d), .val (.int size), .val (.int pick), .val (.ref b), .unset, .unset, .unset, .unset]) at_69 rfl rfl rfl ?_
      exact key b cb Sb
    ·
      refine w4.icY (q := 67) at_59 ((feq p1).2) (by decide) (by decide) ?_
      refine w4.aload (q := 69) at_67 rfl rfl rfl ?_
      refine w4.astore (q := 71) (L2 := #[.val (.int x0), .val (.int x1), .val (.int x2), .val (.int x3), .val (.int x4), .val (.ref a), .val (.ref b), .val (.ref c), .val (.ref d), .val (.int size), .val (.int pick), .val (.ref c), .unset, .unset, .unset, .unset]) at_69 rfl rfl rfl ?_
      exact key c cc Sc
set_option maxRecDepth 65536 in
set_option maxHeartbeats 40000000 in
theorem comes_1 {Post : Tables → Env → Array Value → State → Outcome → State → Prop} (hpost : ∀ tb e args s v u, (limb_1_1.after args s (.returned v) u = true ∧ limb_1_2.after args s (.returned v) u = true ∧ True) → ReturnedEndW s (.returned v) u (Jvm.fieldLocs frame_1_writes args s ++ Jvm.arrayLocs frame_1_arrays args s ++ Jvm.staticLocs frame_1_statics s) 40 1216 → Post tb e args s (.returned v) u) :
    ArmFor flags0 classFile x code maxLocals ret World_1 tables_1 room_1 Calls_1 rest_1 Pre_1 Post := by
  intro l hfl _ _ p e ha hc hk s m args below hf hA hF happ hP
  obtain ⟨hcalls, hrest, hpre⟩ := hP
  obtain ⟨-, -, -, hnamed, -, -, -, hat⟩ := (Spec.applies_iff hf).mp happ
  obtain ⟨hg, hn⟩ := and_e (Cond.before_iff.mp (show (Jvm.Cond.and given_1 narrow_1).before args s = true from hpre))
  obtain ⟨h1, g0⟩ := and_e hg
  obtain ⟨w0, w1, w2, w3, w4, rfl⟩ : ∃ w0 w1 w2 w3 w4 : Value, args = #[w0, w1, w2, w3, w4] := by
    have hs : args.size = 5 := by simpa [Cond.value, given_1] using h1
    obtain ⟨L⟩ := args
    match L, hs with
    | [w0, w1, w2, w3, w4], _ => exact ⟨w0, w1, w2, w3, w4, rfl⟩
  have hw := fun d (hd : d ∈ tables_1) => atoms_spec (ws := Jvm.Cond.code x code maxLocals ret :: tables_1) hat d (List.mem_cons_of_mem _ hd)
  obtain ⟨hsets, hown0⟩ := atoms_of _ (rest_1_c_eq ▸ (show rest_1_c.before _ s = true from hrest))
  have hfit : Fit s := fun {y c} hc i hi => by
    obtain ⟨ha, rfl⟩ := Array.getElem?_eq_some_iff.mp hc
    have q := List.all_eq_true.mp ((Array.all_eq_true_iff_forall_mem.mp hF) _ (Array.getElem_mem ha)) i (List.mem_range.mpr hi)
    simpa [Array.getElem?_eq_getElem hi] using q
  obtain ⟨q0, g1⟩ := and_e g0
  obtain ⟨x0, e0⟩ := is_v q0
  obtain rfl : w0 = (.int x0) := Option.some.inj e0
  obtain ⟨q1, g2⟩ := and_e g1
  obtain ⟨x1, e1⟩ := is_v q1
  obtain rfl : w1 = (.int x1) := Option.some.inj e1
  obtain ⟨q2, g3⟩ := and_e g2
  obtain ⟨x2, e2⟩ := is_v q2
  obtain rfl : w2 = (.int x2) := Option.some.inj e2
  obtain ⟨q3, g4⟩ := and_e g3
  obtain ⟨x3, e3⟩ := is_v q3
  obtain rfl : w3 = (.int x3) := Option.some.inj e3
  obtain ⟨x4, e4⟩ := is_v g4
  obtain rfl : w4 = (.int x4) := Option.some.inj e4
  obtain ⟨cz, ez⟩ := is_v (Cond.before_iff.mp (hsets _ (List.mem_of_getElem? (i := 17) rfl)))
  have Sz : Sta s s.heap "java/lang/String" "COMPACT_STRINGS" "Z" (.int cz) := Sta.start ez (Or.inl (hsets _ (List.mem_of_getElem? (i := 16) rfl)))
  have nz : ¬ (cz = (0 : Int32)) := gotF (Cond.eq_ints ez (Term.int_eval (0))) (not_v (Cond.before_iff.mp (hsets _ (List.mem_of_getElem? (i := 18) rfl))))
  obtain ⟨vf, ef, rf⟩ := isR_v (Cond.before_iff.mp (hsets _ (List.mem_of_getElem? (i := 24) rfl)))
  have Sf : Sta s s.heap "jdk/internal/util/Preconditions" "SIOOBE_FORMATTER" "Ljava/util/function/BiFunction;" vf := Sta.start ef (Or.inl (hsets _ (List.mem_of_getElem? (i := 23) rfl)))
  have hEL : EW s _ consts_1 := (EW.cons (hw _ (List.mem_of_getElem? (i := 18) rfl)) (by decide) EW.nil)
  have hCH : CHv s consts_1 s.vm s.heap := CHv.start hEL (fun p hp => hcalls.1 p hp) (hsets _ (List.mem_of_getElem? (i := 18) rfl)) (hw _ (List.mem_of_getElem? (i := 19) rfl)) (hw _ (List.mem_of_getElem? (i := 5) rfl))
  obtain ⟨es, eve⟩ := exa_v (Cond.before_iff.mp (hsets _ (List.mem_of_getElem? (i := 2) rfl)))
  have Ses : Sta s s.heap "java/util/ImmutableCollections" "EMPTY_SET" "Ljava/util/ImmutableCollections$SetN;" (.ref es) := Sta.start eve (Or.inl (hsets _ (List.mem_of_getElem? (i := 1) rfl)))
  have Ees : Exa s s.heap es "java/util/ImmutableCollections$SetN" := Exa.start eve (Cond.before_iff.mp (hsets _ (List.mem_of_getElem? (i := 2) rfl)))
  have ep := eqv_i (Term.int_eval (0)) (Cond.before_iff.mp (hsets _ (List.mem_of_getElem? (i := 6) rfl)))
  have Fes : Fld s s.heap es "java/util/ImmutableCollections$SetN" "size" "I" (.int 0) := Fld.start ((fld_at eve).symm.trans ep)
  obtain ⟨em, evm⟩ := exa_v (Cond.before_iff.mp (hsets _ (List.mem_of_getElem? (i := 9) rfl)))
  have Sem : Sta s s.heap "java/util/ImmutableCollections" "EMPTY" "Ljava/lang/Object;" (.ref em) := Sta.start evm (Or.inl (hsets _ (List.mem_of_getElem? (i := 8) rfl)))
  have Eem : Exa s s.heap em "java/lang/Object" := Exa.start evm (Cond.before_iff.mp (hsets _ (List.mem_of_getElem? (i := 9) rfl)))
  let G : Gx := (true, l, s, #[(.int x0), (.int x1), (.int x2), (.int x3), (.int x4)], consts_1, s.heap.size)
  have H : Hyp G := ⟨hw, hEL, ⟨cz, nz, Sz⟩, ⟨rfl, rfl⟩, ⟨es, em, Ses, Ees, Fes, Sem, Eem⟩⟩
  obtain ⟨n, o, h1, h2, h3, _, L, rfl, ⟨⟨_, rfl, rfl⟩, N, -⟩, -, hq⟩ := con_law G H x0 x1 x2 x3 x4 s.heap (Old.start s) p e ha hc hk s m _ below hf ((Spec.applies_iff_loose hf).mp happ).1 ⟨rfl, State.Warmed39.refl s, rfl, fun _ => hCH⟩ trivial
  refine ⟨n, _, h1, h2, h3, hpost _ _ _ _ _ _ ⟨Cond.after_iff.mpr rfl, Cond.after_iff.mpr (eq_i res_at (Term.int_eval (1)) rfl), trivial⟩ ⟨hq.1.1, hq.1.2.1, hq.1.2.2.1, (hq.1.2.2.2.sift fun y hy => Or.inr (N y hy)).mono (by decide) (by decide)⟩⟩
theorem main_1_1 : Claimed_1_1 := comes_1 fun _ _ _ _ _ _ h hF => ⟨h.1, hF⟩
theorem main_1_2 : Claimed_1_2 := comes_1 fun _ _ _ _ _ _ h hF => ⟨h.2.1, hF⟩
end Jvm.Pilot.@@N@@
namespace Jvm.Pilot.@@N@@
open Jvm Jvm.ClassFile Sem Op Lib Jvm.Free Jvm.Stand Jvm.Pilot.@@N@@.Jvm.D
/-! MADE BY PROGRAM (witnessworld.py) out of the Statement's table words and the real class files: 39 classes; the members and pool entries that the words name. The judged class is class 1, her method 2. -/
namespace start1
open Jvm.ClassFile
def u (s : String) : CpInfo := .utf8 (stringToUtf16 s)
/-- a pool by its gaps: so many unusable entries, then the entry; so many at the end -/
def gap : Nat → List CpInfo → List CpInfo
  | 0, r => r
  | n + 1, r => .unusable :: gap n r
def poolList (es : List (Nat × CpInfo)) (last : Nat) : List CpInfo := es.foldr (fun e r => gap e.1 (e.2 :: r)) (gap last [])
def pool (es : List (Nat × CpInfo)) (last : Nat) : Array CpInfo := ⟨poolList es last⟩
def fileOf (pool : Array CpInfo) (this : Nat) (attrs : Array Attribute := #[]) (ms : Array MethodInfo := #[]) (fl : Nat := 33) (sup : Nat := 0) (ifs : Array Nat := #[]) (fds : Array FieldInfo := #[]) : ClassFile where
  minorVersion := 0
  majorVersion := 65
  constantPool := pool
  accessFlags := fl
  thisClass := this
  superClass := sup
  interfaces := ifs
  fields := fds
  methods := ms
  attributes := attrs
def plain (name : String) (sup : Option ClassId) : Class where
  name := name
  kind := .ordinary
  loader := none
  accessFlags := 33
  super := sup
  interfaces := #[]
  cf := none
  fields := #[]
  methods := #[]
  instanceTypes := #[]
  staticTypes := #[]
  resolved := #[]
  callSites := []
  init := .initialized
  statics := none
  mirror := none

def pool0 : Array CpInfo := pool [(5, u "<init>"), (0, u "()V"), (1, .class_ 10), (1, u "java/lang/Object"), (81, u "equals"), (0, u "(Ljava/lang/Object;)Z")] 30

def k0c0 : Code := { maxStack := 0, maxLocals := 1, code := object_method_1_code, exceptionTable := #[], attributes := #[] }
def k0m0 : Method := { name := "<init>", desc := "()V", sig := { parameters := [], returnType := none }, accessFlags := 1, code := some k0c0 }
def k0c1 : Code := { maxStack := 2, maxLocals := 2, code := object_method_4_code, exceptionTable := #[], attributes := #[] }
def k0m1 : Method := { name := "equals", desc := "(Ljava/lang/Object;)Z", sig := { parameters := [(.object "java/lang/Object")], returnType := some .boolean }, accessFlags := 1, code := some k0c1 }
/-- java/lang/Object -/
def k0 : Class := { plain "java/lang/Object" none with
  accessFlags := 33
  interfaces := #[]
  cf := some (fileOf pool0 8 #[] #[{ accessFlags := 1, nameIndex := 5, descriptorIndex := 6, attributes := #[] }, { accessFlags := 1, nameIndex := 92, descriptorIndex := 93, attributes := #[] }] 33 0 #[] #[])
  fields := #[]
  methods := #[k0m0, k0m1]
  instanceTypes := #[]
  staticTypes := #[]
  resolved := Array.replicate 124 none
  statics := none }

def pool1 : Array CpInfo := pool [(2, .class_ 4), (1, u "java/lang/Object"), (0, u "<init>"), (0, u "()V"), (0, .class_ 8), (0, u "java/lang/String"), (0, .methodref 7 10), (0, .nameAndType 5 11), (0, u "([C)V"), (0, .methodref 13 14), (0, .class_ 15), (0, .nameAndType 16 17), (0, u "com/example/loomline/loomline/exchange/TextFormatOneOfPinLaw"), (0, u "drawn"), (0, u "(I)Ljava/lang/String;"), (0, .integer 2147483647), (0, .interfaceMethodref 20 21), (0, .class_ 22), (0, .nameAndType 23 24), (0, u "java/util/Set"), (0, u "of"), (0, u "()Ljava/util/Set;"), (0, .interfaceMethodref 20 26), (0, .nameAndType 23 27), (0, u "(Ljava/lang/Object;)Ljava/util/Set;"), (0, .methodref 7 29), (0, .nameAndType 30 31), (0, u "equals"), (0, u "(Ljava/lang/Object;)Z"), (0, .interfaceMethodref 20 33), (0, .nameAndType 23 34), (0, u "(Ljava/lang/Object;Ljava/lang/Object;)Ljava/util/Set;"), (0, .methodref 36 37), (0, .class_ 38), (0, .nameAndType 39 40), (0, u "com/example/loomline/loomline/exchange/TextFormat"), (0, u "oneOf"), (0, u "(Ljava/lang/String;Ljava/util/Set;)Lcom/example/loomline/loomline/exchange/TextFormat;"), (0, .methodref 36 42), (0, .nameAndType 43 44), (0, u "description"), (0, u "()Ljava/lang/String;"), (0, .methodref 36 46), (0, .nameAndType 47 48), (0, u "matches"), (0, u "(Ljava/lang/String;)Z"), (3, u "law"), (0, u "(IIIII)Z")] 2

def k1m0 : Method := { name := "<init>", desc := "()V", sig := { parameters := [], returnType := none }, accessFlags := 2, code := none }
def k1c1 : Code := { maxStack := 6, maxLocals := 4, code := method_2_code, exceptionTable := #[], attributes := #[] }
def k1m1 : Method := { name := "drawn", desc := "(I)Ljava/lang/String;", sig := { parameters := [.int], returnType := some (.object "java/lang/String") }, accessFlags := 10, code := some k1c1 }
def k1c2 : Code := { maxStack := 2, maxLocals := 16, code := code, exceptionTable := #[], attributes := #[] }
def k1m2 : Method := { name := "law", desc := "(IIIII)Z", sig := { parameters := [.int, .int, .int, .int, .int], returnType := some .boolean }, accessFlags := 9, code := some k1c2 }
/-- com/example/loomline/loomline/exchange/TextFormatOneOfPinLaw -/
def k1 : Class := { plain "com/example/loomline/loomline/exchange/TextFormatOneOfPinLaw" (some 0) with
  accessFlags := 49
  interfaces := #[]
  cf := some (fileOf pool1 13 #[] #[{ accessFlags := 2, nameIndex := 5, descriptorIndex := 6, attributes := #[] }, { accessFlags := 10, nameIndex := 16, descriptorIndex := 17, attributes := #[] }, { accessFlags := 9, nameIndex := 52, descriptorIndex := 53, attributes := #[] }] 49 2 #[] #[])
  fields := #[]
  methods := #[k1m0, k1m1, k1m2]
  instanceTypes := #[]
  staticTypes := #[]
  resolved := Array.replicate 56 none
  statics := none }

def pool2 : Array CpInfo := pool [(1, .class_ 2), (0, u "java/io/Serializable"), (0, .class_ 4), (0, u "java/lang/Object")] 2

/-- java/io/Serializable -/
def k2 : Class := { plain "java/io/Serializable" (some 0) with
  accessFlags := 1537
  interfaces := #[]
  cf := some (fileOf pool2 1 #[] #[] 1537 3 #[] #[])
  fields := #[]
  methods := #[]
  instanceTypes := #[]
  staticTypes := #[]
  resolved := Array.replicate 7 none
  statics := none }

def pool3 : Array CpInfo := pool [(1, .class_ 2), (0, u "java/lang/Comparable"), (0, .class_ 4), (0, u "java/lang/Object")] 7

/-- java/lang/Comparable -/
def k3 : Class := { plain "java/lang/Comparable" (some 0) with
  accessFlags := 1537
  interfaces := #[]
  cf := some (fileOf pool3 1 #[] #[] 1537 3 #[] #[])
  fields := #[]
  methods := #[]
  instanceTypes := #[]
  staticTypes := #[]
  resolved := Array.replicate 12 none
  statics := none }

def pool4 : Array CpInfo := pool [(2, .class_ 4), (1, u "java/lang/CharSequence"), (42, .class_ 48), (0, u "java/lang/CharSequence$1CodePointIterator"), (10, .class_ 60), (0, u "java/lang/CharSequence$1CharIterator"), (5, .class_ 67), (0, u "java/lang/Object")] 63

/-- java/lang/CharSequence -/
def k4 : Class := { plain "java/lang/CharSequence" (some 0) with
  accessFlags := 1537
  interfaces := #[]
  cf := some (fileOf pool4 2 #[.nestMembers #[47, 59]] #[] 1537 66 #[] #[])
  fields := #[]
  methods := #[]
  instanceTypes := #[]
  staticTypes := #[]
  resolved := Array.replicate 131 none
  statics := none }

def pool5 : Array CpInfo := pool [(1, .class_ 2), (0, u "java/lang/constant/Constable"), (0, .class_ 4), (0, u "java/lang/Object")] 6

/-- java/lang/constant/Constable -/
def k5 : Class := { plain "java/lang/constant/Constable" (some 0) with
  accessFlags := 1537
  interfaces := #[]
  cf := some (fileOf pool5 1 #[] #[] 1537 3 #[] #[])
  fields := #[]
  methods := #[]
  instanceTypes := #[]
  staticTypes := #[]
  resolved := Array.replicate 11 none
  statics := none }

def pool6 : Array CpInfo := pool [(1, .class_ 2), (0, u "java/lang/constant/ConstantDesc"), (0, .class_ 4), (0, u "java/lang/Object")] 32

/-- java/lang/constant/ConstantDesc -/
def k6 : Class := { plain "java/lang/constant/ConstantDesc" (some 0) with
  accessFlags := 1537
  interfaces := #[]
  cf := some (fileOf pool6 1 #[] #[] 1537 3 #[] #[])
  fields := #[]
  methods := #[]
  instanceTypes := #[]
  staticTypes := #[]
  resolved := Array.replicate 37 none
  statics := none }

def pool7 : Array CpInfo := pool [(1, .methodref 2 3), (0, .class_ 4), (0, .nameAndType 5 6), (0, u "java/lang/Object"), (0, u "<init>"), (0, u "()V"), (0, .string 8), (0, u ""), (0, .fieldref 10 11), (0, .class_ 12), (0, .nameAndType 13 14), (0, u "java/lang/String"), (0, u "value"), (0, u "[B"), (0, .fieldref 10 16), (0, .nameAndType 17 18), (0, u "coder"), (0, u "B"), (2, u "hash"), (0, u "I"), (2, u "hashIsZero"), (0, u "Z"), (0, .methodref 10 28), (0, .nameAndType 5 29), (0, u "([CIILjava/lang/Void;)V"), (8, .fieldref 10 39), (0, .nameAndType 40 26), (0, u "COMPACT_STRINGS"), (1, .class_ 44), (1, u "java/lang/StringUTF16"), (0, u "compress"), (1, .methodref 42 48), (0, .nameAndType 49 50), (0, u "coderFromArrayLen"), (0, u "([BI)B"), (56, .class_ 109), (1, u "java/lang/StringLatin1"), (67, .methodref 42 178), (0, .nameAndType 45 179), (0, u "([CII)[B"), (361, .methodref 107 542), (0, .nameAndType 543 544), (0, u "equals"), (0, u "([B[B)Z"), (28, u "(Ljava/lang/Object;)Z"), (1, .class_ 576), (0, u "java/lang/CharSequence"), (22, u "CASE_INSENSITIVE_ORDER"), (0, u "Ljava/util/Comparator;"), (409, u "([C)V"), (90, u "serialPersistentFields"), (0, u "[Ljava/io/ObjectStreamField;"), (0, .class_ 1104), (0, u "java/lang/String$CaseInsensitiveComparator"), (1, .class_ 1107), (0, u "java/io/Serializable"), (0, .class_ 1109), (0, u "java/lang/Comparable"), (0, .class_ 1111), (0, u "java/lang/constant/Constable"), (0, .class_ 1113), (0, u "java/lang/constant/ConstantDesc"), (2, u "serialVersionUID"), (0, u "J"), (3, u "REPL"), (0, u "C"), (2, u "LATIN1"), (1, u "UTF16")] 323

def k7m0 : Method := { name := "<init>", desc := "()V", sig := { parameters := [], returnType := none }, accessFlags := 1, code := none }
def k7c1 : Code := { maxStack := 5, maxLocals := 2, code := jdk_42_method_3_code, exceptionTable := #[], attributes := #[] }
def k7m1 : Method := { name := "<init>", desc := "([C)V", sig := { parameters := [(.array .char)], returnType := none }, accessFlags := 1, code := some k7c1 }
def k7c2 : Code := { maxStack := 2, maxLocals := 3, code := jdk_42_method_66_code, exceptionTable := #[], attributes := #[] }
def k7m2 : Method := { name := "equals", desc := "(Ljava/lang/Object;)Z", sig := { parameters := [(.object "java/lang/Object")], returnType := some .boolean }, accessFlags := 1, code := some k7c2 }
def k7c3 : Code := { maxStack := 4, maxLocals := 6, code := jdk_42_method_149_code, exceptionTable := #[], attributes := #[] }
def k7m3 : Method := { name := "<init>", desc := "([CIILjava/lang/Void;)V", sig := { parameters := [(.array .char), .int, .int, (.object "java/lang/Void")], returnType := none }, accessFlags := 2, code := some k7c3 }
/-- java/lang/String -/
def k7 : Class := { plain "java/lang/String" (some 0) with
  accessFlags := 49
  interfaces := #[2, 3, 4, 5, 6]
  cf := some (fileOf pool7 10 #[.nestMembers #[1103]] #[{ accessFlags := 1, nameIndex := 5, descriptorIndex := 6, attributes := #[] }, { accessFlags := 1, nameIndex := 5, descriptorIndex := 1010, attributes := #[] }, { accessFlags := 1, nameIndex := 543, descriptorIndex := 573, attributes := #[] }, { accessFlags := 2, nameIndex := 5, descriptorIndex := 29, attributes := #[] }] 49 2 #[1106, 1108, 575, 1110, 1112] #[{ accessFlags := 18, nameIndex := 13, descriptorIndex := 14, attributes := #[] }, { accessFlags := 18, nameIndex := 17, descriptorIndex := 18, attributes := #[] }, { accessFlags := 2, nameIndex := 21, descriptorIndex := 22, attributes := #[] }, { accessFlags := 2, nameIndex := 25, descriptorIndex := 26, attributes := #[] }, { accessFlags := 26, nameIndex := 1116, descriptorIndex := 1117, attributes := #[] }, { accessFlags := 24, nameIndex := 40, descriptorIndex := 26, attributes := #[] }, { accessFlags := 26, nameIndex := 1101, descriptorIndex := 1102, attributes := #[] }, { accessFlags := 26, nameIndex := 1121, descriptorIndex := 1122, attributes := #[] }, { accessFlags := 25, nameIndex := 599, descriptorIndex := 600, attributes := #[] }, { accessFlags := 24, nameIndex := 1125, descriptorIndex := 18, attributes := #[] }, { accessFlags := 24, nameIndex := 1127, descriptorIndex := 18, attributes := #[] }])
  fields := #[{ name := "value", type := (.array .byte), accessFlags := 18, slot := 0, constantValue := 0 }, { name := "coder", type := .byte, accessFlags := 18, slot := 1, constantValue := 0 }, { name := "hash", type := .int, accessFlags := 2, slot := 2, constantValue := 0 }, { name := "hashIsZero", type := .boolean, accessFlags := 2, slot := 3, constantValue := 0 }, { name := "serialVersionUID", type := .long, accessFlags := 26, slot := 0, constantValue := 0 }, { name := "COMPACT_STRINGS", type := .boolean, accessFlags := 24, slot := 1, constantValue := 0 }, { name := "serialPersistentFields", type := (.array (.object "java/io/ObjectStreamField")), accessFlags := 26, slot := 2, constantValue := 0 }, { name := "REPL", type := .char, accessFlags := 26, slot := 3, constantValue := 0 }, { name := "CASE_INSENSITIVE_ORDER", type := (.object "java/util/Comparator"), accessFlags := 25, slot := 4, constantValue := 0 }, { name := "LATIN1", type := .byte, accessFlags := 24, slot := 5, constantValue := 0 }, { name := "UTF16", type := .byte, accessFlags := 24, slot := 6, constantValue := 0 }]
  methods := #[k7m0, k7m1, k7m2, k7m3]
  instanceTypes := #[(.array .byte), .byte, .int, .boolean]
  staticTypes := #[.long, .boolean, (.array (.object "java/io/ObjectStreamField")), .char, (.object "java/util/Comparator"), .byte, .byte]
  resolved := Array.replicate 1451 none
  statics := some 0 }

def pool8 : Array CpInfo := pool [(8, .class_ 10), (1, u "java/lang/Iterable"), (24, .class_ 36), (0, u "java/lang/Object")] 25

/-- java/lang/Iterable -/
def k8 : Class := { plain "java/lang/Iterable" (some 0) with
  accessFlags := 1537
  interfaces := #[]
  cf := some (fileOf pool8 8 #[] #[] 1537 35 #[] #[])
  fields := #[]
  methods := #[]
  instanceTypes := #[]
  staticTypes := #[]
  resolved := Array.replicate 62 none
  statics := none }

def pool9 : Array CpInfo := pool [(10, .class_ 12), (1, u "java/util/Collection"), (47, .class_ 61), (0, u "java/lang/Object"), (0, .class_ 63), (0, u "java/lang/Iterable")] 51

/-- java/util/Collection -/
def k9 : Class := { plain "java/util/Collection" (some 0) with
  accessFlags := 1537
  interfaces := #[8]
  cf := some (fileOf pool9 10 #[] #[] 1537 60 #[62] #[])
  fields := #[]
  methods := #[]
  instanceTypes := #[]
  staticTypes := #[]
  resolved := Array.replicate 115 none
  statics := none }

def pool10 : Array CpInfo := pool [(9, .fieldref 10 11), (0, .class_ 12), (0, .nameAndType 13 14), (0, u "java/util/ImmutableCollections"), (0, u "EMPTY_SET"), (0, u "Ljava/util/ImmutableCollections$SetN;"), (0, .class_ 16), (0, u "java/util/ImmutableCollections$Set12"), (0, .methodref 15 18), (0, .nameAndType 19 20), (0, u "<init>"), (0, u "(Ljava/lang/Object;)V"), (0, .methodref 15 22), (0, .nameAndType 19 23), (0, u "(Ljava/lang/Object;Ljava/lang/Object;)V"), (2, .class_ 27), (0, u "java/lang/Object"), (5, .class_ 34), (0, u "java/util/Set"), (1, .class_ 38), (1, u "java/util/Collection"), (4, u "of"), (0, u "()Ljava/util/Set;"), (14, u "contains"), (0, u "(Ljava/lang/Object;)Z"), (30, u "(Ljava/lang/Object;)Ljava/util/Set;"), (4, u "(Ljava/lang/Object;Ljava/lang/Object;)Ljava/util/Set;")] 47

def k10m0 : Method := { name := "contains", desc := "(Ljava/lang/Object;)Z", sig := { parameters := [(.object "java/lang/Object")], returnType := some .boolean }, accessFlags := 1025, code := none }
def k10c1 : Code := { maxStack := 1, maxLocals := 0, code := jdk_96_method_17_code, exceptionTable := #[], attributes := #[] }
def k10m1 : Method := { name := "of", desc := "()Ljava/util/Set;", sig := { parameters := [], returnType := some (.object "java/util/Set") }, accessFlags := 9, code := some k10c1 }
def k10c2 : Code := { maxStack := 3, maxLocals := 1, code := jdk_96_method_18_code, exceptionTable := #[], attributes := #[] }
def k10m2 : Method := { name := "of", desc := "(Ljava/lang/Object;)Ljava/util/Set;", sig := { parameters := [(.object "java/lang/Object")], returnType := some (.object "java/util/Set") }, accessFlags := 9, code := some k10c2 }
def k10c3 : Code := { maxStack := 4, maxLocals := 2, code := jdk_96_method_19_code, exceptionTable := #[], attributes := #[] }
def k10m3 : Method := { name := "of", desc := "(Ljava/lang/Object;Ljava/lang/Object;)Ljava/util/Set;", sig := { parameters := [(.object "java/lang/Object"), (.object "java/lang/Object")], returnType := some (.object "java/util/Set") }, accessFlags := 9, code := some k10c3 }
/-- java/util/Set -/
def k10 : Class := { plain "java/util/Set" (some 0) with
  accessFlags := 1537
  interfaces := #[9]
  cf := some (fileOf pool10 33 #[] #[{ accessFlags := 1025, nameIndex := 59, descriptorIndex := 60, attributes := #[] }, { accessFlags := 9, nameIndex := 43, descriptorIndex := 44, attributes := #[] }, { accessFlags := 9, nameIndex := 43, descriptorIndex := 91, attributes := #[] }, { accessFlags := 9, nameIndex := 43, descriptorIndex := 96, attributes := #[] }] 1537 26 #[36] #[])
  fields := #[]
  methods := #[k10m0, k10m1, k10m2, k10m3]
  instanceTypes := #[]
  staticTypes := #[]
  resolved := Array.replicate 144 none
  statics := none }

def pool11 : Array CpInfo := pool [(2, .class_ 4), (1, u "java/lang/Object"), (0, u "<init>"), (0, u "()V"), (3, .class_ 11), (0, u "java/util/ImmutableCollections$List12"), (0, .class_ 13), (0, u "java/util/ImmutableCollections$ListN"), (3, u "Z"), (29, .class_ 49), (1, u "java/util/ImmutableCollections"), (0, u "$assertionsDisabled"), (5, u "[Ljava/lang/Object;"), (5, u "EMPTY_LIST"), (0, u "Ljava/util/ImmutableCollections$ListN;"), (8, u "EMPTY_LIST_NULLS"), (22, u "SALT32L"), (0, u "J"), (2, u "REVERSE"), (6, u "archivedObjects"), (2, u "EMPTY"), (0, u "Ljava/lang/Object;"), (0, .class_ 112), (0, u "java/util/ImmutableCollections$SetN"), (5, u "EMPTY_SET"), (0, u "Ljava/util/ImmutableCollections$SetN;"), (0, .class_ 121), (0, u "java/util/ImmutableCollections$MapN"), (3, u "EMPTY_MAP"), (0, u "Ljava/util/ImmutableCollections$MapN;"), (4, u "EXPAND_FACTOR"), (0, u "I"), (36, .class_ 170), (0, u "java/util/ImmutableCollections$MapN$MapNIterator"), (0, .class_ 172), (0, u "java/util/ImmutableCollections$MapN$1"), (0, .class_ 174), (0, u "java/util/ImmutableCollections$Map1"), (0, .class_ 176), (0, u "java/util/ImmutableCollections$AbstractImmutableMap"), (0, .class_ 178), (0, u "java/util/ImmutableCollections$SetN$SetNIterator"), (0, .class_ 180), (0, u "java/util/ImmutableCollections$Set12"), (0, .class_ 182), (0, u "java/util/ImmutableCollections$Set12$1"), (0, .class_ 184), (0, u "java/util/ImmutableCollections$AbstractImmutableSet"), (0, .class_ 186), (0, u "java/util/ImmutableCollections$SubList"), (0, .class_ 188), (0, u "java/util/ImmutableCollections$ListItr"), (0, .class_ 190), (0, u "java/util/ImmutableCollections$AbstractImmutableList"), (0, .class_ 192), (0, u "java/util/ImmutableCollections$AbstractImmutableCollection"), (0, .class_ 194), (0, u "java/util/ImmutableCollections$Access"), (0, .class_ 196), (0, u "java/util/ImmutableCollections$Access$1")] 16

def k11m0 : Method := { name := "<init>", desc := "()V", sig := { parameters := [], returnType := none }, accessFlags := 2, code := none }
/-- java/util/ImmutableCollections -/
def k11 : Class := { plain "java/util/ImmutableCollections" (some 0) with
  accessFlags := 32
  interfaces := #[]
  cf := some (fileOf pool11 47 #[.nestMembers #[120, 169, 171, 173, 175, 111, 177, 179, 181, 183, 12, 10, 185, 187, 189, 191, 193, 195]] #[{ accessFlags := 2, nameIndex := 5, descriptorIndex := 6, attributes := #[] }] 32 2 #[] #[{ accessFlags := 26, nameIndex := 95, descriptorIndex := 96, attributes := #[] }, { accessFlags := 26, nameIndex := 99, descriptorIndex := 17, attributes := #[] }, { accessFlags := 10, nameIndex := 106, descriptorIndex := 56, attributes := #[] }, { accessFlags := 26, nameIndex := 109, descriptorIndex := 110, attributes := #[] }, { accessFlags := 24, nameIndex := 62, descriptorIndex := 63, attributes := #[] }, { accessFlags := 24, nameIndex := 72, descriptorIndex := 63, attributes := #[] }, { accessFlags := 24, nameIndex := 118, descriptorIndex := 119, attributes := #[] }, { accessFlags := 24, nameIndex := 125, descriptorIndex := 126, attributes := #[] }, { accessFlags := 24, nameIndex := 131, descriptorIndex := 132, attributes := #[] }, { accessFlags := 4120, nameIndex := 50, descriptorIndex := 17, attributes := #[] }])
  fields := #[{ name := "SALT32L", type := .long, accessFlags := 26, slot := 0, constantValue := 0 }, { name := "REVERSE", type := .boolean, accessFlags := 26, slot := 1, constantValue := 0 }, { name := "archivedObjects", type := (.array (.object "java/lang/Object")), accessFlags := 10, slot := 2, constantValue := 0 }, { name := "EMPTY", type := (.object "java/lang/Object"), accessFlags := 26, slot := 3, constantValue := 0 }, { name := "EMPTY_LIST", type := (.object "java/util/ImmutableCollections$ListN"), accessFlags := 24, slot := 4, constantValue := 0 }, { name := "EMPTY_LIST_NULLS", type := (.object "java/util/ImmutableCollections$ListN"), accessFlags := 24, slot := 5, constantValue := 0 }, { name := "EMPTY_SET", type := (.object "java/util/ImmutableCollections$SetN"), accessFlags := 24, slot := 6, constantValue := 0 }, { name := "EMPTY_MAP", type := (.object "java/util/ImmutableCollections$MapN"), accessFlags := 24, slot := 7, constantValue := 0 }, { name := "EXPAND_FACTOR", type := .int, accessFlags := 24, slot := 8, constantValue := 0 }, { name := "$assertionsDisabled", type := .boolean, accessFlags := 4120, slot := 9, constantValue := 0 }]
  methods := #[k11m0]
  instanceTypes := #[]
  staticTypes := #[.long, .boolean, (.array (.object "java/lang/Object")), (.object "java/lang/Object"), (.object "java/util/ImmutableCollections$ListN"), (.object "java/util/ImmutableCollections$ListN"), (.object "java/util/ImmutableCollections$SetN"), (.object "java/util/ImmutableCollections$MapN"), .int, .boolean]
  resolved := Array.replicate 213 none
  statics := some 1 }

def pool12 : Array CpInfo := pool [(1, .methodref 2 3), (0, .class_ 4), (0, .nameAndType 5 6), (0, u "java/lang/Object"), (0, u "<init>"), (0, u "()V"), (0, .class_ 8), (0, u "java/lang/Record")] 13

def k12c0 : Code := { maxStack := 1, maxLocals := 1, code := jdk_30_method_1_code, exceptionTable := #[], attributes := #[] }
def k12m0 : Method := { name := "<init>", desc := "()V", sig := { parameters := [], returnType := none }, accessFlags := 4, code := some k12c0 }
/-- java/lang/Record -/
def k12 : Class := { plain "java/lang/Record" (some 0) with
  accessFlags := 1057
  interfaces := #[]
  cf := some (fileOf pool12 7 #[] #[{ accessFlags := 4, nameIndex := 5, descriptorIndex := 6, attributes := #[] }] 1057 2 #[] #[])
  fields := #[]
  methods := #[k12m0]
  instanceTypes := #[]
  staticTypes := #[]
  resolved := Array.replicate 22 none
  statics := none }

def pool13 : Array CpInfo := pool [(1, .methodref 2 3), (0, .class_ 4), (0, .nameAndType 5 6), (0, u "java/lang/Record"), (0, u "<init>"), (0, u "()V"), (0, .fieldref 8 9), (0, .class_ 10), (0, .nameAndType 11 12), (0, u "com/example/loomline/loomline/exchange/TextFormat"), (0, u "description"), (0, u "Ljava/lang/String;"), (0, .fieldref 8 14), (0, .nameAndType 15 16), (0, u "test"), (0, u "Ljava/util/function/Predicate;"), (2, u "WRITTEN"), (0, u "Ljava/time/format/DateTimeFormatter;"), (6, .interfaceMethodref 28 29), (0, .class_ 30), (0, .nameAndType 15 31), (0, u "java/util/function/Predicate"), (0, u "(Ljava/lang/Object;)Z"), (6, .methodref 39 40), (0, .class_ 41), (0, .nameAndType 42 43), (0, u "java/util/Objects"), (0, u "requireNonNull"), (0, u "(Ljava/lang/Object;)Ljava/lang/Object;"), (3, .methodref 8 48), (0, .nameAndType 5 49), (0, u "(Ljava/lang/String;Ljava/util/function/Predicate;)V"), (0, .invokeDynamic 1 51), (0, .nameAndType 15 52), (0, u "(Ljava/util/Set;)Ljava/util/function/Predicate;"), (105, u "DATE_TIME_FORM"), (0, u "Lcom/example/loomline/loomline/exchange/LinearPattern;"), (2, u "matches"), (0, u "(Ljava/lang/String;)Z"), (11, u "TIMESTAMP"), (0, u "Lcom/example/loomline/loomline/exchange/TextFormat;"), (13, u "BPNL"), (4, u "BPNS"), (19, u "ANY"), (10, u "UUID"), (17, u "BPNL_1_0_0"), (5, u "BPNL_OR_BPNS"), (6, u "BPNS_1_0_0"), (6, u "BPNA_1_0_0"), (5, u "DATE"), (5, u "DATE_TIME"), (8, u "ZONED_TIMESTAMP"), (3, u "CALENDAR_TIMESTAMP"), (6, u "SEMANTIC_VERSION"), (73, .class_ 372), (1, u "java/util/Set"), (3, u "oneOf"), (0, u "(Ljava/lang/String;Ljava/util/Set;)Lcom/example/loomline/loomline/exchange/TextFormat;"), (2, u "ITEM_UNIT"), (23, u "DEMAND_CATEGORY_CODE"), (21, u "LEADING_ROOT_CAUSE"), (15, u "EFFECT"), (11, u "NOTIFICATION_STATUS"), (6, u "NOTIFICATION_TEXT"), (12, u "COMMENT_TYPE"), (2, u "COMMENT_TEXT"), (8, u "STOCK_DIRECTION"), (10, u "TIMESTAMP_TIME"), (3, u "TIMESTAMP_OFFSET"), (13, u "()Ljava/lang/String;"), (12, .methodType 31), (1, .methodType 163), (0, .methodHandle 9 532), (0, .interfaceMethodref 370 533), (0, .nameAndType 534 31), (0, u "contains"), (25, .methodHandle 6 561), (0, .methodref 562 563), (0, .class_ 564), (0, .nameAndType 565 566), (0, u "java/lang/invoke/LambdaMetafactory"), (0, u "metafactory"), (0, u "(Ljava/lang/invoke/MethodHandles$Lookup;Ljava/lang/String;Ljava/lang/invoke/MethodType;Ljava/lang/invoke/MethodType;Ljava/lang/invoke/MethodHandle;Ljava/lang/invoke/MethodType;)Ljava/lang/invoke/CallSite;")] 19

def k13c0 : Code := { maxStack := 2, maxLocals := 3, code := prog_8_method_1_code, exceptionTable := #[], attributes := #[] }
def k13m0 : Method := { name := "<init>", desc := "(Ljava/lang/String;Ljava/util/function/Predicate;)V", sig := { parameters := [(.object "java/lang/String"), (.object "java/util/function/Predicate")], returnType := none }, accessFlags := 1, code := some k13c0 }
def k13c1 : Code := { maxStack := 2, maxLocals := 2, code := prog_8_method_3_code, exceptionTable := #[], attributes := #[] }
def k13m1 : Method := { name := "matches", desc := "(Ljava/lang/String;)Z", sig := { parameters := [(.object "java/lang/String")], returnType := some .boolean }, accessFlags := 1, code := some k13c1 }
def k13c2 : Code := { maxStack := 5, maxLocals := 2, code := prog_8_method_5_code, exceptionTable := #[], attributes := #[] }
def k13m2 : Method := { name := "oneOf", desc := "(Ljava/lang/String;Ljava/util/Set;)Lcom/example/loomline/loomline/exchange/TextFormat;", sig := { parameters := [(.object "java/lang/String"), (.object "java/util/Set")], returnType := some (.object "com/example/loomline/loomline/exchange/TextFormat") }, accessFlags := 9, code := some k13c2 }
def k13c3 : Code := { maxStack := 1, maxLocals := 1, code := prog_8_method_16_code, exceptionTable := #[], attributes := #[] }
def k13m3 : Method := { name := "description", desc := "()Ljava/lang/String;", sig := { parameters := [], returnType := some (.object "java/lang/String") }, accessFlags := 1, code := some k13c3 }
/-- com/example/loomline/loomline/exchange/TextFormat -/
def k13 : Class := { plain "com/example/loomline/loomline/exchange/TextFormat" (some 12) with
  accessFlags := 49
  interfaces := #[]
  cf := some (fileOf pool13 8 #[.bootstrapMethods #[⟨0, #[]⟩, ⟨560, #[528, 531, 530]⟩, ⟨0, #[]⟩, ⟨0, #[]⟩, ⟨0, #[]⟩, ⟨0, #[]⟩, ⟨0, #[]⟩, ⟨0, #[]⟩, ⟨0, #[]⟩, ⟨0, #[]⟩, ⟨0, #[]⟩]] #[{ accessFlags := 1, nameIndex := 5, descriptorIndex := 49, attributes := #[] }, { accessFlags := 1, nameIndex := 162, descriptorIndex := 163, attributes := #[] }, { accessFlags := 9, nameIndex := 376, descriptorIndex := 377, attributes := #[] }, { accessFlags := 1, nameIndex := 11, descriptorIndex := 515, attributes := #[] }] 49 2 #[] #[{ accessFlags := 18, nameIndex := 11, descriptorIndex := 12, attributes := #[] }, { accessFlags := 18, nameIndex := 15, descriptorIndex := 16, attributes := #[] }, { accessFlags := 25, nameIndex := 215, descriptorIndex := 176, attributes := #[] }, { accessFlags := 25, nameIndex := 226, descriptorIndex := 176, attributes := #[] }, { accessFlags := 25, nameIndex := 190, descriptorIndex := 176, attributes := #[] }, { accessFlags := 25, nameIndex := 195, descriptorIndex := 176, attributes := #[] }, { accessFlags := 25, nameIndex := 244, descriptorIndex := 176, attributes := #[] }, { accessFlags := 25, nameIndex := 250, descriptorIndex := 176, attributes := #[] }, { accessFlags := 25, nameIndex := 257, descriptorIndex := 176, attributes := #[] }, { accessFlags := 25, nameIndex := 264, descriptorIndex := 176, attributes := #[] }, { accessFlags := 25, nameIndex := 270, descriptorIndex := 176, attributes := #[] }, { accessFlags := 25, nameIndex := 276, descriptorIndex := 176, attributes := #[] }, { accessFlags := 26, nameIndex := 497, descriptorIndex := 12, attributes := #[] }, { accessFlags := 26, nameIndex := 501, descriptorIndex := 12, attributes := #[] }, { accessFlags := 25, nameIndex := 175, descriptorIndex := 176, attributes := #[] }, { accessFlags := 25, nameIndex := 285, descriptorIndex := 176, attributes := #[] }, { accessFlags := 25, nameIndex := 289, descriptorIndex := 176, attributes := #[] }, { accessFlags := 25, nameIndex := 296, descriptorIndex := 176, attributes := #[] }, { accessFlags := 25, nameIndex := 380, descriptorIndex := 176, attributes := #[] }, { accessFlags := 25, nameIndex := 404, descriptorIndex := 176, attributes := #[] }, { accessFlags := 25, nameIndex := 426, descriptorIndex := 176, attributes := #[] }, { accessFlags := 25, nameIndex := 442, descriptorIndex := 176, attributes := #[] }, { accessFlags := 25, nameIndex := 454, descriptorIndex := 176, attributes := #[] }, { accessFlags := 25, nameIndex := 461, descriptorIndex := 176, attributes := #[] }, { accessFlags := 25, nameIndex := 474, descriptorIndex := 176, attributes := #[] }, { accessFlags := 25, nameIndex := 477, descriptorIndex := 176, attributes := #[] }, { accessFlags := 25, nameIndex := 486, descriptorIndex := 176, attributes := #[] }, { accessFlags := 26, nameIndex := 19, descriptorIndex := 20, attributes := #[] }, { accessFlags := 26, nameIndex := 158, descriptorIndex := 159, attributes := #[] }])
  fields := #[{ name := "description", type := (.object "java/lang/String"), accessFlags := 18, slot := 0, constantValue := 0 }, { name := "test", type := (.object "java/util/function/Predicate"), accessFlags := 18, slot := 1, constantValue := 0 }, { name := "ANY", type := (.object "com/example/loomline/loomline/exchange/TextFormat"), accessFlags := 25, slot := 0, constantValue := 0 }, { name := "UUID", type := (.object "com/example/loomline/loomline/exchange/TextFormat"), accessFlags := 25, slot := 1, constantValue := 0 }, { name := "BPNL", type := (.object "com/example/loomline/loomline/exchange/TextFormat"), accessFlags := 25, slot := 2, constantValue := 0 }, { name := "BPNS", type := (.object "com/example/loomline/loomline/exchange/TextFormat"), accessFlags := 25, slot := 3, constantValue := 0 }, { name := "BPNL_1_0_0", type := (.object "com/example/loomline/loomline/exchange/TextFormat"), accessFlags := 25, slot := 4, constantValue := 0 }, { name := "BPNL_OR_BPNS", type := (.object "com/example/loomline/loomline/exchange/TextFormat"), accessFlags := 25, slot := 5, constantValue := 0 }, { name := "BPNS_1_0_0", type := (.object "com/example/loomline/loomline/exchange/TextFormat"), accessFlags := 25, slot := 6, constantValue := 0 }, { name := "BPNA_1_0_0", type := (.object "com/example/loomline/loomline/exchange/TextFormat"), accessFlags := 25, slot := 7, constantValue := 0 }, { name := "DATE", type := (.object "com/example/loomline/loomline/exchange/TextFormat"), accessFlags := 25, slot := 8, constantValue := 0 }, { name := "DATE_TIME", type := (.object "com/example/loomline/loomline/exchange/TextFormat"), accessFlags := 25, slot := 9, constantValue := 0 }, { name := "TIMESTAMP_TIME", type := (.object "java/lang/String"), accessFlags := 26, slot := 10, constantValue := 0 }, { name := "TIMESTAMP_OFFSET", type := (.object "java/lang/String"), accessFlags := 26, slot := 11, constantValue := 0 }, { name := "TIMESTAMP", type := (.object "com/example/loomline/loomline/exchange/TextFormat"), accessFlags := 25, slot := 12, constantValue := 0 }, { name := "ZONED_TIMESTAMP", type := (.object "com/example/loomline/loomline/exchange/TextFormat"), accessFlags := 25, slot := 13, constantValue := 0 }, { name := "CALENDAR_TIMESTAMP", type := (.object "com/example/loomline/loomline/exchange/TextFormat"), accessFlags := 25, slot := 14, constantValue := 0 }, { name := "SEMANTIC_VERSION", type := (.object "com/example/loomline/loomline/exchange/TextFormat"), accessFlags := 25, slot := 15, constantValue := 0 }, { name := "ITEM_UNIT", type := (.object "com/example/loomline/loomline/exchange/TextFormat"), accessFlags := 25, slot := 16, constantValue := 0 }, { name := "DEMAND_CATEGORY_CODE", type := (.object "com/example/loomline/loomline/exchange/TextFormat"), accessFlags := 25, slot := 17, constantValue := 0 }, { name := "LEADING_ROOT_CAUSE", type := (.object "com/example/loomline/loomline/exchange/TextFormat"), accessFlags := 25, slot := 18, constantValue := 0 }, { name := "EFFECT", type := (.object "com/example/loomline/loomline/exchange/TextFormat"), accessFlags := 25, slot := 19, constantValue := 0 }, { name := "NOTIFICATION_STATUS", type := (.object "com/example/loomline/loomline/exchange/TextFormat"), accessFlags := 25, slot := 20, constantValue := 0 }, { name := "NOTIFICATION_TEXT", type := (.object "com/example/loomline/loomline/exchange/TextFormat"), accessFlags := 25, slot := 21, constantValue := 0 }, { name := "COMMENT_TYPE", type := (.object "com/example/loomline/loomline/exchange/TextFormat"), accessFlags := 25, slot := 22, constantValue := 0 }, { name := "COMMENT_TEXT", type := (.object "com/example/loomline/loomline/exchange/TextFormat"), accessFlags := 25, slot := 23, constantValue := 0 }, { name := "STOCK_DIRECTION", type := (.object "com/example/loomline/loomline/exchange/TextFormat"), accessFlags := 25, slot := 24, constantValue := 0 }, { name := "WRITTEN", type := (.object "java/time/format/DateTimeFormatter"), accessFlags := 26, slot := 25, constantValue := 0 }, { name := "DATE_TIME_FORM", type := (.object "com/example/loomline/loomline/exchange/LinearPattern"), accessFlags := 26, slot := 26, constantValue := 0 }]
  methods := #[k13m0, k13m1, k13m2, k13m3]
  instanceTypes := #[(.object "java/lang/String"), (.object "java/util/function/Predicate")]
  staticTypes := #[(.object "com/example/loomline/loomline/exchange/TextFormat"), (.object "com/example/loomline/loomline/exchange/TextFormat"), (.object "com/example/loomline/loomline/exchange/TextFormat"), (.object "com/example/loomline/loomline/exchange/TextFormat"), (.object "com/example/loomline/loomline/exchange/TextFormat"), (.object "com/example/loomline/loomline/exchange/TextFormat"), (.object "com/example/loomline/loomline/exchange/TextFormat"), (.object "com/example/loomline/loomline/exchange/TextFormat"), (.object "com/example/loomline/loomline/exchange/TextFormat"), (.object "com/example/loomline/loomline/exchange/TextFormat"), (.object "java/lang/String"), (.object "java/lang/String"), (.object "com/example/loomline/loomline/exchange/TextFormat"), (.object "com/example/loomline/loomline/exchange/TextFormat"), (.object "com/example/loomline/loomline/exchange/TextFormat"), (.object "com/example/loomline/loomline/exchange/TextFormat"), (.object "com/example/loomline/loomline/exchange/TextFormat"), (.object "com/example/loomline/loomline/exchange/TextFormat"), (.object "com/example/loomline/loomline/exchange/TextFormat"), (.object "com/example/loomline/loomline/exchange/TextFormat"), (.object "com/example/loomline/loomline/exchange/TextFormat"), (.object "com/example/loomline/loomline/exchange/TextFormat"), (.object "com/example/loomline/loomline/exchange/TextFormat"), (.object "com/example/loomline/loomline/exchange/TextFormat"), (.object "com/example/loomline/loomline/exchange/TextFormat"), (.object "java/time/format/DateTimeFormatter"), (.object "com/example/loomline/loomline/exchange/LinearPattern")]
  resolved := Array.replicate 586 none
  callSites := [(2, 11, .makes 38)]
  statics := none }

def pool14 : Array CpInfo := pool [(2, .class_ 4), (1, u "java/lang/Object"), (0, u "<init>"), (0, u "()V"), (35, .class_ 44), (1, u "java/util/Objects"), (0, u "requireNonNull"), (0, u "(Ljava/lang/Object;)Ljava/lang/Object;")] 137

def k14m0 : Method := { name := "<init>", desc := "()V", sig := { parameters := [], returnType := none }, accessFlags := 2, code := none }
def k14c1 : Code := { maxStack := 2, maxLocals := 1, code := jdk_31_method_10_code, exceptionTable := #[], attributes := #[] }
def k14m1 : Method := { name := "requireNonNull", desc := "(Ljava/lang/Object;)Ljava/lang/Object;", sig := { parameters := [(.object "java/lang/Object")], returnType := some (.object "java/lang/Object") }, accessFlags := 9, code := some k14c1 }
/-- java/util/Objects -/
def k14 : Class := { plain "java/util/Objects" (some 0) with
  accessFlags := 49
  interfaces := #[]
  cf := some (fileOf pool14 42 #[] #[{ accessFlags := 2, nameIndex := 5, descriptorIndex := 6, attributes := #[] }, { accessFlags := 9, nameIndex := 45, descriptorIndex := 46, attributes := #[] }] 49 2 #[] #[])
  fields := #[]
  methods := #[k14m0, k14m1]
  instanceTypes := #[]
  staticTypes := #[]
  resolved := Array.replicate 184 none
  statics := none }

def pool15 : Array CpInfo := pool [(9, u "test"), (12, .class_ 24), (1, u "java/util/function/Predicate"), (2, .class_ 29), (1, u "java/lang/Object"), (1, u "(Ljava/lang/Object;)Z")] 69

def k15m0 : Method := { name := "test", desc := "(Ljava/lang/Object;)Z", sig := { parameters := [(.object "java/lang/Object")], returnType := some .boolean }, accessFlags := 1025, code := none }
/-- java/util/function/Predicate -/
def k15 : Class := { plain "java/util/function/Predicate" (some 0) with
  accessFlags := 1537
  interfaces := #[]
  cf := some (fileOf pool15 22 #[] #[{ accessFlags := 1025, nameIndex := 9, descriptorIndex := 31, attributes := #[] }] 1537 27 #[] #[])
  fields := #[]
  methods := #[k15m0]
  instanceTypes := #[]
  staticTypes := #[]
  resolved := Array.replicate 101 none
  statics := none }

def pool16 : Array CpInfo := pool [(1, .methodref 2 3), (0, .class_ 4), (0, .nameAndType 5 6), (0, u "java/lang/Object"), (0, u "<init>"), (0, u "()V"), (1, .class_ 10), (1, u "java/util/AbstractCollection"), (66, .class_ 78), (0, u "java/util/Collection")] 81

def k16c0 : Code := { maxStack := 1, maxLocals := 1, code := jdk_22_method_1_code, exceptionTable := #[], attributes := #[] }
def k16m0 : Method := { name := "<init>", desc := "()V", sig := { parameters := [], returnType := none }, accessFlags := 4, code := some k16c0 }
/-- java/util/AbstractCollection -/
def k16 : Class := { plain "java/util/AbstractCollection" (some 0) with
  accessFlags := 1057
  interfaces := #[9]
  cf := some (fileOf pool16 8 #[] #[{ accessFlags := 4, nameIndex := 5, descriptorIndex := 6, attributes := #[] }] 1057 2 #[77] #[])
  fields := #[]
  methods := #[k16m0]
  instanceTypes := #[]
  staticTypes := #[]
  resolved := Array.replicate 160 none
  statics := none }

def pool17 : Array CpInfo := pool [(1, .methodref 2 3), (0, .class_ 4), (0, .nameAndType 5 6), (0, u "java/util/AbstractCollection"), (0, u "<init>"), (0, u "()V"), (1, .class_ 10), (1, u "java/util/ImmutableCollections"), (2, .class_ 14), (0, u "java/util/ImmutableCollections$AbstractImmutableCollection")] 41

def k17c0 : Code := { maxStack := 1, maxLocals := 1, code := jdk_47_method_1_code, exceptionTable := #[], attributes := #[] }
def k17m0 : Method := { name := "<init>", desc := "()V", sig := { parameters := [], returnType := none }, accessFlags := 0, code := some k17c0 }
/-- java/util/ImmutableCollections$AbstractImmutableCollection -/
def k17 : Class := { plain "java/util/ImmutableCollections$AbstractImmutableCollection" (some 16) with
  accessFlags := 1056
  interfaces := #[]
  cf := some (fileOf pool17 13 #[.nestHost 8] #[{ accessFlags := 0, nameIndex := 5, descriptorIndex := 6, attributes := #[] }] 1056 2 #[] #[])
  fields := #[]
  methods := #[k17m0]
  instanceTypes := #[]
  staticTypes := #[]
  resolved := Array.replicate 56 none
  statics := none }

def pool18 : Array CpInfo := pool [(1, .methodref 2 3), (0, .class_ 4), (0, .nameAndType 5 6), (0, u "java/util/ImmutableCollections$AbstractImmutableCollection"), (0, u "<init>"), (0, u "()V"), (0, .class_ 8), (0, u "java/util/Set"), (7, .class_ 17), (0, u "java/util/ImmutableCollections$AbstractImmutableSet"), (43, .class_ 62), (0, u "java/util/ImmutableCollections")] 3

def k18c0 : Code := { maxStack := 1, maxLocals := 1, code := jdk_100_method_1_code, exceptionTable := #[], attributes := #[] }
def k18m0 : Method := { name := "<init>", desc := "()V", sig := { parameters := [], returnType := none }, accessFlags := 0, code := some k18c0 }
/-- java/util/ImmutableCollections$AbstractImmutableSet -/
def k18 : Class := { plain "java/util/ImmutableCollections$AbstractImmutableSet" (some 17) with
  accessFlags := 1056
  interfaces := #[10]
  cf := some (fileOf pool18 16 #[.nestHost 61] #[{ accessFlags := 0, nameIndex := 5, descriptorIndex := 6, attributes := #[] }] 1056 2 #[7] #[])
  fields := #[]
  methods := #[k18m0]
  instanceTypes := #[]
  staticTypes := #[]
  resolved := Array.replicate 66 none
  statics := none }

def pool19 : Array CpInfo := pool [(1, .class_ 2), (0, u "java/util/ImmutableCollections"), (1, .class_ 6), (1, u "java/util/ImmutableCollections$AbstractImmutableSet"), (2, .fieldref 10 11), (0, .class_ 12), (0, .nameAndType 13 14), (0, u "java/util/ImmutableCollections$SetN"), (0, u "size"), (0, u "I"), (4, u "elements"), (0, u "[Ljava/lang/Object;"), (25, .methodref 47 48), (0, .class_ 49), (0, .nameAndType 50 51), (0, u "java/util/Objects"), (0, u "requireNonNull"), (0, u "(Ljava/lang/Object;)Ljava/lang/Object;"), (18, u "(Ljava/lang/Object;)Z"), (36, .class_ 108), (0, u "java/io/Serializable"), (23, u "contains")] 35

def k19c0 : Code := { maxStack := 2, maxLocals := 2, code := jdk_132_method_4_code, exceptionTable := #[], attributes := #[] }
def k19m0 : Method := { name := "contains", desc := "(Ljava/lang/Object;)Z", sig := { parameters := [(.object "java/lang/Object")], returnType := some .boolean }, accessFlags := 1, code := some k19c0 }
/-- java/util/ImmutableCollections$SetN -/
def k19 : Class := { plain "java/util/ImmutableCollections$SetN" (some 18) with
  accessFlags := 48
  interfaces := #[2]
  cf := some (fileOf pool19 10 #[.nestHost 1] #[{ accessFlags := 1, nameIndex := 132, descriptorIndex := 70, attributes := #[] }] 48 4 #[107] #[{ accessFlags := 16, nameIndex := 19, descriptorIndex := 20, attributes := #[] }, { accessFlags := 16, nameIndex := 13, descriptorIndex := 14, attributes := #[] }])
  fields := #[{ name := "elements", type := (.array (.object "java/lang/Object")), accessFlags := 16, slot := 0, constantValue := 0 }, { name := "size", type := .int, accessFlags := 16, slot := 1, constantValue := 0 }]
  methods := #[k19m0]
  instanceTypes := #[(.array (.object "java/lang/Object")), .int]
  staticTypes := #[]
  resolved := Array.replicate 168 none
  statics := none }

def pool20 : Array CpInfo := pool [(1, .methodref 2 3), (0, .class_ 4), (0, .nameAndType 5 6), (0, u "java/util/ImmutableCollections$AbstractImmutableSet"), (0, u "<init>"), (0, u "()V"), (0, .methodref 8 9), (0, .class_ 10), (0, .nameAndType 11 12), (0, u "java/util/Objects"), (0, u "requireNonNull"), (0, u "(Ljava/lang/Object;)Ljava/lang/Object;"), (0, .fieldref 14 15), (0, .class_ 16), (0, .nameAndType 17 18), (0, u "java/util/ImmutableCollections$Set12"), (0, u "e0"), (0, u "Ljava/lang/Object;"), (0, .fieldref 20 21), (0, .class_ 22), (0, .nameAndType 23 18), (0, u "java/util/ImmutableCollections"), (0, u "EMPTY"), (0, .fieldref 14 25), (0, .nameAndType 26 18), (0, u "e1"), (0, .methodref 28 29), (0, .class_ 30), (0, .nameAndType 31 32), (0, u "java/lang/Object"), (0, u "equals"), (0, u "(Ljava/lang/Object;)Z"), (64, .class_ 98), (0, u "java/io/Serializable"), (4, u "(Ljava/lang/Object;)V"), (8, u "(Ljava/lang/Object;Ljava/lang/Object;)V"), (4, u "contains")] 31

def k20c0 : Code := { maxStack := 2, maxLocals := 2, code := jdk_101_method_1_code, exceptionTable := #[], attributes := #[] }
def k20m0 : Method := { name := "<init>", desc := "(Ljava/lang/Object;)V", sig := { parameters := [(.object "java/lang/Object")], returnType := none }, accessFlags := 0, code := some k20c0 }
def k20c1 : Code := { maxStack := 4, maxLocals := 3, code := jdk_101_method_2_code, exceptionTable := #[], attributes := #[] }
def k20m1 : Method := { name := "<init>", desc := "(Ljava/lang/Object;Ljava/lang/Object;)V", sig := { parameters := [(.object "java/lang/Object"), (.object "java/lang/Object")], returnType := none }, accessFlags := 0, code := some k20c1 }
def k20c2 : Code := { maxStack := 2, maxLocals := 2, code := jdk_101_method_5_code, exceptionTable := #[], attributes := #[] }
def k20m2 : Method := { name := "contains", desc := "(Ljava/lang/Object;)Z", sig := { parameters := [(.object "java/lang/Object")], returnType := some .boolean }, accessFlags := 1, code := some k20c2 }
/-- java/util/ImmutableCollections$Set12 -/
def k20 : Class := { plain "java/util/ImmutableCollections$Set12" (some 18) with
  accessFlags := 48
  interfaces := #[2]
  cf := some (fileOf pool20 14 #[.nestHost 20] #[{ accessFlags := 0, nameIndex := 5, descriptorIndex := 103, attributes := #[] }, { accessFlags := 0, nameIndex := 5, descriptorIndex := 112, attributes := #[] }, { accessFlags := 1, nameIndex := 117, descriptorIndex := 32, attributes := #[] }] 48 2 #[97] #[{ accessFlags := 18, nameIndex := 17, descriptorIndex := 18, attributes := #[] }, { accessFlags := 18, nameIndex := 26, descriptorIndex := 18, attributes := #[] }])
  fields := #[{ name := "e0", type := (.object "java/lang/Object"), accessFlags := 18, slot := 0, constantValue := 0 }, { name := "e1", type := (.object "java/lang/Object"), accessFlags := 18, slot := 1, constantValue := 0 }]
  methods := #[k20m0, k20m1, k20m2]
  instanceTypes := #[(.object "java/lang/Object"), (.object "java/lang/Object")]
  staticTypes := #[]
  resolved := Array.replicate 149 none
  statics := none }

def pool21 : Array CpInfo := pool [(4, .class_ 6), (1, u "java/lang/Object"), (0, u "<init>"), (0, u "()V"), (5, .class_ 16), (1, u "java/lang/StringLatin1"), (104, u "$assertionsDisabled"), (0, u "Z"), (98, .class_ 223), (1, u "java/lang/StringLatin1$LinesSpliterator"), (57, u "equals"), (0, u "([B[B)Z"), (107, .class_ 391), (0, u "java/lang/StringLatin1$CharsSpliterator")] 3

def k21m0 : Method := { name := "<init>", desc := "()V", sig := { parameters := [], returnType := none }, accessFlags := 0, code := none }
def k21c1 : Code := { maxStack := 3, maxLocals := 3, code := jdk_43_method_13_code, exceptionTable := #[], attributes := #[] }
def k21m1 : Method := { name := "equals", desc := "([B[B)Z", sig := { parameters := [(.array .byte), (.array .byte)], returnType := some .boolean }, accessFlags := 9, code := some k21c1 }
/-- java/lang/StringLatin1 -/
def k21 : Class := { plain "java/lang/StringLatin1" (some 0) with
  accessFlags := 48
  interfaces := #[]
  cf := some (fileOf pool21 14 #[.nestMembers #[390, 221]] #[{ accessFlags := 0, nameIndex := 7, descriptorIndex := 8, attributes := #[] }, { accessFlags := 9, nameIndex := 281, descriptorIndex := 282, attributes := #[] }] 48 4 #[] #[{ accessFlags := 4120, nameIndex := 121, descriptorIndex := 122, attributes := #[] }])
  fields := #[{ name := "$assertionsDisabled", type := .boolean, accessFlags := 4120, slot := 0, constantValue := 0 }]
  methods := #[k21m0, k21m1]
  instanceTypes := #[]
  staticTypes := #[.boolean]
  resolved := Array.replicate 395 none
  statics := none }

def pool22 : Array CpInfo := pool [(6, .class_ 8), (1, u "java/lang/Object"), (0, u "<init>"), (0, u "()V"), (1, .class_ 14), (1, u "java/lang/StringUTF16"), (31, u "$assertionsDisabled"), (0, u "Z"), (13, u "HI_BYTE_SHIFT"), (0, u "I"), (2, u "LO_BYTE_SHIFT"), (49, .methodref 12 116), (0, .nameAndType 117 118), (0, u "compress"), (0, u "([CI[BII)I"), (3, u "([CII)[B"), (138, u "coderFromArrayLen"), (0, u "([BI)B"), (106, .class_ 371), (1, u "java/lang/StringUTF16$LinesSpliterator"), (58, u "MAX_LENGTH"), (196, .class_ 628), (0, u "java/lang/StringUTF16$CodePointsSpliterator"), (0, .class_ 630), (0, u "java/lang/StringUTF16$CharsSpliterator")] 4

def k22m0 : Method := { name := "<init>", desc := "()V", sig := { parameters := [], returnType := none }, accessFlags := 0, code := none }
def k22c1 : Code := { maxStack := 2, maxLocals := 2, code := jdk_52_method_15_code, exceptionTable := #[], attributes := #[] }
def k22m1 : Method := { name := "coderFromArrayLen", desc := "([BI)B", sig := { parameters := [(.array .byte), .int], returnType := some .byte }, accessFlags := 8, code := some k22c1 }
def k22c2 : Code := { maxStack := 5, maxLocals := 6, code := jdk_52_method_16_code, exceptionTable := #[], attributes := #[] }
def k22m2 : Method := { name := "compress", desc := "([CII)[B", sig := { parameters := [(.array .char), .int, .int], returnType := some (.array .byte) }, accessFlags := 9, code := some k22c2 }
def k22c3 : Code := { maxStack := 3, maxLocals := 7, code := jdk_52_method_21_code, exceptionTable := #[], attributes := #[] }
def k22m3 : Method := { name := "compress", desc := "([CI[BII)I", sig := { parameters := [(.array .char), .int, (.array .byte), .int, .int], returnType := some .int }, accessFlags := 9, code := some k22c3 }
/-- java/lang/StringUTF16 -/
def k22 : Class := { plain "java/lang/StringUTF16" (some 0) with
  accessFlags := 48
  interfaces := #[]
  cf := some (fileOf pool22 12 #[.nestMembers #[627, 629, 369]] #[{ accessFlags := 0, nameIndex := 9, descriptorIndex := 10, attributes := #[] }, { accessFlags := 8, nameIndex := 261, descriptorIndex := 262, attributes := #[] }, { accessFlags := 9, nameIndex := 117, descriptorIndex := 122, attributes := #[] }, { accessFlags := 9, nameIndex := 117, descriptorIndex := 118, attributes := #[] }] 48 6 #[] #[{ accessFlags := 26, nameIndex := 61, descriptorIndex := 62, attributes := #[] }, { accessFlags := 26, nameIndex := 65, descriptorIndex := 62, attributes := #[] }, { accessFlags := 24, nameIndex := 430, descriptorIndex := 62, attributes := #[] }, { accessFlags := 4120, nameIndex := 46, descriptorIndex := 47, attributes := #[] }])
  fields := #[{ name := "HI_BYTE_SHIFT", type := .int, accessFlags := 26, slot := 0, constantValue := 0 }, { name := "LO_BYTE_SHIFT", type := .int, accessFlags := 26, slot := 1, constantValue := 0 }, { name := "MAX_LENGTH", type := .int, accessFlags := 24, slot := 2, constantValue := 0 }, { name := "$assertionsDisabled", type := .boolean, accessFlags := 4120, slot := 3, constantValue := 0 }]
  methods := #[k22m0, k22m1, k22m2, k22m3]
  instanceTypes := #[]
  staticTypes := #[.int, .int, .int, .boolean]
  resolved := Array.replicate 635 none
  statics := none }

def pool23 : Array CpInfo := pool [(2, .class_ 4), (1, u "java/lang/Object"), (0, u "<init>"), (0, u "()V"), (17, .class_ 26), (1, u "jdk/internal/util/Preconditions"), (28, .class_ 56), (0, u "jdk/internal/util/Preconditions$4"), (57, .class_ 115), (0, u "jdk/internal/util/Preconditions$1"), (7, u "SIOOBE_FORMATTER"), (0, u "Ljava/util/function/BiFunction;"), (0, .class_ 126), (0, u "jdk/internal/util/Preconditions$2"), (3, u "AIOOBE_FORMATTER"), (0, .class_ 132), (0, u "jdk/internal/util/Preconditions$3"), (3, u "IOOBE_FORMATTER")] 57

def k23m0 : Method := { name := "<init>", desc := "()V", sig := { parameters := [], returnType := none }, accessFlags := 1, code := none }
/-- jdk/internal/util/Preconditions -/
def k23 : Class := { plain "jdk/internal/util/Preconditions" (some 0) with
  accessFlags := 33
  interfaces := #[]
  cf := some (fileOf pool23 24 #[.nestMembers #[55, 131, 125, 114]] #[{ accessFlags := 1, nameIndex := 5, descriptorIndex := 6, attributes := #[] }] 33 2 #[] #[{ accessFlags := 25, nameIndex := 123, descriptorIndex := 124, attributes := #[] }, { accessFlags := 25, nameIndex := 130, descriptorIndex := 124, attributes := #[] }, { accessFlags := 25, nameIndex := 136, descriptorIndex := 124, attributes := #[] }])
  fields := #[{ name := "SIOOBE_FORMATTER", type := (.object "java/util/function/BiFunction"), accessFlags := 25, slot := 0, constantValue := 0 }, { name := "AIOOBE_FORMATTER", type := (.object "java/util/function/BiFunction"), accessFlags := 25, slot := 1, constantValue := 0 }, { name := "IOOBE_FORMATTER", type := (.object "java/util/function/BiFunction"), accessFlags := 25, slot := 2, constantValue := 0 }]
  methods := #[k23m0]
  instanceTypes := #[]
  staticTypes := #[(.object "java/util/function/BiFunction"), (.object "java/util/function/BiFunction"), (.object "java/util/function/BiFunction")]
  resolved := Array.replicate 194 none
  statics := some 2 }

def pool24 : Array CpInfo := pool [(9, u "<init>"), (6, .class_ 18), (1, u "java/lang/Object"), (0, u "()V"), (1, .class_ 23), (1, u "jdk/internal/util/ArraysSupport"), (0, u "LOG2_ARRAY_LONG_INDEX_SCALE"), (0, u "I"), (2, u "U"), (0, u "Ljdk/internal/misc/Unsafe;"), (8, u "BIG_ENDIAN"), (0, u "Z"), (8, u "LOG2_BYTE_BIT_SIZE"), (4, u "LOG2_ARRAY_INT_INDEX_SCALE"), (54, u "JLA"), (0, u "Ljdk/internal/access/JavaLangAccess;"), (11, u "LOG2_ARRAY_BOOLEAN_INDEX_SCALE"), (9, u "LOG2_ARRAY_BYTE_INDEX_SCALE"), (5, u "LOG2_ARRAY_CHAR_INDEX_SCALE"), (5, u "LOG2_ARRAY_SHORT_INDEX_SCALE"), (18, u "LOG2_ARRAY_FLOAT_INDEX_SCALE"), (24, u "LOG2_ARRAY_DOUBLE_INDEX_SCALE"), (89, u "T_BOOLEAN"), (2, u "T_CHAR"), (1, u "T_FLOAT"), (1, u "T_DOUBLE"), (1, u "T_BYTE"), (1, u "T_SHORT"), (1, u "T_INT"), (1, u "T_LONG"), (1, u "SOFT_MAX_ARRAY_LENGTH")] 83

def k24m0 : Method := { name := "<init>", desc := "()V", sig := { parameters := [], returnType := none }, accessFlags := 2, code := none }
/-- jdk/internal/util/ArraysSupport -/
def k24 : Class := { plain "jdk/internal/util/ArraysSupport" (some 0) with
  accessFlags := 33
  interfaces := #[]
  cf := some (fileOf pool24 21 #[] #[{ accessFlags := 2, nameIndex := 9, descriptorIndex := 19, attributes := #[] }] 33 16 #[] #[{ accessFlags := 24, nameIndex := 28, descriptorIndex := 29, attributes := #[] }, { accessFlags := 26, nameIndex := 38, descriptorIndex := 39, attributes := #[] }, { accessFlags := 25, nameIndex := 121, descriptorIndex := 25, attributes := #[] }, { accessFlags := 25, nameIndex := 131, descriptorIndex := 25, attributes := #[] }, { accessFlags := 25, nameIndex := 137, descriptorIndex := 25, attributes := #[] }, { accessFlags := 25, nameIndex := 143, descriptorIndex := 25, attributes := #[] }, { accessFlags := 25, nameIndex := 53, descriptorIndex := 25, attributes := #[] }, { accessFlags := 25, nameIndex := 24, descriptorIndex := 25, attributes := #[] }, { accessFlags := 25, nameIndex := 162, descriptorIndex := 25, attributes := #[] }, { accessFlags := 25, nameIndex := 187, descriptorIndex := 25, attributes := #[] }, { accessFlags := 26, nameIndex := 48, descriptorIndex := 25, attributes := #[] }, { accessFlags := 25, nameIndex := 277, descriptorIndex := 25, attributes := #[] }, { accessFlags := 25, nameIndex := 280, descriptorIndex := 25, attributes := #[] }, { accessFlags := 25, nameIndex := 282, descriptorIndex := 25, attributes := #[] }, { accessFlags := 25, nameIndex := 284, descriptorIndex := 25, attributes := #[] }, { accessFlags := 25, nameIndex := 286, descriptorIndex := 25, attributes := #[] }, { accessFlags := 25, nameIndex := 288, descriptorIndex := 25, attributes := #[] }, { accessFlags := 25, nameIndex := 290, descriptorIndex := 25, attributes := #[] }, { accessFlags := 25, nameIndex := 292, descriptorIndex := 25, attributes := #[] }, { accessFlags := 26, nameIndex := 108, descriptorIndex := 109, attributes := #[] }, { accessFlags := 25, nameIndex := 294, descriptorIndex := 25, attributes := #[] }])
  fields := #[{ name := "U", type := (.object "jdk/internal/misc/Unsafe"), accessFlags := 24, slot := 0, constantValue := 0 }, { name := "BIG_ENDIAN", type := .boolean, accessFlags := 26, slot := 1, constantValue := 0 }, { name := "LOG2_ARRAY_BOOLEAN_INDEX_SCALE", type := .int, accessFlags := 25, slot := 2, constantValue := 0 }, { name := "LOG2_ARRAY_BYTE_INDEX_SCALE", type := .int, accessFlags := 25, slot := 3, constantValue := 0 }, { name := "LOG2_ARRAY_CHAR_INDEX_SCALE", type := .int, accessFlags := 25, slot := 4, constantValue := 0 }, { name := "LOG2_ARRAY_SHORT_INDEX_SCALE", type := .int, accessFlags := 25, slot := 5, constantValue := 0 }, { name := "LOG2_ARRAY_INT_INDEX_SCALE", type := .int, accessFlags := 25, slot := 6, constantValue := 0 }, { name := "LOG2_ARRAY_LONG_INDEX_SCALE", type := .int, accessFlags := 25, slot := 7, constantValue := 0 }, { name := "LOG2_ARRAY_FLOAT_INDEX_SCALE", type := .int, accessFlags := 25, slot := 8, constantValue := 0 }, { name := "LOG2_ARRAY_DOUBLE_INDEX_SCALE", type := .int, accessFlags := 25, slot := 9, constantValue := 0 }, { name := "LOG2_BYTE_BIT_SIZE", type := .int, accessFlags := 26, slot := 10, constantValue := 0 }, { name := "T_BOOLEAN", type := .int, accessFlags := 25, slot := 11, constantValue := 0 }, { name := "T_CHAR", type := .int, accessFlags := 25, slot := 12, constantValue := 0 }, { name := "T_FLOAT", type := .int, accessFlags := 25, slot := 13, constantValue := 0 }, { name := "T_DOUBLE", type := .int, accessFlags := 25, slot := 14, constantValue := 0 }, { name := "T_BYTE", type := .int, accessFlags := 25, slot := 15, constantValue := 0 }, { name := "T_SHORT", type := .int, accessFlags := 25, slot := 16, constantValue := 0 }, { name := "T_INT", type := .int, accessFlags := 25, slot := 17, constantValue := 0 }, { name := "T_LONG", type := .int, accessFlags := 25, slot := 18, constantValue := 0 }, { name := "JLA", type := (.object "jdk/internal/access/JavaLangAccess"), accessFlags := 26, slot := 19, constantValue := 0 }, { name := "SOFT_MAX_ARRAY_LENGTH", type := .int, accessFlags := 25, slot := 20, constantValue := 0 }]
  methods := #[k24m0]
  instanceTypes := #[]
  staticTypes := #[(.object "jdk/internal/misc/Unsafe"), .boolean, .int, .int, .int, .int, .int, .int, .int, .int, .int, .int, .int, .int, .int, .int, .int, .int, .int, (.object "jdk/internal/access/JavaLangAccess"), .int]
  resolved := Array.replicate 378 none
  statics := none }

def pool25 : Array CpInfo := pool [(8, .class_ 10), (1, u "java/util/SequencedCollection"), (15, .class_ 27), (0, u "java/lang/Object"), (0, .class_ 29), (0, u "java/util/Collection")] 27

/-- java/util/SequencedCollection -/
def k25 : Class := { plain "java/util/SequencedCollection" (some 0) with
  accessFlags := 1537
  interfaces := #[9]
  cf := some (fileOf pool25 8 #[] #[] 1537 26 #[28] #[])
  fields := #[]
  methods := #[]
  instanceTypes := #[]
  staticTypes := #[]
  resolved := Array.replicate 57 none
  statics := none }

def pool26 : Array CpInfo := pool [(8, .class_ 10), (1, u "java/util/List"), (92, .class_ 104), (0, u "java/lang/Object"), (15, .class_ 121), (0, u "java/util/SequencedCollection")] 129

/-- java/util/List -/
def k26 : Class := { plain "java/util/List" (some 0) with
  accessFlags := 1537
  interfaces := #[25]
  cf := some (fileOf pool26 8 #[] #[] 1537 103 #[120] #[])
  fields := #[]
  methods := #[]
  instanceTypes := #[]
  staticTypes := #[]
  resolved := Array.replicate 251 none
  statics := none }

def pool27 : Array CpInfo := pool [(1, .class_ 2), (0, u "java/util/RandomAccess"), (0, .class_ 4), (0, u "java/lang/Object")] 2

/-- java/util/RandomAccess -/
def k27 : Class := { plain "java/util/RandomAccess" (some 0) with
  accessFlags := 1537
  interfaces := #[]
  cf := some (fileOf pool27 1 #[] #[] 1537 3 #[] #[])
  fields := #[]
  methods := #[]
  instanceTypes := #[]
  staticTypes := #[]
  resolved := Array.replicate 7 none
  statics := none }

def pool28 : Array CpInfo := pool [(2, .class_ 4), (1, u "java/util/ImmutableCollections$AbstractImmutableCollection"), (0, u "<init>"), (0, u "()V"), (1, .class_ 10), (1, u "java/util/ImmutableCollections"), (3, .class_ 16), (1, u "java/util/ImmutableCollections$AbstractImmutableList"), (60, .class_ 78), (0, u "java/util/List"), (45, .class_ 125), (0, u "java/util/RandomAccess")] 70

def k28m0 : Method := { name := "<init>", desc := "()V", sig := { parameters := [], returnType := none }, accessFlags := 0, code := none }
/-- java/util/ImmutableCollections$AbstractImmutableList -/
def k28 : Class := { plain "java/util/ImmutableCollections$AbstractImmutableList" (some 17) with
  accessFlags := 1056
  interfaces := #[26, 27]
  cf := some (fileOf pool28 14 #[.nestHost 8] #[{ accessFlags := 0, nameIndex := 5, descriptorIndex := 6, attributes := #[] }] 1056 2 #[77, 124] #[])
  fields := #[]
  methods := #[k28m0]
  instanceTypes := #[]
  staticTypes := #[]
  resolved := Array.replicate 196 none
  statics := none }

def pool29 : Array CpInfo := pool [(2, .class_ 4), (1, u "java/util/ImmutableCollections$AbstractImmutableList"), (3, .class_ 10), (1, u "java/util/ImmutableCollections$ListN"), (0, u "elements"), (0, u "[Ljava/lang/Object;"), (2, u "allowNulls"), (0, u "Z"), (42, .class_ 60), (0, u "java/io/Serializable"), (53, .class_ 115), (0, u "java/util/ImmutableCollections")] 3

/-- java/util/ImmutableCollections$ListN -/
def k29 : Class := { plain "java/util/ImmutableCollections$ListN" (some 28) with
  accessFlags := 48
  interfaces := #[2]
  cf := some (fileOf pool29 8 #[.nestHost 114] #[] 48 2 #[59] #[{ accessFlags := 18, nameIndex := 11, descriptorIndex := 12, attributes := #[] }, { accessFlags := 18, nameIndex := 15, descriptorIndex := 16, attributes := #[] }])
  fields := #[{ name := "elements", type := (.array (.object "java/lang/Object")), accessFlags := 18, slot := 0, constantValue := 0 }, { name := "allowNulls", type := .boolean, accessFlags := 18, slot := 1, constantValue := 0 }]
  methods := #[]
  instanceTypes := #[(.array (.object "java/lang/Object")), .boolean]
  staticTypes := #[]
  resolved := Array.replicate 119 none
  statics := none }

def pool30 : Array CpInfo := pool [(1, u "java/lang/Cloneable"), (0, .class_ 1), (0, u "java/lang/Object"), (0, .class_ 3)] 3

/-- java/lang/Cloneable -/
def k30 : Class := { plain "java/lang/Cloneable" (some 0) with
  accessFlags := 1537
  interfaces := #[]
  cf := some (fileOf pool30 2 #[] #[] 1537 4 #[] #[])
  fields := #[]
  methods := #[]
  instanceTypes := #[]
  staticTypes := #[]
  resolved := Array.replicate 8 none
  statics := none }

/-- the primitive byte -/
def k31 : Class := { plain "byte" none with kind := .primitive 'B', accessFlags := 0x411 }
/-- [B -/
def k32 : Class := { plain "[B" (some 0) with kind := .array 31 .byte, interfaces := #[30, 2], accessFlags := 1041 }

/-- the primitive char -/
def k33 : Class := { plain "char" none with kind := .primitive 'C', accessFlags := 0x411 }
/-- [C -/
def k34 : Class := { plain "[C" (some 0) with kind := .array 33 .char, interfaces := #[30, 2], accessFlags := 1041 }

/-- the primitive int -/
def k35 : Class := { plain "int" none with kind := .primitive 'I', accessFlags := 0x411 }
/-- [I -/
def k36 : Class := { plain "[I" (some 0) with kind := .array 35 .int, interfaces := #[30, 2], accessFlags := 1041 }

/-- [Ljava/lang/Object; -/
def k37 : Class := { plain "[Ljava/lang/Object;" (some 0) with kind := .array 0 (.object "java/lang/Object"), interfaces := #[30, 2], accessFlags := 1041 }

def classes0 : Array Class := #[k0, k1, k2, k3, k4, k5, k6, k7, k8, k9, k10, k11, k12, k13, k14, k15, k16, k17, k18, k19, k20, k21, k22, k23, k24, k25, k26, k27, k28, k29, k30, k31, k32, k33, k34, k35, k36, k37]
/-- the class that the rule has made for the site at 11 of com/example/loomline/loomline/exchange/TextFormat.oneOf -/
def k38 : Class := Jvm.LamKit.madeRec { classes := classes0 } "com/example/loomline/loomline/exchange/TextFormat" (Jvm.Lambda.Shape.mk "java/util/function/Predicate" "test" (Jvm.ClassFile.MethodDescriptor.mk ([(Jvm.ClassFile.FieldType.object "java/lang/Object")] : List Jvm.ClassFile.FieldType) (Option.some Jvm.ClassFile.FieldType.boolean)) ([(Jvm.ClassFile.FieldType.object "java/util/Set")] : List Jvm.ClassFile.FieldType) (9 : Nat) "java/util/Set" "contains" (Jvm.ClassFile.MethodDescriptor.mk ([(Jvm.ClassFile.FieldType.object "java/lang/Object")] : List Jvm.ClassFile.FieldType) (Option.some Jvm.ClassFile.FieldType.boolean)) true (Jvm.ClassFile.MethodDescriptor.mk ([(Jvm.ClassFile.FieldType.object "java/lang/String")] : List Jvm.ClassFile.FieldType) (Option.some Jvm.ClassFile.FieldType.boolean))) 38

def heap : Heap := #[{ cls := 7, slots := #[.long 0, .int 1, .null, .int 0, .null, .int 0, .int 0], vm := .statics 7 },
  { cls := 11, slots := #[.long 0, .int 0, .null, .ref 5, .ref 6, .null, .ref 4, .null, .int 0, .int 1], vm := .statics 11 },
  { cls := 23, slots := #[.null, .null, .null], vm := .statics 23 },
  { cls := 37, slots := #[], vm := .none },
  { cls := 19, slots := #[.ref 3, .int 0], vm := .none },
  { cls := 0, slots := #[], vm := .none },
  { cls := 29, slots := #[.ref 3, .int 0], vm := .none }]
def classes : Array Class := #[k0, k1, k2, k3, k4, k5, k6, k7, k8, k9, k10, k11, k12, k13, k14, k15, k16, k17, k18, k19, k20, k21, k22, k23, k24, k25, k26, k27, k28, k29, k30, k31, k32, k33, k34, k35, k36, k37, k38]
def interned : List (Array UInt16 × Addr) := []
def slotsUsed : Nat := 24
def theMethod : MethodId := ⟨1, 2⟩
def args0 : Array Value := #[.int 5, .int 6, .int 7, .int 8, .int 9]
def aboutOver (below : List Frame) : State where
  vm := { classes := classes, interned := interned.toArray }
  heap := heap
  slotsUsed := slotsUsed
  threads := #[{ frames := .invoking theMethod args0 :: below }]
def below0 : List Frame := [.native { method := ⟨0, 0⟩, args := #[] }]
def about1 : State := aboutOver below0
def p0 : Program := .bare "" "" ""
def e0 : Env := launch0.env 0 0 0
theorem w_frames : about1.frames = Frame.invoking theMethod args0 :: below0 := rfl
set_option maxRecDepth 65536 in
theorem w_args : argsFit about1.vm theMethod args0 = true := by decide +kernel
set_option maxRecDepth 65536 in
theorem w_heap : heapFits about1 = true := by decide +kernel
set_option maxRecDepth 65536 in
theorem w_runnable : about1.curStatus? = some .runnable := by decide +kernel
set_option maxRecDepth 65536 in
theorem w_alone : about1.alone = true := by decide +kernel
set_option maxRecDepth 65536 in
theorem w_named : about1.methodNamed? x = some theMethod := by decide +kernel
set_option maxRecDepth 65536 in
theorem w_hears : about1.hears theMethod below0 = true := by decide +kernel
set_option maxRecDepth 65536 in
theorem w_ripe : about1.ripe theMethod args0 below0 = true := by decide +kernel
theorem w_running : about1.status = .running := rfl
set_option maxRecDepth 65536 in
theorem w_room : about1.hasRoom e0.platform room_1 = true :=
  launch0.hasRoom_least _ room_1 (by decide +kernel) (by decide +kernel) (by decide +kernel) (by decide +kernel) (by decide +kernel) (by decide +kernel)
theorem allAtoms_all (ts : List Jvm.Cond) (a : Array Jvm.Value) (st : Jvm.State) : (allAtoms ts).before a st = ts.all (fun c => c.before a st) := by
  induction ts with
  | nil => rfl
  | cons c t ih =>
    show (Jvm.Cond.and c (allAtoms t)).before a st = _
    rw [Jvm.Cond.before_and, ih, List.all_cons]
def words1 : List Jvm.Cond := Jvm.Cond.code x code maxLocals ret :: tables_1
/-- a 'code' word, met by the world's own term for the bytes: nothing is compared byte by byte -/
theorem code_word {y : MethodName} {bytes : ByteArray} {mx : Nat} {rt : Option FieldType} {a : Array Value} {s : State} {m : MethodId} {meth : Method} {c : Code} (h1 : s.methodNamed? y = some m) (h2 : s.vm.method? m = some meth) (h3 : meth.code = some c) (h4 : c.code = bytes)
    (h5 : (c.maxLocals == mx && c.exceptionTable.isEmpty && decide (c.maxStack ≤ mostOperands) && decide (meth.sig.returnType = rt) && !meth.locks && decide (parseMethodDescriptor y.desc = some meth.sig)) = true) : (Jvm.Cond.code y bytes mx rt).before a s = true := by
  simp only [Bool.and_eq_true, beq_iff_eq, Bool.not_eq_true', decide_eq_true_eq] at h5
  obtain ⟨⟨⟨⟨⟨g1, g2⟩, g3⟩, g4⟩, g5⟩, g6⟩ := h5
  simp [Cond.before, Cond.holds, Cond.value, h1, h2, h3, h4, g1, g2, g3, g4, g5, g6]
def isCode : Jvm.Cond → Bool
  | .code _ _ _ _ => true
  | _ => false
theorem all_split {L : List Jvm.Cond} {P : Jvm.Cond → Bool} (h1 : L.all (fun c => isCode c || P c) = true) (h2 : ∀ c ∈ L.filter isCode, P c = true) : L.all P = true := by
  refine List.all_eq_true.mpr fun c hc => ?_
  have h := List.all_eq_true.mp h1 c hc
  rcases Bool.eq_false_or_eq_true (isCode c) with hi | hi
  · exact h2 c (List.mem_filter.mpr ⟨hc, hi⟩)
  · simpa [hi] using h
set_option maxRecDepth 65536 in
theorem w_c0 : (Jvm.Cond.code x code maxLocals ret).before args0 about1 = true := code_word (m := ⟨1, 2⟩) (meth := k1m2) (c := k1c2) (by decide +kernel) rfl rfl rfl (by decide +kernel)
set_option maxRecDepth 65536 in
theorem w_c1 : (Jvm.Cond.code ({ cls := "com/example/loomline/loomline/exchange/TextFormatOneOfPinLaw", name := "drawn", desc := "(I)Ljava/lang/String;" } : Jvm.MethodName) method_2_code (4 : Nat) (Option.some (Jvm.ClassFile.FieldType.object "java/lang/String"))).before args0 about1 = true := code_word (m := ⟨1, 1⟩) (meth := k1m1) (c := k1c1) (by decide +kernel) rfl rfl rfl (by decide +kernel)
set_option maxRecDepth 65536 in
theorem w_c2 : (Jvm.Cond.code ({ cls := "java/lang/String", name := "<init>", desc := "([C)V" } : Jvm.MethodName) jdk_42_method_3_code (2 : Nat) (Option.none : Option Jvm.ClassFile.FieldType)).before args0 about1 = true := code_word (m := ⟨7, 1⟩) (meth := k7m1) (c := k7c1) (by decide +kernel) rfl rfl rfl (by decide +kernel)
set_option maxRecDepth 65536 in
theorem w_c3 : (Jvm.Cond.code ({ cls := "java/lang/String", name := "<init>", desc := "([CIILjava/lang/Void;)V" } : Jvm.MethodName) jdk_42_method_149_code (6 : Nat) (Option.none : Option Jvm.ClassFile.FieldType)).before args0 about1 = true := code_word (m := ⟨7, 3⟩) (meth := k7m3) (c := k7c3) (by decide +kernel) rfl rfl rfl (by decide +kernel)
set_option maxRecDepth 65536 in
theorem w_c4 : (Jvm.Cond.code ({ cls := "java/lang/Object", name := "<init>", desc := "()V" } : Jvm.MethodName) object_method_1_code (1 : Nat) (Option.none : Option Jvm.ClassFile.FieldType)).before args0 about1 = true := code_word (m := ⟨0, 0⟩) (meth := k0m0) (c := k0c0) (by decide +kernel) rfl rfl rfl (by decide +kernel)
set_option maxRecDepth 65536 in
theorem w_c5 : (Jvm.Cond.code ({ cls := "java/util/Set", name := "of", desc := "()Ljava/util/Set;" } : Jvm.MethodName) jdk_96_method_17_code (0 : Nat) (Option.some (Jvm.ClassFile.FieldType.object "java/util/Set"))).before args0 about1 = true := code_word (m := ⟨10, 1⟩) (meth := k10m1) (c := k10c1) (by decide +kernel) rfl rfl rfl (by decide +kernel)
set_option maxRecDepth 65536 in
theorem w_c6 : (Jvm.Cond.code ({ cls := "com/example/loomline/loomline/exchange/TextFormat", name := "oneOf", desc := "(Ljava/lang/String;Ljava/util/Set;)Lcom/example/loomline/loomline/exchange/TextFormat;" } : Jvm.MethodName) prog_8_method_5_code (2 : Nat) (Option.some (Jvm.ClassFile.FieldType.object "com/example/loomline/loomline/exchange/TextFormat"))).before args0 about1 = true := code_word (m := ⟨13, 2⟩) (meth := k13m2) (c := k13c2) (by decide +kernel) rfl rfl rfl (by decide +kernel)
set_option maxRecDepth 65536 in
theorem w_c7 : (Jvm.Cond.code ({ cls := "java/util/Objects", name := "requireNonNull", desc := "(Ljava/lang/Object;)Ljava/lang/Object;" } : Jvm.MethodName) jdk_31_method_10_code (1 : Nat) (Option.some (Jvm.ClassFile.FieldType.object "java/lang/Object"))).before args0 about1 = true := code_word (m := ⟨14, 1⟩) (meth := k14m1) (c := k14c1) (by decide +kernel) rfl rfl rfl (by decide +kernel)
set_option maxRecDepth 65536 in
theorem w_c8 : (Jvm.Cond.code ({ cls := "com/example/loomline/loomline/exchange/TextFormat", name := "<init>", desc := "(Ljava/lang/String;Ljava/util/function/Predicate;)V" } : Jvm.MethodName) prog_8_method_1_code (3 : Nat) (Option.none : Option Jvm.ClassFile.FieldType)).before args0 about1 = true := code_word (m := ⟨13, 0⟩) (meth := k13m0) (c := k13c0) (by decide +kernel) rfl rfl rfl (by decide +kernel)
set_option maxRecDepth 65536 in
theorem w_c9 : (Jvm.Cond.code ({ cls := "java/lang/Record", name := "<init>", desc := "()V" } : Jvm.MethodName) jdk_30_method_1_code (1 : Nat) (Option.none : Option Jvm.ClassFile.FieldType)).before args0 about1 = true := code_word (m := ⟨12, 0⟩) (meth := k12m0) (c := k12c0) (by decide +kernel) rfl rfl rfl (by decide +kernel)
set_option maxRecDepth 65536 in
theorem w_c10 : (Jvm.Cond.code ({ cls := "com/example/loomline/loomline/exchange/TextFormat", name := "description", desc := "()Ljava/lang/String;" } : Jvm.MethodName) prog_8_method_16_code (1 : Nat) (Option.some (Jvm.ClassFile.FieldType.object "java/lang/String"))).before args0 about1 = true := code_word (m := ⟨13, 3⟩) (meth := k13m3) (c := k13c3) (by decide +kernel) rfl rfl rfl (by decide +kernel)
set_option maxRecDepth 65536 in
theorem w_c11 : (Jvm.Cond.code ({ cls := "java/lang/String", name := "equals", desc := "(Ljava/lang/Object;)Z" } : Jvm.MethodName) jdk_42_method_66_code (3 : Nat) (Option.some Jvm.ClassFile.FieldType.boolean)).before args0 about1 = true := code_word (m := ⟨7, 2⟩) (meth := k7m2) (c := k7c2) (by decide +kernel) rfl rfl rfl (by decide +kernel)
set_option maxRecDepth 65536 in
theorem w_c12 : (Jvm.Cond.code ({ cls := "com/example/loomline/loomline/exchange/TextFormat", name := "matches", desc := "(Ljava/lang/String;)Z" } : Jvm.MethodName) prog_8_method_3_code (2 : Nat) (Option.some Jvm.ClassFile.FieldType.boolean)).before args0 about1 = true := code_word (m := ⟨13, 1⟩) (meth := k13m1) (c := k13c1) (by decide +kernel) rfl rfl rfl (by decide +kernel)
set_option maxRecDepth 65536 in
theorem w_c13 : (Jvm.Cond.code ({ cls := "java/util/ImmutableCollections$SetN", name := "contains", desc := "(Ljava/lang/Object;)Z" } : Jvm.MethodName) jdk_132_method_4_code (2 : Nat) (Option.some Jvm.ClassFile.FieldType.boolean)).before args0 about1 = true := code_word (m := ⟨19, 0⟩) (meth := k19m0) (c := k19c0) (by decide +kernel) rfl rfl rfl (by decide +kernel)
set_option maxRecDepth 65536 in
theorem w_c14 : (Jvm.Cond.code ({ cls := "java/util/Set", name := "of", desc := "(Ljava/lang/Object;)Ljava/util/Set;" } : Jvm.MethodName) jdk_96_method_18_code (1 : Nat) (Option.some (Jvm.ClassFile.FieldType.object "java/util/Set"))).before args0 about1 = true := code_word (m := ⟨10, 2⟩) (meth := k10m2) (c := k10c2) (by decide +kernel) rfl rfl rfl (by decide +kernel)
set_option maxRecDepth 65536 in
theorem w_c15 : (Jvm.Cond.code ({ cls := "java/util/ImmutableCollections$Set12", name := "<init>", desc := "(Ljava/lang/Object;)V" } : Jvm.MethodName) jdk_101_method_1_code (2 : Nat) (Option.none : Option Jvm.ClassFile.FieldType)).before args0 about1 = true := code_word (m := ⟨20, 0⟩) (meth := k20m0) (c := k20c0) (by decide +kernel) rfl rfl rfl (by decide +kernel)
set_option maxRecDepth 65536 in
theorem w_c16 : (Jvm.Cond.code ({ cls := "java/util/ImmutableCollections$AbstractImmutableSet", name := "<init>", desc := "()V" } : Jvm.MethodName) jdk_100_method_1_code (1 : Nat) (Option.none : Option Jvm.ClassFile.FieldType)).before args0 about1 = true := code_word (m := ⟨18, 0⟩) (meth := k18m0) (c := k18c0) (by decide +kernel) rfl rfl rfl (by decide +kernel)
set_option maxRecDepth 65536 in
theorem w_c17 : (Jvm.Cond.code ({ cls := "java/util/ImmutableCollections$AbstractImmutableCollection", name := "<init>", desc := "()V" } : Jvm.MethodName) jdk_47_method_1_code (1 : Nat) (Option.none : Option Jvm.ClassFile.FieldType)).before args0 about1 = true := code_word (m := ⟨17, 0⟩) (meth := k17m0) (c := k17c0) (by decide +kernel) rfl rfl rfl (by decide +kernel)
set_option maxRecDepth 65536 in
theorem w_c18 : (Jvm.Cond.code ({ cls := "java/util/AbstractCollection", name := "<init>", desc := "()V" } : Jvm.MethodName) jdk_22_method_1_code (1 : Nat) (Option.none : Option Jvm.ClassFile.FieldType)).before args0 about1 = true := code_word (m := ⟨16, 0⟩) (meth := k16m0) (c := k16c0) (by decide +kernel) rfl rfl rfl (by decide +kernel)
set_option maxRecDepth 65536 in
theorem w_c19 : (Jvm.Cond.code ({ cls := "java/util/ImmutableCollections$Set12", name := "contains", desc := "(Ljava/lang/Object;)Z" } : Jvm.MethodName) jdk_101_method_5_code (2 : Nat) (Option.some Jvm.ClassFile.FieldType.boolean)).before args0 about1 = true := code_word (m := ⟨20, 2⟩) (meth := k20m2) (c := k20c2) (by decide +kernel) rfl rfl rfl (by decide +kernel)
set_option maxRecDepth 65536 in
theorem w_c20 : (Jvm.Cond.code ({ cls := "java/lang/StringLatin1", name := "equals", desc := "([B[B)Z" } : Jvm.MethodName) jdk_43_method_13_code (3 : Nat) (Option.some Jvm.ClassFile.FieldType.boolean)).before args0 about1 = true := code_word (m := ⟨21, 1⟩) (meth := k21m1) (c := k21c1) (by decide +kernel) rfl rfl rfl (by decide +kernel)
set_option maxRecDepth 65536 in
theorem w_c21 : (Jvm.Cond.code ({ cls := "java/lang/StringUTF16", name := "compress", desc := "([CII)[B" } : Jvm.MethodName) jdk_52_method_16_code (6 : Nat) (Option.some (Jvm.ClassFile.FieldType.array Jvm.ClassFile.FieldType.byte))).before args0 about1 = true := code_word (m := ⟨22, 2⟩) (meth := k22m2) (c := k22c2) (by decide +kernel) rfl rfl rfl (by decide +kernel)
set_option maxRecDepth 65536 in
theorem w_c22 : (Jvm.Cond.code ({ cls := "java/lang/StringUTF16", name := "compress", desc := "([CI[BII)I" } : Jvm.MethodName) jdk_52_method_21_code (7 : Nat) (Option.some Jvm.ClassFile.FieldType.int)).before args0 about1 = true := code_word (m := ⟨22, 3⟩) (meth := k22m3) (c := k22c3) (by decide +kernel) rfl rfl rfl (by decide +kernel)
set_option maxRecDepth 65536 in
theorem w_c23 : (Jvm.Cond.code ({ cls := "java/lang/StringUTF16", name := "coderFromArrayLen", desc := "([BI)B" } : Jvm.MethodName) jdk_52_method_15_code (2 : Nat) (Option.some Jvm.ClassFile.FieldType.byte)).before args0 about1 = true := code_word (m := ⟨22, 1⟩) (meth := k22m1) (c := k22c1) (by decide +kernel) rfl rfl rfl (by decide +kernel)
set_option maxRecDepth 65536 in
theorem w_c24 : (Jvm.Cond.code ({ cls := "java/util/Set", name := "of", desc := "(Ljava/lang/Object;Ljava/lang/Object;)Ljava/util/Set;" } : Jvm.MethodName) jdk_96_method_19_code (2 : Nat) (Option.some (Jvm.ClassFile.FieldType.object "java/util/Set"))).before args0 about1 = true := code_word (m := ⟨10, 3⟩) (meth := k10m3) (c := k10c3) (by decide +kernel) rfl rfl rfl (by decide +kernel)
set_option maxRecDepth 65536 in
theorem w_c25 : (Jvm.Cond.code ({ cls := "java/util/ImmutableCollections$Set12", name := "<init>", desc := "(Ljava/lang/Object;Ljava/lang/Object;)V" } : Jvm.MethodName) jdk_101_method_2_code (3 : Nat) (Option.none : Option Jvm.ClassFile.FieldType)).before args0 about1 = true := code_word (m := ⟨20, 1⟩) (meth := k20m1) (c := k20c1) (by decide +kernel) rfl rfl rfl (by decide +kernel)
set_option maxRecDepth 65536 in
theorem w_c26 : (Jvm.Cond.code ({ cls := "java/lang/Object", name := "equals", desc := "(Ljava/lang/Object;)Z" } : Jvm.MethodName) object_method_4_code (2 : Nat) (Option.some Jvm.ClassFile.FieldType.boolean)).before args0 about1 = true := code_word (m := ⟨0, 1⟩) (meth := k0m1) (c := k0c1) (by decide +kernel) rfl rfl rfl (by decide +kernel)
def codes1 : List Jvm.Cond := [Jvm.Cond.code x code maxLocals ret, Jvm.Cond.code ({ cls := "com/example/loomline/loomline/exchange/TextFormatOneOfPinLaw", name := "drawn", desc := "(I)Ljava/lang/String;" } : Jvm.MethodName) method_2_code (4 : Nat) (Option.some (Jvm.ClassFile.FieldType.object "java/lang/String")), Jvm.Cond.code ({ cls := "java/lang/String", name := "<init>", desc := "([C)V" } : Jvm.MethodName) jdk_42_method_3_code (2 : Nat) (Option.none : Option Jvm.ClassFile.FieldType), Jvm.Cond.code ({ cls := "java/lang/String", name := "<init>", desc := "([CIILjava/lang/Void;)V" } : Jvm.MethodName) jdk_42_method_149_code (6 : Nat) (Option.none : Option Jvm.ClassFile.FieldType), Jvm.Cond.code ({ cls := "java/lang/Object", name := "<init>", desc := "()V" } : Jvm.MethodName) object_method_1_code (1 : Nat) (Option.none : Option Jvm.ClassFile.FieldType), Jvm.Cond.code ({ cls := "java/util/Set", name := "of", desc := "()Ljava/util/Set;" } : Jvm.MethodName) jdk_96_method_17_code (0 : Nat) (Option.some (Jvm.ClassFile.FieldType.object "java/util/Set")), Jvm.Cond.code ({ cls := "com/example/loomline/loomline/exchange/TextFormat", name := "oneOf", desc := "(Ljava/lang/String;Ljava/util/Set;)Lcom/example/loomline/loomline/exchange/TextFormat;" } : Jvm.MethodName) prog_8_method_5_code (2 : Nat) (Option.some (Jvm.ClassFile.FieldType.object "com/example/loomline/loomline/exchange/TextFormat")), Jvm.Cond.code ({ cls := "java/util/Objects", name := "requireNonNull", desc := "(Ljava/lang/Object;)Ljava/lang/Object;" } : Jvm.MethodName) jdk_31_method_10_code (1 : Nat) (Option.some (Jvm.ClassFile.FieldType.object "java/lang/Object")), Jvm.Cond.code ({ cls := "com/example/loomline/loomline/exchange/TextFormat", name := "<init>", desc := "(Ljava/lang/String;Ljava/util/function/Predicate;)V" } : Jvm.MethodName) prog_8_method_1_code (3 : Nat) (Option.none : Option Jvm.ClassFile.FieldType), Jvm.Cond.code ({ cls := "java/lang/Record", name := "<init>", desc := "()V" } : Jvm.MethodName) jdk_30_method_1_code (1 : Nat) (Option.none : Option Jvm.ClassFile.FieldType), Jvm.Cond.code ({ cls := "com/example/loomline/loomline/exchange/TextFormat", name := "description", desc := "()Ljava/lang/String;" } : Jvm.MethodName) prog_8_method_16_code (1 : Nat) (Option.some (Jvm.ClassFile.FieldType.object "java/lang/String")), Jvm.Cond.code ({ cls := "java/lang/String", name := "equals", desc := "(Ljava/lang/Object;)Z" } : Jvm.MethodName) jdk_42_method_66_code (3 : Nat) (Option.some Jvm.ClassFile.FieldType.boolean), Jvm.Cond.code ({ cls := "com/example/loomline/loomline/exchange/TextFormat", name := "matches", desc := "(Ljava/lang/String;)Z" } : Jvm.MethodName) prog_8_method_3_code (2 : Nat) (Option.some Jvm.ClassFile.FieldType.boolean), Jvm.Cond.code ({ cls := "java/util/ImmutableCollections$SetN", name := "contains", desc := "(Ljava/lang/Object;)Z" } : Jvm.MethodName) jdk_132_method_4_code (2 : Nat) (Option.some Jvm.ClassFile.FieldType.boolean), Jvm.Cond.code ({ cls := "java/util/Set", name := "of", desc := "(Ljava/lang/Object;)Ljava/util/Set;" } : Jvm.MethodName) jdk_96_method_18_code (1 : Nat) (Option.some (Jvm.ClassFile.FieldType.object "java/util/Set")), Jvm.Cond.code ({ cls := "java/util/ImmutableCollections$Set12", name := "<init>", desc := "(Ljava/lang/Object;)V" } : Jvm.MethodName) jdk_101_method_1_code (2 : Nat) (Option.none : Option Jvm.ClassFile.FieldType), Jvm.Cond.code ({ cls := "java/util/ImmutableCollections$AbstractImmutableSet", name := "<init>", desc := "()V" } : Jvm.MethodName) jdk_100_method_1_code (1 : Nat) (Option.none : Option Jvm.ClassFile.FieldType), Jvm.Cond.code ({ cls := "java/util/ImmutableCollections$AbstractImmutableCollection", name := "<init>", desc := "()V" } : Jvm.MethodName) jdk_47_method_1_code (1 : Nat) (Option.none : Option Jvm.ClassFile.FieldType), Jvm.Cond.code ({ cls := "java/util/AbstractCollection", name := "<init>", desc := "()V" } : Jvm.MethodName) jdk_22_method_1_code (1 : Nat) (Option.none : Option Jvm.ClassFile.FieldType), Jvm.Cond.code ({ cls := "java/util/ImmutableCollections$Set12", name := "contains", desc := "(Ljava/lang/Object;)Z" } : Jvm.MethodName) jdk_101_method_5_code (2 : Nat) (Option.some Jvm.ClassFile.FieldType.boolean), Jvm.Cond.code ({ cls := "java/lang/StringLatin1", name := "equals", desc := "([B[B)Z" } : Jvm.MethodName) jdk_43_method_13_code (3 : Nat) (Option.some Jvm.ClassFile.FieldType.boolean), Jvm.Cond.code ({ cls := "java/lang/StringUTF16", name := "compress", desc := "([CII)[B" } : Jvm.MethodName) jdk_52_method_16_code (6 : Nat) (Option.some (Jvm.ClassFile.FieldType.array Jvm.ClassFile.FieldType.byte)), Jvm.Cond.code ({ cls := "java/lang/StringUTF16", name := "compress", desc := "([CI[BII)I" } : Jvm.MethodName) jdk_52_method_21_code (7 : Nat) (Option.some Jvm.ClassFile.FieldType.int), Jvm.Cond.code ({ cls := "java/lang/StringUTF16", name := "coderFromArrayLen", desc := "([BI)B" } : Jvm.MethodName) jdk_52_method_15_code (2 : Nat) (Option.some Jvm.ClassFile.FieldType.byte), Jvm.Cond.code ({ cls := "java/util/Set", name := "of", desc := "(Ljava/lang/Object;Ljava/lang/Object;)Ljava/util/Set;" } : Jvm.MethodName) jdk_96_method_19_code (2 : Nat) (Option.some (Jvm.ClassFile.FieldType.object "java/util/Set")), Jvm.Cond.code ({ cls := "java/util/ImmutableCollections$Set12", name := "<init>", desc := "(Ljava/lang/Object;Ljava/lang/Object;)V" } : Jvm.MethodName) jdk_101_method_2_code (3 : Nat) (Option.none : Option Jvm.ClassFile.FieldType), Jvm.Cond.code ({ cls := "java/lang/Object", name := "equals", desc := "(Ljava/lang/Object;)Z" } : Jvm.MethodName) object_method_4_code (2 : Nat) (Option.some Jvm.ClassFile.FieldType.boolean)]
set_option maxRecDepth 65536 in
theorem codes_eq : words1.filter isCode = codes1 := rfl
theorem w_codes : ∀ c ∈ words1.filter isCode, c.before args0 about1 = true := by
  rw [codes_eq]
  intro c hc
  simp only [codes1, List.mem_cons, List.not_mem_nil, or_false] at hc
  rcases hc with rfl | rfl | rfl | rfl | rfl | rfl | rfl | rfl | rfl | rfl | rfl | rfl | rfl | rfl | rfl | rfl | rfl | rfl | rfl | rfl | rfl | rfl | rfl | rfl | rfl | rfl | rfl
  · exact w_c0
  · exact w_c1
  · exact w_c2
  · exact w_c3
  · exact w_c4
  · exact w_c5
  · exact w_c6
  · exact w_c7
  · exact w_c8
  · exact w_c9
  · exact w_c10
  · exact w_c11
  · exact w_c12
  · exact w_c13
  · exact w_c14
  · exact w_c15
  · exact w_c16
  · exact w_c17
  · exact w_c18
  · exact w_c19
  · exact w_c20
  · exact w_c21
  · exact w_c22
  · exact w_c23
  · exact w_c24
  · exact w_c25
  · exact w_c26
set_option maxRecDepth 65536 in
theorem w_t1 : (words1.take 24).all (fun c => isCode c || c.before args0 about1) = true := by decide +kernel
set_option maxRecDepth 65536 in
theorem w_t2 : ((words1.drop 24).take 24).all (fun c => isCode c || c.before args0 about1) = true := by decide +kernel
set_option maxRecDepth 65536 in
theorem w_t3 : (((words1.drop 24).drop 24).take 24).all (fun c => isCode c || c.before args0 about1) = true := by decide +kernel
set_option maxRecDepth 65536 in
theorem w_t4 : ((((words1.drop 24).drop 24).drop 24).take 24).all (fun c => isCode c || c.before args0 about1) = true := by decide +kernel
set_option maxRecDepth 65536 in
theorem w_t5 : (((((words1.drop 24).drop 24).drop 24).drop 24).take 24).all (fun c => isCode c || c.before args0 about1) = true := by decide +kernel
set_option maxRecDepth 65536 in
theorem w_t6 : ((((((words1.drop 24).drop 24).drop 24).drop 24).drop 24).take 24).all (fun c => isCode c || c.before args0 about1) = true := by decide +kernel
set_option maxRecDepth 65536 in
theorem w_t7 : ((((((words1.drop 24).drop 24).drop 24).drop 24).drop 24).drop 24).all (fun c => isCode c || c.before args0 about1) = true := by decide +kernel
theorem w_tables : (allAtoms (Jvm.Cond.code x code maxLocals ret :: tables_1)).before args0 about1 = true := by
  rw [allAtoms_all]
  show words1.all (fun c => c.before args0 about1) = true
  refine all_split ?_ w_codes
  rw [← List.take_append_drop 24 words1, List.all_append, w_t1, ← List.take_append_drop 24 (words1.drop 24), List.all_append, w_t2, ← List.take_append_drop 24 ((words1.drop 24).drop 24), List.all_append, w_t3, ← List.take_append_drop 24 (((words1.drop 24).drop 24).drop 24), List.all_append, w_t4, ← List.take_append_drop 24 ((((words1.drop 24).drop 24).drop 24).drop 24), List.all_append, w_t5, ← List.take_append_drop 24 (((((words1.drop 24).drop 24).drop 24).drop 24).drop 24), List.all_append, w_t6, w_t7]
  rfl
set_option maxRecDepth 65536 in
theorem w_rest : rest_1_c.before args0 about1 = true := by decide +kernel
set_option maxRecDepth 65536 in
theorem w_case : (Jvm.Cond.and given_1 narrow_1).before args0 about1 = true := by decide +kernel
set_option maxRecDepth 65536 in
theorem w_consts : constsHeld consts_1 about1 := Jvm.Lit.constsHeldB_iff.mp (by decide +kernel)
theorem w_applies : (headSpec (Jvm.Cond.code x code maxLocals ret :: tables_1) room_1).applies x e0.platform about1 = true :=
  (Spec.applies_iff w_frames).mpr ⟨w_running, w_runnable, w_alone, w_named, w_hears, w_ripe, w_room, w_tables⟩
theorem atStart : AtStart classFile x code maxLocals ret World_1 tables_1 room_1 Calls_1 rest_1 Pre_1 launch0 p0 e0 about1 theMethod args0 below0 :=
  ⟨lists_1, trivial, launch0.admits_env _ _ _, launch0.least_env, fairChoices_fair.cas, fairChoices_fair.clock, w_frames, w_args, w_heap, w_applies, ⟨w_consts, trivial⟩, w_rest, w_case⟩
end start1
theorem witness_1 : WitnessClaimed_1 := ⟨start1.p0, start1.e0, start1.about1, start1.theMethod, start1.args0, start1.below0, start1.atStart⟩
end Jvm.Pilot.@@N@@
