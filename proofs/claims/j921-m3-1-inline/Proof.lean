import JvmDerived
import JvmDerived.Pilot.@@N@@Statement
import JvmDerived.Pilot.@@N@@Code
set_option linter.unusedVariables false
set_option linter.unusedSimpArgs false
/- laws to paste: Road.backV, Road.codOf, Road.lenW, Road.eqW (cut by pick.py; bodies as the Statement names them) -/
namespace Jvm.Pilot.@@N@@
namespace StrChars
open Jvm Sem ClassFile Op Lib Jvm.Stand Jvm.Free.XT Jvm.Free.ALB Jvm.Free.JM Jvm.Free
open Jvm.Lib.Cold (StaticIs)
/-- a char array whose places are chars -/
def Ch (a : Addr) (A : Cell) (U : State) : Prop := Arr .char a A U ∧ Typed .char A
theorem Ch.mv {a : Addr} {A : Cell} {U U' : State} (h : Ch a A U) (hal : U.vm.Alike U'.vm) (hh : U'.heap = U.heap) : Ch a A U' := ⟨h.1.mv hal hh, h.2⟩
theorem Ch.keep {a : Addr} {A : Cell} {U U' : State} (h : Ch a A U) (hal : U.vm.Alike U'.vm) (hk : U'.heap[a]? = some A) : Ch a A U' := ⟨h.1.keep hal hk, h.2⟩
/-- what place i of a char[]'s cell holds -/
def cv (A : Cell) (i : Nat) : Int32 := match A.slots[i]? with | some (.int x) => x | _ => 0
theorem Ch.get {a : Addr} {A : Cell} {U : State} (h : Ch a A U) {i : Nat} (hi : i < A.slots.size) : A.slots[i]? = some (.int (cv A i)) := by
  have e := Array.getElem?_eq_getElem hi
  have f := h.2 i _ e
  unfold cv; rw [e]
  generalize A.slots[i] = v at f
  cases v <;> simp [fits] at f ⊢
/-- the byte that i2b leaves of a char -/
def lo8 (x : Int32) : Int32 := x.toInt8.toInt32
theorem fits_lo8 (y : Int32) : fits .byte (.int (lo8 y)) = true := by
  have h1 := y.toInt8.le_toInt
  have h2 := y.toInt8.toInt_lt
  simp only [lo8, fits, Bool.and_eq_true, decide_eq_true_eq, Int32.le_iff_toInt_le, Int8.toInt_toInt32, show (-128 : Int32).toInt = -128 from by decide, show (127 : Int32).toInt = 127 from by decide]
  omega
/-- A' is A but that each place j of lo .. hi - 1 holds f j -/
def Laid (A A' : Cell) (lo hi : Nat) (f : Nat → Value) : Prop := A'.cls = A.cls ∧ A'.vm = A.vm ∧ A'.slots.size = A.slots.size ∧ ∀ i, A'.slots[i]? = if lo ≤ i ∧ i < hi then some (f i) else A.slots[i]?
theorem Laid.zero (A : Cell) (lo : Nat) (f : Nat → Value) : Laid A A lo (lo + 0) f := ⟨rfl, rfl, rfl, fun i => by rw [if_neg (by omega)]⟩
theorem Laid.step {A Ak : Cell} {lo k : Nat} {f : Nat → Value} {v : Value} (h : Laid A Ak lo k f) (hlo : lo ≤ k) (hk : k < Ak.slots.size) (hv : v = f k) : Laid A (Ak.setSlot k v) lo (k + 1) f := by
  refine ⟨h.1, h.2.1, by simpa [Cell.setSlot] using h.2.2.1, fun i => ?_⟩
  by_cases e : k = i
  · subst e; rw [Cell.slots_setSlot_self v hk, if_pos (by omega), hv]
  · rw [Cell.slots_setSlot_ne v e, h.2.2.2 i]
    by_cases q : lo ≤ i ∧ i < k
    · rw [if_pos q, if_pos (by omega)]
    · rw [if_neg q, if_neg (by omega)]
def U16 : String := "java/lang/StringUTF16"
namespace Cmp5
def yN : MethodName := ⟨"java/lang/StringUTF16", "compress", "([CI[BII)I"⟩
abbrev yB : ByteArray := jdk_52_method_21_code
theorem d0 : decode yB 0 = .ok (.iconst 0, 1) := by decide +kernel
theorem d1 : decode yB 1 = .ok (.istore 5, 2) := by decide +kernel
theorem d3 : decode yB 3 = .ok (.iload 5, 2) := by decide +kernel
theorem d5 : decode yB 5 = .ok (.iload 4, 2) := by decide +kernel
theorem d7 : decode yB 7 = .ok (.if_icmp (.ge) 37, 3) := by decide +kernel
theorem d10 : decode yB 10 = .ok (.aload_n 0, 1) := by decide +kernel
theorem d11 : decode yB 11 = .ok (.iload_n 1, 1) := by decide +kernel
theorem d12 : decode yB 12 = .ok (.caload, 1) := by decide +kernel
theorem d13 : decode yB 13 = .ok (.istore 6, 2) := by decide +kernel
theorem d15 : decode yB 15 = .ok (.iload 6, 2) := by decide +kernel
theorem d17 : decode yB 17 = .ok (.sipush 255, 3) := by decide +kernel
theorem d20 : decode yB 20 = .ok (.if_icmp (.le) 6, 3) := by decide +kernel
theorem d26 : decode yB 26 = .ok (.aload_n 2, 1) := by decide +kernel
theorem d27 : decode yB 27 = .ok (.iload_n 3, 1) := by decide +kernel
theorem d28 : decode yB 28 = .ok (.iload 6, 2) := by decide +kernel
theorem d30 : decode yB 30 = .ok (.i2b, 1) := by decide +kernel
theorem d31 : decode yB 31 = .ok (.bastore, 1) := by decide +kernel
theorem d32 : decode yB 32 = .ok (.iinc 1 1, 3) := by decide +kernel
theorem d35 : decode yB 35 = .ok (.iinc 3 1, 3) := by decide +kernel
theorem d38 : decode yB 38 = .ok (.iinc 5 1, 3) := by decide +kernel
theorem d41 : decode yB 41 = .ok (.goto (-38), 3) := by decide +kernel
theorem d44 : decode yB 44 = .ok (.iload 4, 2) := by decide +kernel
theorem d46 : decode yB 46 = .ok (.ireturn, 1) := by decide +kernel
def site : List Cond := []
def tab : Cond := tabOf yN yB 7 (some .int) site
def P (b : Addr) (A : Cell) (d : Addr) (B : Cell) (o q len : Nat) (args : Array Value) (s : State) : Prop := args = #[.ref b, .int (Int32.ofNat o), .ref d, .int (Int32.ofNat q), .int (Int32.ofNat len)] ∧ Ch b A s ∧ Arr .byte d B s ∧ b ≠ d ∧ o + len ≤ A.slots.size ∧ q + len ≤ B.slots.size ∧ ∀ i, i < len → ¬ 255 < cv A (o + i)
def E (b : Addr) (A : Cell) (d : Addr) (B : Cell) (o q len : Nat) (r : Option Value) (s u : State) : Prop := r = some (.int (Int32.ofNat len)) ∧ ∃ B', Put d B' s u ∧ Laid B B' q (q + len) (fun j => Value.int (lo8 (cv A (o + (j - q)))))
/-- no char of the range above 255: len; the places written hold each char's low byte -/
theorem law (l : Launch) (b : Addr) (A : Cell) (d : Addr) (B : Cell) (o q len : Nat) : Law l yN 5 5 0 0 yB 7 (some .int) site (P b A d B o q len) (E b A d B o q len) (copyLocs d q len) 0 0 := by
  refine Law.of_walk (plainFor_of_name (by decide +kernel)) (by decide +kernel) (by decide +kernel) (by decide) (fun _ _ h => by rw [h.1]; rfl) (fun _ U U' hal hh h => ⟨h.1, h.2.1.mv hal hh, h.2.2.1.mv hal hh, h.2.2.2⟩) (fun r U U' V V' h1 hal h2 h => ⟨h.1, h.2.elim fun B' q => ⟨B', q.1.mv h1 h2, q.2⟩⟩) ?_
  intro p e s m args below meth c s₁ X0 hexec hbytes hml hret hlk hnm hown hh0 W hP
  obtain ⟨rfl, hA, hB, hne, l1, l2, hp⟩ := hP
  have c1 : Steps p.tables e below (s₁.setTop (entryFrame m #[.ref b, .int (Int32.ofNat o), .ref d, .int (Int32.ofNat q), .int (Int32.ofNat len)] 7)) (s₁.setTop (mkF m 0 #[.val (.ref b), .val (.int (Int32.ofNat o)), .val (.ref d), .val (.int (Int32.ofNat q)), .val (.int (Int32.ofNat len)), .unset, .unset] [])) := entry rfl
  have hA0 := hA.1.mv X0.warmed.alike hh0
  have hB0 := hB.mv X0.warmed.alike hh0
  have a31 := hA.1.2.2.2
  have c2 : Steps p.tables e below (s₁.setTop (entryFrame m #[.ref b, .int (Int32.ofNat o), .ref d, .int (Int32.ofNat q), .int (Int32.ofNat len)] 7)) (s₁.setTop (mkF m 3 #[.val (.ref b), .val (.int (Int32.ofNat o)), .val (.ref d), .val (.int (Int32.ofNat q)), .val (.int (Int32.ofNat len)), .val (.int 0), .unset] [])) := c1.trans (by
    refine iconstV X0.here hexec rfl 0 (hb hbytes d0) (by decide) ?_
    refine XS.istore X0.here hexec rfl (hb hbytes d1) rfl rfl ?_
    exact Steps.refl _)
  have loop : ∀ (r i : Nat), i + r = len → ∀ (z : Slot), (z = .unset ∨ ∃ w, z = .val w ∧ w.category = 1) → ∀ (Tl : State) (Bk : Cell), Stand p l e { frames := 0, locals := 0, cells := 0, slots := 0 } s m #[.ref b, .int (Int32.ofNat o), .ref d, .int (Int32.ofNat q), .int (Int32.ofNat len)] below meth c Tl ([] ++ copyLocs d q i) 0 0 → Put d Bk s₁ Tl → Laid B Bk q (q + i) (fun j => Value.int (lo8 (cv A (o + (j - q))))) →
      Steps p.tables e below (s₁.setTop (entryFrame m #[.ref b, .int (Int32.ofNat o), .ref d, .int (Int32.ofNat q), .int (Int32.ofNat len)] 7)) (Tl.setTop (mkF m 3 #[.val (.ref b), .val (.int (Int32.ofNat (o + i))), .val (.ref d), .val (.int (Int32.ofNat (q + i))), .val (.int (Int32.ofNat len)), .val (.int (Int32.ofNat i)), z] [])) → ∃ (T' : State) (B' : Cell) (z' : Slot), Stand p l e { frames := 0, locals := 0, cells := 0, slots := 0 } s m #[.ref b, .int (Int32.ofNat o), .ref d, .int (Int32.ofNat q), .int (Int32.ofNat len)] below meth c T' ([] ++ copyLocs d q len) 0 0 ∧ Put d B' s₁ T' ∧ Laid B B' q (q + len) (fun j => Value.int (lo8 (cv A (o + (j - q))))) ∧
      Steps p.tables e below (s₁.setTop (entryFrame m #[.ref b, .int (Int32.ofNat o), .ref d, .int (Int32.ofNat q), .int (Int32.ofNat len)] 7)) (T'.setTop (mkF m 3 #[.val (.ref b), .val (.int (Int32.ofNat (o + len))), .val (.ref d), .val (.int (Int32.ofNat (q + len))), .val (.int (Int32.ofNat len)), .val (.int (Int32.ofNat len)), z'] [])) := by
    intro r
    induction r with
    | zero =>
      intro i hi z hz Tl Bk Xl pl fl cl
      have hil : i = len := by omega
      rw [hil] at Xl fl cl
      exact ⟨Tl, Bk, z, Xl, pl, fl, cl⟩
    | succ r ih =>
      intro i hi z hz Tl Bk Xl pl fl cl
      have all := X0.warmed.alike.symm.trans Xl.warmed.alike
      have hAl := hA0.keep all (pl.other hne hA0.1)
      have hBk := hB0.like all pl.1 fl.1 fl.2.1 fl.2.2.1
      have hlt : q + i < Bk.slots.size := by rw [fl.2.2.1]; omega
      have c3 : Steps p.tables e below (s₁.setTop (entryFrame m #[.ref b, .int (Int32.ofNat o), .ref d, .int (Int32.ofNat q), .int (Int32.ofNat len)] 7)) (Tl.setTop (mkF m 12 #[.val (.ref b), .val (.int (Int32.ofNat (o + i))), .val (.ref d), .val (.int (Int32.ofNat (q + i))), .val (.int (Int32.ofNat len)), .val (.int (Int32.ofNat i)), z] [.int (Int32.ofNat (o + i)), .ref b])) := cl.trans (by
        refine XS.iload Xl.here hexec rfl (hb hbytes d3) rfl ?_
        refine XS.iload Xl.here hexec rfl (hb hbytes d5) rfl ?_
        refine XS.icmpNo Xl.here hexec rfl (hb hbytes d7) rfl (ii_ge_f (lt32 (by omega) (by omega))) ?_
        refine XS.aloadN Xl.here hexec rfl (hb hbytes d10) rfl rfl ?_
        refine XS.iloadN Xl.here hexec rfl (hb hbytes d11) rfl ?_
        exact Steps.refl _)
      have c4 : Steps p.tables e below (s₁.setTop (entryFrame m #[.ref b, .int (Int32.ofNat o), .ref d, .int (Int32.ofNat q), .int (Int32.ofNat len)] 7)) (Tl.setTop (mkF m 13 #[.val (.ref b), .val (.int (Int32.ofNat (o + i))), .val (.ref d), .val (.int (Int32.ofNat (q + i))), .val (.int (Int32.ofNat len)), .val (.int (Int32.ofNat i)), z] [.int (cv A (o + i))])) := c3.trans (by
        refine Xl.aget hexec hAl rfl (hA.get (i := o + i) (by omega)) rfl rfl (hb hbytes d12) ?_
        exact Steps.refl _)
      have c5 : Steps p.tables e below (s₁.setTop (entryFrame m #[.ref b, .int (Int32.ofNat o), .ref d, .int (Int32.ofNat q), .int (Int32.ofNat len)] 7)) (Tl.setTop (mkF m 15 #[.val (.ref b), .val (.int (Int32.ofNat (o + i))), .val (.ref d), .val (.int (Int32.ofNat (q + i))), .val (.int (Int32.ofNat len)), .val (.int (Int32.ofNat i)), .val (.int (cv A (o + i)))] [])) := c4.trans (by
        refine XS.istoreS Xl.here hexec rfl (hb hbytes d13) rfl rfl hz ?_
        exact Steps.refl _)
      have c6 : Steps p.tables e below (s₁.setTop (entryFrame m #[.ref b, .int (Int32.ofNat o), .ref d, .int (Int32.ofNat q), .int (Int32.ofNat len)] 7)) (Tl.setTop (mkF m 31 #[.val (.ref b), .val (.int (Int32.ofNat (o + i))), .val (.ref d), .val (.int (Int32.ofNat (q + i))), .val (.int (Int32.ofNat len)), .val (.int (Int32.ofNat i)), .val (.int (cv A (o + i)))] [.int (lo8 (cv A (o + i))), .int (Int32.ofNat (q + i)), .ref d])) := c5.trans (by
        refine XS.iload Xl.here hexec rfl (hb hbytes d15) rfl ?_
        refine sipushV Xl.here hexec rfl 255 (hb hbytes d17) (by decide) ?_
        refine XS.icmpYes Xl.here hexec rfl (pc0 := 20) rfl (hb hbytes d20) rfl (ii_le_t (hp i (by omega))) (by decide) rfl ?_
        refine XS.aloadN Xl.here hexec rfl (hb hbytes d26) rfl rfl ?_
        refine XS.iloadN Xl.here hexec rfl (hb hbytes d27) rfl ?_
        refine XS.iload Xl.here hexec rfl (hb hbytes d28) rfl ?_
        refine i2b Xl.here hexec rfl (hb hbytes d30) rfl ?_
        exact Steps.refl _)
      obtain ⟨T7, X7, p7, st7⟩ := Xl.aput hexec hBk rfl hlt rfl (fits_lo8 (cv A (o + i))) (g := (mkF m 31 #[.val (.ref b), .val (.int (Int32.ofNat (o + i))), .val (.ref d), .val (.int (Int32.ofNat (q + i))), .val (.int (Int32.ofNat len)), .val (.int (Int32.ofNat i)), .val (.int (cv A (o + i)))] [.int (lo8 (cv A (o + i))), .int (Int32.ofNat (q + i)), .ref d])) rfl (rest := []) rfl (hb hbytes d31)
      have c8 : Steps p.tables e below (s₁.setTop (entryFrame m #[.ref b, .int (Int32.ofNat o), .ref d, .int (Int32.ofNat q), .int (Int32.ofNat len)] 7)) (T7.setTop (mkF m 32 #[.val (.ref b), .val (.int (Int32.ofNat (o + i))), .val (.ref d), .val (.int (Int32.ofNat (q + i))), .val (.int (Int32.ofNat len)), .val (.int (Int32.ofNat i)), .val (.int (cv A (o + i)))] [])) := c6.trans (st7 _ (Steps.refl _))
      have c9 : Steps p.tables e below (s₁.setTop (entryFrame m #[.ref b, .int (Int32.ofNat o), .ref d, .int (Int32.ofNat q), .int (Int32.ofNat len)] 7)) (T7.setTop (mkF m 3 #[.val (.ref b), .val (.int (Int32.ofNat (o + i) + 1)), .val (.ref d), .val (.int (Int32.ofNat (q + i) + 1)), .val (.int (Int32.ofNat len)), .val (.int (Int32.ofNat i + 1)), .val (.int (cv A (o + i)))] [])) := c8.trans (by
        refine iincV X7.here hexec rfl 1 (hb hbytes d32) (by decide) rfl rfl ?_
        refine iincV X7.here hexec rfl 1 (hb hbytes d35) (by decide) rfl rfl ?_
        refine iincV X7.here hexec rfl 1 (hb hbytes d38) (by decide) rfl rfl ?_
        refine XS.goto X7.here hexec rfl (pc0 := 41) rfl (hb hbytes d41) (by decide) rfl ?_
        exact Steps.refl _)
      have c10 : Steps p.tables e below (s₁.setTop (entryFrame m #[.ref b, .int (Int32.ofNat o), .ref d, .int (Int32.ofNat q), .int (Int32.ofNat len)] 7)) (T7.setTop (mkF m 3 #[.val (.ref b), .val (.int (Int32.ofNat (o + (i + 1)))), .val (.ref d), .val (.int (Int32.ofNat (q + (i + 1)))), .val (.int (Int32.ofNat len)), .val (.int (Int32.ofNat (i + 1))), .val (.int (cv A (o + i)))] [])) := by
        have := c9
        rw [succ32, succ32, succ32] at this
        exact this
      exact ih (i + 1) (by omega) _ (Or.inr ⟨_, rfl, rfl⟩) T7 _ (by rw [copyLocs_step, ← List.append_assoc]; exact X7) (pl.trans p7) (fl.step (by omega) hlt (by simp)) c10
  obtain ⟨T9, B9, z9, X9, p9, f9, g9⟩ := loop len 0 (by omega) .unset (Or.inl rfl) s₁ B (by simpa [copyLocs] using X0) ⟨hB0.1, fun _ _ => rfl, rfl⟩ (Laid.zero _ _ _) c2
  have c11 : Steps p.tables e below (s₁.setTop (entryFrame m #[.ref b, .int (Int32.ofNat o), .ref d, .int (Int32.ofNat q), .int (Int32.ofNat len)] 7)) (T9.setTop (mkF m 46 #[.val (.ref b), .val (.int (Int32.ofNat (o + len))), .val (.ref d), .val (.int (Int32.ofNat (q + len))), .val (.int (Int32.ofNat len)), .val (.int (Int32.ofNat len)), z9] [.int (Int32.ofNat len)])) := g9.trans (by
    refine XS.iload X9.here hexec rfl (hb hbytes d3) rfl ?_
    refine XS.iload X9.here hexec rfl (hb hbytes d5) rfl ?_
    refine XS.icmpYes X9.here hexec rfl (pc0 := 7) rfl (hb hbytes d7) rfl (ii_ge_t (nlt32 (by omega) (Nat.le_refl _))) (by decide) rfl ?_
    refine XS.iload X9.here hexec rfl (hb hbytes d44) rfl ?_
    exact Steps.refl _)
  exact ⟨T9, some (.int (Int32.ofNat len)), _, _, _, X9, by simp, rfl, rfl, (fun h => by cases h), ⟨rfl, B9, p9.from hh0, f9⟩, fun fs hl => c11.trans (X9.ireturnOut hexec hret rfl (Or.inl rfl) (hb hbytes d46) hl)⟩
end Cmp5
namespace Cmp3
def yN : MethodName := ⟨"java/lang/StringUTF16", "compress", "([CII)[B"⟩
abbrev yB : ByteArray := jdk_52_method_16_code
theorem d0 : decode yB 0 = .ok (.iload_n 2, 1) := by decide +kernel
theorem d1 : decode yB 1 = .ok (.newarray .byte, 2) := by decide +kernel
theorem d3 : decode yB 3 = .ok (.astore_n 3, 1) := by decide +kernel
theorem d4 : decode yB 4 = .ok (.aload_n 0, 1) := by decide +kernel
theorem d5 : decode yB 5 = .ok (.iload_n 1, 1) := by decide +kernel
theorem d6 : decode yB 6 = .ok (.aload_n 3, 1) := by decide +kernel
theorem d7 : decode yB 7 = .ok (.iconst 0, 1) := by decide +kernel
theorem d8 : decode yB 8 = .ok (.iload_n 2, 1) := by decide +kernel
theorem d9 : decode yB 9 = .ok (.invokestatic 115, 3) := by decide +kernel
theorem d12 : decode yB 12 = .ok (.istore 4, 2) := by decide +kernel
theorem d14 : decode yB 14 = .ok (.iload 4, 2) := by decide +kernel
theorem d16 : decode yB 16 = .ok (.iload_n 2, 1) := by decide +kernel
theorem d17 : decode yB 17 = .ok (.if_icmp (.eq) 40, 3) := by decide +kernel
theorem d57 : decode yB 57 = .ok (.aload_n 3, 1) := by decide +kernel
theorem d58 : decode yB 58 = .ok (.areturn, 1) := by decide +kernel
def site : List Cond := [.arrayClass .byte, Cmp5.tab] ++ staticW U16 115 Cmp5.yN
def tab : Cond := tabOf yN yB 6 (some (.array .byte)) site
def P (b : Addr) (A : Cell) (o len : Nat) (args : Array Value) (s : State) : Prop := args = #[.ref b, .int (Int32.ofNat o), .int (Int32.ofNat len)] ∧ Ch b A s ∧ o + len ≤ A.slots.size ∧ len ≤ 536870912 ∧ ∀ i, i < len → ¬ 255 < cv A (o + i)
def E (b : Addr) (A : Cell) (o len : Nat) (r : Option Value) (s u : State) : Prop := NewArr .byte "[B" len (fun j => .int (lo8 (cv A (o + j)))) r s u ∧ u.heap.size = s.heap.size + 1
/-- no char of the range above 255: a new byte[] of their low bytes -/
theorem law (l : Launch) (b : Addr) (A : Cell) (o len : Nat) : Law l yN 3 3 1 18 yB 6 (some (.array .byte)) site (P b A o len) (E b A o len) [] 1 len := by
  refine Law.of_walk (plainFor_of_name (by decide +kernel)) (by decide +kernel) (by decide +kernel) (by decide) (fun _ _ h => by rw [h.1]; rfl) (fun _ U U' hal hh h => ⟨h.1, h.2.1.mv hal hh, h.2.2⟩) (fun r U U' V V' h1 hal h2 h => ⟨NewArr.mv r U U' V V' h1 hal h2 h.1, by rw [h1, h2]; exact h.2⟩) ?_
  intro p e s m args below meth c s₁ X0 hexec hbytes hml hret hlk hnm hown hh0 W hP
  obtain ⟨rfl, hA, l1, l2, hp⟩ := hP
  have a31 := hA.1.2.2.2
  have c1 : Steps p.tables e below (s₁.setTop (entryFrame m #[.ref b, .int (Int32.ofNat o), .int (Int32.ofNat len)] 6)) (s₁.setTop (mkF m 0 #[.val (.ref b), .val (.int (Int32.ofNat o)), .val (.int (Int32.ofNat len)), .unset, .unset, .unset] [])) := entry rfl
  have c2 : Steps p.tables e below (s₁.setTop (entryFrame m #[.ref b, .int (Int32.ofNat o), .int (Int32.ofNat len)] 6)) (s₁.setTop (mkF m 1 #[.val (.ref b), .val (.int (Int32.ofNat o)), .val (.int (Int32.ofNat len)), .unset, .unset, .unset] [.int (Int32.ofNat len)])) := c1.trans (by
    refine XS.iloadN X0.here hexec rfl (hb hbytes d0) rfl ?_
    exact Steps.refl _)
  obtain ⟨T3, B3, X3, ba3, bs3, bv3, bh3, bf3, st3⟩ := X0.anew hexec (atype := .byte) (wk W (.arrayClass .byte)) rfl (by show len * 1 ≤ _; omega) (by omega) (g := (mkF m 1 #[.val (.ref b), .val (.int (Int32.ofNat o)), .val (.int (Int32.ofNat len)), .unset, .unset, .unset] [.int (Int32.ofNat len)])) rfl (hb hbytes d1) (rest := []) rfl (Nat.le_refl _) (by show 0 + len ≤ len; omega)
  rw [hh0] at ba3 st3
  have kp3 : XT.Kept s T3 := (XT.Kept.of_eq hh0).push bh3
  have hA3 := hA.keep X3.warmed.alike (kp3 _ _ hA.1.1)
  have hne : b ≠ s.heap.size := hA.1.ne
  have c4 : Steps p.tables e below (s₁.setTop (entryFrame m #[.ref b, .int (Int32.ofNat o), .int (Int32.ofNat len)] 6)) (T3.setTop (mkF m 3 #[.val (.ref b), .val (.int (Int32.ofNat o)), .val (.int (Int32.ofNat len)), .unset, .unset, .unset] [.ref s.heap.size])) := c2.trans (st3 _ (Steps.refl _))
  have c5 : Steps p.tables e below (s₁.setTop (entryFrame m #[.ref b, .int (Int32.ofNat o), .int (Int32.ofNat len)] 6)) (T3.setTop (mkF m 9 #[.val (.ref b), .val (.int (Int32.ofNat o)), .val (.int (Int32.ofNat len)), .val (.ref s.heap.size), .unset, .unset] [.int (Int32.ofNat len), .int 0, .ref s.heap.size, .int (Int32.ofNat o), .ref b])) := c4.trans (by
    refine XS.astoreN X3.here hexec rfl (hb hbytes d3) rfl rfl rfl ?_
    refine XS.aloadN X3.here hexec rfl (hb hbytes d4) rfl rfl ?_
    refine XS.iloadN X3.here hexec rfl (hb hbytes d5) rfl ?_
    refine XS.aloadN X3.here hexec rfl (hb hbytes d6) rfl rfl ?_
    refine iconstV X3.here hexec rfl 0 (hb hbytes d7) (by decide) ?_
    refine XS.iloadN X3.here hexec rfl (hb hbytes d8) rfl ?_
    exact Steps.refl _)
  obtain ⟨v6, T6, X6, E6, g6⟩ := X3.callS hexec (Cmp5.law l b A s.heap.size B3 o 0 len) hown (wks W (staticW U16 115 Cmp5.yN)) (wk W Cmp5.tab) (W := 0) (Nat.le_of_ble_eq_true rfl) (Nat.le_of_ble_eq_true rfl) (Nat.le_refl _) (by show 0 + len + 0 ≤ len; omega) (g := (mkF m 9 #[.val (.ref b), .val (.int (Int32.ofNat o)), .val (.int (Int32.ofNat len)), .val (.ref s.heap.size), .unset, .unset] [.int (Int32.ofNat len), .int (Int32.ofNat 0), .ref s.heap.size, .int (Int32.ofNat o), .ref b])) rfl (by rw [hml]; rfl) c5 (argsL := [.ref b, .int (Int32.ofNat o), .ref s.heap.size, .int (Int32.ofNat 0), .int (Int32.ofNat len)]) (rest := []) rfl rfl (by show 2 * 0 + 0 ≤ _; decide) (hb hbytes d9) (⟨rfl, hA3, ba3, hne, l1, by rw [bs3]; simp, hp⟩)
  obtain ⟨rfl, B6, p6, f6⟩ := E6
  have c7 : Steps p.tables e below (s₁.setTop (entryFrame m #[.ref b, .int (Int32.ofNat o), .int (Int32.ofNat len)] 6)) (T6.setTop (mkF m 12 #[.val (.ref b), .val (.int (Int32.ofNat o)), .val (.int (Int32.ofNat len)), .val (.ref s.heap.size), .unset, .unset] [.int (Int32.ofNat len)])) := g6
  have c8 : Steps p.tables e below (s₁.setTop (entryFrame m #[.ref b, .int (Int32.ofNat o), .int (Int32.ofNat len)] 6)) (T6.setTop (mkF m 58 #[.val (.ref b), .val (.int (Int32.ofNat o)), .val (.int (Int32.ofNat len)), .val (.ref s.heap.size), .val (.int (Int32.ofNat len)), .unset] [.ref s.heap.size])) := c7.trans (by
    refine XS.istore X6.here hexec rfl (hb hbytes d12) rfl rfl ?_
    refine XS.iload X6.here hexec rfl (hb hbytes d14) rfl ?_
    refine XS.iloadN X6.here hexec rfl (hb hbytes d16) rfl ?_
    refine XS.icmpYes X6.here hexec rfl (pc0 := 17) rfl (hb hbytes d17) rfl (ii_eq_t rfl) (by decide) rfl ?_
    refine XS.aloadN X6.here hexec rfl (hb hbytes d57) rfl rfl ?_
    exact Steps.refl _)
  have X8 := X6.wide (L' := []) (cells' := 1) (slots' := len) (fun x hx hlt => by
    simp only [List.nil_append, copyLocs, List.mem_map, List.mem_range] at hx
    obtain ⟨i, -, rfl⟩ := hx
    exact absurd hlt (Nat.lt_irrefl _)) (Nat.le_refl _) (by omega)
  exact ⟨T6, some (.ref s.heap.size), _, _, _, X8, rfl, rfl, rfl, (fun h => by cases h), ⟨⟨rfl, B6, ba3.like (X3.warmed.alike.symm.trans X6.warmed.alike) p6.1 f6.1 f6.2.1 f6.2.2.1, f6.2.1.trans bv3, by rw [X6.warmed.alike.findClass, f6.1]; exact bf3, by rw [f6.2.2.1, bs3]; simp, fun j hj => by rw [f6.2.2.2 j, if_pos (by omega)]; rfl, kp3.put p6 (Nat.le_refl _)⟩, by rw [p6.2.2, bh3, hh0]; simp⟩, fun fs hl => c8.trans (X8.areturnOut hexec rfl hret rfl (hb hbytes d58) hl)⟩
end Cmp3
namespace CodL
def yN : MethodName := ⟨"java/lang/StringUTF16", "coderFromArrayLen", "([BI)B"⟩
abbrev yB : ByteArray := jdk_52_method_15_code
theorem d0 : decode yB 0 = .ok (.iload_n 1, 1) := by decide +kernel
theorem d1 : decode yB 1 = .ok (.aload_n 0, 1) := by decide +kernel
theorem d2 : decode yB 2 = .ok (.arraylength, 1) := by decide +kernel
theorem d3 : decode yB 3 = .ok (.isub, 1) := by decide +kernel
theorem d4 : decode yB 4 = .ok (.bipush 31, 2) := by decide +kernel
theorem d6 : decode yB 6 = .ok (.iushr, 1) := by decide +kernel
theorem d7 : decode yB 7 = .ok (.i2b, 1) := by decide +kernel
theorem d8 : decode yB 8 = .ok (.ireturn, 1) := by decide +kernel
def site : List Cond := []
def tab : Cond := tabOf yN yB 2 (some .byte) site
def P (d : Addr) (B : Cell) (args : Array Value) (s : State) : Prop := args = #[.ref d, .int (Int32.ofNat B.slots.size)] ∧ Arr .byte d B s
def E (r : Option Value) (s u : State) : Prop := XT.PureE (some (.int 0)) r s u
/-- an array as long as the number of chars: LATIN1 -/
theorem law (l : Launch) (d : Addr) (B : Cell) : Law l yN 2 2 0 0 yB 2 (some .byte) site (P d B) E [] 0 0 := by
  refine Law.of_walk (plainFor_of_name (by decide +kernel)) (by decide +kernel) (by decide +kernel) (by decide) (fun _ _ h => by rw [h.1]; rfl) (fun _ U U' hal hh h => ⟨h.1, h.2.mv hal hh⟩) (fun r U U' V V' h1 hal h2 h => XT.PureE.mv r U U' V V' h1 hal h2 h) ?_
  intro p e s m args below meth c s₁ X0 hexec hbytes hml hret hlk hnm hown hh0 W hP
  obtain ⟨rfl, hB⟩ := hP
  have hB0 := hB.mv X0.warmed.alike hh0
  have c1 : Steps p.tables e below (s₁.setTop (entryFrame m #[.ref d, .int (Int32.ofNat B.slots.size)] 2)) (s₁.setTop (mkF m 0 #[.val (.ref d), .val (.int (Int32.ofNat B.slots.size))] [])) := entry rfl
  have c2 : Steps p.tables e below (s₁.setTop (entryFrame m #[.ref d, .int (Int32.ofNat B.slots.size)] 2)) (s₁.setTop (mkF m 2 #[.val (.ref d), .val (.int (Int32.ofNat B.slots.size))] [.ref d, .int (Int32.ofNat B.slots.size)])) := c1.trans (by
    refine XS.iloadN X0.here hexec rfl (hb hbytes d0) rfl ?_
    refine XS.aloadN X0.here hexec rfl (hb hbytes d1) rfl rfl ?_
    exact Steps.refl _)
  have c3 : Steps p.tables e below (s₁.setTop (entryFrame m #[.ref d, .int (Int32.ofNat B.slots.size)] 2)) (s₁.setTop (mkF m 8 #[.val (.ref d), .val (.int (Int32.ofNat B.slots.size))] [.int (lo8 (ushr (Int32.ofNat B.slots.size - Int32.ofNat B.slots.size) 31))])) := c2.trans (by
    refine X0.alen hexec hB0 rfl rfl (hb hbytes d2) ?_
    refine XS.isub X0.here hexec rfl (hb hbytes d3) rfl ?_
    refine bipushV X0.here hexec rfl 31 (hb hbytes d4) (by decide) ?_
    refine iushr X0.here hexec rfl (hb hbytes d6) rfl ?_
    refine i2b X0.here hexec rfl (hb hbytes d7) rfl ?_
    exact Steps.refl _)
  have e0 : lo8 (ushr (Int32.ofNat B.slots.size - Int32.ofNat B.slots.size) 31) = 0 := by rw [Int32.sub_self]; decide
  rw [e0] at c3
  exact ⟨s₁, some (.int 0), _, _, _, X0, rfl, rfl, rfl, (fun h => by cases h), ⟨rfl, hh0⟩, fun fs hl => c3.trans (X0.ireturnOut hexec hret rfl (Or.inr (Or.inr (Or.inl rfl))) (hb hbytes d8) hl)⟩
end CodL
/-- the String at a is Latin-1 over a new byte[] (the heap's one new cell): the low bytes of the len chars of A from o on; every cell but a is kept -/
def Got (a : Addr) (D : Cell) (fV fC : Field) (A : Cell) (o len : Nat) (r : Option Value) (s u : State) : Prop := r = none ∧ ∃ D' V : Cell, Blank "java/lang/String" a D' u ∧ Same D D' [fV.slot, fC.slot] ∧ D'.slots[fV.slot]? = some (.ref s.heap.size) ∧ D'.slots[fC.slot]? = some (.int 0) ∧ Arr .byte s.heap.size V u ∧ V.vm = .none ∧ u.vm.findClass "[B" = some V.cls ∧ V.slots.size = len ∧ (∀ j, j < len → V.slots[j]? = some (.int (lo8 (cv A (o + j))))) ∧ (∀ (y : Addr) (c : Cell), y ≠ a → s.heap[y]? = some c → u.heap[y]? = some c) ∧ u.heap.size = s.heap.size + 1
theorem Got.mv {a : Addr} {D A : Cell} {fV fC : Field} {o len : Nat} : ∀ r (U U' V V' : State), U'.heap = U.heap → V.vm.Alike V'.vm → V'.heap = V.heap → Got a D fV fC A o len r U V → Got a D fV fC A o len r U' V' :=
  fun r U U' V V' h1 hal h2 ⟨e0, D', X, a1, a2, a3, a4, a5, a6, a7, a8, a9, a10, a11⟩ => ⟨e0, D', X, a1.mv hal h2, a2, by rw [h1]; exact a3, a4, by rw [h1]; exact a5.mv hal h2, a6, by rw [hal.findClass]; exact a7, a8, a9, by rw [h1, h2]; exact a10, by rw [h1, h2]; exact a11⟩
namespace New4
def yN : MethodName := ⟨"java/lang/String", "<init>", "([CIILjava/lang/Void;)V"⟩
abbrev yB : ByteArray := jdk_42_method_149_code
theorem d0 : decode yB 0 = .ok (.aload_n 0, 1) := by decide +kernel
theorem d1 : decode yB 1 = .ok (.invokespecial 1, 3) := by decide +kernel
theorem d4 : decode yB 4 = .ok (.iload_n 3, 1) := by decide +kernel
theorem d5 : decode yB 5 = .ok (.ifCond (.ne) 22, 3) := by decide +kernel
theorem d27 : decode yB 27 = .ok (.getstatic 38, 3) := by decide +kernel
theorem d30 : decode yB 30 = .ok (.ifCond (.eq) 28, 3) := by decide +kernel
theorem d33 : decode yB 33 = .ok (.aload_n 1, 1) := by decide +kernel
theorem d34 : decode yB 34 = .ok (.iload_n 2, 1) := by decide +kernel
theorem d35 : decode yB 35 = .ok (.iload_n 3, 1) := by decide +kernel
theorem d36 : decode yB 36 = .ok (.invokestatic 177, 3) := by decide +kernel
theorem d39 : decode yB 39 = .ok (.astore 5, 2) := by decide +kernel
theorem d41 : decode yB 41 = .ok (.aload_n 0, 1) := by decide +kernel
theorem d42 : decode yB 42 = .ok (.aload 5, 2) := by decide +kernel
theorem d44 : decode yB 44 = .ok (.iload_n 3, 1) := by decide +kernel
theorem d45 : decode yB 45 = .ok (.invokestatic 47, 3) := by decide +kernel
theorem d48 : decode yB 48 = .ok (.putfield 15, 3) := by decide +kernel
theorem d51 : decode yB 51 = .ok (.aload_n 0, 1) := by decide +kernel
theorem d52 : decode yB 52 = .ok (.aload 5, 2) := by decide +kernel
theorem d54 : decode yB 54 = .ok (.putfield 9, 3) := by decide +kernel
theorem d57 : decode yB 57 = .ok (.return_, 1) := by decide +kernel
def site : List Cond := [.fieldLink "java/lang/String" 38 "java/lang/String" "COMPACT_STRINGS" "Z", Cmp3.tab, CodL.tab, .laysFinal "java/lang/String" "java/lang/String" "value" "[B", .fieldLink "java/lang/String" 9 "java/lang/String" "value" "[B", .laysFinal "java/lang/String" "java/lang/String" "coder" "B", .fieldLink "java/lang/String" 15 "java/lang/String" "coder" "B"] ++ objW "java/lang/String" 1 ++ staticW "java/lang/String" 177 Cmp3.yN ++ staticW "java/lang/String" 47 CodL.yN
def tab : Cond := tabOf yN yB 6 none site
def P (a : Addr) (D : Cell) (fV fC : Field) (b : Addr) (A : Cell) (z : Int32) (o len : Nat) (args : Array Value) (s : State) : Prop := args = #[.ref a, .ref b, .int (Int32.ofNat o), .int (Int32.ofNat len), .null] ∧ Blank "java/lang/String" a D s ∧ Found "java/lang/String" "value" "[B" fV s ∧ Found "java/lang/String" "coder" "B" fC s ∧ Ch b A s ∧ StaticIs s "java/lang/String" "COMPACT_STRINGS" "Z" (.int z) ∧ ¬ z = 0 ∧ 0 < len ∧ o + len ≤ A.slots.size ∧ len ≤ 536870912 ∧ ∀ i, i < len → ¬ 255 < cv A (o + i)
def E (a : Addr) (D : Cell) (fV fC : Field) (A : Cell) (o len : Nat) (r : Option Value) (s u : State) : Prop := Got a D fV fC A o len r s u
/-- len > 0, no char of the range above 255: a Latin-1 String of their low bytes -/
theorem law (l : Launch) (a : Addr) (D : Cell) (fV fC : Field) (b : Addr) (A : Cell) (z : Int32) (o len : Nat) : Law l yN 5 4 2 35 yB 6 none site (P a D fV fC b A z o len) (E a D fV fC A o len) [⟨a, fC.slot⟩, ⟨a, fV.slot⟩] 1 len := by
  refine Law.of_walk (plainFor_of_name (by decide +kernel)) (by decide +kernel) (by decide +kernel) (by decide) (fun _ _ h => by rw [h.1]; rfl) (fun _ U U' hal hh h => ⟨h.1, h.2.1.mv hal hh, h.2.2.1.al hal, h.2.2.2.1.al hal, h.2.2.2.2.1.mv hal hh, h.2.2.2.2.2.1.there hal hh, h.2.2.2.2.2.2⟩) (fun r U U' V V' h1 hal h2 h => Got.mv r U U' V V' h1 hal h2 h) ?_
  intro p e s m args below meth c s₁ X0 hexec hbytes hml hret hlk hnm hown hh0 W hP
  obtain ⟨rfl, hB, f1, f2, hA, s1, hz, l0, l1, l2, hp⟩ := hP
  have a31 := hA.1.2.2.2
  have c1 : Steps p.tables e below (s₁.setTop (entryFrame m #[.ref a, .ref b, .int (Int32.ofNat o), .int (Int32.ofNat len), .null] 6)) (s₁.setTop (mkF m 0 #[.val (.ref a), .val (.ref b), .val (.int (Int32.ofNat o)), .val (.int (Int32.ofNat len)), .val .null, .unset] [])) := entry rfl
  have c2 : Steps p.tables e below (s₁.setTop (entryFrame m #[.ref a, .ref b, .int (Int32.ofNat o), .int (Int32.ofNat len), .null] 6)) (s₁.setTop (mkF m 1 #[.val (.ref a), .val (.ref b), .val (.int (Int32.ofNat o)), .val (.int (Int32.ofNat len)), .val .null, .unset] [.ref a])) := c1.trans (by
    refine XS.aloadN X0.here hexec rfl (hb hbytes d0) rfl rfl ?_
    exact Steps.refl _)
  obtain ⟨T3, X3, q3, st3⟩ := X0.oinit hexec hown (wks W (objW "java/lang/String" 1)) (g := (mkF m 1 #[.val (.ref a), .val (.ref b), .val (.int (Int32.ofNat o)), .val (.int (Int32.ofNat len)), .val .null, .unset] [.ref a])) rfl (by rw [hml]; rfl) (rest := []) rfl (hb hbytes d1) (W := 0) (by show 2 * 0 + 0 ≤ _; decide) (Nat.le_of_ble_eq_true rfl) (Nat.le_of_ble_eq_true rfl)
  have hh3 := q3.trans hh0
  have c4 : Steps p.tables e below (s₁.setTop (entryFrame m #[.ref a, .ref b, .int (Int32.ofNat o), .int (Int32.ofNat len), .null] 6)) (T3.setTop (mkF m 27 #[.val (.ref a), .val (.ref b), .val (.int (Int32.ofNat o)), .val (.int (Int32.ofNat len)), .val .null, .unset] [])) := (c2.trans (st3 _ (Steps.refl _))).trans (by
    refine XS.iloadN X3.here hexec rfl (hb hbytes d4) rfl ?_
    refine XS.ifYes X3.here hexec rfl (pc0 := 5) rfl (hb hbytes d5) rfl (i0_ne_t (nz32 (by omega) l0)) (by decide) rfl ?_
    exact Steps.refl _)
  obtain ⟨T5, X5, q5, st5⟩ := X3.sget hexec hown (wk W (.fieldLink "java/lang/String" 38 "java/lang/String" "COMPACT_STRINGS" "Z")) s1 (fun _ _ h => by rw [hh3]; exact h) (g := (mkF m 27 #[.val (.ref a), .val (.ref b), .val (.int (Int32.ofNat o)), .val (.int (Int32.ofNat len)), .val .null, .unset] [])) rfl (hb hbytes d27)
  have hh5 := q5.trans hh3
  have c6 : Steps p.tables e below (s₁.setTop (entryFrame m #[.ref a, .ref b, .int (Int32.ofNat o), .int (Int32.ofNat len), .null] 6)) (T5.setTop (mkF m 30 #[.val (.ref a), .val (.ref b), .val (.int (Int32.ofNat o)), .val (.int (Int32.ofNat len)), .val .null, .unset] [.int z])) := c4.trans (st5 _ (Steps.refl _))
  have c7 : Steps p.tables e below (s₁.setTop (entryFrame m #[.ref a, .ref b, .int (Int32.ofNat o), .int (Int32.ofNat len), .null] 6)) (T5.setTop (mkF m 36 #[.val (.ref a), .val (.ref b), .val (.int (Int32.ofNat o)), .val (.int (Int32.ofNat len)), .val .null, .unset] [.int (Int32.ofNat len), .int (Int32.ofNat o), .ref b])) := c6.trans (by
    refine XS.ifNo X5.here hexec rfl (hb hbytes d30) rfl (i0_eq_f hz) ?_
    refine XS.aloadN X5.here hexec rfl (hb hbytes d33) rfl rfl ?_
    refine XS.iloadN X5.here hexec rfl (hb hbytes d34) rfl ?_
    refine XS.iloadN X5.here hexec rfl (hb hbytes d35) rfl ?_
    exact Steps.refl _)
  obtain ⟨v8, T8, X8, E8, g8⟩ := X5.callS hexec (Cmp3.law l b A o len) hown (wks W (staticW "java/lang/String" 177 Cmp3.yN)) (wk W Cmp3.tab) (W := 0) (Nat.le_of_ble_eq_true rfl) (Nat.le_of_ble_eq_true rfl) (Nat.le_refl _) (by show 0 + len ≤ len; omega) (g := (mkF m 36 #[.val (.ref a), .val (.ref b), .val (.int (Int32.ofNat o)), .val (.int (Int32.ofNat len)), .val .null, .unset] [.int (Int32.ofNat len), .int (Int32.ofNat o), .ref b])) rfl (by rw [hml]; rfl) c7 (argsL := [.ref b, .int (Int32.ofNat o), .int (Int32.ofNat len)]) (rest := []) rfl rfl (by show 2 * 0 + 0 ≤ _; decide) (hb hbytes d36) (⟨rfl, hA.mv X5.warmed.alike hh5, l1, l2, hp⟩)
  obtain ⟨e8, z8⟩ := E8
  obtain ⟨rfl, N, n1, n2, n3, n4, n5, n6⟩ := NewArr.mv _ T5 s _ _ hh5.symm (Vm.Alike.refl _) rfl e8
  rw [hh5] at z8
  have hB1 := hB.keep X8.warmed.alike (n6 _ _ hB.1)
  have hne : s.heap.size ≠ a := (Nat.ne_of_lt (Array.getElem?_eq_some_iff.mp hB.1).1).symm
  have c9 : Steps p.tables e below (s₁.setTop (entryFrame m #[.ref a, .ref b, .int (Int32.ofNat o), .int (Int32.ofNat len), .null] 6)) (T8.setTop (mkF m 39 #[.val (.ref a), .val (.ref b), .val (.int (Int32.ofNat o)), .val (.int (Int32.ofNat len)), .val .null, .unset] [.ref s.heap.size])) := g8
  have c10 : Steps p.tables e below (s₁.setTop (entryFrame m #[.ref a, .ref b, .int (Int32.ofNat o), .int (Int32.ofNat len), .null] 6)) (T8.setTop (mkF m 45 #[.val (.ref a), .val (.ref b), .val (.int (Int32.ofNat o)), .val (.int (Int32.ofNat len)), .val .null, .val (.ref s.heap.size)] [.int (Int32.ofNat N.slots.size), .ref s.heap.size, .ref a])) := by
    have hc : Steps p.tables e below (s₁.setTop (entryFrame m #[.ref a, .ref b, .int (Int32.ofNat o), .int (Int32.ofNat len), .null] 6)) (T8.setTop (mkF m 45 #[.val (.ref a), .val (.ref b), .val (.int (Int32.ofNat o)), .val (.int (Int32.ofNat len)), .val .null, .val (.ref s.heap.size)] [.int (Int32.ofNat len), .ref s.heap.size, .ref a])) := c9.trans (by
      refine XS.astore X8.here hexec rfl (hb hbytes d39) rfl rfl rfl ?_
      refine XS.aloadN X8.here hexec rfl (hb hbytes d41) rfl rfl ?_
      refine XS.aload X8.here hexec rfl (hb hbytes d42) rfl rfl ?_
      refine XS.iloadN X8.here hexec rfl (hb hbytes d44) rfl ?_
      exact Steps.refl _)
    rw [n4]; exact hc
  obtain ⟨v11, T11, X11, E11, g11⟩ := X8.callS hexec (CodL.law l s.heap.size N) hown (wks W (staticW "java/lang/String" 47 CodL.yN)) (wk W CodL.tab) (W := 1) (Nat.le_of_ble_eq_true rfl) (Nat.le_of_ble_eq_true rfl) (Nat.le_refl _) (by show 0 + len + 0 ≤ len; omega) (g := (mkF m 45 #[.val (.ref a), .val (.ref b), .val (.int (Int32.ofNat o)), .val (.int (Int32.ofNat len)), .val .null, .val (.ref s.heap.size)] [.int (Int32.ofNat N.slots.size), .ref s.heap.size, .ref a])) rfl (by rw [hml]; rfl) c10 (argsL := [.ref s.heap.size, .int (Int32.ofNat N.slots.size)]) (rest := [.ref a]) rfl rfl (by show 2 * 0 + (1 + 0) ≤ _; decide) (hb hbytes d45) (⟨rfl, n1⟩)
  obtain ⟨rfl, q11⟩ := E11
  have hB11 := hB1.mv (X8.warmed.alike.symm.trans X11.warmed.alike) q11
  have c12 : Steps p.tables e below (s₁.setTop (entryFrame m #[.ref a, .ref b, .int (Int32.ofNat o), .int (Int32.ofNat len), .null] 6)) (T11.setTop (mkF m 48 #[.val (.ref a), .val (.ref b), .val (.int (Int32.ofNat o)), .val (.int (Int32.ofNat len)), .val .null, .val (.ref s.heap.size)] [.int 0, .ref a])) := g11
  obtain ⟨T13, X13, p13, bl13, sl13, st13⟩ := X11.finit hexec hown (wk W (.fieldLink "java/lang/String" 15 "java/lang/String" "coder" "B")) (Or.inr ⟨_, (wk W (.laysFinal "java/lang/String" "java/lang/String" "coder" "B"))⟩) (Or.inl ⟨rfl, hnm⟩) f2 (Or.inl rfl) hB11 (t := .byte) (by decide +kernel) rfl (g := (mkF m 48 #[.val (.ref a), .val (.ref b), .val (.int (Int32.ofNat o)), .val (.int (Int32.ofNat len)), .val .null, .val (.ref s.heap.size)] [.int 0, .ref a])) rfl (rest := []) rfl (hb hbytes d48)
  have c14 : Steps p.tables e below (s₁.setTop (entryFrame m #[.ref a, .ref b, .int (Int32.ofNat o), .int (Int32.ofNat len), .null] 6)) (T13.setTop (mkF m 54 #[.val (.ref a), .val (.ref b), .val (.int (Int32.ofNat o)), .val (.int (Int32.ofNat len)), .val .null, .val (.ref s.heap.size)] [.ref s.heap.size, .ref a])) := (c12.trans (st13 _ (Steps.refl _))).trans (by
    refine XS.aloadN X13.here hexec rfl (hb hbytes d51) rfl rfl ?_
    refine XS.aload X13.here hexec rfl (hb hbytes d52) rfl rfl ?_
    exact Steps.refl _)
  obtain ⟨T15, X15, p15, bl15, sl15, st15⟩ := X13.finit hexec hown (wk W (.fieldLink "java/lang/String" 9 "java/lang/String" "value" "[B")) (Or.inr ⟨_, (wk W (.laysFinal "java/lang/String" "java/lang/String" "value" "[B"))⟩) (Or.inl ⟨rfl, hnm⟩) f1 (Or.inl rfl) bl13 (t := (.array .byte)) (by decide +kernel) rfl (g := (mkF m 54 #[.val (.ref a), .val (.ref b), .val (.int (Int32.ofNat o)), .val (.int (Int32.ofNat len)), .val .null, .val (.ref s.heap.size)] [.ref s.heap.size, .ref a])) rfl (rest := []) rfl (hb hbytes d54)
  have c16 : Steps p.tables e below (s₁.setTop (entryFrame m #[.ref a, .ref b, .int (Int32.ofNat o), .int (Int32.ofNat len), .null] 6)) (T15.setTop (mkF m 57 #[.val (.ref a), .val (.ref b), .val (.int (Int32.ofNat o)), .val (.int (Int32.ofNat len)), .val .null, .val (.ref s.heap.size)] [])) := c14.trans (st15 _ (Steps.refl _))
  have ap := apart (Or.inr ⟨_, (wk W (.laysFinal "java/lang/String" "java/lang/String" "value" "[B"))⟩) (Or.inr ⟨_, (wk W (.laysFinal "java/lang/String" "java/lang/String" "coder" "B"))⟩) f1 f2 (t₁ := .array .byte) (t₂ := .byte) (by decide +kernel) (by decide +kernel) (by decide)
  have al := X8.warmed.alike.symm.trans X15.warmed.alike
  have n7 : T11.heap[s.heap.size]? = some N := by rw [q11]; exact n1.1
  exact ⟨T15, none, _, _, _, X15, by simp, rfl, by omega, (fun _ => rfl), ⟨rfl, _, N, bl15, ((Same.refl D _).set _ (by simp)).set _ (by simp), sl15, (Cell.slots_setSlot_ne _ ap).trans sl13, n1.keep al (p15.other hne (p13.other hne n7)), n2, by rw [al.findClass]; exact n3, n4, n5, fun y c h1 h2 => p15.other h1 (p13.other h1 (by rw [q11]; exact n6 y c h2)), by rw [p15.2.2, p13.2.2, q11]; exact z8⟩, fun fs hl => c16.trans (X15.returnOut hexec hret (hb hbytes d57) hl)⟩
end New4
namespace New1
def yN : MethodName := ⟨"java/lang/String", "<init>", "([C)V"⟩
abbrev yB : ByteArray := jdk_42_method_3_code
theorem d0 : decode yB 0 = .ok (.aload_n 0, 1) := by decide +kernel
theorem d1 : decode yB 1 = .ok (.aload_n 1, 1) := by decide +kernel
theorem d2 : decode yB 2 = .ok (.iconst 0, 1) := by decide +kernel
theorem d3 : decode yB 3 = .ok (.aload_n 1, 1) := by decide +kernel
theorem d4 : decode yB 4 = .ok (.arraylength, 1) := by decide +kernel
theorem d5 : decode yB 5 = .ok (.aconst_null, 1) := by decide +kernel
theorem d6 : decode yB 6 = .ok (.invokespecial 27, 3) := by decide +kernel
theorem d9 : decode yB 9 = .ok (.return_, 1) := by decide +kernel
def site : List Cond := [New4.tab] ++ initW "java/lang/String" 27 New4.yN
def tab : Cond := tabOf yN yB 2 none site
def P (a : Addr) (D : Cell) (fV fC : Field) (b : Addr) (A : Cell) (z : Int32) (args : Array Value) (s : State) : Prop := args = #[.ref a, .ref b] ∧ Blank "java/lang/String" a D s ∧ Found "java/lang/String" "value" "[B" fV s ∧ Found "java/lang/String" "coder" "B" fC s ∧ Ch b A s ∧ StaticIs s "java/lang/String" "COMPACT_STRINGS" "Z" (.int z) ∧ ¬ z = 0 ∧ 0 < A.slots.size ∧ A.slots.size ≤ 536870912 ∧ ∀ i, i < A.slots.size → ¬ 255 < cv A i
def E (a : Addr) (D : Cell) (fV fC : Field) (A : Cell) (r : Option Value) (s u : State) : Prop := Got a D fV fC A 0 A.slots.size r s u
/-- new String(chars), not empty, no char above 255: a Latin-1 String of their low bytes -/
theorem law (l : Launch) (a : Addr) (D : Cell) (fV fC : Field) (b : Addr) (A : Cell) (z : Int32) : Law l yN 2 1 3 52 yB 2 none site (P a D fV fC b A z) (E a D fV fC A) [⟨a, fC.slot⟩, ⟨a, fV.slot⟩] 1 A.slots.size := by
  refine Law.of_walk (plainFor_of_name (by decide +kernel)) (by decide +kernel) (by decide +kernel) (by decide) (fun _ _ h => by rw [h.1]; rfl) (fun _ U U' hal hh h => ⟨h.1, h.2.1.mv hal hh, h.2.2.1.al hal, h.2.2.2.1.al hal, h.2.2.2.2.1.mv hal hh, h.2.2.2.2.2.1.there hal hh, h.2.2.2.2.2.2⟩) (fun r U U' V V' h1 hal h2 h => Got.mv r U U' V V' h1 hal h2 h) ?_
  intro p e s m args below meth c s₁ X0 hexec hbytes hml hret hlk hnm hown hh0 W hP
  obtain ⟨rfl, hB, f1, f2, hA, s1, hz, l0, l2, hp⟩ := hP
  have c1 : Steps p.tables e below (s₁.setTop (entryFrame m #[.ref a, .ref b] 2)) (s₁.setTop (mkF m 0 #[.val (.ref a), .val (.ref b)] [])) := entry rfl
  have c2 : Steps p.tables e below (s₁.setTop (entryFrame m #[.ref a, .ref b] 2)) (s₁.setTop (mkF m 6 #[.val (.ref a), .val (.ref b)] [.null, .int (Int32.ofNat A.slots.size), .int 0, .ref b, .ref a])) := c1.trans (by
    refine XS.aloadN X0.here hexec rfl (hb hbytes d0) rfl rfl ?_
    refine XS.aloadN X0.here hexec rfl (hb hbytes d1) rfl rfl ?_
    refine iconstV X0.here hexec rfl 0 (hb hbytes d2) (by decide) ?_
    refine XS.aloadN X0.here hexec rfl (hb hbytes d3) rfl rfl ?_
    refine X0.alen hexec (hA.1.mv X0.warmed.alike hh0) rfl rfl (hb hbytes d4) ?_
    refine XS.aconstNull X0.here hexec rfl (hb hbytes d5) ?_
    exact Steps.refl _)
  obtain ⟨v3, T3, X3, E3, g3⟩ := X0.callN hexec (New4.law l a D fV fC b A z 0 A.slots.size) rfl hown (wks W (initW "java/lang/String" 27 New4.yN)) (W New4.tab (by simp only [site, List.mem_cons, List.mem_append, true_or, or_true])) (W := 0) (Nat.le_of_ble_eq_true rfl) (Nat.le_of_ble_eq_true rfl) (Nat.le_refl _) (by show 0 + A.slots.size ≤ A.slots.size; omega) (g := (mkF m 6 #[.val (.ref a), .val (.ref b)] [.null, .int (Int32.ofNat A.slots.size), .int (Int32.ofNat 0), .ref b, .ref a])) rfl (by rw [hml]; rfl) c2 (argsL := [.ref b, .int (Int32.ofNat 0), .int (Int32.ofNat A.slots.size), .null]) (rest := []) rfl rfl (by show 2 * 0 + 0 ≤ _; decide) (hb hbytes d6) (⟨rfl, hB.mv X0.warmed.alike hh0, f1.al X0.warmed.alike, f2.al X0.warmed.alike, hA.mv X0.warmed.alike hh0, s1.there X0.warmed.alike hh0, hz, l0, by omega, l2, fun i hi => by rw [Nat.zero_add]; exact hp i hi⟩)
  have e0 := Got.mv _ s₁ s _ _ hh0.symm (Vm.Alike.refl _) rfl E3
  obtain rfl := e0.1
  have c4 : Steps p.tables e below (s₁.setTop (entryFrame m #[.ref a, .ref b] 2)) (T3.setTop (mkF m 9 #[.val (.ref a), .val (.ref b)] [])) := g3
  exact ⟨T3, none, _, _, _, X3, by simp, rfl, by omega, (fun _ => rfl), e0, fun fs hl => c4.trans (X3.returnOut hexec hret (hb hbytes d9) hl)⟩
theorem pays {l : Launch} {R : Room} {p : Program} {e : Env} {below : List Frame} {s : State} {sargs : Array Value} {len W : Nat} (a : Addr) (D : Cell) (fV fC : Field) (b : Addr) (A : Cell) (z : Int32) (htab : tab.before sargs s = true) (hfr : 4 ≤ R.frames) (hlo : W + 65 ≤ R.locals) :
    Back l R p e below s sargs yN len W (fun A₁ a₁ => A₁.cells + 1 ≤ R.cells ∧ A₁.slots + A.slots.size ≤ R.slots ∧ P a D fV fC b A z a₁ A₁.U) (fun A₁ _ v₁ B₁ => E a D fV fC A v₁ A₁.U B₁.U ∧ B₁.locs = A₁.locs ++ [⟨a, fC.slot⟩, ⟨a, fV.slot⟩] ∧ B₁.cells = A₁.cells + 1 ∧ B₁.slots = A₁.slots + A.slots.size) :=
  (law l a D fV fC b A z).pays htab hfr (by omega)
end New1
/-- the byte, read back as charAt reads it, is the char -/
theorem lo8_mask {x : Int32} (h0 : ¬ x < 0) (h1 : ¬ 255 < x) : lo8 x &&& 255 = x := by
  have t : ∀ k : Fin 256, lo8 (Int32.ofNat k.val) &&& 255 = Int32.ofNat k.val := by decide +kernel
  rw [Int32.lt_iff_toInt_lt] at h0 h1
  have e0 : (0 : Int32).toInt = 0 := rfl
  have e1 : (255 : Int32).toInt = 255 := rfl
  obtain ⟨k, hk⟩ : ∃ k : Nat, x.toInt = k := ⟨x.toInt.toNat, by omega⟩
  have hx : x = Int32.ofNat k := Int32.toInt_inj.mp (by rw [hk, Int32.toInt_ofNat_small (by omega)])
  rw [hx]
  exact t ⟨k, by omega⟩
end StrChars
namespace StrChars.Road
open Jvm Sem ClassFile Op Lib Jvm.Stand Jvm.Free Jvm.Free.XT
open Jvm.Lib.Cold (StaticIs)
abbrev ST : String := "java/lang/String"
/-- every table word that New1's law asks, flat -/
abbrev words : List Jvm.Cond := [.code New1.yN New1.yB 2 none, .initialized ST, .methodLink ST 27 New4.yN, .instanceMethod New4.yN,
  .code New4.yN New4.yB 6 none, .fieldLink ST 38 ST "COMPACT_STRINGS" "Z", .laysFinal ST ST "value" "[B", .fieldLink ST 9 ST "value" "[B", .laysFinal ST ST "coder" "B", .fieldLink ST 15 ST "coder" "B",
  .methodLink ST 1 Lib.objectInit, .instanceMethod Lib.objectInit, .code Lib.objectInit ⟨#[0xb1]⟩ 1 none, .methodLink ST 177 Cmp3.yN, .static Cmp3.yN, .methodLink ST 47 CodL.yN, .static CodL.yN,
  .code Cmp3.yN Cmp3.yB 6 (some (.array .byte)), .initialized U16, .arrayClass .byte, .methodLink U16 115 Cmp5.yN, .static Cmp5.yN, .code Cmp5.yN Cmp5.yB 7 (some .int), .code CodL.yN CodL.yB 2 (some .byte)]
theorem tab_of {a : Array Value} {s : State} (h : ∀ w ∈ words, w.before a s = true) : New1.tab.before a s = true := by
  have h5 : Cmp5.tab.before a s = true := unparts (wk h (.code Cmp5.yN Cmp5.yB 7 (some .int))) (wks h (.initialized Cmp5.yN.cls :: Cmp5.site))
  have hc : CodL.tab.before a s = true := unparts (wk h (.code CodL.yN CodL.yB 2 (some .byte))) (wks h (.initialized CodL.yN.cls :: CodL.site))
  have q5 : ∀ w ∈ Cmp5.tab :: words, w.before a s = true := fun w hw => (List.mem_cons.mp hw).elim (fun e => e ▸ h5) (h w)
  have h3 : Cmp3.tab.before a s = true := unparts (wk q5 (.code Cmp3.yN Cmp3.yB 6 (some (.array .byte)))) (wks q5 (.initialized Cmp3.yN.cls :: Cmp3.site))
  have q3 : ∀ w ∈ Cmp3.tab :: CodL.tab :: words, w.before a s = true := fun w hw => (List.mem_cons.mp hw).elim (fun e => e ▸ h3) fun hw => (List.mem_cons.mp hw).elim (fun e => e ▸ hc) (h w)
  have h4 : New4.tab.before a s = true := unparts (wk q3 (.code New4.yN New4.yB 6 none)) (wks q3 (.initialized New4.yN.cls :: New4.site))
  have q4 : ∀ w ∈ New4.tab :: words, w.before a s = true := fun w hw => (List.mem_cons.mp hw).elim (fun e => e ▸ h4) (h w)
  exact unparts (wk q4 (.code New1.yN New1.yB 2 none)) (wks q4 (.initialized New1.yN.cls :: New1.site))
/-- the words ride from the start Z to the walk's own state -/
theorem moved {Z s : State} {a0 args : Array Value} (hZ : Z.Warmed39 s.vm) (hw : ∀ d ∈ words, d.before a0 Z = true) : ∀ d ∈ words, d.before args s = true := fun d hd => by
  have q := hw d hd
  have t : ∀ d ∈ words, d = .arrayClass .byte ∨ (d.onTables && d.keepsFace) = true := by decide +kernel
  rcases t d hd with rfl | t
  · exact RoadKit.mvA hZ q
  · exact RoadKit.mv hZ q t
/-- WHAT COMES BACK, over the tables of the start Z: h the heap at the call, h' behind it -/
def Q (Z : State) (x : Addr) (A : Cell) (h : Heap) (v : Option Value) (h' : Heap) (L : List Loc) : Prop := v = none ∧ (∀ y ∈ L, y.base = x) ∧ RoadKit.Keep h h' [x] ∧ h'.size = h.size + 1 ∧ RoadKit.Exa Z h' x ST ∧ RoadKit.Fld Z h' x ST "value" "[B" (.ref h.size) ∧ RoadKit.Fld Z h' x ST "coder" "B" (.int 0) ∧
  (∃ V : Cell, RoadKit.Arr Z h' h.size V .byte ∧ V.vm = .none ∧ Z.vm.findClass "[B" = some V.cls ∧ V.slots.size = A.slots.size ∧ ∀ j, j < A.slots.size → V.slots[j]? = some (.int (lo8 (cv A j)))) ∧
  ∀ (O n d : String) (w : Value), RoadKit.Fld Z h x O n d w → RoadKit.slotOf Z O n d ≠ RoadKit.slotOf Z ST "value" "[B" → RoadKit.slotOf Z O n d ≠ RoadKit.slotOf Z ST "coder" "B" → RoadKit.Fld Z h' x O n d w
/-- **new String(chars) AT A CALL, IN THE ROAD'S FORM**: for specialBack behind newO: x the fresh String, b the char[] with the cell A -/
theorem back {p : Program} {l : Launch} {e : Env} {R : Room} {s : State} {args : Array Value} {below : List Frame} {len W : Nat} {Z : State} {a0 : Array Value} {h : Heap} (hZ : Z.Warmed39 s.vm) (hw : ∀ d ∈ words, d.before a0 Z = true) {kI : Nat} (wi : (Jvm.Cond.instantiable ST kI).before a0 Z = true)
    {x b : Addr} {A : Cell} {z : Int32} {v0 c0 : Value} (E : RoadKit.Exa Z h x ST) (V : RoadKit.Fld Z h x ST "value" "[B" v0) (C : RoadKit.Fld Z h x ST "coder" "B" c0) (K : RoadKit.Arr Z h b A .char) (hty : Typed .char A) (S : RoadKit.Sta Z h ST "COMPACT_STRINGS" "Z" (.int z)) (hz : ¬ z = 0)
    (l0 : 0 < A.slots.size) (l2 : A.slots.size ≤ 536870912) (hp : ∀ i, i < A.slots.size → ¬ 255 < cv A i) (hfr : 4 ≤ R.frames) (hlo : W + 65 ≤ R.locals) :
    Back l R p e below s args New1.yN len W (fun P a => a = #[.ref x, .ref b] ∧ P.U.heap = h ∧ P.cells + 1 ≤ R.cells ∧ P.slots + A.slots.size ≤ R.slots)
      (fun P _ v B => ∃ L, Q Z x A h v B.U.heap L ∧ B.locs = P.locs ++ L ∧ B.cells = P.cells + 1 ∧ B.slots = P.slots + A.slots.size) := by
  intro m meth c P g ig mk a X hg hsize hdg hW hn hp'
  obtain ⟨rfl, rfl, r1, r2⟩ := hp'
  have al : Z.vm.Alike P.U.vm := hZ.alike.trans X.warmed.alike
  obtain ⟨D, cfV, kV, iV, fV, hD, gV, stV, knV, obV, asV, slV⟩ := id V
  obtain ⟨D', cfC, kC, iC, fC, hD', gC, stC, -, -, asC, slC⟩ := id C
  cases hD.symm.trans hD'
  obtain ⟨D2, kD, e1, e2, e3, e4, e5⟩ := id E
  cases hD.symm.trans e1
  obtain ⟨c2, k2, i1, i2, i3, -⟩ := Cond.instantiable_spec wi
  cases e2.symm.trans i1
  cases e3.symm.trans i2
  obtain ⟨kU, u1, u2⟩ := al.2.2 _ _ e3
  have hB : Blank ST x D P.U := ⟨hD, ⟨knV, fun q hq => by rw [hq] at obV; cases obV⟩, by rw [al.findClass]; exact e2, kU, u1, by rw [u2]; exact i3, by rw [u2]; exact e5 i3⟩
  have F1 : Found ST "value" "[B" fV P.U := ⟨SBG.found_only al ⟨cfV, kV, iV, gV⟩, stV⟩
  have F2 : Found ST "coder" "B" fC P.U := ⟨SBG.found_only al ⟨cfC, kC, iC, gC⟩, stC⟩
  have hA : Ch b A P.U := ⟨⟨K.1, State.isArrayOf_alike al K.2.1, K.2.2, by omega⟩, hty⟩
  have hS : StaticIs P.U ST "COMPACT_STRINGS" "Z" (.int z) := by
    obtain ⟨cfS, iS, kS, fS, st, cS, t1, t2, t3, t4, t5, t6, t7⟩ := S
    exact StaticIs.there (s := { Z with heap := P.U.heap }) ⟨cfS, iS, kS, fS, st, cS, t1, t2, t3, t4, t5, (fun q => by rw [q] at t6; cases t6), t7⟩ al rfl
  obtain ⟨v, B, X', ⟨⟨hv, E', V', q1, q2, q3, q4, q5, q6, q7, q8, q9, q10, q11⟩, hl, hc, hs⟩, st⟩ := New1.pays x D fV fC b A z (tab_of (moved hZ hw)) hfr hlo m meth c P g ig mk _ X hg hsize hdg hW hn ⟨r1, r2, rfl, hB, F1, F2, hA, hS, hz, l0, l2, hp⟩
  have al' : Z.vm.Alike B.U.vm := hZ.alike.trans X'.warmed.alike
  have hsz : E'.slots.size = D.slots.size := by
    obtain ⟨-, -, -, kB, w1, w2, w3⟩ := q1
    obtain ⟨kB', y1, y2⟩ := al'.2.2 _ _ e3
    rw [q2.2.1] at w1
    cases w1.symm.trans y1
    rw [w3, e5 i3, y2]
  refine ⟨v, B, X', ⟨_, ⟨hv, ?_, ⟨by omega, fun y cy hy hn' => q10 y cy (by simpa using hn') hy, fun y cy hy => ?_⟩, q11, ⟨E', _, q1.1, by rw [q2.2.1]; exact e2, by rw [q2.2.1]; exact e3, by rw [q2.1]; exact obV, fun _ => by rw [hsz]; exact e5 i3⟩,
    ⟨E', cfV, kV, iV, fV, q1.1, gV, stV, by rw [q2.1]; exact knV, by rw [q2.1]; exact obV, by rw [q2.2.1]; exact asV, q3⟩, ⟨E', cfC, kC, iC, fC, q1.1, gC, stC, by rw [q2.1]; exact knV, by rw [q2.1]; exact obV, by rw [q2.2.1]; exact asC, q4⟩,
    ⟨V', ⟨q5.1, State.isArrayOf_alike al'.symm q5.2.1, q5.2.2.1⟩, q6, by rw [← al'.findClass]; exact q7, q8, fun j hj => by have := q9 j hj; rwa [Nat.zero_add] at this⟩, fun O n d w F n1 n2 => ?_⟩, hl, hc, hs⟩, st⟩
  · intro y hy
    simp only [List.mem_cons, List.not_mem_nil, or_false] at hy
    rcases hy with rfl | rfl <;> rfl
  · by_cases q : y = x
    · subst q
      cases hD.symm.trans hy
      exact ⟨E', q1.1, q2.2.1, q2.1, hsz⟩
    · exact ⟨cy, q10 y cy q hy, rfl, rfl, rfl⟩
  · obtain ⟨D3, cf, k, i, f, g1, g2, g3, g4, g5, g6, g7⟩ := F
    cases hD.symm.trans g1
    simp only [RoadKit.slotOf, g2, gV, gC, Option.map_some, Option.getD_some] at n1 n2
    exact ⟨E', cf, k, i, f, q1.1, g2, g3, by rw [q2.1]; exact g4, by rw [q2.1]; exact g5, by rw [q2.2.1]; exact g6, by rw [q2.2.2 f.slot (by simp [n1, n2])]; exact g7⟩
end StrChars.Road
namespace StrChars.Road
open Jvm Sem ClassFile Op Lib Jvm.Stand Jvm.Free Jvm.Free.XT
/-- WHAT COMES BACK, the byte[] as a list of values -/
def QA (Z : State) (x : Addr) (zn : Int32) (cs : List Int32) (h : Heap) (v : Option Value) (h' : Heap) (L : List Loc) : Prop := v = none ∧ (∀ y ∈ L, y.base = x) ∧ RoadKit.Keep h h' [x] ∧ h'.size = h.size + 1 ∧ RoadKit.Exa Z h' x ST ∧ RoadKit.Fld Z h' x ST "value" "[B" (.ref h.size) ∧ RoadKit.Fld Z h' x ST "coder" "B" (.int 0) ∧
  (∃ kb, Z.vm.findClass "[B" = some kb ∧ RoadKit.Arv Z h' h.size kb .byte zn (cs.map fun c => .int (lo8 c)) (.int 0)) ∧
  ∀ (O n d : String) (w : Value), RoadKit.Fld Z h x O n d w → RoadKit.slotOf Z O n d ≠ RoadKit.slotOf Z ST "value" "[B" → RoadKit.slotOf Z O n d ≠ RoadKit.slotOf Z ST "coder" "B" → RoadKit.Fld Z h' x O n d w
/-- **new String(chars) AT A CALL, THE ARRAYS AS LISTS**: the char[] at b holds cs, not empty, no char above 255 -/
theorem backArv {p : Program} {l : Launch} {e : Env} {R : Room} {s : State} {args : Array Value} {below : List Frame} {len W : Nat} {Z : State} {a0 : Array Value} {h : Heap} (hZ : Z.Warmed39 s.vm) (hw : ∀ d ∈ words, d.before a0 Z = true) {kI : Nat} (wi : (Jvm.Cond.instantiable ST kI).before a0 Z = true)
    {x b : Addr} {k : ClassId} {zn z : Int32} {cs : List Int32} {dv v0 c0 : Value} (E : RoadKit.Exa Z h x ST) (V : RoadKit.Fld Z h x ST "value" "[B" v0) (C : RoadKit.Fld Z h x ST "coder" "B" c0) (K : RoadKit.Arv Z h b k .char zn (cs.map Value.int) dv) (S : RoadKit.Sta Z h ST "COMPACT_STRINGS" "Z" (.int z)) (hz : ¬ z = 0)
    (hlen : zn.toNatClampNeg = cs.length) (h0 : 0 < cs.length) (hbig : cs.length ≤ 536870912) (hall : ∀ c ∈ cs, ¬ 255 < c) (hfr : 4 ≤ R.frames) (hlo : W + 65 ≤ R.locals) :
    Back l R p e below s args New1.yN len W (fun P a => a = #[.ref x, .ref b] ∧ P.U.heap = h ∧ P.cells + 1 ≤ R.cells ∧ P.slots + cs.length ≤ R.slots)
      (fun P _ v B => ∃ L, QA Z x zn cs h v B.U.heap L ∧ B.locs = P.locs ++ L ∧ B.cells = P.cells + 1 ∧ B.slots = P.slots + cs.length) := by
  obtain ⟨A, K1, K2, K3, K4, K5, K6⟩ := K
  have e : A.slots.size = cs.length := K3.trans hlen
  have hat : ∀ (i : Nat) (hi : i < cs.length), A.slots[i]? = some (.int cs[i]) := fun i hi => by rw [K5 i (by omega)]; simp [List.getD_eq_getElem?_getD, hi]
  have hcv : ∀ (i : Nat) (hi : i < cs.length), cv A i = cs[i] := fun i hi => by unfold cv; rw [hat i hi]
  have hty : Typed .char A := fun i v hv => by
    have hi : i < A.slots.size := (Array.getElem?_eq_some_iff.mp hv).1
    have q := K5 i hi
    rw [hv] at q
    rw [Option.some.inj q]
    exact K6 i hi
  refine Back.mono (back hZ hw wi E V C K1 hty S hz (by omega) (by omega) (fun i hi => by rw [hcv i (by omega)]; exact hall _ (List.getElem_mem _)) hfr hlo) (fun P a hp => ⟨hp.1, hp.2.1, hp.2.2.1, by rw [e]; exact hp.2.2.2⟩) (fun P a v B hp hq => ?_)
  obtain ⟨L, ⟨q1, q2, q3, q4, q5, q6, q7, ⟨V', v1, v2, v3, v4, v5⟩, q9⟩, hl, hc, hs⟩ := hq
  refine ⟨L, ⟨q1, q2, q3, q4, q5, q6, q7, ⟨V'.cls, v3, V', v1, rfl, by rw [v4, e, hlen], K4, fun i hi => ?_, fun i hi => ?_⟩, q9⟩, hl, hc, by rw [hs, e]⟩
  · have hi' : i < cs.length := by omega
    rw [v5 i (by omega), hcv i hi']; simp [List.getD_eq_getElem?_getD, hi']
  · have hi' : i < cs.length := by omega
    simp only [List.getD_eq_getElem?_getD, List.getElem?_map, List.getElem?_eq_getElem hi', Option.map_some, Option.getD_some]
    exact fits_lo8 _
end StrChars.Road
namespace StrChars.Road
open Jvm Sem ClassFile Op Lib Jvm.Stand Jvm.Free Jvm.Free.XT
/-- WHAT COMES BACK, in the writer's own shape -/
def QV (Z : State) (x : Addr) (N : Int32) (bs : List Int32) (h : Heap) (n0 : Nat) (v : Option Value) (h' : Heap) (L : List Loc) : Prop := v = none ∧ RoadKit.Fr n0 L ∧ RoadKit.Keep h h' [x] ∧ RoadKit.Exa Z h' x ST ∧ RoadKit.Fld Z h' x ST "coder" "B" (.int 0) ∧
  ∃ (t : Addr) (kb : ClassId), n0 ≤ t ∧ h.size ≤ t ∧ ¬ t = x ∧ RoadKit.Fld Z h' x ST "value" "[B" (.ref t) ∧ RoadKit.Arv Z h' t kb .byte N (bs.map Value.int) (.int 0)
/-- **new String(chars) AT A CALL, FOR THE WRITER**: a char[] of n known ints, each 0 to 255 -/
theorem backV {p : Program} {l : Launch} {e : Env} {R : Room} {s : State} {args : Array Value} {below : List Frame} {len W : Nat} {Z : State} {a0 : Array Value} {h : Heap} (hZ : Z.Warmed39 s.vm) (hw : ∀ d ∈ words, d.before a0 Z = true) {kI : Nat} (wi : (Jvm.Cond.instantiable ST kI).before a0 Z = true)
    {x b : Addr} {kC : ClassId} {cs bs : List Int32} {d v0 c0 : Value} {z N : Int32} {n n0 : Nat} (hx0 : n0 ≤ x) (hh0 : n0 ≤ h.size) (E : RoadKit.Exa Z h x ST) (V : RoadKit.Fld Z h x ST "value" "[B" v0) (C : RoadKit.Fld Z h x ST "coder" "B" c0) (K : RoadKit.Arv Z h b kC .char N (cs.map Value.int) d) (S : RoadKit.Sta Z h ST "COMPACT_STRINGS" "Z" (.int z)) (hz : ¬ z = 0)
    (hn : cs.length = n) (hN : N = Int32.ofNat n) (l0 : 0 < n) (l2 : n ≤ 4000) (hp : ∀ c ∈ cs, ¬ c < 0 ∧ ¬ (255 : Int32) < c) (hb : bs = cs.map (fun c => c.toInt8.toInt32)) (hfr : 4 ≤ R.frames) (hlo : W + 65 ≤ R.locals) :
    Back l R p e below s args (⟨"java/lang/String", "<init>", "([C)V"⟩ : MethodName) len W (fun P a => a = #[.ref x, .ref b] ∧ P.U.heap = h ∧ P.cells + 1 ≤ R.cells ∧ P.slots + n ≤ R.slots)
      (fun P _ v B => ∃ L, QV Z x N bs h n0 v B.U.heap L ∧ B.locs = P.locs ++ L ∧ B.cells = P.cells + 1 ∧ B.slots = P.slots + n) := by
  subst hn hN hb
  refine Back.mono (backArv hZ hw wi E V C K S hz (n32 (by omega)) l0 (by omega) (fun c hc => (hp c hc).2) hfr hlo) (fun P a hp => hp) (fun P a v B hp hq => ?_)
  obtain ⟨L, ⟨q1, q2, q3, q4, q5, q6, q7, ⟨kb, v1, v2⟩, q9⟩, hl, hc, hs⟩ := hq
  exact ⟨L, ⟨q1, fun y hy => by rw [q2 y hy]; exact hx0, q3, q5, q7, h.size, kb, hh0, Nat.le_refl _, Nat.ne_of_gt E.lt, q6, by rw [List.map_map]; exact v2⟩, hl, hc, hs⟩
end StrChars.Road
namespace StrChars
open Jvm Sem ClassFile Op Lib Jvm.Stand Jvm.Free.XT Jvm.Free.ALB Jvm.Free.JM Jvm.Free
open Jvm.Lib.Cold (StaticIs)
def hi8 (x : Int32) : Int32 := lo8 (x >>> ((8 : Int32) &&& 31))
/-- what StringUTF16.getChar makes of two bytes -/
def pairCh (u v : Int32) : Int32 := (((u &&& 255) <<< ((0 : Int32) &&& 31)) ||| ((v &&& 255) <<< ((8 : Int32) &&& 31))).toUInt32.toUInt16.toUInt32.toInt32
theorem shr0 (c : Int32) : c >>> ((0 : Int32) &&& 31) = c := by
  have e : ((0 : Int32) &&& 31) = 0 := by decide
  rw [e]
  apply Int32.toBitVec_inj.mp
  rw [Int32.toBitVec_shiftRight]
  have e1 : ((0 : Int32).toBitVec.smod 32) = 0#32 := by decide
  rw [e1, BitVec.sshiftRight_eq']
  exact BitVec.sshiftRight_zero
theorem lo8_and (x : Int32) : (lo8 x &&& 255).toBitVec.toNat = x.toBitVec.toNat % 256 := by
  have h : (lo8 x).toBitVec = (x.toBitVec.signExtend 8).signExtend 32 := by rw [lo8, Int8.toBitVec_toInt32, Int32.toBitVec_toInt8]
  rw [Int32.toBitVec_and, BitVec.toNat_and, h]
  have e : ((x.toBitVec.signExtend 8).signExtend 32).toNat % 256 = x.toBitVec.toNat % 256 := by
    rw [BitVec.toNat_signExtend]
    have hlt := x.toBitVec.isLt
    simp only [BitVec.toNat_setWidth, BitVec.toNat_signExtend]
    split <;> split <;> omega
  rw [← e]
  exact Nat.and_two_pow_sub_one_eq_mod _ 8
theorem pair_says {c : Int32} (h0 : ¬ c < 0) (h1 : ¬ 65535 < c) : pairCh (lo8 c) (hi8 c) = c := by
  rw [Int32.lt_iff_toInt_lt] at h0 h1
  have e0 : (0 : Int32).toInt = 0 := rfl
  have e1 : (65535 : Int32).toInt = 65535 := rfl
  have hc : c.toInt = c.toBitVec.toNat := by
    have := c.toBitVec.isLt
    have e : c.toInt = c.toBitVec.toInt := rfl
    rw [e] at h0 h1
    rw [e]
    rw [BitVec.toInt_eq_toNat_cond] at h0 h1 ⊢
    split at h0 <;> split <;> omega
  have hn : c.toBitVec.toNat < 65536 := by omega
  have a1 := lo8_and c
  have a2 : (hi8 c &&& 255).toBitVec.toNat = c.toBitVec.toNat / 256 := by
    rw [hi8, lo8_and]
    have e : ((8 : Int32) &&& 31) = 8 := by decide
    rw [e, Int32.toBitVec_shiftRight]
    have e2 : ((8 : Int32).toBitVec.smod 32) = 8#32 := by decide
    rw [e2, BitVec.sshiftRight_eq', BitVec.toNat_sshiftRight_of_msb_false (by rw [BitVec.msb_eq_false_iff_two_mul_lt]; omega)]
    show c.toBitVec.toNat >>> 8 % 256 = _
    rw [Nat.shiftRight_eq_div_pow]
    omega
  unfold pairCh
  apply Int32.toBitVec_inj.mp
  apply BitVec.eq_of_toNat_eq
  have f0 : ((0 : Int32) &&& 31) = 0 := by decide
  have f8 : ((8 : Int32) &&& 31) = 8 := by decide
  rw [f0, f8]
  have g : (((lo8 c &&& 255) <<< (0 : Int32)) ||| ((hi8 c &&& 255) <<< (8 : Int32))).toBitVec.toNat = c.toBitVec.toNat := by
    rw [Int32.toBitVec_or, Int32.toBitVec_shiftLeft, Int32.toBitVec_shiftLeft]
    have s0 : ((0 : Int32).toBitVec.smod 32) = 0#32 := by decide
    have s8 : ((8 : Int32).toBitVec.smod 32) = 8#32 := by decide
    rw [s0, s8, BitVec.toNat_or]
    simp only [BitVec.shiftLeft_eq', BitVec.toNat_shiftLeft, a1, a2]
    show (c.toBitVec.toNat % 256) <<< 0 % 2 ^ 32 ||| (c.toBitVec.toNat / 256) <<< 8 % 2 ^ 32 = _
    rw [Nat.shiftLeft_zero, Nat.mod_eq_of_lt (show c.toBitVec.toNat % 256 < 2 ^ 32 by omega), Nat.mod_eq_of_lt (show (c.toBitVec.toNat / 256) <<< 8 < 2 ^ 32 by rw [Nat.shiftLeft_eq]; omega), Nat.or_comm, ← Nat.shiftLeft_add_eq_or_of_lt (by omega), Nat.shiftLeft_eq]
    omega
  show BitVec.toNat (((((lo8 c &&& 255) <<< (0 : Int32)) ||| ((hi8 c &&& 255) <<< (8 : Int32))).toBitVec.setWidth 16).setWidth 32) = _
  rw [BitVec.toNat_setWidth, BitVec.toNat_setWidth, g]
  omega
end StrChars
namespace StrChars
open Jvm Sem ClassFile Op Lib Jvm.Stand Jvm.Free.XT Jvm.Free.ALB Jvm.Free.JM Jvm.Free
open Jvm.Lib.Cold (StaticIs)
theorem shr1 {n : Nat} (h : 2 * n < 2 ^ 31) : Int32.ofNat (2 * n) >>> ((1 : Int32) &&& 31) = Int32.ofNat n := by
  have e : ((1 : Int32) &&& 31) = 1 := by decide
  rw [e]
  apply Int32.toBitVec_inj.mp
  rw [Int32.toBitVec_shiftRight]
  have e1 : ((1 : Int32).toBitVec.smod 32) = 1#32 := by decide
  have hm : (BitVec.ofNat 32 (2 * n)).toNat = 2 * n := by rw [BitVec.toNat_ofNat, Nat.mod_eq_of_lt (by omega)]
  rw [e1, BitVec.sshiftRight_eq']
  apply BitVec.eq_of_toNat_eq
  show ((BitVec.ofNat 32 (2 * n)).sshiftRight 1).toNat = (BitVec.ofNat 32 n).toNat
  rw [BitVec.toNat_sshiftRight_of_msb_false (by rw [BitVec.msb_eq_false_iff_two_mul_lt, hm]; omega), hm, BitVec.toNat_ofNat, Nat.shiftRight_eq_div_pow]
  omega
/-- the array's cell V codes the n chars f 0 .. f (n - 1) by the coder cd, as the JDK does: coder 1 just where some char is above 255 -/
def Cod (cd : Int32) (n : Nat) (f : Nat → Int32) (V : Cell) : Prop := (cd = 0 ∧ V.slots.size = n ∧ ∀ j, j < n → V.slots[j]? = some (.int (lo8 (f j))) ∧ ¬ 255 < f j) ∨ (cd = 1 ∧ V.slots.size = 2 * n ∧ (∀ j, j < n → V.slots[2 * j]? = some (.int (lo8 (f j))) ∧ V.slots[2 * j + 1]? = some (.int (hi8 (f j)))) ∧ ∃ j, j < n ∧ 255 < f j)
theorem Cod.cd {cd : Int32} {n : Nat} {f : Nat → Int32} {V : Cell} (h : Cod cd n f V) : cd = 0 ∨ cd = 1 := h.imp (fun q => q.1) fun q => q.1
theorem Cod.len {cd : Int32} {n : Nat} {f : Nat → Int32} {V : Cell} (h : Cod cd n f V) (hs : V.slots.size < 2 ^ 31) : Int32.ofNat V.slots.size >>> (cd &&& 31) = Int32.ofNat n := by
  rcases h with ⟨rfl, h, -⟩ | ⟨rfl, h, -⟩
  · rw [shr0, h]
  · rw [h, shr1 (by omega)]
/-- **x is a String of the n chars f 0 .. f (n - 1)**, Latin-1 or UTF-16; its array at t has the cell V -/
def Txt (x t : Addr) (V : Cell) (cd : Int32) (n : Nat) (f : Nat → Int32) (U : State) : Prop := Exact "java/lang/String" x U ∧ Has x "java/lang/String" "value" "[B" (.ref t) U ∧ Has x "java/lang/String" "coder" "B" (.int cd) U ∧ XT.Arr .byte t V U ∧ Cod cd n f V ∧ ∀ j, j < n → ¬ f j < 0 ∧ ¬ 65535 < f j
theorem Txt.mv {x t : Addr} {V : Cell} {cd : Int32} {n : Nat} {f : Nat → Int32} {U U' : State} (h : Txt x t V cd n f U) (hal : U.vm.Alike U'.vm) (hh : U'.heap = U.heap) : Txt x t V cd n f U' := ⟨h.1.mv hal hh, h.2.1.mv hal hh, h.2.2.1.mv hal hh, h.2.2.2.1.mv hal hh, h.2.2.2.2⟩
namespace Cdr
def yN : MethodName := ⟨"java/lang/String", "coder", "()B"⟩
abbrev yB : ByteArray := jdk_42_method_152_code
theorem d0 : decode yB 0 = .ok (.getstatic 38, 3) := by decide +kernel
theorem d3 : decode yB 3 = .ok (.ifCond (.eq) 10, 3) := by decide +kernel
theorem d6 : decode yB 6 = .ok (.aload_n 0, 1) := by decide +kernel
theorem d7 : decode yB 7 = .ok (.getfield 15, 3) := by decide +kernel
theorem d10 : decode yB 10 = .ok (.goto 4, 3) := by decide +kernel
theorem d14 : decode yB 14 = .ok (.ireturn, 1) := by decide +kernel
def site : List Cond := [.fieldLink "java/lang/String" 38 "java/lang/String" "COMPACT_STRINGS" "Z", .fieldLink "java/lang/String" 15 "java/lang/String" "coder" "B"]
def tab : Cond := tabOf yN yB 1 (some .byte) site
def P (x : Addr) (cd z : Int32) (args : Array Value) (s : State) : Prop := args = #[.ref x] ∧ Has x "java/lang/String" "coder" "B" (.int cd) s ∧ (cd = 0 ∨ cd = 1) ∧ StaticIs s "java/lang/String" "COMPACT_STRINGS" "Z" (.int z) ∧ ¬ z = 0
def E (cd : Int32) (r : Option Value) (s u : State) : Prop := XT.PureE (some (.int cd)) r s u
theorem law (l : Launch) (x : Addr) (cd z : Int32) : Law l yN 1 0 0 0 yB 1 (some .byte) site (P x cd z) (E cd) [] 0 0 := by
  refine Law.of_walk (plainFor_of_name (by decide +kernel)) (by decide +kernel) (by decide +kernel) (by decide) (fun _ _ h => by rw [h.1]; rfl) (fun _ U U' hal hh h => ⟨h.1, h.2.1.mv hal hh, h.2.2.1, h.2.2.2.1.there hal hh, h.2.2.2.2⟩) (fun r U U' V V' h1 hal h2 h => XT.PureE.mv r U U' V V' h1 hal h2 h) ?_
  intro p e s m args below meth c s₁ X0 hexec hbytes hml hret hlk hnm hown hh0 W hP
  obtain ⟨rfl, hx, hc, s1, hz⟩ := hP
  have c1 : Steps p.tables e below (s₁.setTop (entryFrame m #[.ref x] 1)) (s₁.setTop (mkF m 0 #[.val (.ref x)] [])) := entry rfl
  obtain ⟨T2, X2, q2, st2⟩ := X0.sget hexec hown (wk W (.fieldLink "java/lang/String" 38 "java/lang/String" "COMPACT_STRINGS" "Z")) s1 (fun _ _ h => by rw [hh0]; exact h) (g := (mkF m 0 #[.val (.ref x)] [])) rfl (hb hbytes d0)
  have hh2 := q2.trans hh0
  have c3 : Steps p.tables e below (s₁.setTop (entryFrame m #[.ref x] 1)) (T2.setTop (mkF m 7 #[.val (.ref x)] [.ref x])) := (c1.trans (st2 _ (Steps.refl _))).trans (by
    refine XS.ifNo X2.here hexec rfl (hb hbytes d3) rfl (i0_eq_f hz) ?_
    refine XS.aloadN X2.here hexec rfl (hb hbytes d6) rfl rfl ?_
    exact Steps.refl _)
  obtain ⟨T4, X4, q4, st4⟩ := X2.hget hexec hown (wk W (.fieldLink "java/lang/String" 15 "java/lang/String" "coder" "B")) (hx.mv X2.warmed.alike hh2) (g := (mkF m 7 #[.val (.ref x)] [.ref x])) rfl (rest := []) rfl (hb hbytes d7)
  have c5 : Steps p.tables e below (s₁.setTop (entryFrame m #[.ref x] 1)) (T4.setTop (mkF m 14 #[.val (.ref x)] [.int cd])) := (c3.trans (st4 _ (Steps.refl _))).trans (by
    refine XS.goto X4.here hexec rfl (pc0 := 10) rfl (hb hbytes d10) (by decide) rfl ?_
    exact Steps.refl _)
  exact ⟨T4, some (.int cd), _, _, _, X4, rfl, rfl, rfl, (fun h => by cases h), ⟨rfl, q4.trans hh2⟩, fun fs hl => c5.trans (X4.ireturnOut hexec hret (by rcases hc with rfl | rfl <;> rfl) (Or.inr (Or.inr (Or.inl rfl))) (hb hbytes d14) hl)⟩
end Cdr
namespace Len
def yN : MethodName := ⟨"java/lang/String", "length", "()I"⟩
abbrev yB : ByteArray := jdk_42_method_54_code
theorem d0 : decode yB 0 = .ok (.aload_n 0, 1) := by decide +kernel
theorem d1 : decode yB 1 = .ok (.getfield 9, 3) := by decide +kernel
theorem d4 : decode yB 4 = .ok (.arraylength, 1) := by decide +kernel
theorem d5 : decode yB 5 = .ok (.aload_n 0, 1) := by decide +kernel
theorem d6 : decode yB 6 = .ok (.invokevirtual 335, 3) := by decide +kernel
theorem d9 : decode yB 9 = .ok (.ishr, 1) := by decide +kernel
theorem d10 : decode yB 10 = .ok (.ireturn, 1) := by decide +kernel
def site : List Cond := [.fieldLink "java/lang/String" 9 "java/lang/String" "value" "[B", Cdr.tab] ++ virtW "java/lang/String" 335 "java/lang/String" Cdr.yN Cdr.yN
def tab : Cond := tabOf yN yB 1 (some .int) site
def P (x t : Addr) (V : Cell) (cd : Int32) (n : Nat) (f : Nat → Int32) (z : Int32) (args : Array Value) (s : State) : Prop := args = #[.ref x] ∧ Txt x t V cd n f s ∧ StaticIs s "java/lang/String" "COMPACT_STRINGS" "Z" (.int z) ∧ ¬ z = 0
def E (n : Nat) (r : Option Value) (s u : State) : Prop := XT.PureE (some (.int (Int32.ofNat n))) r s u
/-- length() of a String of n chars, in either coding -/
theorem law (l : Launch) (x t : Addr) (V : Cell) (cd : Int32) (n : Nat) (f : Nat → Int32) (z : Int32) : Law l yN 1 0 1 13 yB 1 (some .int) site (P x t V cd n f z) (E n) [] 0 0 := by
  refine Law.of_walk (plainFor_of_name (by decide +kernel)) (by decide +kernel) (by decide +kernel) (by decide) (fun _ _ h => by rw [h.1]; rfl) (fun _ U U' hal hh h => ⟨h.1, h.2.1.mv hal hh, h.2.2.1.there hal hh, h.2.2.2⟩) (fun r U U' V V' h1 hal h2 h => XT.PureE.mv r U U' V V' h1 hal h2 h) ?_
  intro p e s m args below meth c s₁ X0 hexec hbytes hml hret hlk hnm hown hh0 W hP
  obtain ⟨rfl, hx, s1, hz⟩ := hP
  have v31 := hx.2.2.2.1.2.2.2
  have c1 : Steps p.tables e below (s₁.setTop (entryFrame m #[.ref x] 1)) (s₁.setTop (mkF m 1 #[.val (.ref x)] [.ref x])) := Steps.trans (entry rfl) (by
    show Steps p.tables e below (s₁.setTop (mkF m 0 #[.val (.ref x)] [])) _
    refine XS.aloadN X0.here hexec rfl (hb hbytes d0) rfl rfl ?_
    exact Steps.refl _)
  obtain ⟨T2, X2, q2, st2⟩ := X0.hget hexec hown (wk W (.fieldLink "java/lang/String" 9 "java/lang/String" "value" "[B")) (hx.mv X0.warmed.alike hh0).2.1 (g := (mkF m 1 #[.val (.ref x)] [.ref x])) rfl (rest := []) rfl (hb hbytes d1)
  have hh2 := q2.trans hh0
  have hx2 := hx.mv X2.warmed.alike hh2
  have c3 : Steps p.tables e below (s₁.setTop (entryFrame m #[.ref x] 1)) (T2.setTop (mkF m 6 #[.val (.ref x)] [.ref x, .int (Int32.ofNat V.slots.size)])) := (c1.trans (st2 _ (Steps.refl _))).trans (by
    refine X2.alen hexec hx2.2.2.2.1 rfl rfl (hb hbytes d4) ?_
    refine XS.aloadN X2.here hexec rfl (hb hbytes d5) rfl rfl ?_
    exact Steps.refl _)
  obtain ⟨v4, T4, X4, E4, g4⟩ := X2.callV hexec (Cdr.law l x cd z) hown (wks W (virtW "java/lang/String" 335 "java/lang/String" Cdr.yN Cdr.yN)) rfl (by decide) (wk W Cdr.tab) (W := 1) (Nat.le_of_ble_eq_true rfl) (Nat.le_of_ble_eq_true rfl) (Nat.le_refl _) (Nat.le_refl _) (hx2.1.fc X2.warmed.alike) hx2.1.is (g := (mkF m 6 #[.val (.ref x)] [.ref x, .int (Int32.ofNat V.slots.size)])) rfl (by rw [hml]; rfl) c3 (argsL := []) (rest := [.int (Int32.ofNat V.slots.size)]) rfl rfl (by show 2 * 0 + (1 + 0) ≤ _; decide) (hb hbytes d6) (⟨rfl, hx2.2.2.1, hx.2.2.2.2.1.cd, s1.there X2.warmed.alike hh2, hz⟩)
  obtain ⟨rfl, q4⟩ := E4
  have c5 : Steps p.tables e below (s₁.setTop (entryFrame m #[.ref x] 1)) (T4.setTop (mkF m 10 #[.val (.ref x)] [.int (Int32.ofNat V.slots.size >>> (cd &&& 31))])) := Steps.trans g4 (by
    refine ishr X4.here hexec rfl (hb hbytes d9) rfl ?_
    exact Steps.refl _)
  rw [hx.2.2.2.2.1.len v31] at c5
  exact ⟨T4, some (.int (Int32.ofNat n)), _, _, _, X4, rfl, rfl, rfl, (fun h => by cases h), ⟨rfl, q4.trans hh2⟩, fun fs hl => c5.trans (X4.ireturnOut hexec hret rfl (Or.inl rfl) (hb hbytes d10) hl)⟩
theorem pays {l : Launch} {R : Room} {p : Program} {e : Env} {below : List Frame} {s : State} {sargs : Array Value} {len W : Nat} (x t : Addr) (V : Cell) (cd : Int32) (n : Nat) (f : Nat → Int32) (z : Int32) (htab : tab.before sargs s = true) (hfr : 2 ≤ R.frames) (hlo : W + 25 ≤ R.locals) :
    Back l R p e below s sargs yN len W (fun A₁ a₁ => A₁.cells + 0 ≤ R.cells ∧ A₁.slots + 0 ≤ R.slots ∧ P x t V cd n f z a₁ A₁.U) (fun A₁ _ v₁ B₁ => E n v₁ A₁.U B₁.U ∧ B₁.locs = A₁.locs ++ [] ∧ B₁.cells = A₁.cells + 0 ∧ B₁.slots = A₁.slots + 0) :=
  (law l x t V cd n f z).pays htab hfr (by omega)
end Len
end StrChars
namespace StrChars.Road
open Jvm Sem ClassFile Op Lib Jvm.Stand Jvm.Free Jvm.Free.XT
open Jvm.Lib.Cold (StaticIs)
theorem consq {a : Array Value} {s : State} {c : Jvm.Cond} {L : List Jvm.Cond} (h0 : c.before a s = true) (h : ∀ w ∈ L, w.before a s = true) : ∀ w ∈ c :: L, w.before a s = true := fun w hw => (List.mem_cons.mp hw).elim (fun e => e ▸ h0) (h w)
/-- the words of String.length(), either coding -/
abbrev wordsLen : List Jvm.Cond := [.code Len.yN Len.yB 1 (some .int), .initialized ST, .fieldLink ST 9 ST "value" "[B", .fieldLink ST 38 ST "COMPACT_STRINGS" "Z", .fieldLink ST 15 ST "coder" "B", .code Cdr.yN Cdr.yB 1 (some .byte), .methodLink ST 335 Cdr.yN, .declares Cdr.yN, .selects ST Cdr.yN Cdr.yN, .instanceMethod Cdr.yN]
theorem tabLen_of {a : Array Value} {s : State} (h : ∀ w ∈ wordsLen, w.before a s = true) : Len.tab.before a s = true := by
  have hc : Cdr.tab.before a s = true := unparts (wk h (.code Cdr.yN Cdr.yB 1 (some .byte))) (wks h (.initialized Cdr.yN.cls :: Cdr.site))
  have q := consq hc h
  exact unparts (wk q (.code Len.yN Len.yB 1 (some .int))) (wks q (.initialized Len.yN.cls :: Len.site))
theorem movedLen {Z s : State} {a0 args : Array Value} (hZ : Z.Warmed39 s.vm) (hw : ∀ d ∈ wordsLen, d.before a0 Z = true) : ∀ d ∈ wordsLen, d.before args s = true := fun d hd => by
  have q := hw d hd
  have t : ∀ d ∈ wordsLen, d = .arrayClass .byte ∨ (d.onTables && d.keepsFace) = true := by decide +kernel
  rcases t d hd with rfl | t
  · exact RoadKit.mvA hZ q
  · exact RoadKit.mv hZ q t
/-- the bytes of the chars cs, low before high -/
def wideBytes : List Int32 → List Value
  | [] => []
  | c :: cs => .int (lo8 c) :: .int (hi8 c) :: wideBytes cs
theorem wide_lo (d : Value) : ∀ (cs : List Int32) (j : Nat), j < cs.length → (wideBytes cs).getD (2 * j) d = .int (lo8 (cs.getD j 0))
  | [], j, h => absurd h (Nat.not_lt_zero j)
  | c :: cs, 0, _ => rfl
  | c :: cs, j + 1, h => by
    have q := wide_lo d cs j (by simpa using h)
    rw [show 2 * (j + 1) = 2 * j + 1 + 1 from by omega]
    simpa [wideBytes] using q
theorem wide_hi (d : Value) : ∀ (cs : List Int32) (j : Nat), j < cs.length → (wideBytes cs).getD (2 * j + 1) d = .int (hi8 (cs.getD j 0))
  | [], j, h => absurd h (Nat.not_lt_zero j)
  | c :: cs, 0, _ => rfl
  | c :: cs, j + 1, h => by
    have q := wide_hi d cs j (by simpa using h)
    rw [show 2 * (j + 1) + 1 = 2 * j + 1 + 1 + 1 from by omega]
    simpa [wideBytes] using q
theorem low_at (d : Value) (cs : List Int32) (j : Nat) (h : j < cs.length) : (cs.map fun c => Value.int (lo8 c)).getD j d = .int (lo8 (cs.getD j 0)) := by
  simp [List.getD_eq_getElem?_getD, h]
/-- an array of N2 bytes vs codes the chars cs by the coder cd -/
def CodA (cs : List Int32) (cd N2 : Int32) (vs : List Value) : Prop := (cd = 0 ∧ N2 = Int32.ofNat cs.length ∧ vs = (cs.map fun c => Value.int (lo8 c)) ∧ ∀ c ∈ cs, ¬ 255 < c) ∨ (cd = 1 ∧ N2 = Int32.ofNat (2 * cs.length) ∧ vs = wideBytes cs ∧ ∃ c ∈ cs, 255 < c)
theorem CodA.cod {cs : List Int32} {cd N2 : Int32} {vs : List Value} {V : Cell} (h : CodA cs cd N2 vs) (hn : 2 * cs.length < 2 ^ 31) (hs : V.slots.size = N2.toNatClampNeg) (hv : RoadKit.Has V vs (.int 0)) : Cod cd cs.length (fun j => cs.getD j 0) V := by
  rcases h with ⟨rfl, rfl, rfl, h⟩ | ⟨rfl, rfl, rfl, c, hc, hw⟩
  · rw [n32 (by omega)] at hs
    exact Or.inl ⟨rfl, hs, fun j hj => ⟨by rw [hv j (by omega), low_at _ _ _ hj], by
      have e : cs.getD j 0 = cs[j] := by simp [List.getD_eq_getElem?_getD, hj]
      show ¬ 255 < cs.getD j 0
      rw [e]; exact h _ (List.getElem_mem _)⟩⟩
  · rw [n32 (by omega)] at hs
    obtain ⟨j, hj, rfl⟩ := List.getElem_of_mem hc
    exact Or.inr ⟨rfl, hs, fun j hj => ⟨by rw [hv _ (by omega), wide_lo _ _ _ hj], by rw [hv _ (by omega), wide_hi _ _ _ hj]⟩, j, hj, by
      have e : cs.getD j 0 = cs[j] := by simp [List.getD_eq_getElem?_getD, hj]
      show 255 < cs.getD j 0
      rw [e]; exact hw⟩
/-- an object of exactly java/lang/String, its two fields found: as the laws ask it -/
theorem strObj {Z U : State} {a0 : Array Value} {kI : Nat} (wi : (Jvm.Cond.instantiable ST kI).before a0 Z = true) (al : Z.vm.Alike U.vm) {x : Addr} {v0 c0 : Value} (E : RoadKit.Exa Z U.heap x ST) (V : RoadKit.Fld Z U.heap x ST "value" "[B" v0) (C : RoadKit.Fld Z U.heap x ST "coder" "B" c0) :
    ∃ (D : Cell) (fV fC : Field), Blank ST x D U ∧ Found ST "value" "[B" fV U ∧ Found ST "coder" "B" fC U ∧ D.slots[fV.slot]? = some v0 ∧ D.slots[fC.slot]? = some c0 ∧ RoadKit.slotOf Z ST "value" "[B" = fV.slot ∧ RoadKit.slotOf Z ST "coder" "B" = fC.slot := by
  obtain ⟨D, cfV, kV, iV, fV, hD, gV, stV, knV, obV, asV, slV⟩ := V
  obtain ⟨D', cfC, kC, iC, fC, hD', gC, stC, -, -, asC, slC⟩ := C
  cases hD.symm.trans hD'
  obtain ⟨D2, kD, e1, e2, e3, e4, e5⟩ := E
  cases hD.symm.trans e1
  obtain ⟨c2, k2, i1, i2, i3, -⟩ := Cond.instantiable_spec wi
  cases e2.symm.trans i1
  cases e3.symm.trans i2
  obtain ⟨kU, u1, u2⟩ := al.2.2 _ _ e3
  exact ⟨D, fV, fC, ⟨hD, ⟨knV, fun q hq => by rw [hq] at obV; cases obV⟩, by rw [al.findClass]; exact e2, kU, u1, by rw [u2]; exact i3, by rw [u2]; exact e5 i3⟩, ⟨SBG.found_only al ⟨cfV, kV, iV, gV⟩, stV⟩, ⟨SBG.found_only al ⟨cfC, kC, iC, gC⟩, stC⟩, slV, slC, by simp [RoadKit.slotOf, gV], by simp [RoadKit.slotOf, gC]⟩
theorem sta_is {Z U : State} (al : Z.vm.Alike U.vm) {C n d : String} {v : Value} (S : RoadKit.Sta Z U.heap C n d v) : StaticIs U C n d v := by
  obtain ⟨cfS, iS, kS, fS, st, cS, t1, t2, t3, t4, t5, t6, t7⟩ := S
  exact StaticIs.there (s := { Z with heap := U.heap }) ⟨cfS, iS, kS, fS, st, cS, t1, t2, t3, t4, t5, (fun q => by rw [q] at t6; cases t6), t7⟩ al rfl
/-- **length() OF SUCH A STRING** -/
theorem lenW {p : Program} {l : Launch} {e : Env} {R : Room} {s : State} {args : Array Value} {below : List Frame} {len W : Nat} {Z : State} {a0 : Array Value} {h : Heap} (hZ : Z.Warmed39 s.vm) (hw : ∀ d ∈ wordsLen, d.before a0 Z = true) {kI : Nat} (wi : (Jvm.Cond.instantiable ST kI).before a0 Z = true)
    {x t : Addr} {kb : ClassId} {cs : List Int32} {cd N2 z : Int32} {vs : List Value} (E : RoadKit.Exa Z h x ST) (V : RoadKit.Fld Z h x ST "value" "[B" (.ref t)) (C : RoadKit.Fld Z h x ST "coder" "B" (.int cd)) (K : RoadKit.Arv Z h t kb .byte N2 vs (.int 0)) (hc : CodA cs cd N2 vs) (hb : ∀ c ∈ cs, ¬ c < 0 ∧ ¬ (65535 : Int32) < c)
    (S : RoadKit.Sta Z h ST "COMPACT_STRINGS" "Z" (.int z)) (hz : ¬ z = 0) (l2 : cs.length ≤ 4000) (hfr : 2 ≤ R.frames) (hlo : W + 25 ≤ R.locals) :
    Back l R p e below s args (⟨"java/lang/String", "length", "()I"⟩ : MethodName) len W (fun P a => a = #[.ref x] ∧ P.U.heap = h ∧ P.cells + 0 ≤ R.cells ∧ P.slots + 0 ≤ R.slots)
      (fun P _ v B => ∃ L, (v = some (.int (Int32.ofNat cs.length)) ∧ L = [] ∧ B.U.heap = h) ∧ B.locs = P.locs ++ L ∧ B.cells = P.cells + 0 ∧ B.slots = P.slots + 0) := by
  obtain ⟨A, K1, K2, K3, K4, K5, K6⟩ := K
  have hcod := hc.cod (by omega) K3 K5
  intro m meth c P g ig mk a X hg hsize hdg hW hn hp'
  obtain ⟨rfl, rfl, r1, r2⟩ := hp'
  have al : Z.vm.Alike P.U.vm := hZ.alike.trans X.warmed.alike
  obtain ⟨D, fV, fC, hB, F1, F2, g1, g2, -, -⟩ := strObj wi al E V C
  have hx : Txt x t A cd cs.length (fun j => cs.getD j 0) P.U := ⟨⟨_, hB.2.2.1, D, hB.1, rfl, by cases q : D.vm <;> first | rfl | exact absurd q (hB.2.1.2 _)⟩, Has.of hB F1 g1, Has.of hB F2 g2, ⟨K1.1, State.isArrayOf_alike al K1.2.1, K1.2.2, by rcases hcod with ⟨-, q, -⟩ | ⟨-, q, -⟩ <;> omega⟩, hcod, fun j hj => by
    have e : cs.getD j 0 = cs[j] := by simp [List.getD_eq_getElem?_getD, hj]
    show ¬ cs.getD j 0 < 0 ∧ ¬ 65535 < cs.getD j 0
    rw [e]; exact hb _ (List.getElem_mem _)⟩
  obtain ⟨v, B, X', ⟨⟨hv, hh⟩, hl, hk, hs⟩, st⟩ := Len.pays x t A cd cs.length (fun j => cs.getD j 0) z (tabLen_of (movedLen hZ hw)) hfr hlo m meth c P g ig mk _ X hg hsize hdg hW hn ⟨r1, r2, rfl, hx, sta_is al S, hz⟩
  exact ⟨v, B, X', ⟨[], ⟨hv, rfl, hh⟩, hl, hk, hs⟩, st⟩
end StrChars.Road
namespace StrChars
open Jvm Sem ClassFile Op Lib Jvm.Stand Jvm.Free.XT Jvm.Free.ALB Jvm.Free.JM Jvm.Free
open Jvm.Lib.Cold (StaticIs)
/-- what place i of a byte[]'s cell holds -/
def yv (A : Cell) (i : Nat) : Int32 := match A.slots[i]? with | some (.int x) => x | _ => 0
theorem yv_get {a : Addr} {A : Cell} {U : State} (h : XT.Arr .byte a A U) (ht : Typed .byte A) {i : Nat} (hi : i < A.slots.size) : A.slots[i]? = some (.int (yv A i)) := by
  have e := Array.getElem?_eq_getElem hi
  have f := ht i _ e
  unfold yv; rw [e]
  generalize A.slots[i] = v at f
  cases v <;> simp [fits] at f ⊢
/-- the two arrays are equal, place for place -/
def EqC (A B : Cell) : Prop := A.slots.size = B.slots.size ∧ ∀ i, i < A.slots.size → yv A i = yv B i
/-- a boolean that says whether p -/
def Says01 (q : Prop) (r : Option Value) (s u : State) : Prop := ∃ v : Int32, r = some (.int v) ∧ u.heap = s.heap ∧ ((v = 1 ∧ q) ∨ (v = 0 ∧ ¬ q))
theorem Says01.mv {q : Prop} : ∀ r (U U' V V' : State), U'.heap = U.heap → V.vm.Alike V'.vm → V'.heap = V.heap → Says01 q r U V → Says01 q r U' V' :=
  fun r U U' V V' h1 _ h2 ⟨v, a, b, c⟩ => ⟨v, a, by rw [h1, h2]; exact b, c⟩
namespace LEq
def yN : MethodName := ⟨"java/lang/StringLatin1", "equals", "([B[B)Z"⟩
abbrev yB : ByteArray := jdk_43_method_13_code
theorem d0 : decode yB 0 = .ok (.aload_n 0, 1) := by decide +kernel
theorem d1 : decode yB 1 = .ok (.arraylength, 1) := by decide +kernel
theorem d2 : decode yB 2 = .ok (.aload_n 1, 1) := by decide +kernel
theorem d3 : decode yB 3 = .ok (.arraylength, 1) := by decide +kernel
theorem d4 : decode yB 4 = .ok (.if_icmp (.ne) 30, 3) := by decide +kernel
theorem d7 : decode yB 7 = .ok (.iconst 0, 1) := by decide +kernel
theorem d8 : decode yB 8 = .ok (.istore_n 2, 1) := by decide +kernel
theorem d9 : decode yB 9 = .ok (.iload_n 2, 1) := by decide +kernel
theorem d10 : decode yB 10 = .ok (.aload_n 0, 1) := by decide +kernel
theorem d11 : decode yB 11 = .ok (.arraylength, 1) := by decide +kernel
theorem d12 : decode yB 12 = .ok (.if_icmp (.ge) 20, 3) := by decide +kernel
theorem d15 : decode yB 15 = .ok (.aload_n 0, 1) := by decide +kernel
theorem d16 : decode yB 16 = .ok (.iload_n 2, 1) := by decide +kernel
theorem d17 : decode yB 17 = .ok (.baload, 1) := by decide +kernel
theorem d18 : decode yB 18 = .ok (.aload_n 1, 1) := by decide +kernel
theorem d19 : decode yB 19 = .ok (.iload_n 2, 1) := by decide +kernel
theorem d20 : decode yB 20 = .ok (.baload, 1) := by decide +kernel
theorem d21 : decode yB 21 = .ok (.if_icmp (.eq) 5, 3) := by decide +kernel
theorem d24 : decode yB 24 = .ok (.iconst 0, 1) := by decide +kernel
theorem d25 : decode yB 25 = .ok (.ireturn, 1) := by decide +kernel
theorem d26 : decode yB 26 = .ok (.iinc 2 1, 3) := by decide +kernel
theorem d29 : decode yB 29 = .ok (.goto (-20), 3) := by decide +kernel
theorem d32 : decode yB 32 = .ok (.iconst 1, 1) := by decide +kernel
theorem d33 : decode yB 33 = .ok (.ireturn, 1) := by decide +kernel
theorem d34 : decode yB 34 = .ok (.iconst 0, 1) := by decide +kernel
theorem d35 : decode yB 35 = .ok (.ireturn, 1) := by decide +kernel
def site : List Cond := []
def tab : Cond := tabOf yN yB 3 (some .boolean) site
def P (a : Addr) (A : Cell) (b : Addr) (B : Cell) (args : Array Value) (s : State) : Prop := args = #[.ref a, .ref b] ∧ XT.Arr .byte a A s ∧ Typed .byte A ∧ XT.Arr .byte b B s ∧ Typed .byte B
/-- whether two byte[] are equal, place for place -/
theorem law (l : Launch) (a : Addr) (A : Cell) (b : Addr) (B : Cell) : Law l yN 2 2 0 0 yB 3 (some .boolean) site (P a A b B) (Says01 (EqC A B)) [] 0 0 := by
  refine Law.of_walk (plainFor_of_name (by decide +kernel)) (by decide +kernel) (by decide +kernel) (by decide) (fun _ _ h => by rw [h.1]; rfl) (fun _ U U' hal hh h => ⟨h.1, h.2.1.mv hal hh, h.2.2.1, h.2.2.2.1.mv hal hh, h.2.2.2.2⟩) (fun r U U' V V' h1 hal h2 h => Says01.mv r U U' V V' h1 hal h2 h) ?_
  intro p e s m args below meth c s₁ X0 hexec hbytes hml hret hlk hnm hown hh0 W hP
  obtain ⟨rfl, hA, tA, hB, tB⟩ := hP
  have a31 := hA.2.2.2
  have b31 := hB.2.2.2
  have hA0 := hA.mv X0.warmed.alike hh0
  have hB0 := hB.mv X0.warmed.alike hh0
  have c1 : Steps p.tables e below (s₁.setTop (entryFrame m #[.ref a, .ref b] 3)) (s₁.setTop (mkF m 0 #[.val (.ref a), .val (.ref b), .unset] [])) := entry rfl
  have c2 : Steps p.tables e below (s₁.setTop (entryFrame m #[.ref a, .ref b] 3)) (s₁.setTop (mkF m 4 #[.val (.ref a), .val (.ref b), .unset] [.int (Int32.ofNat B.slots.size), .int (Int32.ofNat A.slots.size)])) := c1.trans (by
    refine XS.aloadN X0.here hexec rfl (hb hbytes d0) rfl rfl ?_
    refine X0.alen hexec hA0 rfl rfl (hb hbytes d1) ?_
    refine XS.aloadN X0.here hexec rfl (hb hbytes d2) rfl rfl ?_
    refine X0.alen hexec hB0 rfl rfl (hb hbytes d3) ?_
    exact Steps.refl _)
  by_cases hs : A.slots.size = B.slots.size
  · have c3 : Steps p.tables e below (s₁.setTop (entryFrame m #[.ref a, .ref b] 3)) (s₁.setTop (mkF m 9 #[.val (.ref a), .val (.ref b), .val (.int 0)] [])) := c2.trans (by
      refine XS.icmpNo X0.here hexec rfl (hb hbytes d4) rfl (ii_ne_f (by rw [hs])) ?_
      refine iconstV X0.here hexec rfl 0 (hb hbytes d7) (by decide) ?_
      refine XS.istoreN X0.here hexec rfl (hb hbytes d8) rfl rfl ?_
      exact Steps.refl _)
    have loop : ∀ (r i : Nat), i + r = A.slots.size → (∀ j, j < i → yv A j = yv B j) → Steps p.tables e below (s₁.setTop (entryFrame m #[.ref a, .ref b] 3)) (s₁.setTop (mkF m 9 #[.val (.ref a), .val (.ref b), .val (.int (Int32.ofNat i))] [])) → ∃ (pc : Nat) (Ls : Array Slot) (v : Int32), (pc = 25 ∨ pc = 33) ∧ ((v = 1 ∧ EqC A B) ∨ (v = 0 ∧ ¬ EqC A B)) ∧ Steps p.tables e below (s₁.setTop (entryFrame m #[.ref a, .ref b] 3)) (s₁.setTop (mkF m pc Ls [.int v])) := by
      intro r
      induction r with
      | zero =>
        intro i hi he cl
        exact ⟨33, _, 1, Or.inr rfl, Or.inl ⟨rfl, hs, fun j hj => he j (by omega)⟩, cl.trans (by
          refine XS.iloadN X0.here hexec rfl (hb hbytes d9) rfl ?_
          refine XS.aloadN X0.here hexec rfl (hb hbytes d10) rfl rfl ?_
          refine X0.alen hexec hA0 rfl rfl (hb hbytes d11) ?_
          refine XS.icmpYes X0.here hexec rfl (pc0 := 12) rfl (hb hbytes d12) rfl (ii_ge_t (nlt32 (by omega) (by omega))) (by decide) rfl ?_
          refine iconstV X0.here hexec rfl 1 (hb hbytes d32) (by decide) ?_
          exact Steps.refl _)⟩
      | succ r ih =>
        intro i hi he cl
        have c4 : Steps p.tables e below (s₁.setTop (entryFrame m #[.ref a, .ref b] 3)) (s₁.setTop (mkF m 21 #[.val (.ref a), .val (.ref b), .val (.int (Int32.ofNat i))] [.int (yv B i), .int (yv A i)])) := cl.trans (by
          refine XS.iloadN X0.here hexec rfl (hb hbytes d9) rfl ?_
          refine XS.aloadN X0.here hexec rfl (hb hbytes d10) rfl rfl ?_
          refine X0.alen hexec hA0 rfl rfl (hb hbytes d11) ?_
          refine XS.icmpNo X0.here hexec rfl (hb hbytes d12) rfl (ii_ge_f (lt32 (by omega) (by omega))) ?_
          refine XS.aloadN X0.here hexec rfl (hb hbytes d15) rfl rfl ?_
          refine XS.iloadN X0.here hexec rfl (hb hbytes d16) rfl ?_
          refine X0.aget hexec hA0 rfl (yv_get hA tA (i := i) (by omega)) rfl rfl (hb hbytes d17) ?_
          refine XS.aloadN X0.here hexec rfl (hb hbytes d18) rfl rfl ?_
          refine XS.iloadN X0.here hexec rfl (hb hbytes d19) rfl ?_
          refine X0.aget hexec hB0 rfl (yv_get hB tB (i := i) (by omega)) rfl rfl (hb hbytes d20) ?_
          exact Steps.refl _)
        by_cases hv : yv A i = yv B i
        · have c5 : Steps p.tables e below (s₁.setTop (entryFrame m #[.ref a, .ref b] 3)) (s₁.setTop (mkF m 9 #[.val (.ref a), .val (.ref b), .val (.int (Int32.ofNat i + 1))] [])) := c4.trans (by
            refine XS.icmpYes X0.here hexec rfl (pc0 := 21) rfl (hb hbytes d21) rfl (ii_eq_t hv) (by decide) rfl ?_
            refine iincV X0.here hexec rfl 1 (hb hbytes d26) (by decide) rfl rfl ?_
            refine XS.goto X0.here hexec rfl (pc0 := 29) rfl (hb hbytes d29) (by decide) rfl ?_
            exact Steps.refl _)
          rw [succ32] at c5
          exact ih (i + 1) (by omega) (fun j hj => by
            by_cases e : j = i
            · rw [e]; exact hv
            · exact he j (by omega)) c5
        · exact ⟨25, _, 0, Or.inl rfl, Or.inr ⟨rfl, fun q => hv (q.2 i (by omega))⟩, c4.trans (by
            refine XS.icmpNo X0.here hexec rfl (hb hbytes d21) rfl (ii_eq_f hv) ?_
            refine iconstV X0.here hexec rfl 0 (hb hbytes d24) (by decide) ?_
            exact Steps.refl _)⟩
    obtain ⟨pc, Ls, v, hpc, hv, cz⟩ := loop A.slots.size 0 (by omega) (fun j hj => absurd hj (Nat.not_lt_zero j)) c3
    have nv : narrow .boolean (.int v) = .int v := by rcases hv with ⟨rfl, -⟩ | ⟨rfl, -⟩ <;> rfl
    rcases hpc with rfl | rfl
    · exact ⟨s₁, some (.int v), _, _, _, X0, rfl, rfl, rfl, (fun h => by cases h), ⟨v, rfl, hh0, hv⟩, fun fs hl => cz.trans (X0.ireturnOut hexec hret nv (Or.inr (Or.inl rfl)) (hb hbytes d25) hl)⟩
    · exact ⟨s₁, some (.int v), _, _, _, X0, rfl, rfl, rfl, (fun h => by cases h), ⟨v, rfl, hh0, hv⟩, fun fs hl => cz.trans (X0.ireturnOut hexec hret nv (Or.inr (Or.inl rfl)) (hb hbytes d33) hl)⟩
  · have c3 : Steps p.tables e below (s₁.setTop (entryFrame m #[.ref a, .ref b] 3)) (s₁.setTop (mkF m 35 #[.val (.ref a), .val (.ref b), .unset] [.int 0])) := c2.trans (by
      refine XS.icmpYes X0.here hexec rfl (pc0 := 4) rfl (hb hbytes d4) rfl (ii_ne_t (ne32 a31 b31 hs)) (by decide) rfl ?_
      refine iconstV X0.here hexec rfl 0 (hb hbytes d34) (by decide) ?_
      exact Steps.refl _)
    exact ⟨s₁, some (.int 0), _, _, _, X0, rfl, rfl, rfl, (fun h => by cases h), ⟨0, rfl, hh0, Or.inr ⟨rfl, fun q => hs q.1⟩⟩, fun fs hl => c3.trans (X0.ireturnOut hexec hret rfl (Or.inr (Or.inl rfl)) (hb hbytes d35) hl)⟩
end LEq
theorem Cod.ty {cd : Int32} {n : Nat} {f : Nat → Int32} {V : Cell} (h : Cod cd n f V) : Typed .byte V := fun i v hv => by
  have hi : i < V.slots.size := (Array.getElem?_eq_some_iff.mp hv).1
  rcases h with ⟨-, k1, k2⟩ | ⟨-, k1, k2, -⟩
  · rw [(k2 i (by omega)).1] at hv; cases hv; exact fits_lo8 _
  · rcases Nat.mod_two_eq_zero_or_one i with e | e
    · obtain ⟨j, rfl⟩ : ∃ j, i = 2 * j := ⟨i / 2, by omega⟩
      rw [(k2 j (by omega)).1] at hv; cases hv; exact fits_lo8 _
    · obtain ⟨j, rfl⟩ : ∃ j, i = 2 * j + 1 := ⟨i / 2, by omega⟩
      rw [(k2 j (by omega)).2] at hv; cases hv; exact fits_lo8 _
/-- the same text -/
def SameT (n : Nat) (f : Nat → Int32) (k : Nat) (g : Nat → Int32) : Prop := n = k ∧ ∀ j, j < n → f j = g j
theorem lo8_inj {x y : Int32} (h0 : ¬ x < 0) (h1 : ¬ 255 < x) (k0 : ¬ y < 0) (k1 : ¬ 255 < y) (h : lo8 x = lo8 y) : x = y := by
  rw [← lo8_mask h0 h1, ← lo8_mask k0 k1, h]
/-- arrays coded by one coder are equal just where the texts are -/
theorem Cod.eqv {cd : Int32} {n k : Nat} {f g : Nat → Int32} {V V' : Cell} (h : Cod cd n f V) (h' : Cod cd k g V') (hf : ∀ j, j < n → ¬ f j < 0 ∧ ¬ 65535 < f j) (hg : ∀ j, j < k → ¬ g j < 0 ∧ ¬ 65535 < g j) : EqC V V' ↔ SameT n f k g := by
  have yvv : ∀ {W : Cell} {i : Nat} {x : Int32}, W.slots[i]? = some (.int x) → yv W i = x := fun q => by unfold yv; rw [q]
  rcases h with ⟨rfl, k1, k2⟩ | ⟨rfl, k1, k2, -⟩
  · rcases h' with ⟨-, m1, m2⟩ | ⟨e, -⟩
    · constructor
      · rintro ⟨e1, e2⟩
        refine ⟨by omega, fun j hj => ?_⟩
        have q := e2 j (by omega)
        rw [yvv (k2 j hj).1, yvv (m2 j (by omega)).1] at q
        exact lo8_inj (hf j hj).1 (k2 j hj).2 (hg j (by omega)).1 (m2 j (by omega)).2 q
      · rintro ⟨rfl, e2⟩
        refine ⟨by omega, fun j hj => ?_⟩
        rw [yvv (k2 j (by omega)).1, yvv (m2 j (by omega)).1, e2 j (by omega)]
    · exact absurd e (by decide)
  · rcases h' with ⟨e, -⟩ | ⟨-, m1, m2, -⟩
    · exact absurd e (by decide)
    · constructor
      · rintro ⟨e1, e2⟩
        refine ⟨by omega, fun j hj => ?_⟩
        have q1 := e2 (2 * j) (by omega)
        have q2 := e2 (2 * j + 1) (by omega)
        rw [yvv (k2 j hj).1, yvv (m2 j (by omega)).1] at q1
        rw [yvv (k2 j hj).2, yvv (m2 j (by omega)).2] at q2
        rw [← pair_says (hf j hj).1 (hf j hj).2, ← pair_says (hg j (by omega)).1 (hg j (by omega)).2, q1, q2]
      · rintro ⟨rfl, e2⟩
        refine ⟨by omega, fun i hi => ?_⟩
        rcases Nat.mod_two_eq_zero_or_one i with e | e
        · obtain ⟨j, rfl⟩ : ∃ j, i = 2 * j := ⟨i / 2, by omega⟩
          rw [yvv (k2 j (by omega)).1, yvv (m2 j (by omega)).1, e2 j (by omega)]
        · obtain ⟨j, rfl⟩ : ∃ j, i = 2 * j + 1 := ⟨i / 2, by omega⟩
          rw [yvv (k2 j (by omega)).2, yvv (m2 j (by omega)).2, e2 j (by omega)]
/-- two codings differ: so do the texts -/
theorem Cod.dif {cd cd' : Int32} {n k : Nat} {f g : Nat → Int32} {V V' : Cell} (h : Cod cd n f V) (h' : Cod cd' k g V') (hne : ¬ cd = cd') : ¬ SameT n f k g := by
  rintro ⟨rfl, e⟩
  rcases h with ⟨rfl, -, k2⟩ | ⟨rfl, -, -, j, hj, hw⟩
  · rcases h' with ⟨rfl, -⟩ | ⟨-, -, -, j, hj, hw⟩
    · exact hne rfl
    · exact (k2 j hj).2 (by rw [e j hj]; exact hw)
  · rcases h' with ⟨-, -, m2⟩ | ⟨rfl, -⟩
    · exact (m2 j hj).2 (by rw [← e j hj]; exact hw)
    · exact hne rfl
/-- an object of exactly C is an instance of C -/
theorem cinst {p : Program} {l : Launch} {e : Env} {R : Room} {s : State} {m : MethodId} {args : Array Value} {below : List Frame} {meth : Method} {c : Code} {T : State} {locs : List Loc} {cells slots : Nat} (X : Stand p l e R s m args below meth c T locs cells slots) (hexec : p.tables.exec = Jvm.exec) {own C : String} {index : Nat} (hown : s.vm.findClass own = some m.cls) (hlink : (Cond.classLink own index C).before args s = true) {a : Addr} (hE : Exact C a T)
    {g : JFrame} (hg : g.method = m) {rest : List Value} (hstack : g.stack = .ref a :: rest) (hdg : decode c.code g.pc = .ok (.instanceof index, 3)) :
    ∃ T', Stand p l e R s m args below meth c T' locs cells slots ∧ T'.heap = T.heap ∧ ∀ target, Steps p.tables e below (T'.setTop { g with pc := g.pc + 3, stack := .int 1 :: rest }) target → Steps p.tables e below (T.setTop g) target := by
  obtain ⟨cB, h1, D, h2, h3, h4⟩ := hE
  have h1' : s.vm.findClass C = some cB := by rw [← X.warmed.alike.findClass]; exact h1
  obtain ⟨vm', X', st⟩ := X.instanceofYes hexec hown hlink h2 h4 h1' (by rw [h3]; exact Jvm.Free.SB.assignable_self _ _) hg hstack hdg
  exact ⟨_, X', rfl, st⟩
theorem cself {p : Program} {l : Launch} {e : Env} {R : Room} {s : State} {m : MethodId} {args : Array Value} {below : List Frame} {meth : Method} {c : Code} {T : State} {locs : List Loc} {cells slots : Nat} (X : Stand p l e R s m args below meth c T locs cells slots) (hexec : p.tables.exec = Jvm.exec) {own C : String} {index : Nat} (hown : s.vm.findClass own = some m.cls) (hlink : (Cond.classLink own index C).before args s = true) {a : Addr} (hE : Exact C a T)
    {g : JFrame} (hg : g.method = m) {rest : List Value} (hstack : g.stack = .ref a :: rest) (hdg : decode c.code g.pc = .ok (.checkcast index, 3)) :
    ∃ T', Stand p l e R s m args below meth c T' locs cells slots ∧ T'.heap = T.heap ∧ ∀ target, Steps p.tables e below (T'.setTop { g with pc := g.pc + 3, stack := .ref a :: rest }) target → Steps p.tables e below (T.setTop g) target := by
  obtain ⟨cB, h1, D, h2, h3, h4⟩ := hE
  have h1' : s.vm.findClass C = some cB := by rw [← X.warmed.alike.findClass]; exact h1
  obtain ⟨vm', X', st⟩ := X.checkcastYes hexec hown hlink h2 h4 h1' (by rw [h3]; exact Jvm.Free.SB.assignable_self _ _) hg hstack hdg
  exact ⟨_, X', rfl, fun t h => st t (by rw [← hstack] at h; exact h)⟩
namespace SEq
def yN : MethodName := ⟨"java/lang/String", "equals", "(Ljava/lang/Object;)Z"⟩
abbrev yB : ByteArray := jdk_42_method_66_code
theorem d0 : decode yB 0 = .ok (.aload_n 0, 1) := by decide +kernel
theorem d1 : decode yB 1 = .ok (.aload_n 1, 1) := by decide +kernel
theorem d2 : decode yB 2 = .ok (.if_acmp (.ne) 5, 3) := by decide +kernel
theorem d5 : decode yB 5 = .ok (.iconst 1, 1) := by decide +kernel
theorem d6 : decode yB 6 = .ok (.ireturn, 1) := by decide +kernel
theorem d7 : decode yB 7 = .ok (.aload_n 1, 1) := by decide +kernel
theorem d8 : decode yB 8 = .ok (.instanceof 10, 3) := by decide +kernel
theorem d11 : decode yB 11 = .ok (.ifCond (.eq) 43, 3) := by decide +kernel
theorem d14 : decode yB 14 = .ok (.aload_n 1, 1) := by decide +kernel
theorem d15 : decode yB 15 = .ok (.checkcast 10, 3) := by decide +kernel
theorem d18 : decode yB 18 = .ok (.astore_n 2, 1) := by decide +kernel
theorem d19 : decode yB 19 = .ok (.getstatic 38, 3) := by decide +kernel
theorem d22 : decode yB 22 = .ok (.ifCond (.eq) 14, 3) := by decide +kernel
theorem d25 : decode yB 25 = .ok (.aload_n 0, 1) := by decide +kernel
theorem d26 : decode yB 26 = .ok (.getfield 15, 3) := by decide +kernel
theorem d29 : decode yB 29 = .ok (.aload_n 2, 1) := by decide +kernel
theorem d30 : decode yB 30 = .ok (.getfield 15, 3) := by decide +kernel
theorem d33 : decode yB 33 = .ok (.if_icmp (.ne) 21, 3) := by decide +kernel
theorem d36 : decode yB 36 = .ok (.aload_n 0, 1) := by decide +kernel
theorem d37 : decode yB 37 = .ok (.getfield 9, 3) := by decide +kernel
theorem d40 : decode yB 40 = .ok (.aload_n 2, 1) := by decide +kernel
theorem d41 : decode yB 41 = .ok (.getfield 9, 3) := by decide +kernel
theorem d44 : decode yB 44 = .ok (.invokestatic 541, 3) := by decide +kernel
theorem d47 : decode yB 47 = .ok (.ifCond (.eq) 7, 3) := by decide +kernel
theorem d50 : decode yB 50 = .ok (.iconst 1, 1) := by decide +kernel
theorem d51 : decode yB 51 = .ok (.goto 4, 3) := by decide +kernel
theorem d54 : decode yB 54 = .ok (.iconst 0, 1) := by decide +kernel
theorem d55 : decode yB 55 = .ok (.ireturn, 1) := by decide +kernel
def site : List Cond := [.classLink "java/lang/String" 10 "java/lang/String", .fieldLink "java/lang/String" 38 "java/lang/String" "COMPACT_STRINGS" "Z", .fieldLink "java/lang/String" 15 "java/lang/String" "coder" "B", .fieldLink "java/lang/String" 9 "java/lang/String" "value" "[B", LEq.tab] ++ staticW "java/lang/String" 541 LEq.yN
def tab : Cond := tabOf yN yB 3 (some .boolean) site
def P (x t : Addr) (V : Cell) (cd : Int32) (n : Nat) (f : Nat → Int32) (y t' : Addr) (V' : Cell) (cd' : Int32) (k : Nat) (g : Nat → Int32) (z : Int32) (args : Array Value) (s : State) : Prop := args = #[.ref x, .ref y] ∧ Txt x t V cd n f s ∧ Txt y t' V' cd' k g s ∧ StaticIs s "java/lang/String" "COMPACT_STRINGS" "Z" (.int z) ∧ ¬ z = 0
/-- equals(Object) of two Strings: whether the texts are the same -/
theorem law (l : Launch) (x t : Addr) (V : Cell) (cd : Int32) (n : Nat) (f : Nat → Int32) (y t' : Addr) (V' : Cell) (cd' : Int32) (k : Nat) (g : Nat → Int32) (z : Int32) : Law l yN 2 1 1 14 yB 3 (some .boolean) site (P x t V cd n f y t' V' cd' k g z) (Says01 (SameT n f k g)) [] 0 0 := by
  refine Law.of_walk (plainFor_of_name (by decide +kernel)) (by decide +kernel) (by decide +kernel) (by decide) (fun _ _ h => by rw [h.1]; rfl) (fun _ U U' hal hh h => ⟨h.1, h.2.1.mv hal hh, h.2.2.1.mv hal hh, h.2.2.2.1.there hal hh, h.2.2.2.2⟩) (fun r U U' V V' h1 hal h2 h => Says01.mv r U U' V V' h1 hal h2 h) ?_
  intro p e s m args below meth c s₁ X0 hexec hbytes hml hret hlk hnm hown hh0 W hP
  obtain ⟨rfl, hx, hy, s1, hz⟩ := hP
  have c1 : Steps p.tables e below (s₁.setTop (entryFrame m #[.ref x, .ref y] 3)) (s₁.setTop (mkF m 2 #[.val (.ref x), .val (.ref y), .unset] [.ref y, .ref x])) := Steps.trans (entry rfl) (by
    show Steps p.tables e below (s₁.setTop (mkF m 0 #[.val (.ref x), .val (.ref y), .unset] [])) _
    refine XS.aloadN X0.here hexec rfl (hb hbytes d0) rfl rfl ?_
    refine XS.aloadN X0.here hexec rfl (hb hbytes d1) rfl rfl ?_
    exact Steps.refl _)
  by_cases hxy : x = y
  · have c2 : Steps p.tables e below (s₁.setTop (entryFrame m #[.ref x, .ref y] 3)) (s₁.setTop (mkF m 6 #[.val (.ref x), .val (.ref y), .unset] [.int 1])) := c1.trans (by
      refine acmpNo X0.here hexec rfl (hb hbytes d2) rfl rfl rfl (by simp [acmp, hxy]) ?_
      refine iconstV X0.here hexec rfl 1 (hb hbytes d5) (by decide) ?_
      exact Steps.refl _)
    subst hxy
    have ec : cd = cd' := by
      obtain ⟨D, fd, a1, a2, a3⟩ := hx.2.2.1
      obtain ⟨D', fd', b1, b2, b3⟩ := hy.2.2.1
      cases a1.symm.trans b1
      obtain ⟨q1, q2, q3, q4⟩ := a2.1
      obtain ⟨r1, r2, r3, r4⟩ := b2.1
      cases q4.symm.trans r4
      cases a3.symm.trans b3; rfl
    have et : t = t' := by
      obtain ⟨D, fd, a1, a2, a3⟩ := hx.2.1
      obtain ⟨D', fd', b1, b2, b3⟩ := hy.2.1
      cases a1.symm.trans b1
      obtain ⟨q1, q2, q3, q4⟩ := a2.1
      obtain ⟨r1, r2, r3, r4⟩ := b2.1
      cases q4.symm.trans r4
      cases a3.symm.trans b3; rfl
    subst ec et
    have ev : V = V' := by cases hx.2.2.2.1.1.symm.trans hy.2.2.2.1.1; rfl
    subst ev
    have hs : SameT n f k g := (Cod.eqv hx.2.2.2.2.1 hy.2.2.2.2.1 hx.2.2.2.2.2 hy.2.2.2.2.2).mp ⟨rfl, fun _ _ => rfl⟩
    exact ⟨s₁, some (.int 1), _, _, _, X0, rfl, rfl, rfl, (fun h => by cases h), ⟨1, rfl, hh0, Or.inl ⟨rfl, hs⟩⟩, fun fs hl => c2.trans (X0.ireturnOut hexec hret rfl (Or.inr (Or.inl rfl)) (hb hbytes d6) hl)⟩
  · have c2 : Steps p.tables e below (s₁.setTop (entryFrame m #[.ref x, .ref y] 3)) (s₁.setTop (mkF m 8 #[.val (.ref x), .val (.ref y), .unset] [.ref y])) := c1.trans (by
      refine acmpYes X0.here hexec rfl (pc0 := 2) rfl (hb hbytes d2) rfl rfl rfl (by simp [acmp, hxy]) (by decide) rfl ?_
      refine XS.aloadN X0.here hexec rfl (hb hbytes d7) rfl rfl ?_
      exact Steps.refl _)
    obtain ⟨T3, X3, q3, st3⟩ := cinst X0 hexec hown (wk W (.classLink "java/lang/String" 10 "java/lang/String")) (hy.mv X0.warmed.alike hh0).1 (g := (mkF m 8 #[.val (.ref x), .val (.ref y), .unset] [.ref y])) rfl (rest := []) rfl (hb hbytes d8)
    have hh3 := q3.trans hh0
    have c4 : Steps p.tables e below (s₁.setTop (entryFrame m #[.ref x, .ref y] 3)) (T3.setTop (mkF m 15 #[.val (.ref x), .val (.ref y), .unset] [.ref y])) := (c2.trans (st3 _ (Steps.refl _))).trans (by
      refine XS.ifNo X3.here hexec rfl (hb hbytes d11) rfl (i0_eq_f (by decide)) ?_
      refine XS.aloadN X3.here hexec rfl (hb hbytes d14) rfl rfl ?_
      exact Steps.refl _)
    obtain ⟨T5, X5, q5, st5⟩ := cself X3 hexec hown (wk W (.classLink "java/lang/String" 10 "java/lang/String")) (hy.mv X3.warmed.alike hh3).1 (g := (mkF m 15 #[.val (.ref x), .val (.ref y), .unset] [.ref y])) rfl (rest := []) rfl (hb hbytes d15)
    have hh5 := q5.trans hh3
    have c6 : Steps p.tables e below (s₁.setTop (entryFrame m #[.ref x, .ref y] 3)) (T5.setTop (mkF m 19 #[.val (.ref x), .val (.ref y), .val (.ref y)] [])) := (c4.trans (st5 _ (Steps.refl _))).trans (by
      refine XS.astoreN X5.here hexec rfl (hb hbytes d18) rfl rfl rfl ?_
      exact Steps.refl _)
    obtain ⟨T7, X7, q7, st7⟩ := X5.sget hexec hown (wk W (.fieldLink "java/lang/String" 38 "java/lang/String" "COMPACT_STRINGS" "Z")) s1 (fun _ _ h => by rw [hh5]; exact h) (g := (mkF m 19 #[.val (.ref x), .val (.ref y), .val (.ref y)] [])) rfl (hb hbytes d19)
    have hh7 := q7.trans hh5
    have c8 : Steps p.tables e below (s₁.setTop (entryFrame m #[.ref x, .ref y] 3)) (T7.setTop (mkF m 26 #[.val (.ref x), .val (.ref y), .val (.ref y)] [.ref x])) := (c6.trans (st7 _ (Steps.refl _))).trans (by
      refine XS.ifNo X7.here hexec rfl (hb hbytes d22) rfl (i0_eq_f hz) ?_
      refine XS.aloadN X7.here hexec rfl (hb hbytes d25) rfl rfl ?_
      exact Steps.refl _)
    obtain ⟨T9, X9, q9, st9⟩ := X7.hget hexec hown (wk W (.fieldLink "java/lang/String" 15 "java/lang/String" "coder" "B")) (hx.mv X7.warmed.alike hh7).2.2.1 (g := (mkF m 26 #[.val (.ref x), .val (.ref y), .val (.ref y)] [.ref x])) rfl (rest := []) rfl (hb hbytes d26)
    have hh9 := q9.trans hh7
    have c10 : Steps p.tables e below (s₁.setTop (entryFrame m #[.ref x, .ref y] 3)) (T9.setTop (mkF m 30 #[.val (.ref x), .val (.ref y), .val (.ref y)] [.ref y, .int cd])) := (c8.trans (st9 _ (Steps.refl _))).trans (by
      refine XS.aloadN X9.here hexec rfl (hb hbytes d29) rfl rfl ?_
      exact Steps.refl _)
    obtain ⟨T11, X11, q11, st11⟩ := X9.hget hexec hown (wk W (.fieldLink "java/lang/String" 15 "java/lang/String" "coder" "B")) (hy.mv X9.warmed.alike hh9).2.2.1 (g := (mkF m 30 #[.val (.ref x), .val (.ref y), .val (.ref y)] [.ref y, .int cd])) rfl (rest := [.int cd]) rfl (hb hbytes d30)
    have hh11 := q11.trans hh9
    have c12 : Steps p.tables e below (s₁.setTop (entryFrame m #[.ref x, .ref y] 3)) (T11.setTop (mkF m 33 #[.val (.ref x), .val (.ref y), .val (.ref y)] [.int cd', .int cd])) := c10.trans (st11 _ (Steps.refl _))
    by_cases hcd : cd = cd'
    · subst hcd
      have c13 : Steps p.tables e below (s₁.setTop (entryFrame m #[.ref x, .ref y] 3)) (T11.setTop (mkF m 37 #[.val (.ref x), .val (.ref y), .val (.ref y)] [.ref x])) := c12.trans (by
        refine XS.icmpNo X11.here hexec rfl (hb hbytes d33) rfl (ii_ne_f rfl) ?_
        refine XS.aloadN X11.here hexec rfl (hb hbytes d36) rfl rfl ?_
        exact Steps.refl _)
      obtain ⟨T14, X14, q14, st14⟩ := X11.hget hexec hown (wk W (.fieldLink "java/lang/String" 9 "java/lang/String" "value" "[B")) (hx.mv X11.warmed.alike hh11).2.1 (g := (mkF m 37 #[.val (.ref x), .val (.ref y), .val (.ref y)] [.ref x])) rfl (rest := []) rfl (hb hbytes d37)
      have hh14 := q14.trans hh11
      have c15 : Steps p.tables e below (s₁.setTop (entryFrame m #[.ref x, .ref y] 3)) (T14.setTop (mkF m 41 #[.val (.ref x), .val (.ref y), .val (.ref y)] [.ref y, .ref t])) := (c13.trans (st14 _ (Steps.refl _))).trans (by
        refine XS.aloadN X14.here hexec rfl (hb hbytes d40) rfl rfl ?_
        exact Steps.refl _)
      obtain ⟨T16, X16, q16, st16⟩ := X14.hget hexec hown (wk W (.fieldLink "java/lang/String" 9 "java/lang/String" "value" "[B")) (hy.mv X14.warmed.alike hh14).2.1 (g := (mkF m 41 #[.val (.ref x), .val (.ref y), .val (.ref y)] [.ref y, .ref t])) rfl (rest := [.ref t]) rfl (hb hbytes d41)
      have hh16 := q16.trans hh14
      have c17 : Steps p.tables e below (s₁.setTop (entryFrame m #[.ref x, .ref y] 3)) (T16.setTop (mkF m 44 #[.val (.ref x), .val (.ref y), .val (.ref y)] [.ref t', .ref t])) := c15.trans (st16 _ (Steps.refl _))
      obtain ⟨v18, T18, X18, E18, g18⟩ := X16.callS hexec (LEq.law l t V t' V') hown (wks W (staticW "java/lang/String" 541 LEq.yN)) (wk W LEq.tab) (W := 0) (Nat.le_of_ble_eq_true rfl) (Nat.le_of_ble_eq_true rfl) (Nat.le_refl _) (Nat.le_refl _) (g := (mkF m 44 #[.val (.ref x), .val (.ref y), .val (.ref y)] [.ref t', .ref t])) rfl (by rw [hml]; rfl) c17 (argsL := [.ref t, .ref t']) (rest := []) rfl rfl (by show 2 * 0 + 0 ≤ _; decide) (hb hbytes d44) (⟨rfl, hx.2.2.2.1.mv X16.warmed.alike hh16, hx.2.2.2.2.1.ty, hy.2.2.2.1.mv X16.warmed.alike hh16, hy.2.2.2.2.1.ty⟩)
      obtain ⟨v, rfl, q18, hv⟩ := E18
      have iff := Cod.eqv hx.2.2.2.2.1 hy.2.2.2.2.1 hx.2.2.2.2.2 hy.2.2.2.2.2
      rcases hv with ⟨rfl, he⟩ | ⟨rfl, he⟩
      · have c19 : Steps p.tables e below (s₁.setTop (entryFrame m #[.ref x, .ref y] 3)) (T18.setTop (mkF m 55 #[.val (.ref x), .val (.ref y), .val (.ref y)] [.int 1])) := Steps.trans g18 (by
          refine XS.ifNo X18.here hexec rfl (hb hbytes d47) rfl (i0_eq_f (by decide)) ?_
          refine iconstV X18.here hexec rfl 1 (hb hbytes d50) (by decide) ?_
          refine XS.goto X18.here hexec rfl (pc0 := 51) rfl (hb hbytes d51) (by decide) rfl ?_
          exact Steps.refl _)
        exact ⟨T18, some (.int 1), _, _, _, X18, rfl, rfl, rfl, (fun h => by cases h), ⟨1, rfl, q18.trans hh16, Or.inl ⟨rfl, iff.mp he⟩⟩, fun fs hl => c19.trans (X18.ireturnOut hexec hret rfl (Or.inr (Or.inl rfl)) (hb hbytes d55) hl)⟩
      · have c19 : Steps p.tables e below (s₁.setTop (entryFrame m #[.ref x, .ref y] 3)) (T18.setTop (mkF m 55 #[.val (.ref x), .val (.ref y), .val (.ref y)] [.int 0])) := Steps.trans g18 (by
          refine XS.ifYes X18.here hexec rfl (pc0 := 47) rfl (hb hbytes d47) rfl (i0_eq_t rfl) (by decide) rfl ?_
          refine iconstV X18.here hexec rfl 0 (hb hbytes d54) (by decide) ?_
          exact Steps.refl _)
        exact ⟨T18, some (.int 0), _, _, _, X18, rfl, rfl, rfl, (fun h => by cases h), ⟨0, rfl, q18.trans hh16, Or.inr ⟨rfl, fun q => he (iff.mpr q)⟩⟩, fun fs hl => c19.trans (X18.ireturnOut hexec hret rfl (Or.inr (Or.inl rfl)) (hb hbytes d55) hl)⟩
    · have c13 : Steps p.tables e below (s₁.setTop (entryFrame m #[.ref x, .ref y] 3)) (T11.setTop (mkF m 55 #[.val (.ref x), .val (.ref y), .val (.ref y)] [.int 0])) := c12.trans (by
        refine XS.icmpYes X11.here hexec rfl (pc0 := 33) rfl (hb hbytes d33) rfl (ii_ne_t hcd) (by decide) rfl ?_
        refine iconstV X11.here hexec rfl 0 (hb hbytes d54) (by decide) ?_
        exact Steps.refl _)
      exact ⟨T11, some (.int 0), _, _, _, X11, rfl, rfl, rfl, (fun h => by cases h), ⟨0, rfl, hh11, Or.inr ⟨rfl, Cod.dif hx.2.2.2.2.1 hy.2.2.2.2.1 hcd⟩⟩, fun fs hl => c13.trans (X11.ireturnOut hexec hret rfl (Or.inr (Or.inl rfl)) (hb hbytes d55) hl)⟩
theorem pays {l : Launch} {R : Room} {p : Program} {e : Env} {below : List Frame} {s : State} {sargs : Array Value} {len W : Nat} (x t : Addr) (V : Cell) (cd : Int32) (n : Nat) (f : Nat → Int32) (y t' : Addr) (V' : Cell) (cd' : Int32) (k : Nat) (g : Nat → Int32) (z : Int32) (htab : tab.before sargs s = true) (hfr : 2 ≤ R.frames) (hlo : W + 28 ≤ R.locals) :
    Back l R p e below s sargs yN len W (fun A₁ a₁ => A₁.cells + 0 ≤ R.cells ∧ A₁.slots + 0 ≤ R.slots ∧ P x t V cd n f y t' V' cd' k g z a₁ A₁.U) (fun A₁ _ v₁ B₁ => Says01 (SameT n f k g) v₁ A₁.U B₁.U ∧ B₁.locs = A₁.locs ++ [] ∧ B₁.cells = A₁.cells + 0 ∧ B₁.slots = A₁.slots + 0) :=
  (law l x t V cd n f y t' V' cd' k g z).pays htab hfr (by omega)
end SEq
end StrChars
namespace StrChars.Road
open Jvm Sem ClassFile Op Lib Jvm.Stand Jvm.Free Jvm.Free.XT
open Jvm.Lib.Cold (StaticIs)
/-- the words of String.equals(Object) -/
abbrev wordsEq : List Jvm.Cond := [.code SEq.yN SEq.yB 3 (some .boolean), .initialized ST, .classLink ST 10 ST, .fieldLink ST 38 ST "COMPACT_STRINGS" "Z", .fieldLink ST 15 ST "coder" "B", .fieldLink ST 9 ST "value" "[B", .methodLink ST 541 LEq.yN, .static LEq.yN, .code LEq.yN LEq.yB 3 (some .boolean), .initialized "java/lang/StringLatin1"]
theorem tabEq_of {a : Array Value} {s : State} (h : ∀ w ∈ wordsEq, w.before a s = true) : SEq.tab.before a s = true := by
  have hl : LEq.tab.before a s = true := unparts (wk h (.code LEq.yN LEq.yB 3 (some .boolean))) (wks h (.initialized LEq.yN.cls :: LEq.site))
  have q := consq hl h
  exact unparts (wk q (.code SEq.yN SEq.yB 3 (some .boolean))) (wks q (.initialized SEq.yN.cls :: SEq.site))
theorem movedEq {Z s : State} {a0 args : Array Value} (hZ : Z.Warmed39 s.vm) (hw : ∀ d ∈ wordsEq, d.before a0 Z = true) : ∀ d ∈ wordsEq, d.before args s = true := fun d hd => by
  have t : ∀ d ∈ wordsEq, (d.onTables && d.keepsFace) = true := by decide +kernel
  exact RoadKit.mv hZ (hw d hd) (t d hd)
/-- the road's facts of a String, as the laws ask it -/
theorem txt_of {Z U : State} {a0 : Array Value} {kI : Nat} (wi : (Jvm.Cond.instantiable ST kI).before a0 Z = true) (al : Z.vm.Alike U.vm) {x t : Addr} {kb : ClassId} {cs : List Int32} {cd N2 : Int32} {vs : List Value} (E : RoadKit.Exa Z U.heap x ST) (V : RoadKit.Fld Z U.heap x ST "value" "[B" (.ref t)) (C : RoadKit.Fld Z U.heap x ST "coder" "B" (.int cd)) (K : RoadKit.Arv Z U.heap t kb .byte N2 vs (.int 0)) (hc : CodA cs cd N2 vs) (hb : ∀ c ∈ cs, ¬ c < 0 ∧ ¬ (65535 : Int32) < c) (l2 : cs.length ≤ 4000) :
    ∃ A, Txt x t A cd cs.length (fun j => cs.getD j 0) U := by
  obtain ⟨A, K1, K2, K3, K4, K5, K6⟩ := K
  have hcod := hc.cod (by omega) K3 K5
  obtain ⟨D, fV, fC, hB, F1, F2, g1, g2, -, -⟩ := strObj wi al E V C
  exact ⟨A, ⟨_, hB.2.2.1, D, hB.1, rfl, by cases q : D.vm <;> first | rfl | exact absurd q (hB.2.1.2 _)⟩, Has.of hB F1 g1, Has.of hB F2 g2, ⟨K1.1, State.isArrayOf_alike al K1.2.1, K1.2.2, by rcases hcod with ⟨-, q, -⟩ | ⟨-, q, -⟩ <;> omega⟩, hcod, fun j hj => by
    have e : cs.getD j 0 = cs[j] := by simp [List.getD_eq_getElem?_getD, hj]
    show ¬ cs.getD j 0 < 0 ∧ ¬ 65535 < cs.getD j 0
    rw [e]; exact hb _ (List.getElem_mem _)⟩
theorem same_list (cs ds : List Int32) : SameT cs.length (fun j => cs.getD j 0) ds.length (fun j => ds.getD j 0) ↔ cs = ds := by
  constructor
  · rintro ⟨e, q⟩
    refine List.ext_getElem e fun j h1 h2 => ?_
    have := q j h1
    simpa [List.getD_eq_getElem?_getD, h1, h2] using this
  · rintro rfl
    exact ⟨rfl, fun _ _ => rfl⟩
/-- **equals(Object) OF TWO SUCH STRINGS**: 1 just where the chars are the same -/
theorem eqW {p : Program} {l : Launch} {e : Env} {R : Room} {s : State} {args : Array Value} {below : List Frame} {len W : Nat} {Z : State} {a0 : Array Value} {h : Heap} (hZ : Z.Warmed39 s.vm) (hw : ∀ d ∈ wordsEq, d.before a0 Z = true) {kI : Nat} (wi : (Jvm.Cond.instantiable ST kI).before a0 Z = true)
    {x t : Addr} {kb : ClassId} {cs : List Int32} {cd N2 : Int32} {vs : List Value} (E : RoadKit.Exa Z h x ST) (V : RoadKit.Fld Z h x ST "value" "[B" (.ref t)) (C : RoadKit.Fld Z h x ST "coder" "B" (.int cd)) (K : RoadKit.Arv Z h t kb .byte N2 vs (.int 0)) (hc : CodA cs cd N2 vs) (hb : ∀ c ∈ cs, ¬ c < 0 ∧ ¬ (65535 : Int32) < c) (l2 : cs.length ≤ 4000)
    {y t' : Addr} {kb' : ClassId} {ds : List Int32} {cd' N2' : Int32} {vs' : List Value} (E' : RoadKit.Exa Z h y ST) (V' : RoadKit.Fld Z h y ST "value" "[B" (.ref t')) (C' : RoadKit.Fld Z h y ST "coder" "B" (.int cd')) (K' : RoadKit.Arv Z h t' kb' .byte N2' vs' (.int 0)) (hc' : CodA ds cd' N2' vs') (hb' : ∀ c ∈ ds, ¬ c < 0 ∧ ¬ (65535 : Int32) < c) (l2' : ds.length ≤ 4000)
    {z : Int32} (S : RoadKit.Sta Z h ST "COMPACT_STRINGS" "Z" (.int z)) (hz : ¬ z = 0) (hfr : 2 ≤ R.frames) (hlo : W + 28 ≤ R.locals) :
    Back l R p e below s args (⟨"java/lang/String", "equals", "(Ljava/lang/Object;)Z"⟩ : MethodName) len W (fun P a => a = #[.ref x, .ref y] ∧ P.U.heap = h ∧ P.cells + 0 ≤ R.cells ∧ P.slots + 0 ≤ R.slots)
      (fun P _ v B => ∃ L, (((v = some (.int 1) ∧ cs = ds) ∨ (v = some (.int 0) ∧ ¬ cs = ds)) ∧ L = [] ∧ B.U.heap = h) ∧ B.locs = P.locs ++ L ∧ B.cells = P.cells + 0 ∧ B.slots = P.slots + 0) := by
  intro m meth c P g ig mk a X hg hsize hdg hW hn hp'
  obtain ⟨rfl, rfl, r1, r2⟩ := hp'
  have al : Z.vm.Alike P.U.vm := hZ.alike.trans X.warmed.alike
  obtain ⟨A, hx⟩ := txt_of wi al E V C K hc hb l2
  obtain ⟨A', hy⟩ := txt_of wi al E' V' C' K' hc' hb' l2'
  obtain ⟨v, B, X', ⟨⟨w, hv, hh, hq⟩, hl, hk, hs⟩, st⟩ := SEq.pays x t A cd cs.length (fun j => cs.getD j 0) y t' A' cd' ds.length (fun j => ds.getD j 0) z (tabEq_of (movedEq hZ hw)) hfr hlo m meth c P g ig mk _ X hg hsize hdg hW hn ⟨r1, r2, rfl, hx, hy, sta_is al S, hz⟩
  refine ⟨v, B, X', ⟨[], ⟨?_, rfl, hh⟩, hl, hk, hs⟩, st⟩
  rcases hq with ⟨rfl, q⟩ | ⟨rfl, q⟩
  · exact Or.inl ⟨hv, (same_list cs ds).mp q⟩
  · exact Or.inr ⟨hv, fun e => q ((same_list cs ds).mpr e)⟩
end StrChars.Road
namespace StrChars.Road
open Jvm Sem ClassFile Op Lib Jvm.Stand Jvm.Free Jvm.Free.XT
open Jvm.Lib.Cold (StaticIs)
/-- what backV says of its String, as the contracts of this text ask it: cs's low bytes, coder 0 -/
theorem codOf {cs : List Int32} {n : Nat} (hn : cs.length = n) (hb : ∀ c ∈ cs, ¬ 255 < c) : CodA cs 0 (Int32.ofNat n) ((cs.map lo8).map Value.int) := Or.inl ⟨rfl, by rw [hn], by simp [List.map_map, Function.comp_def], hb⟩
end StrChars.Road
end Jvm.Pilot.@@N@@

namespace Jvm.Pilot.@@N@@
namespace Own
open Jvm Jvm.ClassFile Sem Op Lib Jvm.Free Jvm.Stand Jvm.LawKit Jvm.RoadKit
abbrev Gx := Bool × Launch × State × Array Value × List (String × Nat) × Nat
abbrev Gx.wd (G : Gx) : Bool := G.1
abbrev Gx.l (G : Gx) : Launch := G.2.1
abbrev Gx.Z (G : Gx) : State := G.2.2.1
abbrev Gx.a0 (G : Gx) : Array Value := G.2.2.2.1
abbrev Gx.EL (G : Gx) : List (String × Nat) := G.2.2.2.2.1
abbrev Gx.n0 (G : Gx) : Nat := G.2.2.2.2.2
abbrev Md := String × String × ByteArray × Nat × Option FieldType
abbrev Md.own (M : Md) : String := M.1
abbrev Md.nm (M : Md) : String := M.2.1
abbrev Md.code (M : Md) : ByteArray := M.2.2.1
abbrev Md.mx (M : Md) : Nat := M.2.2.2.1
abbrev Md.ret (M : Md) : Option FieldType := M.2.2.2.2
abbrev Cx := Program × Env × State × MethodId × Array Value × List Frame × Method × Code
abbrev Cx.p (X : Cx) : Program := X.1
abbrev Cx.e (X : Cx) : Env := X.2.1
abbrev Cx.s (X : Cx) : State := X.2.2.1
abbrev Cx.m (X : Cx) : MethodId := X.2.2.2.1
abbrev Cx.args (X : Cx) : Array Value := X.2.2.2.2.1
abbrev Cx.below (X : Cx) : List Frame := X.2.2.2.2.2.1
abbrev Cx.meth (X : Cx) : Method := X.2.2.2.2.2.2.1
abbrev Cx.c (X : Cx) : Code := X.2.2.2.2.2.2.2
def EndW (wd : Bool) (s : State) (o : Outcome) (t : State) (L : List Loc) (k n : Nat) : Prop := ReturnedEndW s o t L k n ∧ (wd = false → FrameEnd s o t L k n)
def Fix (G : Gx) (M : Md) (X : Cx) : Prop := X.p.tables.exec = Jvm.exec ∧ X.c.code = M.code ∧ X.c.maxLocals = M.mx ∧ X.meth.sig.returnType = M.ret ∧ X.meth.locks = false ∧ X.meth.name = M.nm ∧ EW G.Z G.a0 G.EL
def Wk (G : Gx) (M : Md) (R : Room) (X : Cx) (vm : Vm) (T : State) (h : Heap) (k n : Nat) : Prop :=
  Fix G M X ∧ ∃ (k0 : Nat) (L : List Loc), Stand X.p G.l X.e R (X.s.setVm vm) X.m X.args X.below X.meth X.c T L k n ∧ T.heap = h ∧ X.s.Since vm k0 ∧ k0 ≤ h.size ∧ G.Z.Warmed39 vm ∧ vm.findClass M.own = some X.m.cls ∧ Fr G.n0 L ∧ Old G.Z G.n0 h ∧ (G.wd = true → CHr G.Z G.EL X.s.vm X.s.heap vm h) ∧ (G.wd = false → vm = X.s.vm)
def Go (G : Gx) (R : Room) (X : Cx) (Q : Option Value → Heap → Prop) (S : State) : Prop :=
  ∃ (t : State) (o : Outcome), Steps X.p.tables X.e X.below S t ∧ t.status = .running ∧ Ended t X.below o ∧ ∃ (v : Option Value) (L : List Loc), o = .returned v ∧ (Q v t.heap ∧ Fr G.n0 L ∧ Old G.Z G.n0 t.heap) ∧ (G.wd = true → CHr G.Z G.EL X.s.vm X.s.heap t.vm t.heap) ∧ EndW G.wd X.s o t L R.cells R.slots
def Con (G : Gx) (y : MethodName) (bytes : ByteArray) (maxL : Nat) (ret : Option FieldType) (ws : List Cond) (rm : Room) (as : Array Value) (h : Heap) (Q : Option Value → Heap → Prop) : Prop :=
  MetFree G.l y (head1 (Cond.code y bytes maxL ret :: ws) rm) (fun a U => a = as ∧ G.Z.Warmed39 U.vm ∧ U.heap = h ∧ (G.wd = true → CHv G.Z G.EL U.vm h)) (fun _ _ _ _ _ => True)
    (fun _ U o U' => ∃ (v : Option Value) (L : List Loc), o = .returned v ∧ (Q v U'.heap ∧ Fr G.n0 L ∧ Old G.Z G.n0 U'.heap) ∧ (G.wd = true → CHr G.Z G.EL U.vm U.heap U'.vm U'.heap) ∧ EndW G.wd U o U' L rm.cells rm.slots)
def vQ (Q : Value → Heap → Prop) : Option Value → Heap → Prop := fun v h => ∃ x, v = some x ∧ Q x h
def nQ (Q : Heap → Prop) : Option Value → Heap → Prop := fun v h => v = none ∧ Q h
section Lay
variable {G : Gx} {M : Md} {R : Room} {X : Cx} {vm : Vm} {T : State} {h : Heap} {k n : Nat} {Q : Option Value → Heap → Prop}
theorem Go.of {S S' : State} (f : ∀ t, Steps X.p.tables X.e X.below S' t → Steps X.p.tables X.e X.below S t) (g : Go G R X Q S') : Go G R X Q S := by
  obtain ⟨t, o, h1, r⟩ := g; exact ⟨t, o, f t h1, r⟩
theorem Wk.hx (w : Wk G M R X vm T h k n) : X.p.tables.exec = Jvm.exec := w.1.1
theorem Wk.by_ (w : Wk G M R X vm T h k n) : X.c.code = M.code := w.1.2.1
theorem Wk.hml (w : Wk G M R X vm T h k n) : X.c.maxLocals = M.mx := w.1.2.2.1
theorem Wk.hret (w : Wk G M R X vm T h k n) : X.meth.sig.returnType = M.ret := w.1.2.2.2.1
theorem Wk.hlk (w : Wk G M R X vm T h k n) : X.meth.locks = false := w.1.2.2.2.2.1
theorem Wk.hnm (w : Wk G M R X vm T h k n) : X.meth.name = M.nm := w.1.2.2.2.2.2.1
theorem Wk.hEL (w : Wk G M R X vm T h k n) : EW G.Z G.a0 G.EL := w.1.2.2.2.2.2.2
theorem Wk.here (w : Wk G M R X vm T h k n) : At T X.m X.c X.below := by obtain ⟨-, k0, L, S, -⟩ := w; exact S.here
theorem Wk.heap (w : Wk G M R X vm T h k n) : T.heap = h := by obtain ⟨-, k0, L, S, e, -⟩ := w; exact e
theorem Wk.old (w : Wk G M R X vm T h k n) : Old G.Z G.n0 h := by obtain ⟨-, k0, L, -, -, -, -, -, -, -, q, -⟩ := w; exact q
theorem Wk.ch (w : Wk G M R X vm T h k n) : G.wd = true → CHr G.Z G.EL X.s.vm X.s.heap vm h := by obtain ⟨-, k0, L, -, -, -, -, -, -, -, -, q, -⟩ := w; exact q
theorem Wk.wz (w : Wk G M R X vm T h k n) : G.Z.Warmed39 vm := by obtain ⟨-, k0, L, -, -, -, -, q, -⟩ := w; exact q
theorem Wk.n0le (w : Wk G M R X vm T h k n) : G.n0 ≤ h.size := by have := w.old; rw [← this.1]; exact this.2.1
theorem Wk.sta (w : Wk G M R X vm T h k n) {C f d : String} {v : Value} (S : Sta G.Z G.Z.heap C f d v) : Sta G.Z h C f d v := S.ext w.old.2
theorem Wk.mono (w : Wk G M R X vm T h k n) {k' n' : Nat} (hk : k ≤ k') (hn : n ≤ n') : Wk G M R X vm T h k' n' := by
  obtain ⟨a, k0, L, S, r⟩ := w; exact ⟨a, k0, L, S.mono hk hn, r⟩
theorem Wk.aloadN (w : Wk G M R X vm T h k n) {pc q : Nat} {Ls : Array Slot} {st : List Value} {j : Fin 4} {v : Value} (hd : decode M.code pc = .ok (.aload_n j, 1)) (hl : Ls[j.val]? = some (.val v)) (hv : v.isRef = true) (hq : pc + 1 = q) (go : Go G R X Q (T.setTop (mkF X.m q Ls (v :: st)))) : Go G R X Q (T.setTop (mkF X.m pc Ls st)) := by
  subst hq
  exact go.of fun t r => XS.aloadN w.here w.hx rfl (hb w.by_ hd) hl hv r
theorem Wk.aload (w : Wk G M R X vm T h k n) {pc q : Nat} {Ls : Array Slot} {st : List Value} {j : Nat} {v : Value} (hd : decode M.code pc = .ok (.aload j, 2)) (hl : Ls[j]? = some (.val v)) (hv : v.isRef = true) (hq : pc + 2 = q) (go : Go G R X Q (T.setTop (mkF X.m q Ls (v :: st)))) : Go G R X Q (T.setTop (mkF X.m pc Ls st)) := by
  subst hq
  exact go.of fun t r => XS.aload w.here w.hx rfl (hb w.by_ hd) hl hv r
theorem Wk.iloadN (w : Wk G M R X vm T h k n) {pc q : Nat} {Ls : Array Slot} {st : List Value} {j : Fin 4} {v : Int32} (hd : decode M.code pc = .ok (.iload_n j, 1)) (hl : Ls[j.val]? = some (.val (.int v))) (hq : pc + 1 = q) (go : Go G R X Q (T.setTop (mkF X.m q Ls (.int v :: st)))) : Go G R X Q (T.setTop (mkF X.m pc Ls st)) := by
  subst hq
  exact go.of fun t r => XS.iloadN w.here w.hx rfl (hb w.by_ hd) hl r
theorem Wk.iload (w : Wk G M R X vm T h k n) {pc q : Nat} {Ls : Array Slot} {st : List Value} {j : Nat} {v : Int32} (hd : decode M.code pc = .ok (.iload j, 2)) (hl : Ls[j]? = some (.val (.int v))) (hq : pc + 2 = q) (go : Go G R X Q (T.setTop (mkF X.m q Ls (.int v :: st)))) : Go G R X Q (T.setTop (mkF X.m pc Ls st)) := by
  subst hq
  exact go.of fun t r => XS.iload w.here w.hx rfl (hb w.by_ hd) hl r
theorem Wk.lloadN (w : Wk G M R X vm T h k n) {pc q : Nat} {Ls : Array Slot} {st : List Value} {j : Fin 4} {v : Int64} (hd : decode M.code pc = .ok (.lload_n j, 1)) (hl : Ls[j.val]? = some (.val (.long v))) (hq : pc + 1 = q) (go : Go G R X Q (T.setTop (mkF X.m q Ls (.long v :: st)))) : Go G R X Q (T.setTop (mkF X.m pc Ls st)) := by
  subst hq
  exact go.of fun t r => XS.lloadN w.here w.hx rfl (hb w.by_ hd) hl r
theorem Wk.lload (w : Wk G M R X vm T h k n) {pc q : Nat} {Ls : Array Slot} {st : List Value} {j : Nat} {v : Int64} (hd : decode M.code pc = .ok (.lload j, 2)) (hl : Ls[j]? = some (.val (.long v))) (hq : pc + 2 = q) (go : Go G R X Q (T.setTop (mkF X.m q Ls (.long v :: st)))) : Go G R X Q (T.setTop (mkF X.m pc Ls st)) := by
  subst hq
  exact go.of fun t r => XS.lload w.here w.hx rfl (hb w.by_ hd) hl r
theorem Wk.istoreN (w : Wk G M R X vm T h k n) {pc q : Nat} {Ls : Array Slot} {st : List Value} {j : Fin 4} {x : Int32} {L2 : Array Slot} (hd : decode M.code pc = .ok (.istore_n j, 1)) (hl : storeLocals Ls j.val (.int x) = some L2) (hq : pc + 1 = q) (go : Go G R X Q (T.setTop (mkF X.m q L2 st))) : Go G R X Q (T.setTop (mkF X.m pc Ls (.int x :: st))) := by
  subst hq
  exact go.of fun t r => XS.istoreN w.here w.hx rfl (hb w.by_ hd) rfl hl r
theorem Wk.istore (w : Wk G M R X vm T h k n) {pc q : Nat} {Ls : Array Slot} {st : List Value} {j : Nat} {x : Int32} {L2 : Array Slot} (hd : decode M.code pc = .ok (.istore j, 2)) (hl : storeLocals Ls j (.int x) = some L2) (hq : pc + 2 = q) (go : Go G R X Q (T.setTop (mkF X.m q L2 st))) : Go G R X Q (T.setTop (mkF X.m pc Ls (.int x :: st))) := by
  subst hq
  exact go.of fun t r => XS.istore w.here w.hx rfl (hb w.by_ hd) rfl hl r
theorem Wk.lstoreN (w : Wk G M R X vm T h k n) {pc q : Nat} {Ls : Array Slot} {st : List Value} {j : Fin 4} {x : Int64} {L2 : Array Slot} (hd : decode M.code pc = .ok (.lstore_n j, 1)) (hl : storeLocals Ls j.val (.long x) = some L2) (hq : pc + 1 = q) (go : Go G R X Q (T.setTop (mkF X.m q L2 st))) : Go G R X Q (T.setTop (mkF X.m pc Ls (.long x :: st))) := by
  subst hq
  exact go.of fun t r => XS.lstoreN w.here w.hx rfl (hb w.by_ hd) rfl hl r
theorem Wk.lstore (w : Wk G M R X vm T h k n) {pc q : Nat} {Ls : Array Slot} {st : List Value} {j : Nat} {x : Int64} {L2 : Array Slot} (hd : decode M.code pc = .ok (.lstore j, 2)) (hl : storeLocals Ls j (.long x) = some L2) (hq : pc + 2 = q) (go : Go G R X Q (T.setTop (mkF X.m q L2 st))) : Go G R X Q (T.setTop (mkF X.m pc Ls (.long x :: st))) := by
  subst hq
  exact go.of fun t r => XS.lstore w.here w.hx rfl (hb w.by_ hd) rfl hl r
theorem Wk.astoreN (w : Wk G M R X vm T h k n) {pc q : Nat} {Ls : Array Slot} {st : List Value} {j : Fin 4} {x : Value} {L2 : Array Slot} (hd : decode M.code pc = .ok (.astore_n j, 1)) (hv : x.isRef = true) (hl : storeLocals Ls j.val x = some L2) (hq : pc + 1 = q) (go : Go G R X Q (T.setTop (mkF X.m q L2 st))) : Go G R X Q (T.setTop (mkF X.m pc Ls (x :: st))) := by
  subst hq
  exact go.of fun t r => XS.astoreN w.here w.hx rfl (hb w.by_ hd) rfl hv hl r
theorem Wk.astore (w : Wk G M R X vm T h k n) {pc q : Nat} {Ls : Array Slot} {st : List Value} {j : Nat} {x : Value} {L2 : Array Slot} (hd : decode M.code pc = .ok (.astore j, 2)) (hv : x.isRef = true) (hl : storeLocals Ls j x = some L2) (hq : pc + 2 = q) (go : Go G R X Q (T.setTop (mkF X.m q L2 st))) : Go G R X Q (T.setTop (mkF X.m pc Ls (x :: st))) := by
  subst hq
  exact go.of fun t r => XS.astore w.here w.hx rfl (hb w.by_ hd) rfl hv hl r
theorem Wk.aconst (w : Wk G M R X vm T h k n) {pc q : Nat} {Ls : Array Slot} {st : List Value} (hd : decode M.code pc = .ok (.aconst_null, 1)) (hq : pc + 1 = q) (go : Go G R X Q (T.setTop (mkF X.m q Ls (.null :: st)))) : Go G R X Q (T.setTop (mkF X.m pc Ls st)) := by
  subst hq
  exact go.of fun t r => XS.aconstNull w.here w.hx rfl (hb w.by_ hd) r
theorem Wk.iconst (w : Wk G M R X vm T h k n) {pc q : Nat} {Ls : Array Slot} {st : List Value} {i : Int} (v : Int32) (hd : decode M.code pc = .ok (.iconst i, 1)) (hv : Int32.ofInt i = v) (hq : pc + 1 = q) (go : Go G R X Q (T.setTop (mkF X.m q Ls (.int v :: st)))) : Go G R X Q (T.setTop (mkF X.m pc Ls st)) := by
  subst hq hv
  exact go.of fun t r => XS.iconst w.here w.hx rfl (hb w.by_ hd) r
theorem Wk.bipush (w : Wk G M R X vm T h k n) {pc q : Nat} {Ls : Array Slot} {st : List Value} {i : Int} (v : Int32) (hd : decode M.code pc = .ok (.bipush i, 2)) (hv : (Int8.ofInt i).toInt32 = v) (hq : pc + 2 = q) (go : Go G R X Q (T.setTop (mkF X.m q Ls (.int v :: st)))) : Go G R X Q (T.setTop (mkF X.m pc Ls st)) := by
  subst hq hv
  exact go.of fun t r => XS.bipush w.here w.hx rfl (hb w.by_ hd) r
theorem Wk.sipush (w : Wk G M R X vm T h k n) {pc q : Nat} {Ls : Array Slot} {st : List Value} {i : Int} (v : Int32) (hd : decode M.code pc = .ok (.sipush i, 3)) (hv : (Int16.ofInt i).toInt32 = v) (hq : pc + 3 = q) (go : Go G R X Q (T.setTop (mkF X.m q Ls (.int v :: st)))) : Go G R X Q (T.setTop (mkF X.m pc Ls st)) := by
  subst hq hv
  exact go.of fun t r => XS.sipush w.here w.hx rfl (hb w.by_ hd) r
theorem Wk.lconst (w : Wk G M R X vm T h k n) {pc q : Nat} {Ls : Array Slot} {st : List Value} {i : Fin 2} (v : Int64) (hd : decode M.code pc = .ok (.lconst i, 1)) (hv : Int64.ofNat i = v) (hq : pc + 1 = q) (go : Go G R X Q (T.setTop (mkF X.m q Ls (.long v :: st)))) : Go G R X Q (T.setTop (mkF X.m pc Ls st)) := by
  subst hq hv
  exact go.of fun t r => XS.lconst w.here w.hx rfl (hb w.by_ hd) r
theorem Wk.iadd (w : Wk G M R X vm T h k n) {pc q : Nat} {Ls : Array Slot} {st : List Value} {x y : Int32} (hd : decode M.code pc = .ok (.iadd, 1)) (hq : pc + 1 = q) (go : Go G R X Q (T.setTop (mkF X.m q Ls (.int (x + y) :: st)))) : Go G R X Q (T.setTop (mkF X.m pc Ls (.int y :: .int x :: st))) := by
  subst hq
  exact go.of fun t r => XS.iadd w.here w.hx rfl (hb w.by_ hd) rfl r
theorem Wk.isub (w : Wk G M R X vm T h k n) {pc q : Nat} {Ls : Array Slot} {st : List Value} {x y : Int32} (hd : decode M.code pc = .ok (.isub, 1)) (hq : pc + 1 = q) (go : Go G R X Q (T.setTop (mkF X.m q Ls (.int (x - y) :: st)))) : Go G R X Q (T.setTop (mkF X.m pc Ls (.int y :: .int x :: st))) := by
  subst hq
  exact go.of fun t r => XS.isub w.here w.hx rfl (hb w.by_ hd) rfl r
theorem Wk.imul (w : Wk G M R X vm T h k n) {pc q : Nat} {Ls : Array Slot} {st : List Value} {x y : Int32} (hd : decode M.code pc = .ok (.imul, 1)) (hq : pc + 1 = q) (go : Go G R X Q (T.setTop (mkF X.m q Ls (.int (x * y) :: st)))) : Go G R X Q (T.setTop (mkF X.m pc Ls (.int y :: .int x :: st))) := by
  subst hq
  exact go.of fun t r => XS.imul w.here w.hx rfl (hb w.by_ hd) rfl r
theorem Wk.iand (w : Wk G M R X vm T h k n) {pc q : Nat} {Ls : Array Slot} {st : List Value} {x y : Int32} (hd : decode M.code pc = .ok (.iand, 1)) (hq : pc + 1 = q) (go : Go G R X Q (T.setTop (mkF X.m q Ls (.int (x &&& y) :: st)))) : Go G R X Q (T.setTop (mkF X.m pc Ls (.int y :: .int x :: st))) := by
  subst hq
  exact go.of fun t r => XS.iand w.here w.hx rfl (hb w.by_ hd) rfl r
theorem Wk.ior (w : Wk G M R X vm T h k n) {pc q : Nat} {Ls : Array Slot} {st : List Value} {x y : Int32} (hd : decode M.code pc = .ok (.ior, 1)) (hq : pc + 1 = q) (go : Go G R X Q (T.setTop (mkF X.m q Ls (.int (x ||| y) :: st)))) : Go G R X Q (T.setTop (mkF X.m pc Ls (.int y :: .int x :: st))) := by
  subst hq
  exact go.of fun t r => XS.ior w.here w.hx rfl (hb w.by_ hd) rfl r
theorem Wk.ixor (w : Wk G M R X vm T h k n) {pc q : Nat} {Ls : Array Slot} {st : List Value} {x y : Int32} (hd : decode M.code pc = .ok (.ixor, 1)) (hq : pc + 1 = q) (go : Go G R X Q (T.setTop (mkF X.m q Ls (.int (x ^^^ y) :: st)))) : Go G R X Q (T.setTop (mkF X.m pc Ls (.int y :: .int x :: st))) := by
  subst hq
  exact go.of fun t r => XS.ixor w.here w.hx rfl (hb w.by_ hd) rfl r
theorem Wk.ishl (w : Wk G M R X vm T h k n) {pc q : Nat} {Ls : Array Slot} {st : List Value} {x y : Int32} (hd : decode M.code pc = .ok (.ishl, 1)) (hq : pc + 1 = q) (go : Go G R X Q (T.setTop (mkF X.m q Ls (.int (x <<< (y &&& 31)) :: st)))) : Go G R X Q (T.setTop (mkF X.m pc Ls (.int y :: .int x :: st))) := by
  subst hq
  exact go.of fun t r => XS.ishl w.here w.hx rfl (hb w.by_ hd) rfl r
theorem Wk.ishr (w : Wk G M R X vm T h k n) {pc q : Nat} {Ls : Array Slot} {st : List Value} {x y : Int32} (hd : decode M.code pc = .ok (.ishr, 1)) (hq : pc + 1 = q) (go : Go G R X Q (T.setTop (mkF X.m q Ls (.int (x >>> (y &&& 31)) :: st)))) : Go G R X Q (T.setTop (mkF X.m pc Ls (.int y :: .int x :: st))) := by
  subst hq
  exact go.of fun t r => XS.ishr w.here w.hx rfl (hb w.by_ hd) rfl r
theorem Wk.iushr (w : Wk G M R X vm T h k n) {pc q : Nat} {Ls : Array Slot} {st : List Value} {x y : Int32} (hd : decode M.code pc = .ok (.iushr, 1)) (hq : pc + 1 = q) (go : Go G R X Q (T.setTop (mkF X.m q Ls (.int ((x.toUInt32 >>> (y &&& 31).toUInt32).toInt32) :: st)))) : Go G R X Q (T.setTop (mkF X.m pc Ls (.int y :: .int x :: st))) := by
  subst hq
  exact go.of fun t r => XS.iushr w.here w.hx rfl (hb w.by_ hd) rfl r
theorem Wk.ladd (w : Wk G M R X vm T h k n) {pc q : Nat} {Ls : Array Slot} {st : List Value} {x y : Int64} (hd : decode M.code pc = .ok (.ladd, 1)) (hq : pc + 1 = q) (go : Go G R X Q (T.setTop (mkF X.m q Ls (.long (x + y) :: st)))) : Go G R X Q (T.setTop (mkF X.m pc Ls (.long y :: .long x :: st))) := by
  subst hq
  exact go.of fun t r => XS.ladd w.here w.hx rfl (hb w.by_ hd) rfl r
theorem Wk.lsub (w : Wk G M R X vm T h k n) {pc q : Nat} {Ls : Array Slot} {st : List Value} {x y : Int64} (hd : decode M.code pc = .ok (.lsub, 1)) (hq : pc + 1 = q) (go : Go G R X Q (T.setTop (mkF X.m q Ls (.long (x - y) :: st)))) : Go G R X Q (T.setTop (mkF X.m pc Ls (.long y :: .long x :: st))) := by
  subst hq
  exact go.of fun t r => XS.lsub w.here w.hx rfl (hb w.by_ hd) rfl r
theorem Wk.lmul (w : Wk G M R X vm T h k n) {pc q : Nat} {Ls : Array Slot} {st : List Value} {x y : Int64} (hd : decode M.code pc = .ok (.lmul, 1)) (hq : pc + 1 = q) (go : Go G R X Q (T.setTop (mkF X.m q Ls (.long (x * y) :: st)))) : Go G R X Q (T.setTop (mkF X.m pc Ls (.long y :: .long x :: st))) := by
  subst hq
  exact go.of fun t r => XS.lmul w.here w.hx rfl (hb w.by_ hd) rfl r
theorem Wk.land (w : Wk G M R X vm T h k n) {pc q : Nat} {Ls : Array Slot} {st : List Value} {x y : Int64} (hd : decode M.code pc = .ok (.land, 1)) (hq : pc + 1 = q) (go : Go G R X Q (T.setTop (mkF X.m q Ls (.long (x &&& y) :: st)))) : Go G R X Q (T.setTop (mkF X.m pc Ls (.long y :: .long x :: st))) := by
  subst hq
  exact go.of fun t r => XS.land w.here w.hx rfl (hb w.by_ hd) rfl r
theorem Wk.lor (w : Wk G M R X vm T h k n) {pc q : Nat} {Ls : Array Slot} {st : List Value} {x y : Int64} (hd : decode M.code pc = .ok (.lor, 1)) (hq : pc + 1 = q) (go : Go G R X Q (T.setTop (mkF X.m q Ls (.long (x ||| y) :: st)))) : Go G R X Q (T.setTop (mkF X.m pc Ls (.long y :: .long x :: st))) := by
  subst hq
  exact go.of fun t r => XS.lor w.here w.hx rfl (hb w.by_ hd) rfl r
theorem Wk.lxor (w : Wk G M R X vm T h k n) {pc q : Nat} {Ls : Array Slot} {st : List Value} {x y : Int64} (hd : decode M.code pc = .ok (.lxor, 1)) (hq : pc + 1 = q) (go : Go G R X Q (T.setTop (mkF X.m q Ls (.long (x ^^^ y) :: st)))) : Go G R X Q (T.setTop (mkF X.m pc Ls (.long y :: .long x :: st))) := by
  subst hq
  exact go.of fun t r => XS.lxor w.here w.hx rfl (hb w.by_ hd) rfl r
theorem Wk.lshl (w : Wk G M R X vm T h k n) {pc q : Nat} {Ls : Array Slot} {st : List Value} {x : Int64} {y : Int32} (hd : decode M.code pc = .ok (.lshl, 1)) (hq : pc + 1 = q) (go : Go G R X Q (T.setTop (mkF X.m q Ls (.long (x <<< (y &&& 0x3f).toInt64) :: st)))) : Go G R X Q (T.setTop (mkF X.m pc Ls (.int y :: .long x :: st))) := by
  subst hq
  exact go.of fun t r => XS.lshl w.here w.hx rfl (hb w.by_ hd) rfl r
theorem Wk.lshr (w : Wk G M R X vm T h k n) {pc q : Nat} {Ls : Array Slot} {st : List Value} {x : Int64} {y : Int32} (hd : decode M.code pc = .ok (.lshr, 1)) (hq : pc + 1 = q) (go : Go G R X Q (T.setTop (mkF X.m q Ls (.long (x >>> (y &&& 0x3f).toInt64) :: st)))) : Go G R X Q (T.setTop (mkF X.m pc Ls (.int y :: .long x :: st))) := by
  subst hq
  exact go.of fun t r => XS.lshr w.here w.hx rfl (hb w.by_ hd) rfl r
theorem Wk.lushr (w : Wk G M R X vm T h k n) {pc q : Nat} {Ls : Array Slot} {st : List Value} {x : Int64} {y : Int32} (hd : decode M.code pc = .ok (.lushr, 1)) (hq : pc + 1 = q) (go : Go G R X Q (T.setTop (mkF X.m q Ls (.long ((x.toUInt64 >>> (y &&& 0x3f).toInt64.toUInt64).toInt64) :: st)))) : Go G R X Q (T.setTop (mkF X.m pc Ls (.int y :: .long x :: st))) := by
  subst hq
  exact go.of fun t r => XS.lushr w.here w.hx rfl (hb w.by_ hd) rfl r
theorem Wk.lcmp (w : Wk G M R X vm T h k n) {pc q : Nat} {Ls : Array Slot} {st : List Value} {x y : Int64} (hd : decode M.code pc = .ok (.lcmp, 1)) (hq : pc + 1 = q) (go : Go G R X Q (T.setTop (mkF X.m q Ls (.int (lcmpW x y) :: st)))) : Go G R X Q (T.setTop (mkF X.m pc Ls (.long y :: .long x :: st))) := by
  subst hq
  exact go.of fun t r => XS.lcmp w.here w.hx rfl (hb w.by_ hd) rfl r
theorem Wk.idiv (w : Wk G M R X vm T h k n) {pc q : Nat} {Ls : Array Slot} {st : List Value} {x y : Int32} (hd : decode M.code pc = .ok (.idiv, 1)) (hy : y ≠ 0) (hq : pc + 1 = q) (go : Go G R X Q (T.setTop (mkF X.m q Ls (.int (x / y) :: st)))) : Go G R X Q (T.setTop (mkF X.m pc Ls (.int y :: .int x :: st))) := by
  subst hq
  exact go.of fun t r => XS.idiv w.here w.hx rfl (hb w.by_ hd) rfl hy r
theorem Wk.irem (w : Wk G M R X vm T h k n) {pc q : Nat} {Ls : Array Slot} {st : List Value} {x y : Int32} (hd : decode M.code pc = .ok (.irem, 1)) (hy : y ≠ 0) (hq : pc + 1 = q) (go : Go G R X Q (T.setTop (mkF X.m q Ls (.int (x % y) :: st)))) : Go G R X Q (T.setTop (mkF X.m pc Ls (.int y :: .int x :: st))) := by
  subst hq
  refine go.of fun t r => XS.irem w.here w.hx rfl (hb w.by_ hd) rfl hy ?_
  rw [irem_eq_mod]; exact r
theorem Wk.ineg (w : Wk G M R X vm T h k n) {pc q : Nat} {Ls : Array Slot} {st : List Value} {x : Int32} (hd : decode M.code pc = .ok (.ineg, 1)) (hq : pc + 1 = q) (go : Go G R X Q (T.setTop (mkF X.m q Ls (.int (-x) :: st)))) : Go G R X Q (T.setTop (mkF X.m pc Ls (.int x :: st))) := by
  subst hq
  exact go.of fun t r => XS.ineg w.here w.hx rfl (hb w.by_ hd) rfl r
theorem Wk.lneg (w : Wk G M R X vm T h k n) {pc q : Nat} {Ls : Array Slot} {st : List Value} {x : Int64} (hd : decode M.code pc = .ok (.lneg, 1)) (hq : pc + 1 = q) (go : Go G R X Q (T.setTop (mkF X.m q Ls (.long (-x) :: st)))) : Go G R X Q (T.setTop (mkF X.m pc Ls (.long x :: st))) := by
  subst hq
  exact go.of fun t r => XS.lneg w.here w.hx rfl (hb w.by_ hd) rfl r
theorem Wk.i2l (w : Wk G M R X vm T h k n) {pc q : Nat} {Ls : Array Slot} {st : List Value} {x : Int32} (hd : decode M.code pc = .ok (.i2l, 1)) (hq : pc + 1 = q) (go : Go G R X Q (T.setTop (mkF X.m q Ls (.long x.toInt64 :: st)))) : Go G R X Q (T.setTop (mkF X.m pc Ls (.int x :: st))) := by
  subst hq
  exact go.of fun t r => XS.i2l w.here w.hx rfl (hb w.by_ hd) rfl r
theorem Wk.i2b (w : Wk G M R X vm T h k n) {pc q : Nat} {Ls : Array Slot} {st : List Value} {x : Int32} (hd : decode M.code pc = .ok (.i2b, 1)) (hq : pc + 1 = q) (go : Go G R X Q (T.setTop (mkF X.m q Ls (.int x.toInt8.toInt32 :: st)))) : Go G R X Q (T.setTop (mkF X.m pc Ls (.int x :: st))) := by
  subst hq
  exact go.of fun t r => XS.i2b w.here w.hx rfl (hb w.by_ hd) rfl r
theorem Wk.i2c (w : Wk G M R X vm T h k n) {pc q : Nat} {Ls : Array Slot} {st : List Value} {x : Int32} (hd : decode M.code pc = .ok (.i2c, 1)) (hq : pc + 1 = q) (go : Go G R X Q (T.setTop (mkF X.m q Ls (.int x.toUInt32.toUInt16.toUInt32.toInt32 :: st)))) : Go G R X Q (T.setTop (mkF X.m pc Ls (.int x :: st))) := by
  subst hq
  exact go.of fun t r => XS.i2c w.here w.hx rfl (hb w.by_ hd) rfl r
theorem Wk.i2s (w : Wk G M R X vm T h k n) {pc q : Nat} {Ls : Array Slot} {st : List Value} {x : Int32} (hd : decode M.code pc = .ok (.i2s, 1)) (hq : pc + 1 = q) (go : Go G R X Q (T.setTop (mkF X.m q Ls (.int x.toInt16.toInt32 :: st)))) : Go G R X Q (T.setTop (mkF X.m pc Ls (.int x :: st))) := by
  subst hq
  exact go.of fun t r => XS.i2s w.here w.hx rfl (hb w.by_ hd) rfl r
theorem Wk.l2i (w : Wk G M R X vm T h k n) {pc q : Nat} {Ls : Array Slot} {st : List Value} {x : Int64} (hd : decode M.code pc = .ok (.l2i, 1)) (hq : pc + 1 = q) (go : Go G R X Q (T.setTop (mkF X.m q Ls (.int x.toInt32 :: st)))) : Go G R X Q (T.setTop (mkF X.m pc Ls (.long x :: st))) := by
  subst hq
  exact go.of fun t r => XS.l2i w.here w.hx rfl (hb w.by_ hd) rfl r
theorem Wk.dup (w : Wk G M R X vm T h k n) {pc q : Nat} {Ls : Array Slot} {st : List Value} {x : Value} (hd : decode M.code pc = .ok (.dup, 1)) (hc : x.category = 1) (hq : pc + 1 = q) (go : Go G R X Q (T.setTop (mkF X.m q Ls (x :: x :: st)))) : Go G R X Q (T.setTop (mkF X.m pc Ls (x :: st))) := by
  subst hq
  exact go.of fun t r => XS.dup w.here w.hx rfl (hb w.by_ hd) rfl hc r
theorem Wk.pop (w : Wk G M R X vm T h k n) {pc q : Nat} {Ls : Array Slot} {st : List Value} {x : Value} (hd : decode M.code pc = .ok (.pop, 1)) (hc : x.category = 1) (hq : pc + 1 = q) (go : Go G R X Q (T.setTop (mkF X.m q Ls st))) : Go G R X Q (T.setTop (mkF X.m pc Ls (x :: st))) := by
  subst hq
  exact go.of fun t r => XS.pop w.here w.hx rfl (hb w.by_ hd) rfl hc r
theorem Wk.dupX1 (w : Wk G M R X vm T h k n) {pc q : Nat} {Ls : Array Slot} {st : List Value} {x y : Value} (hd : decode M.code pc = .ok (.dup_x1, 1)) (hc : x.category = 1) (hc2 : y.category = 1) (hq : pc + 1 = q) (go : Go G R X Q (T.setTop (mkF X.m q Ls (x :: y :: x :: st)))) : Go G R X Q (T.setTop (mkF X.m pc Ls (x :: y :: st))) := by
  subst hq
  exact go.of fun t r => XS.dupX1 w.here w.hx rfl (hb w.by_ hd) rfl hc hc2 r
theorem Wk.dup2 (w : Wk G M R X vm T h k n) {pc q : Nat} {Ls : Array Slot} {st : List Value} {x y : Value} (hd : decode M.code pc = .ok (.dup2, 1)) (hc : x.category = 1) (hc2 : y.category = 1) (hq : pc + 1 = q) (go : Go G R X Q (T.setTop (mkF X.m q Ls (x :: y :: x :: y :: st)))) : Go G R X Q (T.setTop (mkF X.m pc Ls (x :: y :: st))) := by
  subst hq
  exact go.of fun t r => XT.dup2 w.here w.hx rfl (hb w.by_ hd) rfl hc hc2 r
theorem Wk.dup2L (w : Wk G M R X vm T h k n) {pc q : Nat} {Ls : Array Slot} {st : List Value} {x : Int64} (hd : decode M.code pc = .ok (.dup2, 1)) (hq : pc + 1 = q) (go : Go G R X Q (T.setTop (mkF X.m q Ls (.long x :: .long x :: st)))) : Go G R X Q (T.setTop (mkF X.m pc Ls (.long x :: st))) := by
  subst hq
  exact go.of fun t r => XT.dup2L w.here w.hx rfl (hb w.by_ hd) rfl r
theorem Wk.iinc (w : Wk G M R X vm T h k n) {pc q : Nat} {Ls L2 : Array Slot} {st : List Value} {j : Nat} {cst : Int} {x : Int32} (v : Int32) (hd : decode M.code pc = .ok (.iinc j cst, 3)) (hv : Int32.ofInt cst = v) (hl : Ls[j]? = some (.val (.int x))) (hl2 : storeLocals Ls j (.int (x + v)) = some L2) (hq : pc + 3 = q) (go : Go G R X Q (T.setTop (mkF X.m q L2 st))) : Go G R X Q (T.setTop (mkF X.m pc Ls st)) := by
  subst hq hv
  exact go.of fun t r => XS.iinc w.here w.hx rfl (hb w.by_ hd) hl hl2 r
theorem Wk.goto (w : Wk G M R X vm T h k n) {pc q : Nat} {Ls : Array Slot} {st : List Value} {o : Int} (hd : decode M.code pc = .ok (.goto o, 3)) (ho : 0 ≤ (pc : Int) + o) (hq : ((pc : Int) + o).toNat = q) (go : Go G R X Q (T.setTop (mkF X.m q Ls st))) : Go G R X Q (T.setTop (mkF X.m pc Ls st)) := by
  exact go.of fun t r => XS.goto w.here w.hx rfl (pc0 := pc) rfl (hb w.by_ hd) ho hq r
theorem Wk.ifY (w : Wk G M R X vm T h k n) {pc q : Nat} {Ls : Array Slot} {st : List Value} {cd : ClassFile.Cond} {x : Int32} {o : Int} (hd : decode M.code pc = .ok (.ifCond cd o, 3)) (hc : ifCond.holds cd x = true) (ho : 0 ≤ (pc : Int) + o) (hq : ((pc : Int) + o).toNat = q) (go : Go G R X Q (T.setTop (mkF X.m q Ls st))) : Go G R X Q (T.setTop (mkF X.m pc Ls (.int x :: st))) := by
  exact go.of fun t r => XS.ifYes w.here w.hx rfl (pc0 := pc) rfl (hb w.by_ hd) rfl hc ho hq r
theorem Wk.ifN (w : Wk G M R X vm T h k n) {pc q : Nat} {Ls : Array Slot} {st : List Value} {cd : ClassFile.Cond} {x : Int32} {o : Int} (hd : decode M.code pc = .ok (.ifCond cd o, 3)) (hc : ifCond.holds cd x = false) (hq : pc + 3 = q) (go : Go G R X Q (T.setTop (mkF X.m q Ls st))) : Go G R X Q (T.setTop (mkF X.m pc Ls (.int x :: st))) := by
  subst hq
  exact go.of fun t r => XS.ifNo w.here w.hx rfl (hb w.by_ hd) rfl hc r
theorem Wk.icY (w : Wk G M R X vm T h k n) {pc q : Nat} {Ls : Array Slot} {st : List Value} {cd : ClassFile.Cond} {x y : Int32} {o : Int} (hd : decode M.code pc = .ok (.if_icmp cd o, 3)) (hc : if_icmp.holds cd x y = true) (ho : 0 ≤ (pc : Int) + o) (hq : ((pc : Int) + o).toNat = q) (go : Go G R X Q (T.setTop (mkF X.m q Ls st))) : Go G R X Q (T.setTop (mkF X.m pc Ls (.int y :: .int x :: st))) := by
  exact go.of fun t r => XS.icmpYes w.here w.hx rfl (pc0 := pc) rfl (hb w.by_ hd) rfl hc ho hq r
theorem Wk.icN (w : Wk G M R X vm T h k n) {pc q : Nat} {Ls : Array Slot} {st : List Value} {cd : ClassFile.Cond} {x y : Int32} {o : Int} (hd : decode M.code pc = .ok (.if_icmp cd o, 3)) (hc : if_icmp.holds cd x y = false) (hq : pc + 3 = q) (go : Go G R X Q (T.setTop (mkF X.m q Ls st))) : Go G R X Q (T.setTop (mkF X.m pc Ls (.int y :: .int x :: st))) := by
  subst hq
  exact go.of fun t r => XS.icmpNo w.here w.hx rfl (hb w.by_ hd) rfl hc r
theorem Wk.nuY (w : Wk G M R X vm T h k n) {pc q : Nat} {Ls : Array Slot} {st : List Value} {o : Int} (hd : decode M.code pc = .ok (.ifnull o, 3)) (ho : 0 ≤ (pc : Int) + o) (hq : ((pc : Int) + o).toNat = q) (go : Go G R X Q (T.setTop (mkF X.m q Ls st))) : Go G R X Q (T.setTop (mkF X.m pc Ls (.null :: st))) := by
  exact go.of fun t r => XS.ifnullYes w.here w.hx rfl (pc0 := pc) rfl (hb w.by_ hd) rfl ho hq r
theorem Wk.nuN (w : Wk G M R X vm T h k n) {pc q : Nat} {Ls : Array Slot} {st : List Value} {b : Addr} {o : Int} (hd : decode M.code pc = .ok (.ifnull o, 3)) (hq : pc + 3 = q) (go : Go G R X Q (T.setTop (mkF X.m q Ls st))) : Go G R X Q (T.setTop (mkF X.m pc Ls (.ref b :: st))) := by
  subst hq
  exact go.of fun t r => XS.ifnullNo w.here w.hx rfl (hb w.by_ hd) rfl r
theorem Wk.nnY (w : Wk G M R X vm T h k n) {pc q : Nat} {Ls : Array Slot} {st : List Value} {b : Addr} {o : Int} (hd : decode M.code pc = .ok (.ifnonnull o, 3)) (ho : 0 ≤ (pc : Int) + o) (hq : ((pc : Int) + o).toNat = q) (go : Go G R X Q (T.setTop (mkF X.m q Ls st))) : Go G R X Q (T.setTop (mkF X.m pc Ls (.ref b :: st))) := by
  exact go.of fun t r => XS.ifnonnullYes w.here w.hx rfl (pc0 := pc) rfl (hb w.by_ hd) rfl ho hq r
theorem Wk.nnN (w : Wk G M R X vm T h k n) {pc q : Nat} {Ls : Array Slot} {st : List Value} {o : Int} (hd : decode M.code pc = .ok (.ifnonnull o, 3)) (hq : pc + 3 = q) (go : Go G R X Q (T.setTop (mkF X.m q Ls st))) : Go G R X Q (T.setTop (mkF X.m pc Ls (.null :: st))) := by
  subst hq
  exact go.of fun t r => XS.ifnonnullNo w.here w.hx rfl (hb w.by_ hd) rfl r
theorem Wk.acY (w : Wk G M R X vm T h k n) {pc q : Nat} {Ls : Array Slot} {st : List Value} {cd : ClassFile.ACond} {x y : Value} {o : Int} (hd : decode M.code pc = .ok (.if_acmp cd o, 3)) (hx : x.isRef = true) (hy : y.isRef = true) (hc : Jvm.Free.XT.acmp cd x y = true) (ho : 0 ≤ (pc : Int) + o) (hq : ((pc : Int) + o).toNat = q) (go : Go G R X Q (T.setTop (mkF X.m q Ls st))) : Go G R X Q (T.setTop (mkF X.m pc Ls (y :: x :: st))) := by
  exact go.of fun t r => XT.acmpYes w.here w.hx rfl (pc0 := pc) rfl (hb w.by_ hd) rfl hx hy hc ho hq r
theorem Wk.acN (w : Wk G M R X vm T h k n) {pc q : Nat} {Ls : Array Slot} {st : List Value} {cd : ClassFile.ACond} {x y : Value} {o : Int} (hd : decode M.code pc = .ok (.if_acmp cd o, 3)) (hx : x.isRef = true) (hy : y.isRef = true) (hc : Jvm.Free.XT.acmp cd x y = false) (hq : pc + 3 = q) (go : Go G R X Q (T.setTop (mkF X.m q Ls st))) : Go G R X Q (T.setTop (mkF X.m pc Ls (y :: x :: st))) := by
  subst hq
  exact go.of fun t r => XT.acmpNo w.here w.hx rfl (hb w.by_ hd) rfl hx hy hc r
theorem xrfl (h : Heap) : Ext h h := ⟨Nat.le_refl _, fun _ _ q => q⟩
theorem xtr {h h' h2 : Heap} (A : Ext h h') (B : Ext h' h2) : Ext h h2 := ⟨Nat.le_trans A.1 B.1, fun a c q => B.2 a c (A.2 a c q)⟩
theorem xkp {h0 h h' : Heap} {ws : List Addr} (E : Ext h0 h) (K : Keep h h' ws) (q : ∀ x ∈ ws, h0.size ≤ x) : Ext h0 h' := ⟨Nat.le_trans E.1 K.1, fun a c r => K.2.1 a c (E.2 a c r) fun z => absurd (Array.getElem?_eq_some_iff.mp r).1 (Nat.not_lt.mpr (q a z))⟩
theorem xkeep {h h' : Heap} (E : Ext h h') : Keep h h' [] := (Keep.refl h []).ext E
theorem sta_uniq {Z : State} {h : Heap} {C n d : String} {a b : Addr} (F : Sta Z h C n d (.ref a)) (E : Sta Z h C n d (.ref b)) : a = b := by
  obtain ⟨cf, i, k, f, st, cell, h1, h2, h3, h4, h5, h6, h7⟩ := F
  obtain ⟨cf', i', k', f', st', cell', g1, g2, g3, g4, g5, g6, g7⟩ := E
  cases h1.symm.trans g1
  cases h4.symm.trans g4
  cases h5.symm.trans g5
  cases h7.symm.trans g7
  rfl
theorem nin1 {x y : Nat} (q : x ≠ y) : x ∉ ([y] : List Addr) := fun z => q (List.mem_singleton.mp z)
theorem all1 {P : Addr → Prop} {a : Addr} (q : P a) : ∀ x ∈ [a], P x := fun x hx => by cases List.mem_singleton.mp hx; exact q
theorem Wk.sfE (w : Wk G M R X vm T h k n) {a : Addr} {C : String} (E : Exa G.Z h a C) (h1 : C ≠ "java/lang/String") (h2 : C ≠ "[B") : G.wd = true → Safe G.Z G.EL vm h a := fun _ => Safe.exa w.wz.alike E h1 h2
theorem Wk.sfA (w : Wk G M R X vm T h k n) {a : Addr} {kc : ClassId} {ty : FieldType} {N : Int32} {vs : List Value} {dv : Value} (A : Arv G.Z h a kc ty N vs dv) (ht : ty ≠ .byte) : G.wd = true → Safe G.Z G.EL vm h a := fun _ => Safe.arv w.wz.alike A ht
theorem Wk.sfN (w : Wk G M R X vm T h k n) {a : Addr} (q : h.size ≤ a) : G.wd = true → Safe G.Z G.EL vm h a := fun _ => Safe.new q
theorem blank_safe {Z : State} {EL : List (String × Nat)} {vm : Vm} {h : Heap} {x : Addr} (hal : Z.vm.Alike vm) (E : Exa Z h x "java/lang/String") (V : Fld Z h x "java/lang/String" "value" "[B" .null) : Safe Z EL vm h x := fun B => by
  obtain ⟨cell, kx, e1, e2, e3, e4, e5⟩ := E
  obtain ⟨cellV, cf, kf, i, f, v1, v2, v3, v4, v5, v6, v7⟩ := V
  cases e1.symm.trans v1
  obtain ⟨p, -, u, a, -, q, -, F, hy⟩ := B
  obtain ⟨cS, ⟨⟨s1, s2, s3, ⟨cv, kv, iv, s4, s4'⟩, -, s6, s7, s8, s9, s10, s11, -⟩, hfS, hcS⟩, -, hB, -⟩ := F
  rcases hy with rfl | rfl
  · cases e1.symm.trans (show h[q.sa]? = some q.sC from s1)
    obtain ⟨kz, z4⟩ := ff_back (U := Wst Z vm h) hal s4
    have := v2.symm.trans z4
    simp only [Option.some.injEq, Prod.mk.injEq] at this
    rw [this.2.2.2] at v7
    rw [s8] at v7
    cases v7
  · cases e1.symm.trans (show h[q.sd]? = some q.SA from s10)
    obtain ⟨-, k9, hk9, comp, hkind⟩ := s11
    have hB' : vm.findClass "[B" = some q.SA.cls := hB
    rw [hal.findClass] at hB'
    obtain ⟨k1, a1, a2⟩ := Vm.findClass_spec hB'
    obtain ⟨k2, b1, b2⟩ := Vm.findClass_spec e2
    cases a1.symm.trans b1
    rw [a2] at b2
    exact absurd b2 (by decide)
theorem Wk.sfB (w : Wk G M R X vm T h k n) {a : Addr} (E : Exa G.Z h a "java/lang/String") (V : Fld G.Z h a "java/lang/String" "value" "[B" .null) : G.wd = true → Safe G.Z G.EL vm h a := fun _ => blank_safe w.wz.alike E V
theorem Wk.newO (w : Wk G M R X vm T h k n) {pc q : Nat} {Ls : Array Slot} {st : List Value} {C : String} {index sz : Nat} (hd : decode M.code pc = .ok (.new index, 3)) (w1 : (Jvm.Cond.classLink M.own index C).before G.a0 G.Z = true) (w2 : (Jvm.Cond.instantiable C sz).before G.a0 G.Z = true) (w3 : (Jvm.Cond.initialized C).before G.a0 G.Z = true) (hc : k + 1 ≤ R.cells) (hl : n + sz ≤ R.slots) (hq : pc + 3 = q)
    (go : ∀ (T' : State) (h' : Heap) (b : Nat), b = h.size → Wk G M R X vm T' h' (k + 1) (n + sz) → Ext h h' → Exa G.Z h' b C → (∀ {O nm d : String} {ty : FieldType}, Laid G.Z G.a0 C O nm d → parseFieldDescriptor d = some ty → Fld G.Z h' b O nm d (defaultValue ty)) → Unt h' b → Go G R X Q (T'.setTop (mkF X.m q Ls (.ref b :: st)))) : Go G R X Q (T.setTop (mkF X.m pc Ls st)) := by
  subst hq
  obtain ⟨fx, k0, L, S, eh, hS, hk, hZ, hown, hF, ho, hch, hnw⟩ := w
  obtain ⟨T', h', X', e', E, A, D, U, st'⟩ := Jvm.RoadKit.newO S fx.1 hZ hown w1 w2 w3 eh (g := mkF X.m pc Ls st) rfl (hb fx.2.1 hd) hc hl
  exact (go T' h' h.size rfl ⟨fx, k0, L, X', e', hS, Nat.le_trans hk E.1, hZ, hown, hF, ho.ext E, fun b => (hch b).trans (CHr.ext E (hch b).1), hnw⟩ E A D U).of st'
theorem Wk.newP (w : Wk G M R X vm T h k n) {pc q : Nat} {Ls : Array Slot} {st : List Value} {aty : ArrayType} {N : Int32} (cap : Nat) (hd : decode M.code pc = .ok (.newarray aty, 2)) (w1 : (Jvm.Cond.arrayClass (newarray.typeOf aty)).before G.a0 G.Z = true) (hN : ¬ N < 0) (hcap : N.toNatClampNeg ≤ cap) (hb8 : cap * 8 ≤ 536870912) (hc : k + 1 ≤ R.cells) (hl : n + cap ≤ R.slots) (hq : pc + 2 = q)
    (go : ∀ (T' : State) (h' : Heap) (b : Nat) (kc : ClassId), b = h.size → Wk G M R X vm T' h' (k + 1) (n + cap) → Ext h h' → Arv G.Z h' b kc (newarray.typeOf aty) N [] (defaultValue (newarray.typeOf aty)) → Go G R X Q (T'.setTop (mkF X.m q Ls (.ref b :: st)))) : Go G R X Q (T.setTop (mkF X.m pc Ls (.int N :: st))) := by
  subst hq
  obtain ⟨fx, k0, L, S, eh, hS, hk, hZ, hown, hF, ho, hch, hnw⟩ := w
  obtain ⟨T', h', kc, X', e', E, A, st'⟩ := Jvm.RoadKit.newP S fx.1 hZ w1 eh (g := mkF X.m pc Ls (.int N :: st)) rfl (hb fx.2.1 hd) rfl hN (cap := cap) hcap hb8 hc hl
  exact (go T' h' h.size kc rfl ⟨fx, k0, L, X', e', hS, Nat.le_trans hk E.1, hZ, hown, hF, ho.ext E, fun b => (hch b).trans (CHr.ext E (hch b).1), hnw⟩ E (Arv.new A hN)).of st'
theorem Wk.newR (w : Wk G M R X vm T h k n) {pc q : Nat} {Ls : Array Slot} {st : List Value} {C : String} {index : Nat} {N : Int32} (cap : Nat) (hd : decode M.code pc = .ok (.anewarray index, 3)) (w1 : (Jvm.Cond.classLink M.own index C).before G.a0 G.Z = true) (w2 : (Jvm.Cond.arrayOver (.object C)).before G.a0 G.Z = true) (hN : ¬ N < 0) (hcap : N.toNatClampNeg ≤ cap) (hb8 : cap * 8 ≤ 536870912) (hc : k + 1 ≤ R.cells) (hl : n + cap ≤ R.slots) (hq : pc + 3 = q)
    (go : ∀ (T' : State) (h' : Heap) (b : Nat) (kc : ClassId), b = h.size → Wk G M R X vm T' h' (k + 1) (n + cap) → Ext h h' → Arv G.Z h' b kc (.object C) N [] .null → Ovr G.Z kc C → Go G R X Q (T'.setTop (mkF X.m q Ls (.ref b :: st)))) : Go G R X Q (T.setTop (mkF X.m pc Ls (.int N :: st))) := by
  subst hq
  obtain ⟨fx, k0, L, S, eh, hS, hk, hZ, hown, hF, ho, hch, hnw⟩ := w
  obtain ⟨T', h', kc, X', e', E, A, O, st'⟩ := Jvm.RoadKit.newR S fx.1 hZ hown w1 w2 eh (g := mkF X.m pc Ls (.int N :: st)) rfl (hb fx.2.1 hd) rfl hN (cap := cap) hcap hb8 hc hl
  exact (go T' h' h.size kc rfl ⟨fx, k0, L, X', e', hS, Nat.le_trans hk E.1, hZ, hown, hF, ho.ext E, fun b => (hch b).trans (CHr.ext E (hch b).1), hnw⟩ E (Arv.new A hN) O).of st'
theorem Wk.castore (w : Wk G M R X vm T h k n) {pc q : Nat} {Ls : Array Slot} {st : List Value} {b : Addr} {kc : ClassId} {N j x : Int32} {vs : List Value} {dv : Value} (i : Nat) (hd : decode M.code pc = .ok (.castore, 1)) (A : Arv G.Z h b kc .char N vs dv) (h0 : G.n0 ≤ b) (hj : ¬ j < 0 ∧ j < N) (hi : j.toNatClampNeg = i) (hlen : i < vs.length) (hq : pc + 1 = q)
    (go : ∀ (T' : State) (h' : Heap), Wk G M R X vm T' h' k n → Keep h h' [b] → Arv G.Z h' b kc .char N (vs.set i (.int (nar .char x))) dv → Go G R X Q (T'.setTop (mkF X.m q Ls st))) : Go G R X Q (T.setTop (mkF X.m pc Ls (.int x :: .int j :: .ref b :: st))) := by
  subst hq
  have sf := w.sfA A (by decide)
  obtain ⟨fx, k0, L, S, eh, hS, hk, hZ, hown, hF, ho, hch, hnw⟩ := w
  obtain ⟨cl, Ar, r1, r2, r3, H, Gf⟩ := A
  obtain ⟨T', h', X', e', W, st'⟩ := Jvm.RoadKit.stC S fx.1 hZ eh Ar (j := j) (x := x) (inb_of r2 hj) (g := mkF X.m pc Ls (.int x :: .int j :: .ref b :: st)) rfl rfl (hb fx.2.1 hd)
  have K := Keep.of_wr W
  exact (go T' h' ⟨fx, k0, _, X', e', hS, Nat.le_trans hk K.1, hZ, hown, Fr.snoc X' hF h0, ho.wr W h0, fun b' => (hch b').trans (CHr.wr W (sf b') (hch b').1), hnw⟩ K (Arv.set Ar r1 r2 r3 H Gf (fits_nar_char _) W i hi hlen)).of st'
theorem Wk.iastore (w : Wk G M R X vm T h k n) {pc q : Nat} {Ls : Array Slot} {st : List Value} {b : Addr} {kc : ClassId} {N j x : Int32} {vs : List Value} {dv : Value} (i : Nat) (hd : decode M.code pc = .ok (.iastore, 1)) (A : Arv G.Z h b kc .int N vs dv) (h0 : G.n0 ≤ b) (hj : ¬ j < 0 ∧ j < N) (hi : j.toNatClampNeg = i) (hlen : i < vs.length) (hq : pc + 1 = q)
    (go : ∀ (T' : State) (h' : Heap), Wk G M R X vm T' h' k n → Keep h h' [b] → Arv G.Z h' b kc .int N (vs.set i (.int x)) dv → Go G R X Q (T'.setTop (mkF X.m q Ls st))) : Go G R X Q (T.setTop (mkF X.m pc Ls (.int x :: .int j :: .ref b :: st))) := by
  subst hq
  have sf := w.sfA A (by decide)
  obtain ⟨fx, k0, L, S, eh, hS, hk, hZ, hown, hF, ho, hch, hnw⟩ := w
  obtain ⟨cl, Ar, r1, r2, r3, H, Gf⟩ := A
  obtain ⟨T', h', X', e', W, st'⟩ := Jvm.RoadKit.stI S fx.1 hZ eh Ar (j := j) (x := x) (inb_of r2 hj) (g := mkF X.m pc Ls (.int x :: .int j :: .ref b :: st)) rfl rfl (hb fx.2.1 hd)
  have K := Keep.of_wr W
  exact (go T' h' ⟨fx, k0, _, X', e', hS, Nat.le_trans hk K.1, hZ, hown, Fr.snoc X' hF h0, ho.wr W h0, fun b' => (hch b').trans (CHr.wr W (sf b') (hch b').1), hnw⟩ K (Arv.set Ar r1 r2 r3 H Gf rfl W i hi hlen)).of st'
theorem Wk.bastore (w : Wk G M R X vm T h k n) {pc q : Nat} {Ls : Array Slot} {st : List Value} {b : Addr} {kc : ClassId} {N j x : Int32} {vs : List Value} {dv : Value} (i : Nat) (hd : decode M.code pc = .ok (.bastore, 1)) (A : Arv G.Z h b kc .byte N vs dv) (h0 : G.n0 ≤ b) (sf : G.wd = true → Safe G.Z G.EL vm h b) (hj : ¬ j < 0 ∧ j < N) (hi : j.toNatClampNeg = i) (hlen : i < vs.length) (hq : pc + 1 = q)
    (go : ∀ (T' : State) (h' : Heap), Wk G M R X vm T' h' k n → Keep h h' [b] → (G.wd = true → Safe G.Z G.EL vm h' b) → Arv G.Z h' b kc .byte N (vs.set i (.int x.toInt8.toInt32)) dv → Go G R X Q (T'.setTop (mkF X.m q Ls st))) : Go G R X Q (T.setTop (mkF X.m pc Ls (.int x :: .int j :: .ref b :: st))) := by
  subst hq
  obtain ⟨fx, k0, L, S, eh, hS, hk, hZ, hown, hF, ho, hch, hnw⟩ := w
  obtain ⟨cl, Ar, r1, r2, r3, H, Gf⟩ := A
  obtain ⟨T', h', X', e', W, st'⟩ := Jvm.RoadKit.stB S fx.1 hZ eh Ar (j := j) (x := x) (inb_of r2 hj) (g := mkF X.m pc Ls (.int x :: .int j :: .ref b :: st)) rfl rfl (hb fx.2.1 hd)
  have K := Keep.of_wr W
  exact (go T' h' ⟨fx, k0, _, X', e', hS, Nat.le_trans hk K.1, hZ, hown, Fr.snoc X' hF h0, ho.wr W h0, fun b' => (hch b').trans (CHr.wr W (sf b') (hch b').1), hnw⟩ K (fun b' => (CHr.wr W (sf b') (hch b').1).safe Ar.lt (sf b')) (Arv.set Ar r1 r2 r3 H Gf (fits_nar_byte _) W i hi hlen)).of st'
theorem Wk.aastore (w : Wk G M R X vm T h k n) {pc q : Nat} {Ls : Array Slot} {st : List Value} {b : Addr} {kc : ClassId} {ty : FieldType} {N j : Int32} {v : Value} {vs : List Value} {dv : Value} (i : Nat) (hd : decode M.code pc = .ok (.aastore, 1)) (A : Arv G.Z h b kc ty N vs dv) (hty : ty.isReference = true) (F : Sto G.Z h b v) (hv : v.isRef = true) (h0 : G.n0 ≤ b) (hj : ¬ j < 0 ∧ j < N) (hi : j.toNatClampNeg = i) (hlen : i < vs.length) (hq : pc + 1 = q)
    (go : ∀ (T' : State) (h' : Heap), Wk G M R X vm T' h' k n → Keep h h' [b] → Arv G.Z h' b kc ty N (vs.set i v) dv → Go G R X Q (T'.setTop (mkF X.m q Ls st))) : Go G R X Q (T.setTop (mkF X.m pc Ls (v :: .int j :: .ref b :: st))) := by
  subst hq
  have hnb : ty ≠ .byte := fun e => by rw [e] at hty; cases hty
  have sf := w.sfA A hnb
  have hfit : fits ty v = true := by cases ty <;> first | (cases hty; done) | (rcases ref_cases hv with rfl | ⟨_, rfl⟩ <;> rfl)
  obtain ⟨fx, k0, L, S, eh, hS, hk, hZ, hown, hF, ho, hch, hnw⟩ := w
  obtain ⟨cl, Ar, r1, r2, r3, H, Gf⟩ := A
  obtain ⟨T', h', X', e', W, st'⟩ := Jvm.RoadKit.stR S fx.1 hZ eh Ar (j := j) (v := v) (inb_of r2 hj) hty F (g := mkF X.m pc Ls (v :: .int j :: .ref b :: st)) rfl rfl (hb fx.2.1 hd)
  have K := Keep.of_wr W
  exact (go T' h' ⟨fx, k0, _, X', e', hS, Nat.le_trans hk K.1, hZ, hown, Fr.snoc X' hF h0, ho.wr W h0, fun b' => (hch b').trans (CHr.wr W (sf b') (hch b').1), hnw⟩ K (Arv.set Ar r1 r2 r3 H Gf hfit W i hi hlen)).of st'
theorem Wk.getF (w : Wk G M R X vm T h k n) {pc q : Nat} {Ls : Array Slot} {st : List Value} {R0 O f d : String} {index : Nat} {a : Addr} {v : Value} (hd : decode M.code pc = .ok (.getfield index, 3)) (w1 : (Jvm.Cond.fieldLink M.own index R0 f d).before G.a0 G.Z = true) (via : Via G.Z R0 O f d) (F : Fld G.Z h a O f d v) (hq : pc + 3 = q)
    (go : ∀ T' : State, Wk G M R X vm T' h k n → Go G R X Q (T'.setTop (mkF X.m q Ls (v :: st)))) : Go G R X Q (T.setTop (mkF X.m pc Ls (.ref a :: st))) := by
  subst hq
  obtain ⟨fx, k0, L, S, eh, hS, hk, hZ, hown, r⟩ := w
  obtain ⟨T', X', e', st'⟩ := Jvm.RoadKit.getF (host := "") S fx.1 hZ hown (Or.inl w1) via eh F (g := mkF X.m pc Ls (.ref a :: st)) rfl rfl (hb fx.2.1 hd)
  exact (go T' ⟨fx, k0, L, X', e', hS, hk, hZ, hown, r⟩).of st'
theorem Wk.getS (w : Wk G M R X vm T h k n) {pc q : Nat} {Ls : Array Slot} {st : List Value} {R0 O f d : String} {index : Nat} {v : Value} (hd : decode M.code pc = .ok (.getstatic index, 3)) (w1 : (Jvm.Cond.fieldLink M.own index R0 f d).before G.a0 G.Z = true) (via : Via G.Z R0 O f d) (F : Sta G.Z G.Z.heap O f d v) (hq : pc + 3 = q)
    (go : ∀ T' : State, Wk G M R X vm T' h k n → Go G R X Q (T'.setTop (mkF X.m q Ls (v :: st)))) : Go G R X Q (T.setTop (mkF X.m pc Ls st)) := by
  subst hq
  have F' := w.sta F
  obtain ⟨fx, k0, L, S, eh, hS, hk, hZ, hown, r⟩ := w
  obtain ⟨T', X', e', st'⟩ := Jvm.RoadKit.getS (host := "") S fx.1 hZ hown w1 via eh F' (g := mkF X.m pc Ls st) rfl (hb fx.2.1 hd)
  exact (go T' ⟨fx, k0, L, X', e', hS, hk, hZ, hown, r⟩).of st'
theorem Wk.putF (w : Wk G M R X vm T h k n) {pc q : Nat} {Ls : Array Slot} {st : List Value} {R0 O f d C : String} {index kk : Nat} {ty : FieldType} {a : Addr} {v old : Value} (hd : decode M.code pc = .ok (.putfield index, 3)) (w1 : (Jvm.Cond.fieldLink M.own index R0 f d).before G.a0 G.Z = true) (via : Via G.Z R0 O f d) (F : Fld G.Z h a O f d old) (E : Exa G.Z h a C) (hlay : (Jvm.Cond.lays C O f d).before G.a0 G.Z = true ∨ ((Jvm.Cond.laysFinal C O f d).before G.a0 G.Z = true ∧ M.own = O ∧ M.nm = "<init>")) (wi : (Jvm.Cond.instantiable C kk).before G.a0 G.Z = true)
    (hty : parseFieldDescriptor d = some ty) (hn : narrow ty v = v) (hf : fits ty v = true) (h0 : G.n0 ≤ a) (sf : G.wd = true → Safe G.Z G.EL vm h a) (hq : pc + 3 = q)
    (go : ∀ (T' : State) (h' : Heap), Wk G M R X vm T' h' k n → Wr h h' a (Jvm.RoadKit.slotOf G.Z O f d) v → (G.wd = true → Safe G.Z G.EL vm h' a) → Go G R X Q (T'.setTop (mkF X.m q Ls st))) : Go G R X Q (T.setTop (mkF X.m pc Ls (v :: .ref a :: st))) := by
  subst hq
  have hnm := w.hnm
  obtain ⟨fx, k0, L, S, eh, hS, hk, hZ, hown, hF, ho, hch, hnw⟩ := w
  obtain ⟨T', h', X', e', W, st'⟩ := Jvm.RoadKit.putF (host := "") S fx.1 hZ hown (Or.inl w1) via eh F E (hlay.imp id fun z => ⟨z.1, z.2.1, hnm.trans z.2.2⟩) wi hty hn hf (g := mkF X.m pc Ls (v :: .ref a :: st)) rfl rfl (hb fx.2.1 hd)
  have K := Keep.of_wr W
  exact (go T' h' ⟨fx, k0, _, X', e', hS, Nat.le_trans hk K.1, hZ, hown, Fr.snoc X' hF h0, ho.wr W h0, fun b' => (hch b').trans (CHr.wr W (sf b') (hch b').1), hnw⟩ W (fun b' => (CHr.wr W (sf b') (hch b').1).safe F.lt (sf b'))).of st'
theorem Wk.castY (w : Wk G M R X vm T h k n) {pc q : Nat} {Ls : Array Slot} {st : List Value} {K : String} {index : Nat} {a : Addr} (hd : decode M.code pc = .ok (.checkcast index, 3)) (w1 : (Jvm.Cond.classLink M.own index K).before G.a0 G.Z = true) (F : Ins G.Z h a K true) (hq : pc + 3 = q)
    (go : ∀ T' : State, Wk G M R X vm T' h k n → Go G R X Q (T'.setTop (mkF X.m q Ls (.ref a :: st)))) : Go G R X Q (T.setTop (mkF X.m pc Ls (.ref a :: st))) := by
  subst hq
  obtain ⟨fx, k0, L, S, eh, hS, hk, hZ, hown, r⟩ := w
  obtain ⟨T', X', e', st'⟩ := Jvm.RoadKit.castY S fx.1 hZ hown w1 eh F (g := mkF X.m pc Ls (.ref a :: st)) rfl rfl (hb fx.2.1 hd)
  exact (go T' ⟨fx, k0, L, X', e', hS, hk, hZ, hown, r⟩).of st'
theorem Wk.instY (w : Wk G M R X vm T h k n) {pc q : Nat} {Ls : Array Slot} {st : List Value} {K : String} {index : Nat} {a : Addr} (hd : decode M.code pc = .ok (.instanceof index, 3)) (w1 : (Jvm.Cond.classLink M.own index K).before G.a0 G.Z = true) (F : Ins G.Z h a K true) (hq : pc + 3 = q)
    (go : ∀ T' : State, Wk G M R X vm T' h k n → Go G R X Q (T'.setTop (mkF X.m q Ls (.int 1 :: st)))) : Go G R X Q (T.setTop (mkF X.m pc Ls (.ref a :: st))) := by
  subst hq
  obtain ⟨fx, k0, L, S, eh, hS, hk, hZ, hown, r⟩ := w
  obtain ⟨T', X', e', st'⟩ := Jvm.RoadKit.instY S fx.1 hZ hown w1 eh F (g := mkF X.m pc Ls (.ref a :: st)) rfl rfl (hb fx.2.1 hd)
  exact (go T' ⟨fx, k0, L, X', e', hS, hk, hZ, hown, r⟩).of st'
theorem Wk.initO (w : Wk G M R X vm T h k n) {pc q : Nat} {Ls : Array Slot} {st : List Value} {index W : Nat} {a : Addr} (hd : decode M.code pc = .ok (.invokespecial index, 3)) (w1 : (Jvm.Cond.methodLink M.own index Lib.objectInit).before G.a0 G.Z = true) (w2 : (Jvm.Cond.instanceMethod Lib.objectInit).before G.a0 G.Z = true) (w3 : (Jvm.Cond.code Lib.objectInit ⟨#[0xb1]⟩ 1 none).before G.a0 G.Z = true) (hsz : Ls.size = M.mx) (hfr : 1 ≤ R.frames) (hW : (st.map fun v => v.category).sum ≤ W) (hlo : W + 12 ≤ R.locals) (hq : pc + 3 = q)
    (go : ∀ T' : State, Wk G M R X vm T' h k n → Go G R X Q (T'.setTop (mkF X.m q Ls st))) : Go G R X Q (T.setTop (mkF X.m pc Ls (.ref a :: st))) := by
  subst hq
  obtain ⟨fx, k0, L, S, eh, hS, hk, hZ, hown, r⟩ := w
  obtain ⟨T', X', e', st'⟩ := Jvm.RoadKit.initO S fx.1 hZ hown w1 w2 w3 eh (g := mkF X.m pc Ls (.ref a :: st)) rfl (hsz.trans fx.2.2.1.symm) rfl (hb fx.2.1 hd) hfr (W := W) (by show 2 * 0 + _ ≤ _; omega) hlo
  exact (go T' ⟨fx, k0, L, X', e', hS, hk, hZ, hown, r⟩).of st'
theorem Wk.ldcI (w : Wk G M R X vm T h k n) {pc q : Nat} {Ls : Array Slot} {st : List Value} {index : Nat} {v : Int32} (hd : decode M.code pc = .ok (.ldc index, 2)) (w1 : (Jvm.Cond.constant M.own index v).before G.a0 G.Z = true) (hq : pc + 2 = q) (go : Go G R X Q (T.setTop (mkF X.m q Ls (.int v :: st)))) : Go G R X Q (T.setTop (mkF X.m pc Ls st)) := by
  subst hq
  obtain ⟨fx, k0, L, S, eh, hS, hk, hZ, hown, r⟩ := w
  exact go.of fun t z => S.ldcI fx.1 hown (mv (s := X.s.setVm vm) hZ w1) (g := mkF X.m pc Ls st) rfl (hb fx.2.1 hd) z
theorem Wk.ldc2J (w : Wk G M R X vm T h k n) {pc q : Nat} {Ls : Array Slot} {st : List Value} {index : Nat} {v : Int64} (hd : decode M.code pc = .ok (.ldc2_w index, 3)) (w1 : (Jvm.Cond.constantLong M.own index v).before G.a0 G.Z = true) (hq : pc + 3 = q) (go : Go G R X Q (T.setTop (mkF X.m q Ls (.long v :: st)))) : Go G R X Q (T.setTop (mkF X.m pc Ls st)) := by
  subst hq
  obtain ⟨fx, k0, L, S, eh, hS, hk, hZ, hown, r⟩ := w
  exact go.of fun t z => S.ldc2J fx.1 hown (mv (s := X.s.setVm vm) hZ w1) (g := mkF X.m pc Ls st) rfl (hb fx.2.1 hd) z
theorem Wk.alen (w : Wk G M R X vm T h k n) {pc q : Nat} {Ls : Array Slot} {st : List Value} {b : Addr} {kc : ClassId} {ty : FieldType} {N : Int32} {vs : List Value} {dv : Value} (hd : decode M.code pc = .ok (.arraylength, 1)) (A : Arv G.Z h b kc ty N vs dv) (hq : pc + 1 = q) (go : Go G R X Q (T.setTop (mkF X.m q Ls (.int N :: st)))) : Go G R X Q (T.setTop (mkF X.m pc Ls (.ref b :: st))) := by
  subst hq
  obtain ⟨fx, k0, L, S, eh, hS, hk, hZ, hown, r⟩ := w
  obtain ⟨cl, Ar, r1, r2, r3, H, Gf⟩ := A
  refine go.of fun t z => S.arraylength fx.1 (by rw [eh]; exact Ar.1) (State.isArrayOf_alike hZ.alike Ar.2.1) (g := mkF X.m pc Ls (.ref b :: st)) rfl rfl (hb fx.2.1 hd) _ ?_
  rw [len_of r2 r3]; exact z
theorem Wk.aaload (w : Wk G M R X vm T h k n) {pc q : Nat} {Ls : Array Slot} {st : List Value} {b : Addr} {kc : ClassId} {ty : FieldType} {N j : Int32} {v : Value} {vs : List Value} {dv : Value} (hd : decode M.code pc = .ok (.aaload, 1)) (A : Arv G.Z h b kc ty N vs dv) (hty : ty.isReference = true) (hj : ¬ j < 0 ∧ j < N) (hv : vs.getD j.toNatClampNeg dv = v) (hq : pc + 1 = q) (go : Go G R X Q (T.setTop (mkF X.m q Ls (v :: st)))) : Go G R X Q (T.setTop (mkF X.m pc Ls (.int j :: .ref b :: st))) := by
  subst hq
  obtain ⟨fx, k0, L, S, eh, hS, hk, hZ, hown, r⟩ := w
  obtain ⟨cl, Ar, r1, r2, r3, H, Gf⟩ := A
  exact go.of fun t z => S.aaload fx.1 (j := j) (v := v) (by rw [eh]; exact Ar.1) (State.isArrayOf_alike hZ.alike Ar.2.1) hty Ar.2.2 (inb_of r2 hj) (H.at (inb_of r2 hj) hv) (g := mkF X.m pc Ls (.int j :: .ref b :: st)) rfl rfl (hb fx.2.1 hd) _ z
theorem Wk.caload (w : Wk G M R X vm T h k n) {pc q : Nat} {Ls : Array Slot} {st : List Value} {b : Addr} {kc : ClassId} {N j x : Int32} {vs : List Value} {dv : Value} (hd : decode M.code pc = .ok (.caload, 1)) (A : Arv G.Z h b kc .char N vs dv) (hj : ¬ j < 0 ∧ j < N) (hv : vs.getD j.toNatClampNeg dv = .int x) (hq : pc + 1 = q) (go : Go G R X Q (T.setTop (mkF X.m q Ls (.int x :: st)))) : Go G R X Q (T.setTop (mkF X.m pc Ls (.int j :: .ref b :: st))) := by
  subst hq
  obtain ⟨fx, k0, L, S, eh, hS, hk, hZ, hown, r⟩ := w
  obtain ⟨cl, Ar, r1, r2, r3, H, Gf⟩ := A
  exact go.of fun t z => S.caload fx.1 (j := j) (v := .int x) (by rw [eh]; exact Ar.1) (State.isArrayOf_alike hZ.alike Ar.2.1) Ar.2.2 (inb_of r2 hj) (H.at (inb_of r2 hj) hv) (g := mkF X.m pc Ls (.int j :: .ref b :: st)) rfl rfl (hb fx.2.1 hd) _ z
theorem Wk.baload (w : Wk G M R X vm T h k n) {pc q : Nat} {Ls : Array Slot} {st : List Value} {b : Addr} {kc : ClassId} {N j x : Int32} {vs : List Value} {dv : Value} (hd : decode M.code pc = .ok (.baload, 1)) (A : Arv G.Z h b kc .byte N vs dv) (hj : ¬ j < 0 ∧ j < N) (hv : vs.getD j.toNatClampNeg dv = .int x) (hq : pc + 1 = q) (go : Go G R X Q (T.setTop (mkF X.m q Ls (.int x :: st)))) : Go G R X Q (T.setTop (mkF X.m pc Ls (.int j :: .ref b :: st))) := by
  subst hq
  obtain ⟨fx, k0, L, S, eh, hS, hk, hZ, hown, r⟩ := w
  obtain ⟨cl, Ar, r1, r2, r3, H, Gf⟩ := A
  exact go.of fun t z => S.baloadBytes fx.1 (j := j) (v := .int x) (by rw [eh]; exact Ar.1) (State.isArrayOf_alike hZ.alike Ar.2.1) Ar.2.2 (inb_of r2 hj) (H.at (inb_of r2 hj) hv) (g := mkF X.m pc Ls (.int j :: .ref b :: st)) rfl rfl (hb fx.2.1 hd) _ z
theorem arv_sto {Z : State} {h : Heap} {b y : Addr} {kc : ClassId} {ty : FieldType} {N : Int32} {vs : List Value} {dv : Value} {C : String} (A : Arv Z h b kc ty N vs dv) (O : Ovr Z kc C) (I : Ins Z h y C true) : Sto Z h b (.ref y) := by
  obtain ⟨c, Ar, r1, -⟩ := A; exact Sto.ofV Ar r1 O I
def PayN (G : Gx) (R : Room) (X : Cx) (y : MethodName) (len W : Nat) (as : Array Value) (h : Heap) (k1 n1 : Nat) (Q1 : Option Value → Heap → Prop) (vm : Vm) : Prop :=
  Back G.l R X.p X.e X.below (X.s.setVm vm) X.args y len W (fun P a => a = as ∧ P.U.heap = h ∧ P.cells + k1 ≤ R.cells ∧ P.slots + n1 ≤ R.slots)
    (fun P _ v B => ∃ L, (Q1 v B.U.heap ∧ Fr G.n0 L ∧ Old G.Z G.n0 B.U.heap ∧ h.size ≤ B.U.heap.size ∧ (G.wd = true → CHr G.Z G.EL vm h vm B.U.heap)) ∧ B.locs = P.locs ++ L ∧ B.cells = P.cells + k1 ∧ B.slots = P.slots + n1)
def PayW (G : Gx) (R : Room) (X : Cx) (y : MethodName) (len W : Nat) (as : Array Value) (h : Heap) (k1 n1 : Nat) (Q1 : Option Value → Heap → Prop) (vm : Vm) : Prop :=
  G.wd = true ∧ BackS G.l R X.p X.e X.below (X.s.setVm vm) X.args y len W (fun P a => a = as ∧ P.U.heap = h ∧ P.cells + k1 ≤ R.cells ∧ P.slots + n1 ≤ R.slots)
    (fun P _ v B => ∃ L, (Q1 v B.U.heap ∧ Fr G.n0 L ∧ Old G.Z G.n0 B.U.heap ∧ (G.wd = true → CHr G.Z G.EL vm h B.U.vm B.U.heap)) ∧ B.locs = P.locs ++ L ∧ B.cells = P.cells + k1 ∧ B.slots = P.slots + n1)
def Pay (G : Gx) (R : Room) (X : Cx) (y : MethodName) (len W : Nat) (as : Array Value) (h : Heap) (k1 n1 : Nat) (Q1 : Option Value → Heap → Prop) (vm : Vm) : Prop := PayN G R X y len W as h k1 n1 Q1 vm ∨ PayW G R X y len W as h k1 n1 Q1 vm
theorem finN {k0 k1 n1 : Nat} {L : List Loc} {Q1 : Option Value → Heap → Prop} (fx : Fix G M X) (hS : X.s.Since vm k0) (hk : k0 ≤ h.size) (hZ : G.Z.Warmed39 vm) (hown : vm.findClass M.own = some X.m.cls) (hF : Fr G.n0 L) (hch : G.wd = true → CHr G.Z G.EL X.s.vm X.s.heap vm h) (hnw : G.wd = false → vm = X.s.vm)
    {v : Option Value} {B : Pt} (X' : Stand X.p G.l X.e R (X.s.setVm vm) X.m X.args X.below X.meth X.c B.U B.locs B.cells B.slots) (post : ∃ L', (Q1 v B.U.heap ∧ Fr G.n0 L' ∧ Old G.Z G.n0 B.U.heap ∧ h.size ≤ B.U.heap.size ∧ (G.wd = true → CHr G.Z G.EL vm h vm B.U.heap)) ∧ B.locs = L ++ L' ∧ B.cells = k + k1 ∧ B.slots = n + n1) :
    Wk G M R X vm B.U B.U.heap (k + k1) (n + n1) ∧ Q1 v B.U.heap := by
  obtain ⟨U, Lb, c, s⟩ := B
  obtain ⟨L', ⟨q1, q2, q3, q4, q5⟩, h1, h2, h3⟩ := post
  dsimp only [Pt.U, Pt.locs, Pt.cells, Pt.slots] at *
  subst h1 h2 h3
  exact ⟨⟨fx, k0, _, X', rfl, hS, Nat.le_trans hk q4, hZ, hown, Fr.app hF q2, q3, fun b => (hch b).trans (q5 b), hnw⟩, q1⟩
theorem finW {k0 k1 n1 : Nat} {L : List Loc} {Q1 : Option Value → Heap → Prop} (hwd : G.wd = true) (fx : Fix G M X) (hS : X.s.Since vm k0) (hk : k0 ≤ h.size) (hZ : G.Z.Warmed39 vm) (hown : vm.findClass M.own = some X.m.cls) (hF : Fr G.n0 L) (hch : G.wd = true → CHr G.Z G.EL X.s.vm X.s.heap vm h)
    {v : Option Value} {B : Pt} (X' : Stand X.p G.l X.e R ((X.s.setVm vm).setVm B.U.vm) X.m X.args X.below X.meth X.c B.U B.locs B.cells B.slots) (hS' : (X.s.setVm vm).Since B.U.vm B.U.heap.size) (hgr : h.size ≤ B.U.heap.size) (post : ∃ L', (Q1 v B.U.heap ∧ Fr G.n0 L' ∧ Old G.Z G.n0 B.U.heap ∧ (G.wd = true → CHr G.Z G.EL vm h B.U.vm B.U.heap)) ∧ B.locs = L ++ L' ∧ B.cells = k + k1 ∧ B.slots = n + n1) :
    Wk G M R X B.U.vm B.U B.U.heap (k + k1) (n + n1) ∧ Q1 v B.U.heap := by
  obtain ⟨U, Lb, c, s⟩ := B
  obtain ⟨L', ⟨q1, q2, q3, q5⟩, h1, h2, h3⟩ := post
  dsimp only [Pt.U, Pt.locs, Pt.cells, Pt.slots] at *
  subst h1 h2 h3
  exact ⟨⟨fx, U.heap.size, _, X', rfl, hS.trans hS' (Nat.le_trans hk hgr), Nat.le_refl _, State.Warmed39.trans (t := X.s.setVm vm) hZ hS'.1, by rw [hS'.1.alike.findClass]; exact hown, Fr.app hF q2, q3, fun b => (hch b).trans (q5 b), fun z => absurd (z.symm.trans hwd) (by decide)⟩, q1⟩
theorem Wk.callS (w : Wk G M R X vm T h k n) {pc q : Nat} {Ls : Array Slot} {st : List Value} {y : MethodName} {bytes : ByteArray} {maxL : Nat} {ret : Option FieldType} {index W k1 n1 : Nat} {argsL rest : List Value} {Q1 : Option Value → Heap → Prop} (hd : decode M.code pc = .ok (.invokestatic index, 3)) (w1 : (Jvm.Cond.methodLink M.own index y).before G.a0 G.Z = true) (w2 : (Jvm.Cond.static y).before G.a0 G.Z = true) (w3 : (Jvm.Cond.initialized y.cls).before G.a0 G.Z = true) (w4 : (Jvm.Cond.code y bytes maxL ret).before G.a0 G.Z = true) (hy : y.cls ≠ "java/lang/invoke/MethodHandle" ∧ y.cls ≠ "java/lang/invoke/VarHandle")
    (hst : st = argsL.reverse ++ rest) (hlen : ∀ sig, parseMethodDescriptor y.desc = some sig → argsL.length = sig.parameters.length) (hsz : Ls.size = M.mx) (hW : (rest.map fun v => v.category).sum ≤ W) (pay : Pay G R X y 3 W argsL.toArray h k1 n1 Q1 vm) (hc : k + k1 ≤ R.cells) (hl : n + n1 ≤ R.slots) (hq : pc + 3 = q)
    (go : ∀ (vm' : Vm) (T' : State) (h' : Heap) (v : Option Value), Wk G M R X vm' T' h' (k + k1) (n + n1) → Q1 v h' → Go G R X Q (T'.setTop (mkF X.m q Ls (v.toList ++ rest)))) : Go G R X Q (T.setTop (mkF X.m pc Ls st)) := by
  subst hst hq
  obtain ⟨fx, k0, L, S, eh, hS, hk, hZ, hown, hF, ho, hch, hnw⟩ := w
  rcases pay with pay | ⟨hwd, pay⟩
  · obtain ⟨v, vm₁, B, -, X', post, st'⟩ := Jvm.LawKit.callS S fx.1 hown (mv (s := X.s.setVm vm) hZ w1) (mv (s := X.s.setVm vm) hZ w2) (mv (s := X.s.setVm vm) hZ w3) (mv (s := X.s.setVm vm) hZ w4) hy pay (g := mkF X.m pc Ls (argsL.reverse ++ rest)) rfl (hsz.trans fx.2.2.1.symm) hlen rfl (by show 2 * 0 + _ ≤ _; omega) (hb fx.2.1 hd) (fun _ _ => ⟨rfl, eh, hc, hl⟩)
    obtain ⟨w2, q1⟩ := finN fx hS hk hZ hown hF hch hnw X' post
    exact (go _ _ _ v w2 q1).of st'
  · obtain ⟨v, vm₁, B, -, X', hS', hgr, post, st'⟩ := Jvm.RoadKit.callSS S fx.1 hown (mv (s := X.s.setVm vm) hZ w1) (mv (s := X.s.setVm vm) hZ w2) (mv (s := X.s.setVm vm) hZ w3) (mv (s := X.s.setVm vm) hZ w4) hy pay (g := mkF X.m pc Ls (argsL.reverse ++ rest)) rfl (hsz.trans fx.2.2.1.symm) hlen rfl (by show 2 * 0 + _ ≤ _; omega) (hb fx.2.1 hd) (fun _ _ => ⟨rfl, eh, hc, hl⟩)
    obtain ⟨w2, q1⟩ := finW hwd fx hS hk hZ hown hF hch X' hS' (by rw [← eh]; exact hgr) post
    exact (go _ _ _ v w2 q1).of fun t z => st'.trans z
theorem Wk.callC (w : Wk G M R X vm T h k n) {pc q : Nat} {Ls : Array Slot} {st : List Value} {y : MethodName} {bytes : ByteArray} {maxL : Nat} {index W k1 n1 : Nat} {a : Addr} {argsL rest : List Value} {Q1 : Option Value → Heap → Prop} (hd : decode M.code pc = .ok (.invokespecial index, 3)) (hy1 : y.name = "<init>") (w1 : (Jvm.Cond.methodLink M.own index y).before G.a0 G.Z = true) (w2 : (Jvm.Cond.instanceMethod y).before G.a0 G.Z = true) (w4 : (Jvm.Cond.code y bytes maxL none).before G.a0 G.Z = true) (hy : y.cls ≠ "java/lang/invoke/MethodHandle" ∧ y.cls ≠ "java/lang/invoke/VarHandle")
    (hst : st = argsL.reverse ++ .ref a :: rest) (hlen : ∀ sig, parseMethodDescriptor y.desc = some sig → argsL.length = sig.parameters.length) (hsz : Ls.size = M.mx) (hW : (rest.map fun v => v.category).sum ≤ W) (pay : Pay G R X y 3 W (.ref a :: argsL).toArray h k1 n1 Q1 vm) (hc : k + k1 ≤ R.cells) (hl : n + n1 ≤ R.slots) (hq : pc + 3 = q)
    (go : ∀ (vm' : Vm) (T' : State) (h' : Heap) (v : Option Value), Wk G M R X vm' T' h' (k + k1) (n + n1) → Q1 v h' → Go G R X Q (T'.setTop (mkF X.m q Ls (v.toList ++ rest)))) : Go G R X Q (T.setTop (mkF X.m pc Ls st)) := by
  subst hst hq
  obtain ⟨fx, k0, L, S, eh, hS, hk, hZ, hown, hF, ho, hch, hnw⟩ := w
  rcases pay with pay | ⟨hwd, pay⟩
  · obtain ⟨v, vm₁, B, -, X', post, st'⟩ := S.specialBack fx.1 hy1 hown (mv (s := X.s.setVm vm) hZ w1) (mv (s := X.s.setVm vm) hZ w2) (mv (s := X.s.setVm vm) hZ w4) hy pay (g := mkF X.m pc Ls (argsL.reverse ++ .ref a :: rest)) rfl (hsz.trans fx.2.2.1.symm) (Steps.refl _) (a := a) hlen rfl (by show 2 * 0 + _ ≤ _; omega) (hb fx.2.1 hd) (fun _ _ => ⟨rfl, eh, hc, hl⟩)
    obtain ⟨w2, q1⟩ := finN fx hS hk hZ hown hF hch hnw X' post
    exact (go _ _ _ v w2 q1).of fun t z => st'.trans z
  · obtain ⟨v, vm₁, B, -, X', hS', hgr, post, st'⟩ := S.specialBackS fx.1 hy1 hown (mv (s := X.s.setVm vm) hZ w1) (mv (s := X.s.setVm vm) hZ w2) (mv (s := X.s.setVm vm) hZ w4) hy pay (g := mkF X.m pc Ls (argsL.reverse ++ .ref a :: rest)) rfl (hsz.trans fx.2.2.1.symm) (Steps.refl _) (a := a) hlen rfl (by show 2 * 0 + _ ≤ _; omega) (hb fx.2.1 hd) (fun _ _ => ⟨rfl, eh, hc, hl⟩)
    obtain ⟨w2, q1⟩ := finW hwd fx hS hk hZ hown hF hch X' hS' (by rw [← eh]; exact hgr) post
    exact (go _ _ _ v w2 q1).of fun t z => st'.trans z
theorem Wk.callV (w : Wk G M R X vm T h k n) {pc q : Nat} {Ls : Array Slot} {st : List Value} {C : String} {y z : MethodName} {index W k1 n1 : Nat} {a : Addr} {argsL rest : List Value} {Q1 : Option Value → Heap → Prop} (hd : decode M.code pc = .ok (.invokevirtual index, 3)) (w1 : (Jvm.Cond.methodLink M.own index y).before G.a0 G.Z = true) (w2 : (Jvm.Cond.declares y).before G.a0 G.Z = true) (hnf : NotFace G.Z y) (w3 : (Jvm.Cond.selects C y z).before G.a0 G.Z = true) (w4 : (Jvm.Cond.instanceMethod z).before G.a0 G.Z = true) (hy : y.cls ≠ "java/lang/invoke/MethodHandle" ∧ y.cls ≠ "java/lang/invoke/VarHandle") (E : Exa G.Z h a C)
    (hst : st = argsL.reverse ++ .ref a :: rest) (hlen : ∀ sig, parseMethodDescriptor y.desc = some sig → argsL.length = sig.parameters.length) (hsz : Ls.size = M.mx) (hW : (rest.map fun v => v.category).sum ≤ W) (pay : Pay G R X z 3 W (.ref a :: argsL).toArray h k1 n1 Q1 vm) (hc : k + k1 ≤ R.cells) (hl : n + n1 ≤ R.slots) (hq : pc + 3 = q)
    (go : ∀ (vm' : Vm) (T' : State) (h' : Heap) (v : Option Value), Wk G M R X vm' T' h' (k + k1) (n + n1) → Q1 v h' → Go G R X Q (T'.setTop (mkF X.m q Ls (v.toList ++ rest)))) : Go G R X Q (T.setTop (mkF X.m pc Ls st)) := by
  subst hst hq
  obtain ⟨fx, k0, L, S, eh, hS, hk, hZ, hown, hF, ho, hch, hnw⟩ := w
  have hnf' : NotFace (X.s.setVm vm) y := fun r0 h0 => by
    have q0 : G.Z.methodNamed? y = some r0 := by
      have := State.methodNamed?_setVm (s := G.Z) (vm' := vm) hZ.alike (x := y)
      rw [← this]; exact h0
    obtain ⟨kr, g1, g2⟩ := hnf r0 q0
    obtain ⟨kr', g3, g4⟩ := hZ.alike.2.2 _ _ g1
    exact ⟨kr', g3, by rw [g4]; exact g2⟩
  obtain ⟨cB, kB, b1, b2, b3⟩ := isOf (s := X.s.setVm vm) hZ eh E
  rcases pay with pay | ⟨hwd, pay⟩
  · obtain ⟨v, vm₁, B, -, X', post, st'⟩ := S.virtualBack fx.1 hown (mv (s := X.s.setVm vm) hZ w1) (mv (s := X.s.setVm vm) hZ w2) hnf' (mv (s := X.s.setVm vm) hZ w3) (mv (s := X.s.setVm vm) hZ w4) hy pay b1 b3 (g := mkF X.m pc Ls (argsL.reverse ++ .ref a :: rest)) rfl (hsz.trans fx.2.2.1.symm) (Steps.refl _) hlen rfl (by show 2 * 0 + _ ≤ _; omega) (hb fx.2.1 hd) (fun _ _ => ⟨rfl, eh, hc, hl⟩)
    obtain ⟨w2, q1⟩ := finN fx hS hk hZ hown hF hch hnw X' post
    exact (go _ _ _ v w2 q1).of fun t z => st'.trans z
  · obtain ⟨v, vm₁, B, -, X', hS', hgr, post, st'⟩ := S.virtualBackS fx.1 hown (mv (s := X.s.setVm vm) hZ w1) (mv (s := X.s.setVm vm) hZ w2) hnf' (mv (s := X.s.setVm vm) hZ w3) (mv (s := X.s.setVm vm) hZ w4) hy pay b1 b3 (g := mkF X.m pc Ls (argsL.reverse ++ .ref a :: rest)) rfl (hsz.trans fx.2.2.1.symm) (Steps.refl _) hlen rfl (by show 2 * 0 + _ ≤ _; omega) (hb fx.2.1 hd) (fun _ _ => ⟨rfl, eh, hc, hl⟩)
    obtain ⟨w2, q1⟩ := finW hwd fx hS hk hZ hown hF hch X' hS' (by rw [← eh]; exact hgr) post
    exact (go _ _ _ v w2 q1).of fun t z => st'.trans z
theorem Wk.callI (w : Wk G M R X vm T h k n) {pc q : Nat} {Ls : Array Slot} {st : List Value} {C : String} {xi y : MethodName} {index count W k1 n1 : Nat} {a : Addr} {argsL rest : List Value} {Q1 : Option Value → Heap → Prop} (hd : decode M.code pc = .ok (.invokeinterface index count, 5)) (w1 : (Jvm.Cond.methodLink M.own index xi).before G.a0 G.Z = true) (w2 : (Jvm.Cond.declares xi).before G.a0 G.Z = true) (w3 : (Jvm.Cond.interfaceMethod xi.cls xi.cls xi.name xi.desc).before G.a0 G.Z = true) (w4 : (Jvm.Cond.selects C xi y).before G.a0 G.Z = true) (w5 : (Jvm.Cond.instanceMethod y).before G.a0 G.Z = true) (w6 : (Jvm.Cond.publicMethod y).before G.a0 G.Z = true) (w7 : (Jvm.Cond.unhidden C xi.name xi.desc).before G.a0 G.Z = true) (w8 : (Jvm.Cond.castable C xi.cls).before G.a0 G.Z = true) (hy : xi.cls ≠ "java/lang/invoke/MethodHandle" ∧ xi.cls ≠ "java/lang/invoke/VarHandle") (E : Exa G.Z h a C)
    (hst : st = argsL.reverse ++ .ref a :: rest) (hlen : ∀ sig, parseMethodDescriptor xi.desc = some sig → argsL.length = sig.parameters.length) (hsz : Ls.size = M.mx) (hW : (rest.map fun v => v.category).sum ≤ W) (pay : Pay G R X y 5 W (.ref a :: argsL).toArray h k1 n1 Q1 vm) (hc : k + k1 ≤ R.cells) (hl : n + n1 ≤ R.slots) (hq : pc + 5 = q)
    (go : ∀ (vm' : Vm) (T' : State) (h' : Heap) (v : Option Value), Wk G M R X vm' T' h' (k + k1) (n + n1) → Q1 v h' → Go G R X Q (T'.setTop (mkF X.m q Ls (v.toList ++ rest)))) : Go G R X Q (T.setTop (mkF X.m pc Ls st)) := by
  subst hst hq
  obtain ⟨fx, k0, L, S, eh, hS, hk, hZ, hown, hF, ho, hch, hnw⟩ := w
  obtain ⟨cB, kB, b1, b2, b3⟩ := isOf (s := X.s.setVm vm) hZ eh E
  rcases pay with pay | ⟨hwd, pay⟩
  · obtain ⟨v, vm₁, B, -, X', post, st'⟩ := S.interfaceBack fx.1 hown (mv (s := X.s.setVm vm) hZ w1) (mv (s := X.s.setVm vm) hZ w2) (mv (s := X.s.setVm vm) hZ w3 (by simp [Cond.onTables, Cond.keepsFace, Cond.keeps, Cond.steady, Cond.faceAtom]; exact hy)) (mv (s := X.s.setVm vm) hZ w4) (mv (s := X.s.setVm vm) hZ w5) (mv (s := X.s.setVm vm) hZ w6) (mv (s := X.s.setVm vm) hZ w7) (mv (s := X.s.setVm vm) hZ w8) hy pay b1 b2 b3 (g := mkF X.m pc Ls (argsL.reverse ++ .ref a :: rest)) rfl (hsz.trans fx.2.2.1.symm) (Steps.refl _) hlen rfl (by show 2 * 0 + _ ≤ _; omega) (hb fx.2.1 hd) (fun _ _ => ⟨rfl, eh, hc, hl⟩)
    obtain ⟨w2, q1⟩ := finN fx hS hk hZ hown hF hch hnw X' post
    exact (go _ _ _ v w2 q1).of fun t z => st'.trans z
  · obtain ⟨v, vm₁, B, -, X', hS', hgr, post, st'⟩ := S.interfaceBackS fx.1 hown (mv (s := X.s.setVm vm) hZ w1) (mv (s := X.s.setVm vm) hZ w2) (mv (s := X.s.setVm vm) hZ w3 (by simp [Cond.onTables, Cond.keepsFace, Cond.keeps, Cond.steady, Cond.faceAtom]; exact hy)) (mv (s := X.s.setVm vm) hZ w4) (mv (s := X.s.setVm vm) hZ w5) (mv (s := X.s.setVm vm) hZ w6) (mv (s := X.s.setVm vm) hZ w7) (mv (s := X.s.setVm vm) hZ w8) hy pay b1 b2 b3 (g := mkF X.m pc Ls (argsL.reverse ++ .ref a :: rest)) rfl (hsz.trans fx.2.2.1.symm) (Steps.refl _) hlen rfl (by show 2 * 0 + _ ≤ _; omega) (hb fx.2.1 hd) (fun _ _ => ⟨rfl, eh, hc, hl⟩)
    obtain ⟨w2, q1⟩ := finW hwd fx hS hk hZ hown hF hch X' hS' (by rw [← eh]; exact hgr) post
    exact (go _ _ _ v w2 q1).of fun t z => st'.trans z
theorem Con.pay {y : MethodName} {bytes : ByteArray} {maxL : Nat} {ret : Option FieldType} {rm : Room} {as : Array Value} {Q1 : Option Value → Heap → Prop} {len W : Nat} (H : Con G y bytes maxL ret [] rm as h Q1) (w : Wk G M R X vm T h k n) (wc : (Jvm.Cond.code y bytes maxL ret).before G.a0 G.Z = true) (wz : (Jvm.Cond.initialized y.cls).before G.a0 G.Z = true) (hf : rm.frames + 1 ≤ R.frames) (hl : W + (maxL + 11) + rm.locals ≤ R.locals) : Pay G R X y len W as h rm.cells rm.slots Q1 vm := by
  have hZ := w.wz
  have hEL := w.hEL
  have hch := w.ch
  cases hwd : G.wd with
  | false =>
    exact Or.inl (Back.of_free (bytes := bytes) (maxL := maxL) (ret := ret) (E := fun _ first o t L k n => k = rm.cells ∧ n = rm.slots ∧ first.heap.size ≤ t.heap.size ∧ ∃ v, o = .returned v ∧ (Q1 v t.heap ∧ Fr G.n0 L ∧ Old G.Z G.n0 t.heap)) H hf hl
      (fun m meth c A a Y hp => have hU : G.Z.Warmed39 A.U.vm := wtrans (s := X.s.setVm vm) hZ Y.warmed
        ⟨by show (Jvm.Cond.and _ .tt).before a A.U = true; rw [Cond.before_and, mv hU wc]; rfl, mv hU wc, mv hU wz, hp.2.2.1, hp.2.2.2⟩)
      (fun m meth c A a g mk Y hp => ⟨hp.1, wtrans (s := X.s.setVm vm) hZ Y.warmed, hp.2.1, fun b => absurd (hwd.symm.trans b) (by decide)⟩) (fun _ _ _ _ _ _ _ _ _ => trivial)
      (fun _ _ _ _ ⟨v, L, h1, h2, h3, h4⟩ => ⟨L, _, _, h4.2 hwd, rfl, rfl, (h4.1.2.2.2).2.1, v, h1, h2⟩)
      (fun m meth c A a g mk v t L k n Y hp _ _ ⟨e1, e2, e0, v', e3, e4⟩ => by
        cases e3; subst e1 e2
        refine ⟨L, ⟨e4.1, e4.2.1, e4.2.2, ?_, fun b => absurd (hwd.symm.trans b) (by decide)⟩, rfl, rfl, rfl⟩
        rw [← hp.2.1]; exact e0))
  | true =>
    refine Or.inr ⟨hwd, BackS.of_freeW (bytes := bytes) (maxL := maxL) (ret := ret) (E := fun _ first o t L k n => k = rm.cells ∧ n = rm.slots ∧ CHr G.Z G.EL first.vm first.heap t.vm t.heap ∧ ∃ v, o = .returned v ∧ (Q1 v t.heap ∧ Fr G.n0 L ∧ Old G.Z G.n0 t.heap)) H hf hl
      (fun m meth c A a Y hp => have hU : G.Z.Warmed39 A.U.vm := wtrans (s := X.s.setVm vm) hZ Y.warmed
        ⟨by show (Jvm.Cond.and _ .tt).before a A.U = true; rw [Cond.before_and, mv hU wc]; rfl, mv hU wc, mv hU wz, hp.2.2.1, hp.2.2.2⟩)
      (fun m meth c A a g mk Y hp => ⟨hp.1, wtrans (s := X.s.setVm vm) hZ Y.warmed, hp.2.1, fun b => (CHv.at Y hZ hEL (hch b).1).1⟩) (fun _ _ _ _ _ _ _ _ _ => trivial)
      (fun _ _ _ _ ⟨v, L, h1, h2, h3, h4⟩ => ⟨L, _, _, h4.1, rfl, rfl, h3 hwd, v, h1, h2⟩)
      (fun m meth c A a g mk v t L k n Y hp _ _ ⟨e1, e2, e0, v', e3, e4⟩ => by
        cases e3; subst e1 e2
        refine ⟨L, ⟨e4.1, e4.2.1, e4.2.2, fun b => (CHv.at Y hZ hEL (hch b).1).trans ?_⟩, rfl, rfl, rfl⟩
        rw [← hp.2.1]; exact e0)⟩
theorem Pay.pure {y : MethodName} {as : Array Value} {len W : Nat} {P : Option Value → Prop} (w : Wk G M R X vm T h k n) (H : Back G.l R X.p X.e X.below (X.s.setVm vm) X.args y len W (fun P a => a = as ∧ P.U.heap = h ∧ P.cells + 0 ≤ R.cells ∧ P.slots + 0 ≤ R.slots) (fun A _ v B => ∃ L, (P v ∧ L = [] ∧ B.U.heap = h) ∧ B.locs = A.locs ++ L ∧ B.cells = A.cells + 0 ∧ B.slots = A.slots + 0)) : Pay G R X y len W as h 0 0 (fun v h' => P v ∧ h = h') vm := by
  refine Or.inl (Back.mono H (fun P a hp => hp) (fun A a v B hp hq => ?_))
  obtain ⟨L, ⟨q1, rfl, q3⟩, r⟩ := hq
  exact ⟨[], ⟨⟨q1, q3.symm⟩, Fr.nil _, by rw [q3]; exact w.old, by rw [q3]; exact Nat.le_refl _, fun b => by rw [q3]; exact CHr.refl (w.ch b).1⟩, r⟩
theorem Pay.pureV {y : MethodName} {as : Array Value} {len W : Nat} {P : Value → Prop} (w : Wk G M R X vm T h k n) (H : Pay G R X y len W as h 0 0 (fun v h' => (∃ x, v = some x ∧ P x) ∧ h = h') vm) : Pay G R X y len W as h 0 0 (vQ fun x h' => P x ∧ h = h') vm := by
  have e : (vQ fun x h' => P x ∧ h = h') = (fun (v : Option Value) (h' : Heap) => (∃ x, v = some x ∧ P x) ∧ h = h') := by
    funext v h'
    apply propext
    exact ⟨fun ⟨x, a, b, c⟩ => ⟨⟨x, a, b⟩, c⟩, fun ⟨⟨x, a, b⟩, c⟩ => ⟨x, a, b, c⟩⟩
  rw [e]; exact H
theorem Con.intro {y : MethodName} {bytes : ByteArray} {maxL : Nat} {ret : Option FieldType} {ws : List Jvm.Cond} {rm : Room} {as : Array Value} {Ls : Array Slot} (hE : EW G.Z G.a0 G.EL) (ho : Old G.Z G.n0 h) (hpl : plainFor y = true) (hef : ∀ m, entryFrame m as maxL = mkF m 0 Ls [])
    (body : ∀ (X : Cx) (vm : Vm) (T : State), Wk G (y.cls, y.name, bytes, maxL, ret) rm X vm T h 0 0 → Go G rm X Q (T.setTop (mkF X.m 0 Ls []))) : Con G y bytes maxL ret ws rm as h Q := by
  refine MetFree.of_bodySF hpl hisR ?_
  intro p e s m args below meth c s₁ Bd hml0 hP hK
  obtain ⟨rfl, hZ, hh, hc⟩ := hP
  have X0 : Stand p G.l e rm s m args below meth c s₁ [] 0 0 := Stand.of_body Bd
  have e0 : s₁.heap = h := by rw [← hh, Bd.state]; rfl
  have w : Wk G (y.cls, y.name, bytes, maxL, ret) rm (p, e, s, m, args, below, meth, c) s.vm s₁ h 0 0 :=
    ⟨⟨Bd.exec, Bd.bytes, hml0, Bd.returns, Bd.notSynchronized, (name_of_methodNamed Bd.named Bd.method).1, hE⟩, 0, [], X0, e0, (State.WarmedH.refl s).since 0, Nat.zero_le _, hZ, findClass_of_methodNamed Bd.named, Fr.nil _, ho, fun b => by show CHr G.Z G.EL s.vm s.heap s.vm h; rw [hh]; exact CHr.refl (hc b), fun _ => rfl⟩
  obtain ⟨t, o, h1, h2, h3, h4⟩ := body _ _ _ w
  exact ⟨t, o, castTop (hef m) h1, h2, h3, h4⟩
theorem Wk.leave' (w : Wk G M R X vm T h k n) {v : Option Value} (hv : M.ret = none → v = none) (hk' : k ≤ R.cells) (hn' : n ≤ R.slots) (hQ : Q v h) {S0 : State} (f : ∀ fs, (∀ (f : JFrame) (acts : List Action), f.method = X.m → f.locked = none → f.entered = [] → (doReturn X.e (T.setTop f) acts v).1 = T.setFrames fs) → ∀ L, Stand X.p G.l X.e R (X.s.setVm vm) X.m X.args X.below X.meth X.c T L k n → Steps X.p.tables X.e X.below S0 (T.setFrames fs)) : Go G R X Q S0 := by
  have hEL := w.hEL
  obtain ⟨fx, k0, L, S, eh, hS, hk, hZ, hown, hF, ho, hch, hnw⟩ := w
  obtain ⟨fs, hr, hrun, hended, hW, hsame⟩ := S.leave (v := v) (fun z => hv (fx.2.2.2.1.symm.trans z)) fx.2.2.2.2.1
  obtain ⟨a, b, c⟩ := hS.ended (U := T.setFrames fs) hW (by show k0 ≤ T.heap.size; rw [eh]; exact hk) hsame
  refine ⟨T.setFrames fs, .returned v, f fs hr L S, hrun, hended, v, L, rfl, ⟨by show Q v T.heap; rw [eh]; exact hQ, hF, by show Old G.Z G.n0 T.heap; rw [eh]; exact ho⟩, fun z => ?_, ⟨⟨v, rfl⟩, a, b, c.mono hk' hn'⟩, fun z => ?_⟩
  · show CHr G.Z G.EL X.s.vm X.s.heap T.vm T.heap
    rw [eh]; exact (hch z).trans (CHv.at S hZ hEL (hch z).1)
  · have e := hnw z
    subst e
    exact ⟨⟨v, rfl⟩, hW, c.mono hk' hn'⟩
theorem Wk.retV (w : Wk G M R X vm T h k n) {pc : Nat} {Ls : Array Slot} (hd : decode M.code pc = .ok (.return_, 1)) (hret : M.ret = none) (hk' : k ≤ R.cells) (hn' : n ≤ R.slots) (hQ : Q none h) : Go G R X Q (T.setTop (mkF X.m pc Ls [])) := by
  have fx := w.1
  exact w.leave' (v := none) (fun _ => rfl) hk' hn' hQ fun fs hr L S => S.returnOut fx.1 (fx.2.2.2.1.trans hret) (hb fx.2.1 hd) hr
theorem Wk.ret (w : Wk G M R X vm T h k n) {pc : Nat} {Ls : Array Slot} {st : List Value} {v : Value} {t : FieldType} {i : Instr} (hd : decode M.code pc = .ok (i, 1)) (hret : M.ret = some t) (hn : narrow t v = v)
    (hi : (i = .ireturn ∧ (t = .int ∨ t = .boolean ∨ t = .byte ∨ t = .char ∨ t = .short) ∧ ∃ z, v = .int z) ∨ (i = .lreturn ∧ t = .long ∧ ∃ z, v = .long z) ∨ (i = .dreturn ∧ t = .double ∧ ∃ z, v = .double z) ∨ (i = .freturn ∧ t = .float ∧ ∃ z, v = .float z) ∨ (i = .areturn ∧ t.isReference = true ∧ v.isRef = true))
    (hk' : k ≤ R.cells) (hn' : n ≤ R.slots) (hQ : Q (some v) h) : Go G R X Q (T.setTop (mkF X.m pc Ls (v :: st))) := by
  have fx := w.1
  exact w.leave' (v := some v) (fun z => by rw [hret] at z; cases z) hk' hn' hQ fun fs hr L S => retOut S fx.1 (fx.2.2.2.1.trans hret) hn hi (hb fx.2.1 hd) hr
theorem Wk.retI (w : Wk G M R X vm T h k n) {pc : Nat} {Ls : Array Slot} {st : List Value} {z : Int32} (hd : decode M.code pc = .ok (.ireturn, 1)) (hret : M.ret = some .int) (hk' : k ≤ R.cells) (hn' : n ≤ R.slots) (hQ : Q (some (.int z)) h) : Go G R X Q (T.setTop (mkF X.m pc Ls (.int z :: st))) :=
  w.ret hd hret rfl (Or.inl ⟨rfl, Or.inl rfl, z, rfl⟩) hk' hn' hQ
theorem Wk.retZ (w : Wk G M R X vm T h k n) {pc : Nat} {Ls : Array Slot} {st : List Value} {z : Int32} {t : FieldType} (hd : decode M.code pc = .ok (.ireturn, 1)) (hret : M.ret = some t) (ht : t = .boolean ∨ t = .byte ∨ t = .char ∨ t = .short) (hn : narrow t (.int z) = .int z) (hk' : k ≤ R.cells) (hn' : n ≤ R.slots) (hQ : Q (some (.int z)) h) : Go G R X Q (T.setTop (mkF X.m pc Ls (.int z :: st))) :=
  w.ret hd hret hn (Or.inl ⟨rfl, Or.inr ht, z, rfl⟩) hk' hn' hQ
theorem Wk.retA (w : Wk G M R X vm T h k n) {pc : Nat} {Ls : Array Slot} {st : List Value} {v : Value} {t : FieldType} (hd : decode M.code pc = .ok (.areturn, 1)) (hret : M.ret = some t) (ht : t.isReference = true) (hv : v.isRef = true) (hk' : k ≤ R.cells) (hn' : n ≤ R.slots) (hQ : Q (some v) h) : Go G R X Q (T.setTop (mkF X.m pc Ls (v :: st))) :=
  w.ret hd hret (by cases t <;> first | (cases ht; done) | (rcases ref_cases hv with rfl | ⟨_, rfl⟩ <;> rfl)) (Or.inr (Or.inr (Or.inr (Or.inr ⟨rfl, ht, hv⟩)))) hk' hn' hQ
theorem Wk.retJ (w : Wk G M R X vm T h k n) {pc : Nat} {Ls : Array Slot} {st : List Value} {z : Int64} (hd : decode M.code pc = .ok (.lreturn, 1)) (hret : M.ret = some .long) (hk' : k ≤ R.cells) (hn' : n ≤ R.slots) (hQ : Q (some (.long z)) h) : Go G R X Q (T.setTop (mkF X.m pc Ls (.long z :: st))) :=
  w.ret hd hret rfl (Or.inr (Or.inl ⟨rfl, rfl, z, rfl⟩)) hk' hn' hQ
theorem Wk.ldcS (w : Wk G M R X vm T h k n) {pc q : Nat} {Ls : Array Slot} {st : List Value} {index sz : Nat} {text : String} {vs : List Value} {z : Int32} (hd : decode M.code pc = .ok (.ldc index, 2)) (hwd : G.wd = true) (w1 : (Jvm.Cond.stringLink M.own index text).before G.a0 G.Z = true) (wS : ∀ a ∈ Bundle.stringAtoms, a.before G.a0 G.Z = true) (hmem : (M.own, index) ∈ G.EL) (ht : (∀ c ∈ text.toList, c.toNat < 256) ∧ text.toList.map (fun c => Value.int (Jvm.Lit.byteI c.toNat.toUInt16)) = vs) (hz : ¬ z < 0) (hlz : z.toNatClampNeg = vs.length) (hn : 4 * text.toList.length ≤ sz) (hbig : sz ≤ 536870912) (hc : k + 2 ≤ R.cells) (hl : n + (sz + 4) ≤ R.slots) (hq : pc + 2 = q)
    (go : ∀ (vm' : Vm) (T' : State) (h' : Heap) (a b : Addr) (kb : ClassId), Wk G M R X vm' T' h' (k + 2) (n + (sz + 4)) → Ext h h' → CHr G.Z G.EL vm h vm' h' → Exa G.Z h' a "java/lang/String" → Fld G.Z h' a "java/lang/String" "coder" "B" (.int 0) → Fld G.Z h' a "java/lang/String" "value" "[B" (.ref b) → Arv G.Z h' b kb .byte z vs (.int 0) → Go G R X Q (T'.setTop (mkF X.m q Ls (.ref a :: st)))) : Go G R X Q (T.setTop (mkF X.m pc Ls st)) := by
  subst hq
  have hEL := w.hEL
  obtain ⟨fx, k0, L, S, eh, hS, hk, hZ, hown, hF, ho, hch, hnw⟩ := w
  obtain ⟨a, T', h', k1, b, kb, X', e', E, hS', hk', hZ', hown', A1, A2, A3, A4, -, -, hC, -, -, st'⟩ := ldcCH S fx.1 hZ hown w1 wS eh hS hk hEL hmem (hch hwd).1 ht hz hlz (g := mkF X.m pc Ls st) rfl (hb fx.2.1 hd) hn hbig hc hl
  exact (go T'.vm T' h' a b kb ⟨fx, k1, L, X', e', hS', hk', hZ', hown', hF, ho.ext E, fun z => (hch z).trans hC, fun z => absurd (z.symm.trans hwd) (by decide)⟩ E hC A1 A2 A3 A4).of st'
theorem Wk.ldcO (w : Wk G M R X vm T h k n) {pc q : Nat} {Ls : Array Slot} {st : List Value} {index sz : Nat} {text : String} (hd : decode M.code pc = .ok (.ldc index, 2)) (hwd : G.wd = true) (w1 : (Jvm.Cond.stringLink M.own index text).before G.a0 G.Z = true) (wS : ∀ a ∈ Bundle.stringAtoms, a.before G.a0 G.Z = true) (hn : 4 * text.toList.length ≤ sz) (hbig : sz ≤ 536870912) (hc : k + 2 ≤ R.cells) (hl : n + (sz + 4) ≤ R.slots) (hq : pc + 2 = q)
    (go : ∀ (vm' : Vm) (T' : State) (h' : Heap) (a : Addr), Wk G M R X vm' T' h' (k + 2) (n + (sz + 4)) → Ext h h' → CHr G.Z G.EL vm h vm' h' → Go G R X Q (T'.setTop (mkF X.m q Ls (.ref a :: st)))) : Go G R X Q (T.setTop (mkF X.m pc Ls st)) := by
  subst hq
  have hEL := w.hEL
  obtain ⟨fx, k0, L, S, eh, hS, hk, hZ, hown, hF, ho, hch, hnw⟩ := w
  obtain ⟨a, T', h', k1, X', e', E, hS', hk', hZ', hown', hC, -, st'⟩ := ldcOH S fx.1 hZ hown w1 wS eh hS hk hEL (hch hwd).1 (g := mkF X.m pc Ls st) rfl (hb fx.2.1 hd) hn hbig hc hl
  exact (go T'.vm T' h' a ⟨fx, k1, L, X', e', hS', hk', hZ', hown', hF, ho.ext E, fun z => (hch z).trans hC, fun z => absurd (z.symm.trans hwd) (by decide)⟩ E hC).of st'
end Lay
end Own
end Jvm.Pilot.@@N@@
namespace Jvm.Pilot.@@N@@
namespace Own
open Jvm Jvm.ClassFile Sem Op Lib Jvm.Free Jvm.Stand Jvm.LawKit Jvm.RoadKit
section Lay
variable {G : Gx} {M : Md} {R : Room} {X : Cx} {vm : Vm} {T : State} {h : Heap} {k n : Nat} {Q : Option Value → Heap → Prop}
theorem mvMN {Z s : State} {a0 args : Array Value} {own host : String} {y : MethodName} {index : Nat} (hZ : Z.Warmed39 s.vm) (w : (Jvm.Cond.methodLinkNest own index y host).before a0 Z = true) : (Jvm.Cond.methodLinkNest own index y host).before args s = true := (Cond.methodLinkNest_wide hZ w :)
theorem Wk.newRX (w : Wk G M R X vm T h k n) {pc q : Nat} {Ls : Array Slot} {st : List Value} {C : String} {index : Nat} {N : Int32} {ad : String} (cap : Nat) (hd : decode M.code pc = .ok (.anewarray index, 3)) (w1 : (Jvm.Cond.classLink M.own index C).before G.a0 G.Z = true) (w2 : (Jvm.Cond.arrayOver (.object C)).before G.a0 G.Z = true) (had : "[" ++ (FieldType.object C).toString = ad) (hN : ¬ N < 0) (hcap : N.toNatClampNeg ≤ cap) (hb8 : cap * 8 ≤ 536870912) (hc : k + 1 ≤ R.cells) (hl : n + cap ≤ R.slots) (hq : pc + 3 = q)
    (go : ∀ (T' : State) (h' : Heap) (b : Nat) (kc : ClassId), b = h.size → Wk G M R X vm T' h' (k + 1) (n + cap) → Ext h h' → Arv G.Z h' b kc (.object C) N [] .null → Ovr G.Z kc C → Exa G.Z h' b ad → Go G R X Q (T'.setTop (mkF X.m q Ls (.ref b :: st)))) : Go G R X Q (T.setTop (mkF X.m pc Ls (.int N :: st))) := by
  subst hq
  obtain ⟨fx, k0, L, S, eh, hS, hk, hZ, hown, hF, ho, hch, hnw⟩ := w
  obtain ⟨T', h', kc, X', e', E, A, Ea, O, st'⟩ := Jvm.RoadKit.newRE S fx.1 hZ hown w1 w2 eh (g := mkF X.m pc Ls (.int N :: st)) rfl (hb fx.2.1 hd) rfl hN (cap := cap) hcap hb8 hc hl had
  exact (go T' h' h.size kc rfl ⟨fx, k0, L, X', e', hS, Nat.le_trans hk E.1, hZ, hown, hF, ho.ext E, fun b => (hch b).trans (CHr.ext E (hch b).1), hnw⟩ E (Arv.new A hN) O Ea).of st'
theorem Wk.getSN (w : Wk G M R X vm T h k n) {pc q : Nat} {Ls : Array Slot} {st : List Value} {R0 O f d host : String} {index : Nat} {v : Value} (hd : decode M.code pc = .ok (.getstatic index, 3)) (w1 : (Jvm.Cond.fieldLinkNest M.own index R0 f d host).before G.a0 G.Z = true) (via : Via G.Z R0 O f d) (F : Sta G.Z G.Z.heap O f d v) (hq : pc + 3 = q)
    (go : ∀ T' : State, Wk G M R X vm T' h k n → Go G R X Q (T'.setTop (mkF X.m q Ls (v :: st)))) : Go G R X Q (T.setTop (mkF X.m pc Ls st)) := by
  subst hq
  have F' := w.sta F
  obtain ⟨fx, k0, L, S, eh, hS, hk, hZ, hown, r⟩ := w
  obtain ⟨T', X', e', st'⟩ := Jvm.RoadKit.getS2 (host := host) S fx.1 hZ hown (Or.inr w1) via eh F' (g := mkF X.m pc Ls st) rfl (hb fx.2.1 hd)
  exact (go T' ⟨fx, k0, L, X', e', hS, hk, hZ, hown, r⟩).of st'
theorem Wk.getFN (w : Wk G M R X vm T h k n) {pc q : Nat} {Ls : Array Slot} {st : List Value} {R0 O f d host : String} {index : Nat} {a : Addr} {v : Value} (hd : decode M.code pc = .ok (.getfield index, 3)) (w1 : (Jvm.Cond.fieldLinkNest M.own index R0 f d host).before G.a0 G.Z = true) (via : Via G.Z R0 O f d) (F : Fld G.Z h a O f d v) (hq : pc + 3 = q)
    (go : ∀ T' : State, Wk G M R X vm T' h k n → Go G R X Q (T'.setTop (mkF X.m q Ls (v :: st)))) : Go G R X Q (T.setTop (mkF X.m pc Ls (.ref a :: st))) := by
  subst hq
  obtain ⟨fx, k0, L, S, eh, hS, hk, hZ, hown, r⟩ := w
  obtain ⟨T', X', e', st'⟩ := Jvm.RoadKit.getF (host := host) S fx.1 hZ hown (Or.inr w1) via eh F (g := mkF X.m pc Ls (.ref a :: st)) rfl rfl (hb fx.2.1 hd)
  exact (go T' ⟨fx, k0, L, X', e', hS, hk, hZ, hown, r⟩).of st'
theorem Wk.callCN (w : Wk G M R X vm T h k n) {pc q : Nat} {Ls : Array Slot} {st : List Value} {y : MethodName} {host : String} {bytes : ByteArray} {maxL : Nat} {index W k1 n1 : Nat} {a : Addr} {argsL rest : List Value} {Q1 : Option Value → Heap → Prop} (hd : decode M.code pc = .ok (.invokespecial index, 3)) (hy1 : y.name = "<init>") (w1 : (Jvm.Cond.methodLinkNest M.own index y host).before G.a0 G.Z = true) (w2 : (Jvm.Cond.instanceMethod y).before G.a0 G.Z = true) (w4 : (Jvm.Cond.code y bytes maxL none).before G.a0 G.Z = true) (hy : y.cls ≠ "java/lang/invoke/MethodHandle" ∧ y.cls ≠ "java/lang/invoke/VarHandle")
    (hst : st = argsL.reverse ++ .ref a :: rest) (hlen : ∀ sig, parseMethodDescriptor y.desc = some sig → argsL.length = sig.parameters.length) (hsz : Ls.size = M.mx) (hW : (rest.map fun v => v.category).sum ≤ W) (pay : Pay G R X y 3 W (.ref a :: argsL).toArray h k1 n1 Q1 vm) (hc : k + k1 ≤ R.cells) (hl : n + n1 ≤ R.slots) (hq : pc + 3 = q)
    (go : ∀ (vm' : Vm) (T' : State) (h' : Heap) (v : Option Value), Wk G M R X vm' T' h' (k + k1) (n + n1) → Q1 v h' → Go G R X Q (T'.setTop (mkF X.m q Ls (v.toList ++ rest)))) : Go G R X Q (T.setTop (mkF X.m pc Ls st)) := by
  subst hst hq
  obtain ⟨fx, k0, L, S, eh, hS, hk, hZ, hown, hF, ho, hch, hnw⟩ := w
  rcases pay with pay | ⟨hwd, pay⟩
  · obtain ⟨v, vm₁, B, -, X', post, st'⟩ := S.specialBackNest fx.1 hy1 hown (mvMN (s := X.s.setVm vm) hZ w1) (mv (s := X.s.setVm vm) hZ w2) (mv (s := X.s.setVm vm) hZ w4) hy pay (g := mkF X.m pc Ls (argsL.reverse ++ .ref a :: rest)) rfl (hsz.trans fx.2.2.1.symm) (Steps.refl _) (a := a) hlen rfl (by show 2 * 0 + _ ≤ _; omega) (hb fx.2.1 hd) (fun _ _ => ⟨rfl, eh, hc, hl⟩)
    obtain ⟨w2, q1⟩ := finN fx hS hk hZ hown hF hch hnw X' post
    exact (go _ _ _ v w2 q1).of fun t z => st'.trans z
  · obtain ⟨v, vm₁, B, -, X', hS', hgr, post, st'⟩ := S.specialBackNestS fx.1 hy1 hown (mvMN (s := X.s.setVm vm) hZ w1) (mv (s := X.s.setVm vm) hZ w2) (mv (s := X.s.setVm vm) hZ w4) hy pay (g := mkF X.m pc Ls (argsL.reverse ++ .ref a :: rest)) rfl (hsz.trans fx.2.2.1.symm) (Steps.refl _) (a := a) hlen rfl (by show 2 * 0 + _ ≤ _; omega) (hb fx.2.1 hd) (fun _ _ => ⟨rfl, eh, hc, hl⟩)
    obtain ⟨w2, q1⟩ := finW hwd fx hS hk hZ hown hF hch X' hS' (by rw [← eh]; exact hgr) post
    exact (go _ _ _ v w2 q1).of fun t z => st'.trans z
theorem Wk.tswI (w : Wk G M R X vm T h k n) {pc q : Nat} {Ls : Array Slot} {st : List Value} {dflt low high : Int} {offs : Array Int} {len : Nat} {o : Int} {i : Int32} (hd : decode M.code pc = .ok (.tableswitch dflt low high offs, len)) (hin : ¬ (i.toInt < low ∨ i.toInt > high)) (hoff : offs[(i.toInt - low).toNat]? = some o) (ho : 0 ≤ (pc : Int) + o) (hq : ((pc : Int) + o).toNat = q) (go : Go G R X Q (T.setTop (mkF X.m q Ls st))) : Go G R X Q (T.setTop (mkF X.m pc Ls (.int i :: st))) :=
  go.of fun t r => XS.tswIn w.here w.hx rfl (pc0 := pc) rfl (hb w.by_ hd) rfl hin hoff ho hq r
theorem Wk.tswO (w : Wk G M R X vm T h k n) {pc q : Nat} {Ls : Array Slot} {st : List Value} {dflt low high : Int} {offs : Array Int} {len : Nat} {i : Int32} (hd : decode M.code pc = .ok (.tableswitch dflt low high offs, len)) (hout : i.toInt < low ∨ i.toInt > high) (ho : 0 ≤ (pc : Int) + dflt) (hq : ((pc : Int) + dflt).toNat = q) (go : Go G R X Q (T.setTop (mkF X.m q Ls st))) : Go G R X Q (T.setTop (mkF X.m pc Ls (.int i :: st))) :=
  go.of fun t r => XS.tswOut w.here w.hx rfl (pc0 := pc) rfl (hb w.by_ hd) rfl hout ho hq r
end Lay
end Own
end Jvm.Pilot.@@N@@

namespace Jvm.Pilot.@@N@@
namespace Own
open Jvm Jvm.ClassFile Sem Op Lib Jvm.Free Jvm.Stand Jvm.LawKit Jvm.RoadKit
def StrAt (Z : State) (h : Heap) (a : Addr) (cd : Int32) (cs : List Int32) : Prop := ∃ (t : Addr) (kb : ClassId) (N : Int32) (vs : List Value), Exa Z h a "java/lang/String" ∧ Fld Z h a "java/lang/String" "value" "[B" (.ref t) ∧ Fld Z h a "java/lang/String" "coder" "B" (.int cd) ∧ Arv Z h t kb .byte N vs (.int 0) ∧ StrChars.Road.CodA cs cd N vs ∧ (∀ c ∈ cs, ¬ c < 0 ∧ ¬ (65535 : Int32) < c) ∧ cs.length ≤ 4000
section
variable {Z : State} {h h' : Heap} {a : Addr} {cd : Int32} {cs : List Int32}
theorem StrAt.ext (F : StrAt Z h a cd cs) (E : Ext h h') : StrAt Z h' a cd cs := by
  obtain ⟨t, kb, N, vs, h1, h2, h3, h4, r⟩ := F; exact ⟨t, kb, N, vs, h1.ext E, h2.ext E, h3.ext E, h4.ext E, r⟩
theorem StrAt.exa (F : StrAt Z h a cd cs) : Exa Z h a "java/lang/String" := by obtain ⟨t, kb, N, vs, h1, -⟩ := F; exact h1
theorem StrAt.lt (F : StrAt Z h a cd cs) : a < h.size := F.exa.lt
theorem up_ (cs : List Int32) (h : ∀ c ∈ cs, ¬ c < 0 ∧ ¬ (255 : Int32) < c) : ∀ c ∈ cs, ¬ c < 0 ∧ ¬ (65535 : Int32) < c := fun c hc => ⟨(h c hc).1, fun q => (h c hc).2 (by rw [Int32.lt_iff_toInt_lt] at q ⊢; have e1 : (65535 : Int32).toInt = 65535 := rfl; have e2 : (255 : Int32).toInt = 255 := rfl; omega)⟩
theorem and255 (x : Int32) : ¬ nar .char ((x &&& (255 : Int32)).toUInt32.toUInt16.toUInt32.toInt32) < 0 ∧ ¬ (255 : Int32) < nar .char ((x &&& (255 : Int32)).toUInt32.toUInt16.toUInt32.toInt32) := by
  have t : ∀ k : Fin 256, ¬ nar .char ((Int32.ofNat k.val).toUInt32.toUInt16.toUInt32.toInt32) < 0 ∧ ¬ (255 : Int32) < nar .char ((Int32.ofNat k.val).toUInt32.toUInt16.toUInt32.toInt32) := by decide +kernel
  have h : (x &&& 255).toBitVec.toNat < 256 := by
    simp only [Int32.toBitVec_and, BitVec.toNat_and]
    exact Nat.lt_succ_of_le Nat.and_le_right
  have e : (x &&& 255) = Int32.ofNat (x &&& 255).toBitVec.toNat := by
    apply Int32.toBitVec_inj.mp
    show _ = BitVec.ofNat 32 _
    rw [BitVec.ofNat_toNat]; simp
  rw [e]
  exact t ⟨_, h⟩
def Lat (c : Int32) : Prop := ¬ c < 0 ∧ ¬ (255 : Int32) < c
theorem lat_mask (x : Int32) : Lat (nar .char ((x &&& (255 : Int32)).toUInt32.toUInt16.toUInt32.toInt32)) := and255 x
theorem lat0 : ∀ c ∈ ([] : List Int32), ¬ c < 0 ∧ ¬ (255 : Int32) < c := fun _ q => nomatch q
theorem latS {c : Int32} {cs : List Int32} (a : Lat c) (r : ∀ c ∈ cs, ¬ c < 0 ∧ ¬ (255 : Int32) < c) : ∀ d ∈ c :: cs, ¬ d < 0 ∧ ¬ (255 : Int32) < d := fun d hd => by
  rcases List.mem_cons.mp hd with rfl | hd
  · exact a
  · exact r d hd
end
section
variable {G : Gx} {M : Md} {R : Room} {X : Cx} {vm : Vm} {T : State} {h : Heap} {k n : Nat} {Q : Option Value → Heap → Prop}
abbrev strInit : MethodName := ⟨"java/lang/String", "<init>", "([C)V"⟩
theorem pay_newStr (w : Wk G M R X vm T h k n) (hws : ∀ d ∈ StrChars.Road.words, d.before G.a0 G.Z = true) (wi : (Jvm.Cond.instantiable "java/lang/String" 4).before G.a0 G.Z = true) (hcz : ∃ z : Int32, ¬ z = 0 ∧ Sta G.Z G.Z.heap "java/lang/String" "COMPACT_STRINGS" "Z" (.int z))
    {x b : Addr} {kC : ClassId} {cs : List Int32} {d : Value} {N : Int32} {nn W : Nat} (h0 : G.n0 ≤ x) (E : Exa G.Z h x "java/lang/String") (V : Fld G.Z h x "java/lang/String" "value" "[B" .null) (C : Fld G.Z h x "java/lang/String" "coder" "B" (.int 0)) (K : Arv G.Z h b kC .char N (cs.map Value.int) d) (hn : cs.length = nn) (hN : N = Int32.ofNat nn) (l0 : 0 < nn) (l2 : nn ≤ 4000) (hp : ∀ c ∈ cs, ¬ c < 0 ∧ ¬ (255 : Int32) < c) (hfr : 4 ≤ R.frames) (hlo : W + 65 ≤ R.locals) :
    Pay G R X strInit 3 W #[.ref x, .ref b] h 1 nn (nQ fun h' => Keep h h' [x] ∧ StrAt G.Z h' x 0 cs) vm := by
  obtain ⟨z, hz, S⟩ := hcz
  refine Or.inl (Back.mono (StrChars.Road.backV (s := X.s.setVm vm) w.wz hws wi (cs := cs) (n := nn) h0 w.n0le E V C K (w.sta S) hz hn hN l0 l2 hp rfl hfr hlo) (fun P a hp => hp) (fun P a v B _ hq => ?_))
  obtain ⟨L, ⟨q1, q2, q3, q4, q5, t, kb, u1, u2, u3, q6, q7⟩, r⟩ := hq
  exact ⟨L, ⟨⟨q1, q3, t, kb, N, _, q4, q6, q5, q7, hN ▸ StrChars.Road.codOf hn (fun c hc => (hp c hc).2), up_ cs hp, by omega⟩, q2, w.old.keep q3 (all1 h0), q3.1, fun b => CHr.keep q3 (all1 (blank_safe w.wz.alike E V)) (w.ch b).1⟩, r⟩
end

section
variable {G : Gx} {M : Md} {R : Room} {X : Cx} {vm : Vm} {T : State} {h : Heap} {k n : Nat} {Q : Option Value → Heap → Prop}
abbrev strLength : MethodName := ⟨"java/lang/String", "length", "()I"⟩
theorem pay_len (w : Wk G M R X vm T h k n) (hws : ∀ d ∈ StrChars.Road.wordsLen, d.before G.a0 G.Z = true) (wi : (Jvm.Cond.instantiable "java/lang/String" 4).before G.a0 G.Z = true) (hcz : ∃ z : Int32, ¬ z = 0 ∧ Sta G.Z G.Z.heap "java/lang/String" "COMPACT_STRINGS" "Z" (.int z))
    {x : Addr} {cs : List Int32} {cd : Int32} {W : Nat} (A : StrAt G.Z h x cd cs) (hfr : 2 ≤ R.frames) (hlo : W + 25 ≤ R.locals) :
    Pay G R X strLength 3 W #[.ref x] h 0 0 (vQ fun v h' => (v = .int (Int32.ofNat cs.length)) ∧ h = h') vm := by
  obtain ⟨z, hz, S⟩ := hcz
  obtain ⟨t, kb, N, vs, a1, a2, a3, a4, a5, a6, a7⟩ := A
  refine Pay.pureV w (Pay.pure w (Back.mono (StrChars.Road.lenW (s := X.s.setVm vm) w.wz hws wi a1 a2 a3 a4 a5 a6 (w.sta S) hz a7 hfr hlo) (fun P a hp => hp) (fun P a v B _ hq => ?_)))
  obtain ⟨L, ⟨q1, q2⟩, r⟩ := hq
  exact ⟨L, ⟨⟨_, q1, rfl⟩, q2⟩, r⟩
end

section
variable {G : Gx} {M : Md} {R : Room} {X : Cx} {vm : Vm} {T : State} {h : Heap} {k n : Nat} {Q : Option Value → Heap → Prop}
abbrev strEquals : MethodName := ⟨"java/lang/String", "equals", "(Ljava/lang/Object;)Z"⟩
theorem pay_eq (w : Wk G M R X vm T h k n) (hws : ∀ d ∈ StrChars.Road.wordsEq, d.before G.a0 G.Z = true) (wi : (Jvm.Cond.instantiable "java/lang/String" 4).before G.a0 G.Z = true) (hcz : ∃ z : Int32, ¬ z = 0 ∧ Sta G.Z G.Z.heap "java/lang/String" "COMPACT_STRINGS" "Z" (.int z))
    {x y : Addr} {cs ds : List Int32} {cd cd' : Int32} {W : Nat} (A : StrAt G.Z h x cd cs) (B : StrAt G.Z h y cd' ds) (hfr : 2 ≤ R.frames) (hlo : W + 28 ≤ R.locals) :
    Pay G R X strEquals 3 W #[.ref x, .ref y] h 0 0 (vQ fun v h' => (v = .int (if cs = ds then 1 else 0)) ∧ h = h') vm := by
  obtain ⟨z, hz, S⟩ := hcz
  obtain ⟨t, kb, N, vs, a1, a2, a3, a4, a5, a6, a7⟩ := A
  obtain ⟨t', kb', N', vs', b1, b2, b3, b4, b5, b6, b7⟩ := B
  refine Pay.pureV w (Pay.pure w (Back.mono (StrChars.Road.eqW (s := X.s.setVm vm) w.wz hws wi a1 a2 a3 a4 a5 a6 a7 b1 b2 b3 b4 b5 b6 b7 (w.sta S) hz hfr hlo) (fun P a hp => hp) (fun P a v B _ hq => ?_)))
  obtain ⟨L, ⟨q1, q2⟩, r⟩ := hq
  refine ⟨L, ⟨?_, q2⟩, r⟩
  rcases q1 with ⟨e1, e2⟩ | ⟨e1, e2⟩
  · exact ⟨_, e1, by rw [if_pos e2]⟩
  · exact ⟨_, e1, by rw [if_neg e2]⟩
end

section SafeLen
theorem safe_len {Z : State} {a0 : Array Value} {EL : List (String × Nat)} {vm : Vm} {h : Heap} {x : Addr} {kc : ClassId} {N : Int32} {vs : List Value} {dv : Value} (hal : Z.vm.Alike vm) (hE : EW Z a0 EL) (A : Arv Z h x kc .byte N vs dv)
    (hN : ∀ p ∈ EL, ∀ text : String, (Jvm.Cond.stringLink p.1 p.2 text).before a0 Z = true → text.toList.length ≠ N.toNatClampNeg) : Safe Z EL vm h x := fun B => by
  obtain ⟨cl, ⟨A1, ⟨-, kA, hkA, compA, hkindA⟩, -⟩, -, sz, -⟩ := A
  obtain ⟨kA', hkA', ekA⟩ := hal.2.2 _ _ hkA
  obtain ⟨p, hp, u, a, hb, q, -, F, rfl | rfl⟩ := B
  · cases (show h[q.sa]? = some q.sC from F.ha).symm.trans A1
    obtain ⟨cS, ⟨-, -, e⟩, ⟨kS, g1, g2, -⟩, -⟩ := F
    subst e
    cases (show vm.classes[q.sC.cls]? = some kS from g1).symm.trans hkA'
    rw [ekA] at g2
    cases hkindA.symm.trans g2
  · cases (show h[q.sd]? = some q.SA from F.hd).symm.trans A1
    obtain ⟨cS, -, -, -, hbyt⟩ := F
    obtain ⟨text, w, ht⟩ := hE p hp
    obtain ⟨c, k, cf, i, b1, b2, b3, b4, b5, -⟩ := hb
    rw [hal.findClass] at b1
    obtain ⟨k0, cf0, i0, units, c1, c2, c3, c4, -, c5, -⟩ := Cond.stringLink_spec b1 w
    obtain ⟨k', d1, d2⟩ := hal.2.2 _ _ c1
    cases d1.symm.trans b2
    have e1 : cf0 = cf := by
      have : k.cf = k0.cf := by rw [d2]
      rw [b3, c2] at this; exact (Option.some.inj this).symm
    subst e1
    cases b4.symm.trans c3
    cases b5.symm.trans c4
    have hlat := Jvm.ClassFile.lat_of_text c5 ht
    refine hN p hp text w ?_
    rw [← sz, hbyt, Jvm.Free.SBG.stringBytes_lat hlat, Array.size_map]
    have := congrArg List.length (Jvm.ClassFile.units_of_text c5 ht)
    simpa using this.symm
end SafeLen

section SBx
variable {G : Gx} {M : Md} {R : Room} {X : Cx} {vm : Vm} {T : State} {h : Heap} {k n : Nat} {Q : Option Value → Heap → Prop}
theorem Wk.sfL (w : Wk G M R X vm T h k n) {x : Addr} {kc : ClassId} {N : Int32} {vs : List Value} {dv : Value} (A : Arv G.Z h x kc .byte N vs dv) (hN : ∀ p ∈ G.EL, ∀ text : String, (Jvm.Cond.stringLink p.1 p.2 text).before G.a0 G.Z = true → text.toList.length ≠ N.toNatClampNeg) : G.wd = true → Safe G.Z G.EL vm h x := fun _ => safe_len w.wz.alike w.hEL A hN
theorem sl_uniq {Z : State} {a0 : Array Value} {o t1 t2 : String} {i : Nat} (h1 : (Jvm.Cond.stringLink o i t1).before a0 Z = true) (h2 : (Jvm.Cond.stringLink o i t2).before a0 Z = true) : t1 = t2 := by
  cases hc : Z.vm.findClass o with
  | none => simp [Cond.before, Cond.holds, Cond.value, hc] at h1
  | some c =>
    obtain ⟨k0, cf0, i0, u0, c1, c2, c3, c4, c5, -⟩ := Cond.stringLink_spec hc h1
    obtain ⟨k1, cf1, i1, u1, d1, d2, d3, d4, d5, -⟩ := Cond.stringLink_spec hc h2
    cases c1.symm.trans d1
    cases c2.symm.trans d2
    have := c5.symm.trans d5
    injection this with e
    injection e
theorem Wk.acopy (w : Wk G M R X vm T h k n) {pc q index W : Nat} {Ls : Array Slot} {rest : List Value} {a b : Addr} {ka kb : ClassId} {ty : FieldType} {z z' sp dp nn : Int32} {vs vd us : List Value} {dv dd : Value} (hd : decode M.code pc = .ok (.invokestatic index, 3))
    (w1 : (Jvm.Cond.methodLink M.own index Jvm.Stand.acN).before G.a0 G.Z = true) (w2 : (Jvm.Cond.native Jvm.Stand.acN).before G.a0 G.Z = true) (w3 : (Jvm.Cond.static Jvm.Stand.acN).before G.a0 G.Z = true) (w4 : (Jvm.Cond.initialized "java/lang/System").before G.a0 G.Z = true) (A : Arv G.Z h a ka ty z vs dv) (B : Arv G.Z h b kb ty z' vd dd) (hr : refKind ty = false)
    (h1 : ¬ sp < 0) (h2 : ¬ dp < 0) (h3 : ¬ nn < 0) (h4 : sp.toNatClampNeg + nn.toNatClampNeg ≤ z.toNatClampNeg) (h5 : dp.toNatClampNeg + nn.toNatClampNeg ≤ z'.toNatClampNeg) (hus : us = (List.range nn.toNatClampNeg).map fun i => vs.getD (sp.toNatClampNeg + i) dv) (hl : dp.toNatClampNeg + nn.toNatClampNeg ≤ vd.length) (ge : G.n0 ≤ b) (sf : G.wd = true → Safe G.Z G.EL vm h b)
    (hsz : Ls.size = M.mx) (hf : 1 ≤ R.frames) (hW : (rest.map fun v => v.category).sum ≤ W) (hlo : W + (nativeFrameWords "java/lang/System" "arraycopy" 5 + 11) ≤ R.locals) (hq : pc + 3 = q)
    (go : ∀ (T' : State) (h' : Heap), Wk G M R X vm T' h' k n → Keep h h' [b] → Arv G.Z h' b kb ty z' (vd.take dp.toNatClampNeg ++ us ++ vd.drop (dp.toNatClampNeg + nn.toNatClampNeg)) dd → Go G R X Q (T'.setTop (mkF X.m q Ls rest))) : Go G R X Q (T.setTop (mkF X.m pc Ls (.int nn :: .int dp :: .ref b :: .int sp :: .ref a :: rest))) := by
  subst hq
  obtain ⟨fx, k0, L, S, eh, hS, hk, hZ, hown, hF, ho, hch, hnw⟩ := w
  obtain ⟨T', h', L', X', e', F', K, A', st'⟩ := Jvm.RoadKit.cpA S fx.1 hZ hown w1 w2 w3 w4 eh A B (Or.inl ⟨rfl, hr⟩) h1 h2 h3 h4 h5 hus hl hF ge (g := mkF X.m pc Ls (.int nn :: .int dp :: .ref b :: .int sp :: .ref a :: rest)) rfl (hsz.trans fx.2.2.1.symm) rfl (hb fx.2.1 hd) hf (W := W) (by show 2 * 0 + _ ≤ _; omega) hlo
  exact (go T' h' ⟨fx, k0, L', X', e', hS, Nat.le_trans hk K.1, hZ, hown, F', ho.keep K (all1 ge), fun b' => (hch b').trans (CHr.keep K (all1 (sf b')) (hch b').1), hnw⟩ K A').of st'
theorem same_of_named {Z : State} {a0 : Array Value} {y y2 : MethodName} {C : String} {bytes : ByteArray} {maxL : Nat} {ret : Option FieldType} (wc : (Jvm.Cond.code y bytes maxL ret).before a0 Z = true) (ws : (Jvm.Cond.selects C y2 y2).before a0 Z = true) (hc : y2.cls = y.cls) (hy : y.cls ≠ "java/lang/invoke/MethodHandle" ∧ y.cls ≠ "java/lang/invoke/VarHandle") : (Jvm.Cond.sameMethod y.cls y.cls y.name y.desc).before a0 Z = true := by
  obtain ⟨m, hm⟩ := Cond.code_named wc
  have h1 := State.methodFound?_of_named hm hy
  obtain ⟨c2, r2, m2, q1, q2, q3, q4, kP, hkP, hkPi⟩ := Cond.selects_spec ws
  have f1 := findClass_of_methodNamed hm
  have f2 := findClass_of_methodNamed q3
  rw [hc] at f2
  have e : m2.cls = m.cls := Option.some.inj (f2.symm.trans f1)
  rw [e] at hkP
  simp [Cond.before, Cond.holds, Cond.value, h1, hm, f1, hkP, hkPi]
theorem Wk.callSup (w : Wk G M R X vm T h k n) {pc q : Nat} {Ls : Array Slot} {st : List Value} {C : String} {y : MethodName} {bytes : ByteArray} {maxL : Nat} {ret : Option FieldType} {index W k1 n1 : Nat} {a : Addr} {argsL rest : List Value} {Q1 : Option Value → Heap → Prop} (hd : decode M.code pc = .ok (.invokespecial index, 3)) (w1 : (Jvm.Cond.methodLink M.own index y).before G.a0 G.Z = true) (w2 : (Jvm.Cond.sameMethod y.cls y.cls y.name y.desc).before G.a0 G.Z = true) (w3 : (Jvm.Cond.instanceMethod y).before G.a0 G.Z = true) (w4 : (Jvm.Cond.superclass M.own y.cls).before G.a0 G.Z = true) (hn : y.name ≠ "<init>") (wc : (Jvm.Cond.code y bytes maxL ret).before G.a0 G.Z = true) (F : Ins G.Z h a C true)
    (hst : st = argsL.reverse ++ .ref a :: rest) (hlen : ∀ sig, parseMethodDescriptor y.desc = some sig → argsL.length = sig.parameters.length) (hsz : Ls.size = M.mx) (hW : (rest.map fun v => v.category).sum ≤ W) (pay : Pay G R X y 3 W (.ref a :: argsL).toArray h k1 n1 Q1 vm) (hc : k + k1 ≤ R.cells) (hl : n + n1 ≤ R.slots) (hq : pc + 3 = q)
    (go : ∀ (vm' : Vm) (T' : State) (h' : Heap) (v : Option Value), Wk G M R X vm' T' h' (k + k1) (n + n1) → Q1 v h' → Go G R X Q (T'.setTop (mkF X.m q Ls (v.toList ++ rest)))) : Go G R X Q (T.setTop (mkF X.m pc Ls st)) := by
  subst hst hq
  obtain ⟨fx, k0, L, S, eh, hS, hk, hZ, hown, hF, ho, hch, hnw⟩ := w
  rcases pay with pay | ⟨hwd, pay⟩
  · obtain ⟨v, vm₁, B, -, X', post, st'⟩ := Jvm.RoadKit.superBack S fx.1 hZ hown w1 w2 w3 w4 hn pay eh F (g := mkF X.m pc Ls (argsL.reverse ++ .ref a :: rest)) rfl (hsz.trans fx.2.2.1.symm) wc hlen rfl (by show 2 * 0 + _ ≤ _; omega) (hb fx.2.1 hd) (fun _ _ => ⟨rfl, eh, hc, hl⟩)
    obtain ⟨w2, q1⟩ := finN fx hS hk hZ hown hF hch hnw X' post
    exact (go _ _ _ v w2 q1).of fun t z => st'.trans z
  · obtain ⟨v, vm₁, B, -, X', hS', hgr, post, st'⟩ := Jvm.RoadKit.superBackS S fx.1 hZ hown w1 w2 w3 w4 hn pay eh F (g := mkF X.m pc Ls (argsL.reverse ++ .ref a :: rest)) rfl (hsz.trans fx.2.2.1.symm) wc hlen rfl (by show 2 * 0 + _ ≤ _; omega) (hb fx.2.1 hd) (fun _ _ => ⟨rfl, eh, hc, hl⟩)
    obtain ⟨w2, q1⟩ := finW hwd fx hS hk hZ hown hF hch X' hS' (by rw [← eh]; exact hgr) post
    exact (go _ _ _ v w2 q1).of fun t z => st'.trans z
end SBx

section ExcL
open Jvm.Free.Exc
variable {G : Gx} {M : Md} {R : Room} {X : Cx} {vm : Vm} {T : State} {h : Heap} {k n : Nat} {Q : Option Value → Heap → Prop}
/-- the tables' methods and the frames beneath are known, and Throwable's statics stand at the method's start -/
def Kn (G : Gx) (X : Cx) : Prop := X.s.vm.MethodsKnown ∧ X.s.vm.FramesKnown X.below ∧ ThS G.Z X.s.heap
theorem kframes {vm vm' : Vm} {fs : List Frame} (al : vm.Alike vm') (F : vm.FramesKnown fs) : vm'.FramesKnown fs := fun y hy m' hm => by
  have := F y hy m' hm
  obtain ⟨x, q1, q2⟩ := this
  obtain ⟨x', q3, q4⟩ := al.2.2 _ _ q1
  exact ⟨x', q3, by rw [q4]; exact q2⟩
def ConK (G : Gx) (y : MethodName) (bytes : ByteArray) (maxL : Nat) (ret : Option FieldType) (ws : List Cond) (rm : Room) (as : Array Value) (h : Heap) (Q : Option Value → Heap → Prop) : Prop :=
  MetFree G.l y (head1 (Cond.code y bytes maxL ret :: ws) rm) (fun a U => a = as ∧ G.Z.Warmed39 U.vm ∧ U.heap = h ∧ (G.wd = true → CHv G.Z G.EL U.vm h)) (fun _ _ bl s _ => s.vm.MethodsKnown ∧ s.vm.FramesKnown bl)
    (fun _ U o U' => ∃ (v : Option Value) (L : List Loc), o = .returned v ∧ (Q v U'.heap ∧ Fr G.n0 L ∧ Old G.Z G.n0 U'.heap) ∧ (G.wd = true → CHr G.Z G.EL U.vm U.heap U'.vm U'.heap) ∧ EndW G.wd U o U' L rm.cells rm.slots)
theorem ConK.intro {y : MethodName} {bytes : ByteArray} {maxL : Nat} {ret : Option FieldType} {ws : List Jvm.Cond} {rm : Room} {as : Array Value} {Ls : Array Slot} (hE : EW G.Z G.a0 G.EL) (ho : Old G.Z G.n0 h) (hpl : plainFor y = true) (hef : ∀ m, entryFrame m as maxL = mkF m 0 Ls [])
    (body : ∀ (X : Cx) (vm : Vm) (T : State), Kn G X → Wk G (y.cls, y.name, bytes, maxL, ret) rm X vm T h 0 0 → Go G rm X Q (T.setTop (mkF X.m 0 Ls []))) : ConK G y bytes maxL ret ws rm as h Q := by
  refine MetFree.of_bodySF hpl hisR ?_
  intro p e s m args below meth c s₁ Bd hml0 hP hK
  obtain ⟨rfl, hZ, hh, hc⟩ := hP
  have X0 : Stand p G.l e rm s m args below meth c s₁ [] 0 0 := Stand.of_body Bd
  have e0 : s₁.heap = h := by rw [← hh, Bd.state]; rfl
  have w : Wk G (y.cls, y.name, bytes, maxL, ret) rm (p, e, s, m, args, below, meth, c) s.vm s₁ h 0 0 :=
    ⟨⟨Bd.exec, Bd.bytes, hml0, Bd.returns, Bd.notSynchronized, (name_of_methodNamed Bd.named Bd.method).1, hE⟩, 0, [], X0, e0, (State.WarmedH.refl s).since 0, Nat.zero_le _, hZ, findClass_of_methodNamed Bd.named, Fr.nil _, ho, fun b => by show CHr G.Z G.EL s.vm s.heap s.vm h; rw [hh]; exact CHr.refl (hc b), fun _ => rfl⟩
  obtain ⟨t, o, h1, h2, h3, h4⟩ := body _ _ _ ⟨hK.1, hK.2, by show ThS G.Z s.heap; rw [hh]; exact ThS.ext ho.2 ThS.start⟩ w
  exact ⟨t, o, castTop (hef m) h1, h2, h3, h4⟩
theorem Wk.kn (w : Wk G M R X vm T h k n) (K : Kn G X) : vm.MethodsKnown ∧ vm.FramesKnown X.below := by
  obtain ⟨-, k0, L, S, -, hS, -⟩ := w
  have al : X.s.vm.Alike vm := hS.1.alike
  exact ⟨Vm.MethodsKnown.alikeC al K.1, kframes al K.2.1⟩
theorem ConK.pay {y : MethodName} {bytes : ByteArray} {maxL : Nat} {ret : Option FieldType} {rm : Room} {as : Array Value} {Q1 : Option Value → Heap → Prop} {len W : Nat} (H : ConK G y bytes maxL ret [] rm as h Q1) (hwd : G.wd = true) (w : Wk G M R X vm T h k n) (K : Kn G X) (wc : (Jvm.Cond.code y bytes maxL ret).before G.a0 G.Z = true) (wz : (Jvm.Cond.initialized y.cls).before G.a0 G.Z = true) (hf : rm.frames + 1 ≤ R.frames) (hl : W + (maxL + 11) + rm.locals ≤ R.locals) : Pay G R X y len W as h rm.cells rm.slots Q1 vm := by
  have hZ := w.wz
  have hEL := w.hEL
  have hch := w.ch
  have hkn := w.kn K
  refine Or.inr ⟨hwd, BackS.of_freeWG (bytes := bytes) (maxL := maxL) (ret := ret) (E := fun _ first o t L k n => k = rm.cells ∧ n = rm.slots ∧ CHr G.Z G.EL first.vm first.heap t.vm t.heap ∧ ∃ v, o = .returned v ∧ (Q1 v t.heap ∧ Fr G.n0 L ∧ Old G.Z G.n0 t.heap)) H hf hl
      (fun m meth c A a Y hp => have hU : G.Z.Warmed39 A.U.vm := wtrans (s := X.s.setVm vm) hZ Y.warmed
        ⟨by show (Jvm.Cond.and _ .tt).before a A.U = true; rw [Cond.before_and, mv hU wc]; rfl, mv hU wc, mv hU wz, hp.2.2.1, hp.2.2.2⟩)
      (fun m meth c A a g mk Y hp => ⟨hp.1, wtrans (s := X.s.setVm vm) hZ Y.warmed, hp.2.1, fun b => (CHv.at Y hZ hEL (hch b).1).1⟩) (fun m meth c A a g mk Y _ hg => known_frames Y hg hkn.1 hkn.2)
      (fun _ _ _ _ ⟨v, L, h1, h2, h3, h4⟩ => ⟨L, _, _, h4.1, rfl, rfl, h3 hwd, v, h1, h2⟩)
      (fun m meth c A a g mk v t L k n Y hp _ _ ⟨e1, e2, e0, v', e3, e4⟩ => by
        cases e3; subst e1 e2
        refine ⟨L, ⟨e4.1, e4.2.1, e4.2.2, fun b => (CHv.at Y hZ hEL (hch b).1).trans ?_⟩, rfl, rfl, rfl⟩
        rw [← hp.2.1]; exact e0)⟩
theorem Wk.exc1 (w : Wk G M R X vm T h k n) (K : Kn G X) (hls : G.l.stackTraces = true) {pc q ic nn W : Nat} {Ls : Array Slot} {rest : List Value} {rc : String} {links : List Link} {a : Addr} {msg : Value} (hd : decode M.code pc = .ok (.invokespecial ic, 3)) (hok : linksOk 1 links = true)
    (w1 : (Jvm.Cond.methodLink M.own ic (ctor 1 (headName links))).before G.a0 G.Z = true) (w2 : (Jvm.Cond.instanceMethod (ctor 1 (headName links))).before G.a0 G.Z = true) (wT : (chainTab 1 rc links).before G.a0 G.Z = true) (wi : (Jvm.Cond.instantiable rc nn).before G.a0 G.Z = true) (r : ∀ d ∈ twoRefs, d.before G.a0 G.Z = true)
    (E : Exa G.Z h a rc) (N : Unt h a) (B : Fld G.Z h a Bundle.tN "backtrace" obD .null) (B2 : Fld G.Z h a Bundle.tN "detailMessage" msgD .null) (hmsg : msg.isRef = true) (h0 : G.n0 ≤ a) (hrc : rc ≠ "java/lang/String") (hrc2 : rc ≠ "[B") (hsz : Ls.size = M.mx) (hf : 4 + links.length ≤ R.frames) (hW : (rest.map fun v => v.category).sum ≤ W) (hlo : W + (56 + 14 * links.length) ≤ R.locals) (hc : k + 1 ≤ R.cells) (hsl : n + 2752 ≤ R.slots) (hq : pc + 3 = q)
    (go : ∀ (T' : State) (h' : Heap), Wk G M R X vm T' h' (k + 1) (n + 2752) → Keep h h' [a] → Exa G.Z h' a rc → Unt h' a → Fld G.Z h' a Bundle.tN "detailMessage" msgD msg → Fld G.Z h' a Bundle.tN "cause" thD (.ref a) → Go G R X Q (T'.setTop (mkF X.m q Ls rest))) : Go G R X Q (T.setTop (mkF X.m pc Ls (msg :: .ref a :: rest))) := by
  subst hq
  have hkn := w.kn K
  have sf := w.sfE E hrc hrc2
  have hT : ThS G.Z h := ThS.ext w.old.2 ThS.start
  obtain ⟨fx, k0, L, S, eh, hS, hk, hZ, hown, hF, ho, hch, hnw⟩ := w
  obtain ⟨T', h', X', e', Kp', E', N', F1, F2, -, st'⟩ := Jvm.RoadKit.excL1 S fx.1 hls hZ hown hok w1 w2 wT wi r K.2.2 hT hkn.1 hkn.2 eh E N B B2 hmsg (g := mkF X.m pc Ls (msg :: .ref a :: rest)) rfl (hsz.trans fx.2.2.1.symm) rfl (hb fx.2.1 hd) hf (by show 2 * 0 + _ + _ ≤ _; omega) hc hsl
  have KK := keep_of_kp Kp'
  exact (go T' h' ⟨fx, k0, _, X', e', hS, Nat.le_trans hk KK.1, hZ, hown, Fr.six hF h0, ho.keep KK (all1 h0), fun b' => (hch b').trans (CHr.keep KK (all1 (sf b')) (hch b').1), hnw⟩ KK E' N' F1 F2).of st'
theorem Wk.callUp (w : Wk G M R X vm T h k n) {pc q : Nat} {Ls : Array Slot} {st : List Value} {C owner : String} {x y : MethodName} {index W k1 n1 : Nat} {a : Addr} {argsL rest : List Value} {Q1 : Option Value → Heap → Prop} (hd : decode M.code pc = .ok (.invokevirtual index, 3)) (w1 : (Jvm.Cond.methodLink M.own index x).before G.a0 G.Z = true) (ws : (Jvm.Cond.sameMethod x.cls owner x.name x.desc).before G.a0 G.Z = true) (w2 : (Jvm.Cond.declares ⟨owner, x.name, x.desc⟩).before G.a0 G.Z = true) (hy : owner ≠ "java/lang/invoke/MethodHandle" ∧ owner ≠ "java/lang/invoke/VarHandle") (w3 : (Jvm.Cond.selects C x y).before G.a0 G.Z = true) (w4 : (Jvm.Cond.instanceMethod y).before G.a0 G.Z = true) (E : Exa G.Z h a C)
    (hst : st = argsL.reverse ++ .ref a :: rest) (hlen : ∀ sig, parseMethodDescriptor x.desc = some sig → argsL.length = sig.parameters.length) (hsz : Ls.size = M.mx) (hW : (rest.map fun v => v.category).sum ≤ W) (pay : Pay G R X y 3 W (.ref a :: argsL).toArray h k1 n1 Q1 vm) (hc : k + k1 ≤ R.cells) (hl : n + n1 ≤ R.slots) (hq : pc + 3 = q)
    (go : ∀ (vm' : Vm) (T' : State) (h' : Heap) (v : Option Value), Wk G M R X vm' T' h' (k + k1) (n + n1) → Q1 v h' → Go G R X Q (T'.setTop (mkF X.m q Ls (v.toList ++ rest)))) : Go G R X Q (T.setTop (mkF X.m pc Ls st)) := by
  subst hst hq
  obtain ⟨fx, k0, L, S, eh, hS, hk, hZ, hown, hF, ho, hch, hnw⟩ := w
  obtain ⟨cB, kB, b1, b2, b3⟩ := isOf (s := X.s.setVm vm) hZ eh E
  rcases pay with pay | ⟨hwd, pay⟩
  · obtain ⟨v, vm₁, B, -, X', post, st'⟩ := S.virtualBackUp fx.1 hown (mv (s := X.s.setVm vm) hZ w1) (mv (s := X.s.setVm vm) hZ ws) (mv (s := X.s.setVm vm) hZ w2) hy (mv (s := X.s.setVm vm) hZ w3) (mv (s := X.s.setVm vm) hZ w4) pay b1 b3 (g := mkF X.m pc Ls (argsL.reverse ++ .ref a :: rest)) rfl (hsz.trans fx.2.2.1.symm) (Steps.refl _) hlen rfl (by show 2 * 0 + _ ≤ _; omega) (hb fx.2.1 hd) (fun _ _ => ⟨rfl, eh, hc, hl⟩)
    obtain ⟨w2, q1⟩ := finN fx hS hk hZ hown hF hch hnw X' post
    exact (go _ _ _ v w2 q1).of fun t z => st'.trans z
  · obtain ⟨v, vm₁, B, -, X', hS', hgr, post, st'⟩ := S.virtualBackUpS fx.1 hown (mv (s := X.s.setVm vm) hZ w1) (mv (s := X.s.setVm vm) hZ ws) (mv (s := X.s.setVm vm) hZ w2) hy (mv (s := X.s.setVm vm) hZ w3) (mv (s := X.s.setVm vm) hZ w4) pay b1 b3 (g := mkF X.m pc Ls (argsL.reverse ++ .ref a :: rest)) rfl (hsz.trans fx.2.2.1.symm) (Steps.refl _) hlen rfl (by show 2 * 0 + _ ≤ _; omega) (hb fx.2.1 hd) (fun _ _ => ⟨rfl, eh, hc, hl⟩)
    obtain ⟨w2, q1⟩ := finW hwd fx hS hk hZ hown hF hch X' hS' (by rw [← eh]; exact hgr) post
    exact (go _ _ _ v w2 q1).of fun t z => st'.trans z
theorem heap_same {U U' : State} {o : Outcome} (F : FrameEnd U o U' [] 0 0) : U'.heap = U.heap := by
  obtain ⟨-, -, -, h2, h3, -, -, h4⟩ := F
  have h3' : U'.heap.size ≤ U.heap.size := h3
  refine Array.ext_getElem? fun i => ?_
  by_cases hi : i < U.heap.size
  · obtain ⟨c', q1, q2, q3, q4⟩ := h4 i _ (Array.getElem?_eq_getElem hi)
    have e : c'.slots = U.heap[i].slots := Array.ext_getElem? fun j => q4 j (fun z => nomatch z)
    rw [q1, Array.getElem?_eq_getElem hi, q2, e]
  · rw [Array.getElem?_eq_none (by omega), Array.getElem?_eq_none (by omega)]
theorem pay_cause (w : Wk G M R X vm T h k n) {W : Nat} {a : Addr} {c0 : Value} (wc : (Jvm.Cond.codeSync Jvm.RoadKit.gcN Jvm.RoadKit.gcB 1 (some (.object Bundle.tN))).before G.a0 G.Z = true) (wi : (Jvm.Cond.instanceMethod Jvm.RoadKit.gcN).before G.a0 G.Z = true) (wz : (Jvm.Cond.initialized Bundle.tN).before G.a0 G.Z = true) (wf : (Jvm.Cond.fieldLink Bundle.tN 7 Bundle.tN "cause" thD).before G.a0 G.Z = true)
    (N : Unt h a) (F : Fld G.Z h a Bundle.tN "cause" thD c0) (hc0 : c0.isRef = true) (hf : 1 ≤ R.frames) (hl : W + 12 ≤ R.locals) : Pay G R X Jvm.RoadKit.gcN 3 W #[.ref a] h 0 0 (vQ fun v h' => v = Jvm.RoadKit.gcV a c0 ∧ h = h') vm := by
  have hZ := w.wz
  refine Pay.pureV w (Pay.pure w ?_)
  exact Jvm.Free.XT.back_of_sync (bytes := Jvm.RoadKit.gcB) (maxL := 1) (ret := some (.object Bundle.tN)) (E := fun _ first o t L k n => L = [] ∧ k = 0 ∧ n = 0 ∧ o = .returned (some (Jvm.RoadKit.gcV a c0)) ∧ t.heap = first.heap) (gcMet (rm := { frames := 0, cells := 0, slots := 0, locals := 0 }) G.l (ws := [Jvm.Cond.instanceMethod Jvm.RoadKit.gcN]) (List.mem_cons_self ..) wf F hc0) hf hl
    (fun m meth c A as Y hp => have hU : G.Z.Warmed39 A.U.vm := wtrans (s := X.s.setVm vm) hZ Y.warmed
      ⟨by show (Jvm.Cond.and _ (Jvm.Cond.and _ .tt)).before as A.U = true; rw [Cond.before_and, Cond.before_and, mv hU wc, mv hU wi]; rfl, mv hU wc, mv hU wz, hp.2.2.1, hp.2.2.2⟩)
    (fun m meth c A as g mk Y hp => ⟨hp.1, wtrans (s := X.s.setVm vm) hZ Y.warmed, hp.2.1, by obtain ⟨cl, u1, -, u3⟩ := N; exact ⟨cl, u1, by rw [Cell.enterable, u3]; simp⟩⟩)
    (fun _ _ _ _ _ _ _ _ _ => trivial)
    (fun _ _ _ _ ⟨h1, h2, h3⟩ => ⟨[], 0, 0, h3, rfl, rfl, rfl, h1, heap_same h3⟩)
    (fun m meth c A as g mk v t L k n Y hp _ _ ⟨e1, e2, e3, e4, e5⟩ => by
      cases e4; subst e1 e2 e3
      exact ⟨[], ⟨⟨_, rfl, rfl⟩, rfl, e5.trans hp.2.1⟩, rfl, rfl, rfl⟩)
theorem Wk.clone (w : Wk G M R X vm T h k n) {pc q index W : Nat} {Ls : Array Slot} {rest : List Value} {a : Addr} {kc : ClassId} {z : Int32} {vs : List Value} {dv : Value} {ad : String} {ty : FieldType} (cap : Nat) (hd : decode M.code pc = .ok (.invokevirtual index, 3))
    (w1 : (Jvm.Cond.methodLink M.own index ⟨ad, "clone", "()Ljava/lang/Object;"⟩).before G.a0 G.Z = true) (w2 : (Jvm.Cond.sameMethod ad "java/lang/Object" "clone" "()Ljava/lang/Object;").before G.a0 G.Z = true) (w3 : (Jvm.Cond.native ⟨"java/lang/Object", "clone", "()Ljava/lang/Object;"⟩).before G.a0 G.Z = true) (w4 : (Jvm.Cond.instanceMethod ⟨"java/lang/Object", "clone", "()Ljava/lang/Object;"⟩).before G.a0 G.Z = true) (w5 : (Jvm.Cond.selects ad ⟨ad, "clone", "()Ljava/lang/Object;"⟩ ⟨"java/lang/Object", "clone", "()Ljava/lang/Object;"⟩).before G.a0 G.Z = true) (w6 : (Jvm.Cond.castable ad "java/lang/Cloneable").before G.a0 G.Z = true)
    (A : Arv G.Z h a kc ty z vs dv) (E : Exa G.Z h a ad) (hsz : Ls.size = M.mx) (hf : 1 ≤ R.frames) (hW : (rest.map fun v => v.category).sum ≤ W) (hl : W + 14 ≤ R.locals) (hcap : z.toNatClampNeg ≤ cap) (hc : k + 1 ≤ R.cells) (hsl : n + cap ≤ R.slots) (hq : pc + 3 = q)
    (go : ∀ (T' : State) (h' : Heap) (b : Nat), b = h.size → Wk G M R X vm T' h' (k + 1) (n + cap) → Ext h h' → Arv G.Z h' b kc ty z vs dv → Exa G.Z h' b ad → Go G R X Q (T'.setTop (mkF X.m q Ls (.ref b :: rest)))) : Go G R X Q (T.setTop (mkF X.m pc Ls (.ref a :: rest))) := by
  subst hq
  obtain ⟨fx, k0, L, S, eh, hS, hk, hZ, hown, hF, ho, hch, hnw⟩ := w
  obtain ⟨T', h', X', e', Ex, A', E', st'⟩ := Jvm.RoadKit.cloneH S fx.1 hZ hown w1 w2 w3 w4 w5 w6 eh (Arv.arh A) E (g := mkF X.m pc Ls (.ref a :: rest)) rfl (hsz.trans fx.2.2.1.symm) rfl (hb fx.2.1 hd) hf (W := W) (by show 2 * 0 + _ ≤ _; omega) hl hcap hc hsl
  exact (go T' h' h.size rfl ⟨fx, k0, L, X', e', hS, Nat.le_trans hk Ex.1, hZ, hown, hF, ho.ext Ex, fun b => (hch b).trans (CHr.ext Ex (hch b).1), hnw⟩ Ex A' E').of st'
theorem Wk.newPX (w : Wk G M R X vm T h k n) {pc q : Nat} {Ls : Array Slot} {st : List Value} {aty : ArrayType} {N : Int32} {ad : String} (cap : Nat) (hd : decode M.code pc = .ok (.newarray aty, 2)) (w1 : (Jvm.Cond.arrayClass (newarray.typeOf aty)).before G.a0 G.Z = true) (had : "[" ++ (newarray.typeOf aty).toString = ad) (hN : ¬ N < 0) (hcap : N.toNatClampNeg ≤ cap) (hb8 : cap * 8 ≤ 536870912) (hc : k + 1 ≤ R.cells) (hl : n + cap ≤ R.slots) (hq : pc + 2 = q)
    (go : ∀ (T' : State) (h' : Heap) (b : Nat) (kc : ClassId), b = h.size → Wk G M R X vm T' h' (k + 1) (n + cap) → Ext h h' → Arv G.Z h' b kc (newarray.typeOf aty) N [] (defaultValue (newarray.typeOf aty)) → Exa G.Z h' b ad → (G.wd = true → Safe G.Z G.EL vm h' b) → Go G R X Q (T'.setTop (mkF X.m q Ls (.ref b :: st)))) : Go G R X Q (T.setTop (mkF X.m pc Ls (.int N :: st))) := by
  subst hq
  obtain ⟨fx, k0, L, S, eh, hS, hk, hZ, hown, hF, ho, hch, hnw⟩ := w
  obtain ⟨T', h', kc, X', e', E, A, Ea, st'⟩ := Jvm.RoadKit.newPE S fx.1 hZ w1 eh (g := mkF X.m pc Ls (.int N :: st)) rfl (hb fx.2.1 hd) rfl hN (cap := cap) hcap hb8 hc hl had
  exact (go T' h' h.size kc rfl ⟨fx, k0, L, X', e', hS, Nat.le_trans hk E.1, hZ, hown, hF, ho.ext E, fun b => (hch b).trans (CHr.ext E (hch b).1), hnw⟩ E (Arv.new A hN) Ea (fun b => Safe.ext E (hch b).1 (Safe.new (Nat.le_refl _)))).of st'
end ExcL

section SafeCont
theorem safe_cont {Z : State} {a0 : Array Value} {EL : List (String × Nat)} {vm : Vm} {h : Heap} {x : Addr} {kc : ClassId} {N : Int32} {vs : List Value} {dv : Value} (hal : Z.vm.Alike vm) (hE : EW Z a0 EL) (A : Arv Z h x kc .byte N vs dv)
    (hN : ∀ p ∈ EL, ∀ text : String, (Jvm.Cond.stringLink p.1 p.2 text).before a0 Z = true → text.toList.length ≠ N.toNatClampNeg ∨ ∃ (i : Nat) (c : Char), text.toList[i]? = some c ∧ vs.getD i dv ≠ Value.int (Jvm.Lit.byteI c.toNat.toUInt16)) : Safe Z EL vm h x := fun B => by
  obtain ⟨cl, ⟨A1, ⟨-, kA, hkA, compA, hkindA⟩, -⟩, -, sz, -, hHas, -⟩ := A
  obtain ⟨kA', hkA', ekA⟩ := hal.2.2 _ _ hkA
  obtain ⟨p, hp, u, a, hb, q, -, F, rfl | rfl⟩ := B
  · cases (show h[q.sa]? = some q.sC from F.ha).symm.trans A1
    obtain ⟨cS, ⟨-, -, e⟩, ⟨kS, g1, g2, -⟩, -⟩ := F
    subst e
    cases (show vm.classes[q.sC.cls]? = some kS from g1).symm.trans hkA'
    rw [ekA] at g2
    cases hkindA.symm.trans g2
  · cases (show h[q.sd]? = some q.SA from F.hd).symm.trans A1
    obtain ⟨cS, -, -, -, hbyt⟩ := F
    obtain ⟨text, w, ht⟩ := hE p hp
    obtain ⟨c, k, cf, i, b1, b2, b3, b4, b5, -⟩ := hb
    rw [hal.findClass] at b1
    obtain ⟨k0, cf0, i0, units, c1, c2, c3, c4, -, c5, -⟩ := Cond.stringLink_spec b1 w
    obtain ⟨k', d1, d2⟩ := hal.2.2 _ _ c1
    cases d1.symm.trans b2
    have e1 : cf0 = cf := by
      have : k.cf = k0.cf := by rw [d2]
      rw [b3, c2] at this; exact (Option.some.inj this).symm
    subst e1
    cases b4.symm.trans c3
    cases b5.symm.trans c4
    have hlat := Jvm.ClassFile.lat_of_text c5 ht
    have hu := Jvm.ClassFile.units_of_text c5 ht
    have hsl : q.SA.slots = u.map (fun z => Value.int (Jvm.Lit.byteI z)) := by rw [hbyt, Jvm.Free.SBG.stringBytes_lat hlat]; rfl
    have hlen : q.SA.slots.size = text.toList.length := by
      rw [hsl, Array.size_map]
      have := congrArg List.length hu
      simpa using this
    rcases hN p hp text w with r | ⟨j, ch, r1, r2⟩
    · exact r (hlen.symm.trans sz)
    · have hj : j < q.SA.slots.size := by rw [hlen]; exact (List.getElem?_eq_some_iff.mp r1).1
      have e2 := hHas j hj
      rw [hsl, Array.getElem?_map] at e2
      have e3 : u[j]? = some ch.toNat.toUInt16 := by
        rw [← Array.getElem?_toList, hu]
        simp [r1]
      rw [e3] at e2
      exact r2 (Option.some.inj e2).symm
variable {G : Gx} {M : Md} {R : Room} {X : Cx} {vm : Vm} {T : State} {h : Heap} {k n : Nat} {Q : Option Value → Heap → Prop}
theorem Wk.sfC (w : Wk G M R X vm T h k n) {x : Addr} {kc : ClassId} {N : Int32} {vs : List Value} {dv : Value} (A : Arv G.Z h x kc .byte N vs dv) (hN : ∀ p ∈ G.EL, ∀ text : String, (Jvm.Cond.stringLink p.1 p.2 text).before G.a0 G.Z = true → text.toList.length ≠ N.toNatClampNeg ∨ ∃ (i : Nat) (c : Char), text.toList[i]? = some c ∧ vs.getD i dv ≠ Value.int (Jvm.Lit.byteI c.toNat.toUInt16)) : G.wd = true → Safe G.Z G.EL vm h x := fun _ => safe_cont w.wz.alike w.hEL A hN
end SafeCont

section Bld
variable {G : Gx} {M : Md} {R : Room} {X : Cx} {vm : Vm} {T : State} {h : Heap} {k n : Nat} {Q : Option Value → Heap → Prop}
theorem notFace_of_cls {Z : State} {a0 : Array Value} {y y2 : MethodName} {C : String} (ws : (Jvm.Cond.selects C y2 y2).before a0 Z = true) (hc : y2.cls = y.cls) : NotFace Z y := fun r0 h0 => by
  obtain ⟨c2, r2, m2, q1, q2, q3, q4, kP, hkP, hkPi⟩ := Cond.selects_spec ws
  have f1 := findClass_of_methodNamed h0
  have f2 := findClass_of_methodNamed q3
  rw [hc] at f2
  have e : m2.cls = r0.cls := Option.some.inj (f2.symm.trans f1)
  exact ⟨kP, e ▸ hkP, hkPi⟩
/-- invokevirtual of a private method of a class that need not be instantiable -/
theorem Wk.callPs (w : Wk G M R X vm T h k n) {pc q : Nat} {Ls : Array Slot} {st : List Value} {C C0 : String} {y : MethodName} {bytes : ByteArray} {maxL : Nat} {ret : Option FieldType} {index W k1 n1 : Nat} {a : Addr} {argsL rest : List Value} {Q1 : Option Value → Heap → Prop} (hd : decode M.code pc = .ok (.invokevirtual index, 3)) (w1 : (Jvm.Cond.methodLink M.own index y).before G.a0 G.Z = true) (w2 : (Jvm.Cond.instanceMethod y).before G.a0 G.Z = true) (w3 : (Jvm.Cond.privateMethod y).before G.a0 G.Z = true) (w4 : (Jvm.Cond.code y bytes maxL ret).before G.a0 G.Z = true) (w5 : (Jvm.Cond.selects C0 y y).before G.a0 G.Z = true) (hy : y.cls ≠ "java/lang/invoke/MethodHandle" ∧ y.cls ≠ "java/lang/invoke/VarHandle") (E : Exa G.Z h a C)
    (hst : st = argsL.reverse ++ .ref a :: rest) (hlen : ∀ sig, parseMethodDescriptor y.desc = some sig → argsL.length = sig.parameters.length) (hsz : Ls.size = M.mx) (hW : (rest.map fun v => v.category).sum ≤ W) (pay : Pay G R X y 3 W (.ref a :: argsL).toArray h k1 n1 Q1 vm) (hc : k + k1 ≤ R.cells) (hl : n + n1 ≤ R.slots) (hq : pc + 3 = q)
    (go : ∀ (vm' : Vm) (T' : State) (h' : Heap) (v : Option Value), Wk G M R X vm' T' h' (k + k1) (n + n1) → Q1 v h' → Go G R X Q (T'.setTop (mkF X.m q Ls (v.toList ++ rest)))) : Go G R X Q (T.setTop (mkF X.m pc Ls st)) := by
  subst hst hq
  obtain ⟨fx, k0, L, S, eh, hS, hk, hZ, hown, hF, ho, hch, hnw⟩ := w
  obtain ⟨c2, r2, m2, q1, q2, q3, q4, kP, hkP, hkPi⟩ := Cond.selects_spec (mv (s := X.s.setVm vm) (args := X.args) hZ w5)
  have hpriv := Cond.privateMethod_at (mvP (s := X.s.setVm vm) (args := X.args) hZ w3)
  have hinst := mv (s := X.s.setVm vm) (args := X.args) hZ w2
  have hsel := Jvm.Stand.selects_self_of_private (findClass_of_methodNamed q3) hkP hkPi hpriv hinst hy
  obtain ⟨cell, c1, c2⟩ := E.cell
  rcases pay with pay | ⟨hwd, pay⟩
  · obtain ⟨v, vm₁, B, -, X', post, st'⟩ := S.privateBack fx.1 hown (mv (s := X.s.setVm vm) hZ w1) hinst hsel hpriv (mv (s := X.s.setVm vm) hZ w4) hy pay (g := mkF X.m pc Ls (argsL.reverse ++ .ref a :: rest)) rfl (hsz.trans fx.2.2.1.symm) (Steps.refl _) (a := a) (cell := cell) (by rw [eh]; exact c1) c2 hlen rfl (by show 2 * 0 + _ ≤ _; omega) (hb fx.2.1 hd) (fun _ _ => ⟨rfl, eh, hc, hl⟩)
    obtain ⟨w2, q1⟩ := finN fx hS hk hZ hown hF hch hnw X' post
    exact (go _ _ _ v w2 q1).of fun t z => st'.trans z
  · obtain ⟨v, vm₁, B, -, X', hS', hgr, post, st'⟩ := S.privateBackS fx.1 hown (mv (s := X.s.setVm vm) hZ w1) hinst hsel hpriv (mv (s := X.s.setVm vm) hZ w4) hy pay (g := mkF X.m pc Ls (argsL.reverse ++ .ref a :: rest)) rfl (hsz.trans fx.2.2.1.symm) (Steps.refl _) (a := a) (cell := cell) (by rw [eh]; exact c1) c2 hlen rfl (by show 2 * 0 + _ ≤ _; omega) (hb fx.2.1 hd) (fun _ _ => ⟨rfl, eh, hc, hl⟩)
    obtain ⟨w2, q1⟩ := finW hwd fx hS hk hZ hown hF hch X' hS' (by rw [← eh]; exact hgr) post
    exact (go _ _ _ v w2 q1).of fun t z => st'.trans z
theorem neN {x y : Nat} (q : x ≠ y) : (x : Addr) ≠ (y : Addr) := q
theorem nin2 {x y z : Nat} (q : x ≠ y ∧ x ≠ z) : x ∉ ([y, z] : List Addr) := fun w => by
  rcases List.mem_cons.mp w with r | r
  · exact q.1 r
  · exact q.2 (List.mem_singleton.mp r)
theorem all2 {P : Addr → Prop} {a b : Addr} (q : P a) (r : P b) : ∀ x ∈ [a, b], P x := fun x hx => by
  rcases List.mem_cons.mp hx with rfl | hx
  · exact q
  · cases List.mem_singleton.mp hx; exact r
end Bld
section Bld2
theorem StrAt.open0 {Z : State} {h : Heap} {a : Addr} {cs : List Int32} (S : StrAt Z h a 0 cs) : ∃ (t : Addr) (kb : ClassId), Exa Z h a "java/lang/String" ∧ Fld Z h a "java/lang/String" "value" "[B" (.ref t) ∧ Fld Z h a "java/lang/String" "coder" "B" (.int (0 : Int32)) ∧ Arv Z h t kb .byte (Int32.ofNat cs.length) (cs.map fun c => Value.int (StrChars.lo8 c)) (.int 0) ∧ (∀ c ∈ cs, ¬ c < 0 ∧ ¬ (255 : Int32) < c) := by
  obtain ⟨t, kb, N, vs, h1, h2, h3, h4, h5, h6, h7⟩ := S
  rcases h5 with ⟨-, rfl, rfl, q⟩ | ⟨q, -⟩
  · exact ⟨t, kb, h1, h2, h3, h4, fun c hc => ⟨(h6 c hc).1, q c hc⟩⟩
  · exact absurd q (by decide)
def SBd (Z : State) (h : Heap) (b ar : Nat) (kc : ClassId) (cs : List Int32) : Prop := Exa Z h b "java/lang/StringBuilder" ∧ Fld Z h b "java/lang/AbstractStringBuilder" "value" "[B" (.ref ar) ∧ Fld Z h b "java/lang/AbstractStringBuilder" "coder" "B" (.int (0 : Int32)) ∧ Fld Z h b "java/lang/AbstractStringBuilder" "count" "I" (.int (Int32.ofNat cs.length)) ∧ ∃ tl : List Value, cs.length + tl.length = 16 ∧ Arv Z h ar kc .byte (16 : Int32) ((cs.map fun c => Value.int (StrChars.lo8 c)) ++ tl) (.int (0 : Int32))
variable {Z : State} {h h' : Heap} {b ar : Nat} {kc : ClassId} {cs : List Int32}
theorem SBd.ext (B : SBd Z h b ar kc cs) (E : Ext h h') : SBd Z h' b ar kc cs := by
  obtain ⟨h1, h2, h3, h4, tl, h5, h6⟩ := B; exact ⟨h1.ext E, h2.ext E, h3.ext E, h4.ext E, tl, h5, h6.ext E⟩
theorem SBd.keep {ws : List Addr} (B : SBd Z h b ar kc cs) (K : Keep h h' ws) (q : b ∉ ws) (r : ar ∉ ws) : SBd Z h' b ar kc cs := by
  obtain ⟨h1, h2, h3, h4, tl, h5, h6⟩ := B; exact ⟨h1.keep K, h2.keep K q, h3.keep K q, h4.keep K q, tl, h5, h6.keep K r⟩
theorem SBd.lt (B : SBd Z h b ar kc cs) : b < h.size := B.1.lt
theorem SBd.lt2 (B : SBd Z h b ar kc cs) : ar < h.size := by obtain ⟨-, -, -, -, tl, -, h6⟩ := B; exact h6.lt
end Bld2

end Own
end Jvm.Pilot.@@N@@
namespace Jvm.Pilot.@@N@@
open Jvm Jvm.ClassFile Sem Op Lib Jvm.Free Jvm.Stand Jvm.LawKit Jvm.RoadKit Bundle Jvm.Pilot.@@N@@.Jvm.D Own
theorem ti (n : Nat) (h : n < 2147483648) : (Int32.ofNat n).toInt = n := Int32.toInt_ofNat_of_lt h
theorem cln {n : Nat} (h : n < 2147483648) : (Int32.ofNat n).toNatClampNeg = n := by
  show (Int32.ofNat n).toInt.toNat = n
  rw [ti n h]; rfl
theorem nn0 {n : Nat} (h : n < 2147483648) : ¬ Int32.ofNat n < 0 := by
  rw [Int32.lt_iff_toInt_lt, ti n h]
  have : (0 : Int32).toInt = 0 := rfl
  omega
theorem oflt {n m : Nat} (h1 : n < m) (h : m < 2147483648) : Int32.ofNat n < Int32.ofNat m := by
  rw [Int32.lt_iff_toInt_lt, ti n (by omega), ti m h]; omega
theorem ofne {n m : Nat} (h1 : n ≠ m) (h2 : n < 2147483648) (h : m < 2147483648) : ¬ Int32.ofNat n = Int32.ofNat m := fun q => by
  have := congrArg Int32.toInt q
  rw [ti n h2, ti m h] at this; omega
theorem ofadd (a b : Nat) : Int32.ofNat a + Int32.ofNat b = Int32.ofNat (a + b) := (Int32.ofNat_add a b).symm
theorem ofpred (n : Nat) : Int32.ofNat (n + 1) + (-1 : Int32) = Int32.ofNat n := by
  rw [Int32.ofNat_add]
  have : Int32.ofNat 1 = 1 := rfl
  rw [this]; grind
theorem shl0 (p : Int32) : p <<< ((0 : Int32) &&& 31) = p := by
  have : ((0 : Int32) &&& 31) = 0 := by decide
  rw [this]; simp
theorem sub0 (p : Int32) : p - (0 : Int32) = p := by simp
theorem ens_ok {n : Nat} (h : n ≤ 16) : ¬ (0 : Int32) < Int32.ofNat n - (16 : Int32) := by
  rw [Int32.lt_iff_toInt_lt, Int32.toInt_sub, ti n (by omega)]
  have e1 : (16 : Int32).toInt = 16 := rfl
  have e2 : (0 : Int32).toInt = 0 := rfl
  rw [e1, e2]; simp only [Int.bmod_def]; omega
theorem tneg {m : Nat} (h : m ≤ 100000) : (-(Int32.ofNat m)).toInt = -(m : Int) := by
  rw [Int32.toInt_neg, ti m (by omega)]; simp only [Int.bmod_def]; omega
theorem neglt {m K : Nat} (h : m ≤ 100000) (hK : K ≤ 100000) (q : m < K) : -(Int32.ofNat K) < -(Int32.ofNat m) := by
  rw [Int32.lt_iff_toInt_lt, tneg h, tneg hK]; omega
theorem negge {m K : Nat} (h : m ≤ 100000) (hK : K ≤ 100000) (q : K ≤ m) : ¬ -(Int32.ofNat K) < -(Int32.ofNat m) := by
  rw [Int32.lt_iff_toInt_lt, tneg h, tneg hK]; omega
theorem negneg (a : Int32) : -(-a) = a := by grind
theorem divh {m : Nat} (h : m ≤ 100000) : -(Int32.ofNat m) / (100 : Int32) = -(Int32.ofNat (m / 100)) := by
  apply Int32.toInt_inj.mp
  rw [Int32.toInt_div, tneg h, tneg (by omega)]
  have e1 : (100 : Int32).toInt = 100 := rfl
  rw [e1, Int.neg_tdiv, Int.tdiv_eq_ediv_of_nonneg (by omega)]
  simp only [Int.bmod_def]; omega
theorem remh {m : Nat} (h : m ≤ 100000) : -(Int32.ofNat (m / 100)) * (100 : Int32) - -(Int32.ofNat m) = Int32.ofNat (m % 100) := by
  apply Int32.toInt_inj.mp
  rw [Int32.toInt_sub, Int32.toInt_mul, tneg h, tneg (by omega), ti _ (by omega)]
  have e1 : (100 : Int32).toInt = 100 := rfl
  rw [e1]; simp only [Int.bmod_def]; omega
theorem set_at {α : Type} (p l : List α) (j : Nat) (v : α) : (p ++ l).set (p.length + j) v = p ++ l.set j v := by
  rw [List.set_append_right _ _ (by omega)]; congr 1; congr 1; omega
theorem us_take {α : Type} (vs : List α) (dv : α) (n : Nat) (h : n ≤ vs.length) : vs.take n = (List.range n).map fun i => vs.getD (0 + i) dv := by
  apply List.ext_getElem
  · simp; omega
  · intro i h1 h2
    simp at h1 h2
    simp [List.getElem?_eq_getElem (show i < vs.length by omega)]
theorem us_all {α : Type} (vs : List α) (dv : α) : vs = (List.range vs.length).map fun i => vs.getD (0 + i) dv := by
  have := us_take vs dv vs.length (Nat.le_refl _)
  rwa [List.take_length] at this
theorem app_list {α β : Type} (f : α → β) (cs ds : List α) (tl : List β) : (cs.map f ++ tl).take cs.length ++ ds.map f ++ (cs.map f ++ tl).drop (cs.length + (ds.map f).length) = (cs ++ ds).map f ++ tl.drop ds.length := by
  have e : cs.length = (cs.map f).length := (List.length_map f).symm
  rw [List.map_append, List.length_map]
  congr 1
  · congr 1
    conv => lhs; rw [e]
    rw [List.take_left]
  · rw [List.drop_append]
    simp
theorem lo58 {c : Int32} (h : ¬ c < 0 ∧ ¬ (255 : Int32) < c) : StrChars.lo8 c = 58 ↔ c = 58 := by
  have t : ∀ k : Fin 256, StrChars.lo8 (Int32.ofNat k.val) = 58 ↔ Int32.ofNat k.val = 58 := by decide +kernel
  have e1 : (0 : Int32).toInt = 0 := rfl
  have e2 : (255 : Int32).toInt = 255 := rfl
  rw [Int32.lt_iff_toInt_lt, Int32.lt_iff_toInt_lt, e1, e2] at h
  have e : c = Int32.ofNat c.toInt.toNat := by
    apply Int32.toInt_inj.mp
    rw [ti _ (by omega)]; omega
  rw [e]
  exact t ⟨c.toInt.toNat, by omega⟩
def D (k : Nat) : Int32 := Int32.ofNat (48 + k % 10)
def dig (m : Nat) : List Int32 := if m < 10 then [D m] else if m < 100 then [D (m/10), D m] else if m < 1000 then [D (m/100), D (m/10), D m] else if m < 10000 then [D (m/1000), D (m/100), D (m/10), D m] else [D (m/10000), D (m/1000), D (m/100), D (m/10), D m]
theorem dig_lat (m : Nat) : ∀ c ∈ dig m, ¬ c < 0 ∧ ¬ (255 : Int32) < c := by
  have t : ∀ k : Nat, ¬ D k < 0 ∧ ¬ (255 : Int32) < D k := fun k => by
    have t : ∀ k : Fin 10, ¬ Int32.ofNat (48 + k.val) < 0 ∧ ¬ (255 : Int32) < Int32.ofNat (48 + k.val) := by decide +kernel
    exact t ⟨k % 10, by omega⟩
  intro c hc
  unfold dig at hc
  split at hc
  · simp at hc; subst hc; exact t _
  split at hc
  · simp at hc; rcases hc with rfl | rfl <;> exact t _
  split at hc
  · simp at hc; rcases hc with rfl | rfl | rfl <;> exact t _
  split at hc
  · simp at hc; rcases hc with rfl | rfl | rfl | rfl <;> exact t _
  · simp at hc; rcases hc with rfl | rfl | rfl | rfl | rfl <;> exact t _
theorem dig_len (m : Nat) : 1 ≤ (dig m).length ∧ (dig m).length ≤ 5 := by
  unfold dig; split; simp; split; simp; split; simp; split; simp; simp
theorem divof {m K : Nat} (h : m ≤ 100000) (h0 : 0 < K) (hK : K ≤ 100000) : Int32.ofNat m / Int32.ofNat K = Int32.ofNat (m / K) := by
  apply Int32.toInt_inj.mp
  have := Nat.div_le_self m K
  rw [Int32.toInt_div, ti m (by omega), ti _ (by omega), ti _ (by omega)]
  rw [Int.tdiv_eq_ediv_of_nonneg (by omega)]
  have e : ((m : Int) / (K : Int)) = ((m / K : Nat) : Int) := by simp
  rw [e]
  generalize m / K = z at *
  simp only [Int.bmod_def]; omega
theorem modof {m : Nat} (h : m ≤ 100000) : Int32.ofNat m % (10 : Int32) = Int32.ofNat (m % 10) := by
  apply Int32.toInt_inj.mp
  rw [Int32.toInt_mod, ti m (by omega), ti _ (by omega)]
  have e1 : (10 : Int32).toInt = 10 := rfl
  rw [e1, Int.tmod_eq_emod_of_nonneg (by omega)]
  omega
theorem dchr (k : Nat) : ((48 : Int32) + Int32.ofNat (k % 10)).toUInt32.toUInt16.toUInt32.toInt32 = D k := by
  have t : ∀ k : Fin 10, ((48 : Int32) + Int32.ofNat k.val).toUInt32.toUInt16.toUInt32.toInt32 = Int32.ofNat (48 + k.val) := by decide +kernel
  exact t ⟨k % 10, by omega⟩
theorem modn (x : Int32) : ∃ z, z = (1 : Int32) + (x &&& 3) % 3 ∧ (z = 1 ∨ z = 2 ∨ z = 3) := by
  refine ⟨_, rfl, ?_⟩
  have h : (x &&& 3).toBitVec.toNat < 4 := by
    simp only [Int32.toBitVec_and, BitVec.toNat_and]
    exact Nat.lt_succ_of_le Nat.and_le_right
  have e : (x &&& 3) = Int32.ofNat (x &&& 3).toBitVec.toNat := by
    apply Int32.toBitVec_inj.mp
    show _ = BitVec.ofNat 32 _
    rw [BitVec.ofNat_toNat]; simp
  rw [e]
  have t : ∀ k : Fin 4, (1 : Int32) + (Int32.ofNat k.val) % 3 = 1 ∨ (1 : Int32) + (Int32.ofNat k.val) % 3 = 2 ∨ (1 : Int32) + (Int32.ofNat k.val) % 3 = 3 := by decide +kernel
  exact t ⟨_, h⟩
theorem mask16 (x : Int32) : ∃ m : Nat, m ≤ 65535 ∧ x &&& 65535 = Int32.ofNat m := by
  refine ⟨(x &&& 65535).toBitVec.toNat, ?_, ?_⟩
  · simp only [Int32.toBitVec_and, BitVec.toNat_and]
    exact Nat.and_le_right
  · apply Int32.toBitVec_inj.mp
    show _ = BitVec.ofNat 32 _
    rw [BitVec.ofNat_toNat]; simp
theorem oflt_iff {n m : Nat} (h1 : n < 2147483648) (h : m < 2147483648) : Int32.ofNat n < Int32.ofNat m ↔ n < m := by
  rw [Int32.lt_iff_toInt_lt, ti n h1, ti m h]; omega
theorem len_k {α : Type} (l : List α) (n : Nat) (h : n ≤ l.length) : ∃ a r, a.length = n ∧ l = a ++ r := ⟨l.take n, l.drop n, by simp; omega, by simp⟩
theorem c1_ {α : Type} {l : List α} (h : 1 ≤ l.length) : ∃ a r, l = a :: r := by
  cases l with
  | nil => simp at h
  | cons a r => exact ⟨a, r, rfl⟩
theorem c2_ {α : Type} {l : List α} (h : 2 ≤ l.length) : ∃ a b r, l = a :: b :: r := by
  obtain ⟨a, r, rfl⟩ := c1_ (l := l) (by omega)
  obtain ⟨b, r, rfl⟩ := c1_ (l := r) (by simp at h; omega)
  exact ⟨a, b, r, rfl⟩
theorem c3_ {α : Type} {l : List α} (h : 3 ≤ l.length) : ∃ a b c r, l = a :: b :: c :: r := by
  obtain ⟨a, b, r, rfl⟩ := c2_ (l := l) (by omega)
  obtain ⟨c, r, rfl⟩ := c1_ (l := r) (by simp at h; omega)
  exact ⟨a, b, c, r, rfl⟩
theorem c4_ {α : Type} {l : List α} (h : 4 ≤ l.length) : ∃ a b c d r, l = a :: b :: c :: d :: r := by
  obtain ⟨a, b, c, r, rfl⟩ := c3_ (l := l) (by omega)
  obtain ⟨d, r, rfl⟩ := c1_ (l := r) (by simp at h; omega)
  exact ⟨a, b, c, d, r, rfl⟩
theorem c5_ {α : Type} {l : List α} (h : 5 ≤ l.length) : ∃ a b c d e r, l = a :: b :: c :: d :: e :: r := by
  obtain ⟨a, b, c, d, r, rfl⟩ := c4_ (l := l) (by omega)
  obtain ⟨e, r, rfl⟩ := c1_ (l := r) (by simp at h; omega)
  exact ⟨a, b, c, d, e, r, rfl⟩
theorem ofnlt {n m : Nat} (h1 : n ≤ m) (h : m < 2147483648) : ¬ Int32.ofNat m < Int32.ofNat n := fun q => by
  rw [Int32.lt_iff_toInt_lt, ti n (by omega), ti m h] at q; omega
theorem ofsucc (n : Nat) : Int32.ofNat n + (1 : Int32) = Int32.ofNat (n + 1) := (Int32.ofNat_add n 1).symm
theorem lat_app {a b : List Int32} (ha : ∀ c ∈ a, ¬ c < 0 ∧ ¬ (255 : Int32) < c) (hb : ∀ c ∈ b, ¬ c < 0 ∧ ¬ (255 : Int32) < c) : ∀ c ∈ a ++ b, ¬ c < 0 ∧ ¬ (255 : Int32) < c := fun c hc => (List.mem_append.mp hc).elim (ha c) (hb c)
theorem dchr2 {m K : Nat} (h : m ≤ 100000) (h0 : 0 < K) (hK : K ≤ 100000) : ((48 : Int32) + ((Int32.ofNat m / Int32.ofNat K) % (10 : Int32))).toUInt32.toUInt16.toUInt32.toInt32 = D (m / K) := by
  rw [divof h h0 hK, modof (by have := Nat.div_le_self m K; omega)]; exact dchr _
theorem shl1 {k : Nat} (h : k ≤ 40) : (Int32.ofNat k) <<< ((1 : Int32) &&& 31) = Int32.ofNat (2 * k) :=
  (by decide +kernel : ∀ k : Fin 41, (Int32.ofNat k.val) <<< ((1 : Int32) &&& 31) = Int32.ofNat (2 * k.val)) ⟨k, by omega⟩
theorem shr0 (c : Int32) : c >>> ((0 : Int32) &&& 31) = c := by
  have : ((0 : Int32) &&& 31) = 0 := by decide
  rw [this]; simp
theorem lo8i (c : Int32) : (StrChars.lo8 c).toInt8.toInt32 = StrChars.lo8 c := by unfold StrChars.lo8; simp
theorem cfa0 (n : Nat) : ((((Int32.ofNat n) - (Int32.ofNat n)).toUInt32 >>> ((31 : Int32) &&& 31).toUInt32).toInt32).toInt8.toInt32 = 0 := by
  rw [Int32.sub_self]; decide
theorem cfa1 {n : Nat} (h : 1 ≤ n ∧ n ≤ 18) : ((((Int32.ofNat n) - (Int32.ofNat (2 * n))).toUInt32 >>> ((31 : Int32) &&& 31).toUInt32).toInt32).toInt8.toInt32 = 1 := by
  have t : ∀ k : Fin 18, ((((Int32.ofNat (k.val + 1)) - (Int32.ofNat (2 * (k.val + 1)))).toUInt32 >>> ((31 : Int32) &&& 31).toUInt32).toInt32).toInt8.toInt32 = 1 := by decide +kernel
  have := t ⟨n - 1, by omega⟩
  simpa [show n - 1 + 1 = n from by omega] using this
theorem mapset {α β : Type} (f : α → β) (p : List α) (c : α) (x : β) (r : List β) : (p.map f ++ x :: r).set p.length (f c) = (p ++ [c]).map f ++ r := by
  have e : p.length = (p.map f).length := (List.length_map f).symm
  rw [e, List.set_append_right _ _ (Nat.le_refl _)]
  simp
theorem take_snoc {α : Type} (cs : List α) (d : α) {k : Nat} (h : k < cs.length) : cs.take k ++ [cs.getD k d] = cs.take (k + 1) := by
  rw [List.take_succ_eq_append_getElem h]
  simp [List.getD_eq_getElem?_getD, h]
theorem getD_map {α β : Type} (f : α → β) (cs : List α) (d : α) (e : β) {k : Nat} (h : k < cs.length) : (cs.map f).getD k e = f (cs.getD k d) := by
  simp [List.getD_eq_getElem?_getD, h]
theorem mem_getD {α : Type} (cs : List α) (d : α) {k : Nat} (h : k < cs.length) : cs.getD k d ∈ cs := by
  rw [List.getD_eq_getElem?_getD, List.getElem?_eq_getElem h]; exact List.getElem_mem h
theorem lo255 {c : Int32} (h : ¬ c < 0 ∧ ¬ (255 : Int32) < c) : StrChars.lo8 c &&& 255 = c := by
  have t : ∀ k : Fin 256, StrChars.lo8 (Int32.ofNat k.val) &&& 255 = Int32.ofNat k.val := by decide +kernel
  have e1 : (0 : Int32).toInt = 0 := rfl
  have e2 : (255 : Int32).toInt = 255 := rfl
  rw [Int32.lt_iff_toInt_lt, Int32.lt_iff_toInt_lt, e1, e2] at h
  have e : c = Int32.ofNat c.toInt.toNat := by
    apply Int32.toInt_inj.mp
    rw [ti _ (by omega)]; omega
  rw [e]
  exact t ⟨c.toInt.toNat, by omega⟩
theorem repl_last {α : Type} (p : List α) (j : Nat) (z d : α) (h : 1 ≤ j) : (p ++ List.replicate j z).getD (p.length + j - 1) d = z := by
  rw [List.getD_eq_getElem?_getD, List.getElem?_append_right (by omega)]
  rw [List.getElem?_replicate, if_pos (by omega)]; rfl
theorem ch16 (x : Int32) : ¬ (x &&& 65535).toUInt32.toUInt16.toUInt32.toInt32 < 0 ∧ ¬ (65535 : Int32) < (x &&& 65535).toUInt32.toUInt16.toUInt32.toInt32 := by
  have e1 : (0 : Int32).toInt = 0 := rfl
  have e2 : (65535 : Int32).toInt = 65535 := rfl
  rw [Int32.lt_iff_toInt_lt, Int32.lt_iff_toInt_lt, e1, e2]
  have : (x &&& 65535).toUInt32.toUInt16.toUInt32.toInt32.toInt = ((x &&& 65535).toUInt32.toUInt16.toNat : Int) := by
    have h := (x &&& 65535).toUInt32.toUInt16.toNat_lt
    generalize (x &&& 65535).toUInt32.toUInt16 = u at h ⊢
    have e : u.toUInt32.toInt32 = Int32.ofNat u.toNat := by
      apply Int32.toBitVec_inj.mp
      show u.toUInt32.toBitVec = BitVec.ofNat 32 u.toNat
      rw [UInt16.toBitVec_toUInt32]
      apply BitVec.eq_of_toNat_eq
      simp
    rw [e, ti _ (by omega)]
  have h := (x &&& 65535).toUInt32.toUInt16.toNat_lt
  omega

theorem i2ci (y : Int32) : (y.toUInt32.toUInt16.toUInt32.toInt32).toUInt32.toUInt16.toUInt32.toInt32 = y.toUInt32.toUInt16.toUInt32.toInt32 := by
  generalize y.toUInt32.toUInt16 = u
  simp
theorem wlen : ∀ cs : List Int32, (StrChars.Road.wideBytes cs).length = 2 * cs.length
  | [] => rfl
  | c :: cs => by simp only [StrChars.Road.wideBytes, List.length_cons, wlen cs]; omega
theorem wapp : ∀ (cs ds : List Int32), StrChars.Road.wideBytes (cs ++ ds) = StrChars.Road.wideBytes cs ++ StrChars.Road.wideBytes ds
  | [], ds => rfl
  | c :: cs, ds => by simp only [StrChars.Road.wideBytes, List.cons_append, wapp cs ds]
theorem wset (p : List Int32) (c : Int32) (x y : Value) (r : List Value) : ((StrChars.Road.wideBytes p ++ x :: y :: r).set (2 * p.length) (.int (StrChars.lo8 c))).set (2 * p.length + 1) (.int (StrChars.hi8 c)) = StrChars.Road.wideBytes (p ++ [c]) ++ r := by
  rw [wapp, ← wlen p, List.set_append_right _ _ (Nat.le_refl _), List.set_append_right _ _ (by omega)]
  simp [StrChars.Road.wideBytes, Nat.add_sub_cancel_left]
theorem rep2 (n : Nat) (v : Value) : List.replicate (2 * (n + 1)) v = v :: v :: List.replicate (2 * n) v := by
  rw [show 2 * (n + 1) = 2 * n + 1 + 1 from by omega, List.replicate_succ, List.replicate_succ]
theorem wside (p : List Int32) (c : Int32) (x y : Value) (r : List Value) {k : Nat} (h : p.length = k) : ((StrChars.Road.wideBytes p ++ x :: y :: r).set (2 * k) (.int (StrChars.lo8 c))).set (2 * k + 1) (.int (StrChars.hi8 c)) = StrChars.Road.wideBytes (p ++ [c]) ++ r := by subst h; exact wset p c x y r
theorem gc_ok {c : Int32} (h : ¬ c < 0 ∧ ¬ (65535 : Int32) < c) (hc : (255 : Int32) < c) : (255 : Int32) < (((StrChars.lo8 c &&& 255) <<< ((0 : Int32) &&& 31)) ||| ((StrChars.hi8 c &&& 255) <<< ((8 : Int32) &&& 31))).toUInt32.toUInt16.toUInt32.toInt32 := by
  have e0 : (0 : Int32).toInt = 0 := rfl
  have e1 : (65535 : Int32).toInt = 65535 := rfl
  have e2 : (255 : Int32).toInt = 255 := rfl
  rw [Int32.lt_iff_toInt_lt, Int32.lt_iff_toInt_lt, e0, e1] at h
  rw [Int32.lt_iff_toInt_lt, e2] at hc ⊢
  have a1 := c_i2b c
  have a2 := c_i2b (c >>> ((8 : Int32) &&& 31))
  have a3 := c_ishr c 8 8 (by decide)
  have b1 := c_mask (StrChars.lo8 c) 255 8 (by decide) (by decide)
  have b2 := c_mask (StrChars.hi8 c) 255 8 (by decide) (by decide)
  have p8 : ((2 ^ 8 : Nat) : Int) = 256 := by decide
  rw [p8] at a3 b1 b2
  have f1 : (StrChars.lo8 c).toInt = c.toInt8.toInt32.toInt := rfl
  have f2 : (StrChars.hi8 c).toInt = (c >>> ((8 : Int32) &&& 31)).toInt8.toInt32.toInt := rfl
  rw [f1] at b1
  rw [f2] at b2
  have g1 : (StrChars.lo8 c &&& 255).toInt = c.toInt % 256 := by omega
  have g2 : (StrChars.hi8 c &&& 255).toInt = c.toInt / 256 := by omega
  generalize (StrChars.lo8 c &&& 255) = u at g1 ⊢
  generalize (StrChars.hi8 c &&& 255) = v at g2 ⊢
  rw [shl0]
  have k1 := c_ishl v 8 8 (by decide)
  rw [p8] at k1
  have rg : -2147483648 ≤ (v <<< ((8 : Int32) &&& 31)).toInt ∧ (v <<< ((8 : Int32) &&& 31)).toInt ≤ 2147483647 := ⟨Int32.le_toInt _, by have := Int32.toInt_lt (v <<< ((8 : Int32) &&& 31)); omega⟩
  generalize (v <<< ((8 : Int32) &&& 31)) = w at k1 rg ⊢
  have k2 : w.toInt = 256 * (c.toInt / 256) := by omega
  have k3 := c_or' u w 8 (by decide) 256 (by decide) (by omega) (by omega) (by omega)
  have rg2 : -2147483648 ≤ (u ||| w).toInt ∧ (u ||| w).toInt ≤ 2147483647 := ⟨Int32.le_toInt _, by have := Int32.toInt_lt (u ||| w); omega⟩
  have k4 := c_i2c (u ||| w)
  omega
theorem getD_app (cs : List Int32) (tl : List Value) {k : Nat} (h : k < cs.length) : ((cs.map fun c => Value.int (StrChars.lo8 c)) ++ tl).getD k (.int (0 : Int32)) = .int (StrChars.lo8 (cs.getD k 0)) := by
  simp [List.getD_eq_getElem?_getD, List.getElem?_append_left, h]
def Hyp (G : Gx) : Prop := (∀ d ∈ tables_1, d.before G.a0 G.Z = true) ∧ EW G.Z G.a0 G.EL ∧ (∃ z : Int32, ¬ z = 0 ∧ Sta G.Z G.Z.heap "java/lang/String" "COMPACT_STRINGS" "Z" (.int z)) ∧ (G.wd = true ∧ G.EL = consts_1) ∧ (∃ fm : Value, fm.isRef = true ∧ Sta G.Z G.Z.heap "jdk/internal/util/Preconditions" "SIOOBE_FORMATTER" "Ljava/util/function/BiFunction;" fm) ∧ (Sta G.Z G.Z.heap "java/lang/StringUTF16" "$assertionsDisabled" "Z" (.int (1 : Int32)) ∧ Sta G.Z G.Z.heap "java/lang/StringUTF16" "HI_BYTE_SHIFT" "I" (.int (0 : Int32)) ∧ Sta G.Z G.Z.heap "java/lang/StringUTF16" "LO_BYTE_SHIFT" "I" (.int (8 : Int32))) ∧ G.l.stackTraces = true ∧ (∀ d ∈ Jvm.RoadKit.twoRefs, d.before G.a0 G.Z = true)
theorem Hyp.tw {G : Gx} (H : Hyp G) {d : Jvm.Cond} (i : Nat) (q : tables_1[i]? = some d) : d.before G.a0 G.Z = true := H.1 d (List.mem_of_getElem? q)
theorem Hyp.el {G : Gx} (H : Hyp G) : EW G.Z G.a0 G.EL := H.2.1
theorem Hyp.cz {G : Gx} (H : Hyp G) : ∃ z : Int32, ¬ z = 0 ∧ Sta G.Z G.Z.heap "java/lang/String" "COMPACT_STRINGS" "Z" (.int z) := H.2.2.1
theorem Hyp.ws {G : Gx} (H : Hyp G) : ∀ d ∈ StrChars.Road.words, d.before G.a0 G.Z = true := fun d hd => H.1 d ((by decide +kernel : ∀ d ∈ StrChars.Road.words, d ∈ tables_1) d hd)
theorem Hyp.wl {G : Gx} (H : Hyp G) : ∀ d ∈ StrChars.Road.wordsLen, d.before G.a0 G.Z = true := fun d hd => H.1 d ((by decide +kernel : ∀ d ∈ StrChars.Road.wordsLen, d ∈ tables_1) d hd)
theorem Hyp.wq {G : Gx} (H : Hyp G) : ∀ d ∈ StrChars.Road.wordsEq, d.before G.a0 G.Z = true := fun d hd => H.1 d ((by decide +kernel : ∀ d ∈ StrChars.Road.wordsEq, d ∈ tables_1) d hd)
theorem Hyp.sa {G : Gx} (H : Hyp G) : ∀ d ∈ Bundle.stringAtoms, d.before G.a0 G.Z = true := fun d hd => H.1 d ((by decide +kernel : ∀ d ∈ Bundle.stringAtoms, d ∈ tables_1) d hd)
theorem Hyp.wd {G : Gx} (H : Hyp G) : G.wd = true := H.2.2.2.1.1
theorem Hyp.mem {G : Gx} (H : Hyp G) {p : String × Nat} (q : p ∈ consts_1) : p ∈ G.EL := H.2.2.2.1.2 ▸ q
theorem Hyp.mo {G : Gx} (H : Hyp G) : (∃ fm : Value, fm.isRef = true ∧ Sta G.Z G.Z.heap "jdk/internal/util/Preconditions" "SIOOBE_FORMATTER" "Ljava/util/function/BiFunction;" fm) ∧ (Sta G.Z G.Z.heap "java/lang/StringUTF16" "$assertionsDisabled" "Z" (.int (1 : Int32)) ∧ Sta G.Z G.Z.heap "java/lang/StringUTF16" "HI_BYTE_SHIFT" "I" (.int (0 : Int32)) ∧ Sta G.Z G.Z.heap "java/lang/StringUTF16" "LO_BYTE_SHIFT" "I" (.int (8 : Int32))) ∧ G.l.stackTraces = true ∧ (∀ d ∈ Jvm.RoadKit.twoRefs, d.before G.a0 G.Z = true) := H.2.2.2.2
theorem StrAt.lit {Z : State} {h : Heap} {a b : Addr} {kb : ClassId} {z : Int32} {vs : List Value} (cs : List Int32) (A1 : Exa Z h a "java/lang/String") (A2 : Fld Z h a "java/lang/String" "coder" "B" (.int 0)) (A3 : Fld Z h a "java/lang/String" "value" "[B" (.ref b)) (A4 : Arv Z h b kb .byte z vs (.int 0)) (e1 : z = Int32.ofNat cs.length) (e2 : vs = cs.map fun c => Value.int (StrChars.lo8 c)) (e3 : ∀ c ∈ cs, ¬ c < 0 ∧ ¬ (255 : Int32) < c) (e4 : cs.length ≤ 4000) : StrAt Z h a 0 cs :=
  ⟨b, kb, z, vs, A1, A3, A2, A4, Or.inl ⟨rfl, e1, e2, fun c hc => (e3 c hc).2⟩, up_ cs e3, e4⟩
theorem Hyp.lens {G : Gx} (H : Hyp G) : ∀ p ∈ G.EL, ∀ text : String, (Jvm.Cond.stringLink p.1 p.2 text).before G.a0 G.Z = true → text.toList = "unknown option ".toList ∨ text.toList = [] := by
  intro p hp text ht
  rw [H.2.2.2.1.2] at hp
  simp only [consts_1, List.mem_cons, List.not_mem_nil, or_false] at hp
  rcases hp with rfl | rfl
  · exact Or.inl (by rw [sl_uniq ht (H.tw 56 rfl)])
  · exact Or.inr (by rw [sl_uniq ht (H.tw 257 rfl)]; rfl)
theorem Hyp.neL {G : Gx} (H : Hyp G) {N : Int32} (h1 : N.toNatClampNeg ≠ 15) (h2 : N.toNatClampNeg ≠ 0) : ∀ p ∈ G.EL, ∀ text : String, (Jvm.Cond.stringLink p.1 p.2 text).before G.a0 G.Z = true → text.toList.length ≠ N.toNatClampNeg := fun p hp text ht => by
  rcases H.lens p hp text ht with q | q
  · rw [q]; exact fun z => h1 z.symm
  · rw [q]; exact fun z => h2 z.symm
section SB921
theorem StrAt.open1 {Z : State} {h : Heap} {a : Addr} {cs : List Int32} (S : StrAt Z h a 1 cs) : ∃ (t : Addr) (kb : ClassId), Exa Z h a "java/lang/String" ∧ Fld Z h a "java/lang/String" "value" "[B" (.ref t) ∧ Fld Z h a "java/lang/String" "coder" "B" (.int (1 : Int32)) ∧ Arv Z h t kb .byte (Int32.ofNat (2 * cs.length)) (StrChars.Road.wideBytes cs) (.int 0) ∧ (∀ c ∈ cs, ¬ c < 0 ∧ ¬ (65535 : Int32) < c) ∧ ∃ c ∈ cs, (255 : Int32) < c := by
  obtain ⟨t, kb, N, vs, h1, h2, h3, h4, h5, h6, h7⟩ := S
  rcases h5 with ⟨q, -⟩ | ⟨-, rfl, rfl, q⟩
  · exact absurd q (by decide)
  · exact ⟨t, kb, h1, h2, h3, h4, h6, q⟩
def SBc (Z : State) (h : Heap) (b ar : Nat) (kc : ClassId) (cd : Int32) (cnt NB : Nat) (vs : List Value) : Prop := Exa Z h b "java/lang/StringBuilder" ∧ Fld Z h b "java/lang/AbstractStringBuilder" "value" "[B" (.ref ar) ∧ Fld Z h b "java/lang/AbstractStringBuilder" "coder" "B" (.int cd) ∧ Fld Z h b "java/lang/AbstractStringBuilder" "count" "I" (.int (Int32.ofNat cnt)) ∧ Fld Z h b "java/lang/AbstractStringBuilder" "maybeLatin1" "Z" (.int (0 : Int32)) ∧ Exa Z h ar "[B" ∧ Arv Z h ar kc .byte (Int32.ofNat NB) vs (.int (0 : Int32))
/-- a Latin-1 builder of capacity K that holds cs -/
def SBL (Z : State) (h : Heap) (b ar : Nat) (kc : ClassId) (K : Nat) (cs : List Int32) : Prop := ∃ tl : List Value, cs.length + tl.length = K ∧ SBc Z h b ar kc 0 cs.length K ((cs.map fun c => Value.int (StrChars.lo8 c)) ++ tl)
/-- a UTF16 builder -/
def SBU (Z : State) (h : Heap) (b ar : Nat) (kc : ClassId) (K : Nat) (cs : List Int32) : Prop := ∃ tl : List Value, 2 * cs.length + tl.length = 2 * K ∧ SBc Z h b ar kc 1 cs.length (2 * K) (StrChars.Road.wideBytes cs ++ tl)
variable {Z : State} {h h' : Heap} {b ar : Nat} {kc : ClassId} {cd : Int32} {cnt NB K : Nat} {vs : List Value} {cs : List Int32}
theorem SBc.ext (B : SBc Z h b ar kc cd cnt NB vs) (E : Ext h h') : SBc Z h' b ar kc cd cnt NB vs := by
  obtain ⟨h1, h2, h3, h4, h5, h6, h7⟩ := B; exact ⟨h1.ext E, h2.ext E, h3.ext E, h4.ext E, h5.ext E, h6.ext E, h7.ext E⟩
theorem SBL.ext (B : SBL Z h b ar kc K cs) (E : Ext h h') : SBL Z h' b ar kc K cs := by obtain ⟨tl, q, B⟩ := B; exact ⟨tl, q, B.ext E⟩
theorem SBU.ext (B : SBU Z h b ar kc K cs) (E : Ext h h') : SBU Z h' b ar kc K cs := by obtain ⟨tl, q, B⟩ := B; exact ⟨tl, q, B.ext E⟩
theorem SBL.exa (B : SBL Z h b ar kc K cs) : Exa Z h b "java/lang/StringBuilder" := by obtain ⟨tl, q, B⟩ := B; exact B.1
theorem SBU.exa (B : SBU Z h b ar kc K cs) : Exa Z h b "java/lang/StringBuilder" := by obtain ⟨tl, q, B⟩ := B; exact B.1
theorem app_wide (cs ds : List Int32) (tl : List Value) : (StrChars.Road.wideBytes cs ++ tl).take (2 * cs.length) ++ StrChars.Road.wideBytes ds ++ (StrChars.Road.wideBytes cs ++ tl).drop (2 * cs.length + (StrChars.Road.wideBytes ds).length) = StrChars.Road.wideBytes (cs ++ ds) ++ tl.drop (2 * ds.length) := by
  have e : 2 * cs.length = (StrChars.Road.wideBytes cs).length := (wlen cs).symm
  rw [wapp, wlen ds]
  congr 1
  · congr 1
    rw [e, List.take_left]
  · rw [List.drop_append, wlen]
    have : (StrChars.Road.wideBytes cs).drop (2 * cs.length + 2 * ds.length) = [] := List.drop_eq_nil_of_le (by rw [wlen]; omega)
    rw [this, List.nil_append]
    congr 1
    omega
theorem lat_map_wide_take {cs : List Int32} {tl : List Value} : (StrChars.Road.wideBytes cs ++ tl).take (2 * cs.length) = StrChars.Road.wideBytes cs := by
  rw [show 2 * cs.length = (StrChars.Road.wideBytes cs).length from (wlen cs).symm, List.take_left]
theorem map_take {cs : List Int32} {tl : List Value} : ((cs.map fun c => Value.int (StrChars.lo8 c)) ++ tl).take cs.length = cs.map fun c => Value.int (StrChars.lo8 c) := by
  have e : cs.length = (cs.map fun c => Value.int (StrChars.lo8 c)).length := (List.length_map _).symm
  conv => lhs; rw [e]
  rw [List.take_left]
abbrev UO : List Int32 := [117, 110, 107, 110, 111, 119, 110, 32, 111, 112, 116, 105, 111, 110, 32]
theorem b_app {a b : List Int32} (ha : ∀ c ∈ a, ¬ c < 0 ∧ ¬ (65535 : Int32) < c) (hb : ∀ c ∈ b, ¬ c < 0 ∧ ¬ (65535 : Int32) < c) : ∀ c ∈ a ++ b, ¬ c < 0 ∧ ¬ (65535 : Int32) < c := fun c hc => (List.mem_append.mp hc).elim (ha c) (hb c)
theorem ex_app {a b : List Int32} (h : ∃ c ∈ b, (255 : Int32) < c) : ∃ c ∈ a ++ b, (255 : Int32) < c := by obtain ⟨c, q, r⟩ := h; exact ⟨c, List.mem_append_right _ q, r⟩
/-- a String behind a write into an object that is neither a String nor an array -/
theorem StrAt.keep1 {a x : Nat} (S : StrAt Z h a cd cs) (E : Exa Z h x "java/lang/IllegalArgumentException") (K : Keep h h' [x]) {a0 : Array Value} {nn : Nat} (wi : (Jvm.Cond.instantiable "java/lang/IllegalArgumentException" nn).before a0 Z = true) : StrAt Z h' a cd cs := by
  obtain ⟨t, kb, N, vs, h1, h2, h3, h4, r⟩ := S
  have n1 : a ≠ x := Exa.ne h1 E (by decide)
  have n2 : x ≠ t := Exa.neArv E h4 wi
  exact ⟨t, kb, N, vs, h1.keep K, h2.keep K (nin1 n1), h3.keep K (nin1 n1), h4.keep K (nin1 n2.symm), r⟩
end SB921
section Thr921
open Jvm.Free.Exc Jvm.Lib.Cold LibCode.Throwable
/-- the library's words on an exception of class IAE, but for the one that this claim's tables lack -/
def thW : List Jvm.Cond := (excAtoms "java/lang/IllegalArgumentException").filter fun d => decide (d ≠ Jvm.Cond.lays Bundle.tN Bundle.tN "suppressedExceptions" "Ljava/util/List;")
theorem Hyp.tws {G : Gx} (H : Hyp G) {s : State} {args : Array Value} (hT : ThS G.Z s.heap) (hZ : G.Z.Warmed39 s.vm) : ∀ d ∈ thW, d.before args s = true := fun d hd =>
  mvX hT hZ ((by decide +kernel : ∀ d ∈ thW, xOk d = true) d hd) (H.1 d ((by decide +kernel : ∀ d ∈ thW, d ∈ tables_1) d hd))
set_option maxHeartbeats 4000000 in
theorem thrT {args : Array Value} {s : State} {pl : Platform} (howns : pl.frameOwnsMonitors = true) (hfin : pl.finalization = false) (hpl : pl.magicAccessors = ({} : Platform).magicAccessors) (h : ∀ c ∈ thW, c.before args s = true) :
    ∃ T : ThrowableC, T.Links pl s ∧ s.vm.findClass Bundle.tN = some T.cT ∧ s.methodNamed? Bundle.tFill = some T.fill ∧ s.methodNamed? Bundle.tFill0 = some T.fill0 ∧ s.fieldFound? Bundle.tN "stackTrace" "[Ljava/lang/StackTraceElement;" = some (T.cT, T.kT, T.i17, T.fStack) ∧ s.fieldFound? Bundle.tN "UNASSIGNED_STACK" "[Ljava/lang/StackTraceElement;" = some (T.cT, T.kT, T.i13, T.fUnassigned) ∧ T.fStack.type = .array (.object "java/lang/StackTraceElement") := by
  have q : ∀ (c : Jvm.Cond), c ∈ thW → c.holds args s none s [] = true := fun c hc => h c hc
  -- the class
  obtain ⟨⟨mc, mi⟩, x0, n0, r0, nat0, cod0, lk0, sg0⟩ := Cond.native_spec (q (.native Bundle.tFill0) (by decide +kernel))
  have hc : s.vm.findClass Bundle.tN = some mc := findClass_of_methodNamed n0
  obtain ⟨k, hk, hname⟩ := Vm.findClass_spec hc
  obtain ⟨-, k1, -, -, hk1, -, -, -, -, hni⟩ := Cond.superclass_spec hc (q (.superclass Bundle.tN "java/lang/Object") (by decide +kernel))
  cases hk.symm.trans hk1
  have hinit := Cond.initialized_spec hc hk (q (.initialized Bundle.tN) (by decide +kernel))
  -- the methods
  obtain ⟨jF, xF, nF, rF, aF, stF, abF, -, -⟩ := Cond.ownMethod (x := Bundle.tFill) hc hk (q (.instanceMethod Bundle.tFill) (by decide +kernel))
  obtain ⟨xF', cF, rF', codF, byF, loF, reF, lkF, -, sgF⟩ := Cond.codeSync_spec nF (q (.codeSync Bundle.tFill Fill.code 1 (some (.object Bundle.tN))) (by decide +kernel))
  cases rF.symm.trans rF'
  obtain ⟨jG, xG, nG, rG, aG, stG, abG, nmG, dsG⟩ := Cond.ownMethod (x := Bundle.tFill0) hc hk (q (.instanceMethod Bundle.tFill0) (by decide +kernel))
  cases n0.symm.trans nG
  cases r0.symm.trans rG
  obtain ⟨mO, xO, nO, rO, stO, abO⟩ := Cond.instanceMethod_spec (q (.instanceMethod Lib.objectInit) (by decide +kernel))
  obtain ⟨xO', cO, rO', codO, byO, -, -, lkO, -, sgO⟩ := Cond.code_spec nO (q (.code Lib.objectInit ⟨#[0xb1]⟩ 1 none) (by decide +kernel))
  cases rO.symm.trans rO'
  obtain ⟨kO, hkO, nmkO⟩ := Vm.findClass_spec (findClass_of_methodNamed nO)
  obtain ⟨nmO, dsO⟩ := name_of_methodNamed nO rO
  -- the links
  obtain ⟨p1, t1, cf, l1, g1, e1, u1⟩ := Cond.linkedMethod hc hk nO (q (.methodLink Bundle.tN 1 Lib.objectInit) (by decide +kernel)) pl hpl
  obtain ⟨p2, t2, cf2, l2, g2, e2, u2⟩ := Cond.linkedMethod hc hk nF (q (.methodLink Bundle.tN 27 Bundle.tFill) (by decide +kernel)) pl hpl
  cases e1.symm.trans e2
  obtain ⟨p3, t3, cf3, l3, g3, e3, u3⟩ := Cond.linkedMethod hc hk nG (q (.methodLink Bundle.tN 202 Bundle.tFill0) (by decide +kernel)) pl hpl
  cases e1.symm.trans e3
  obtain ⟨i7, j7, f7, a7, b7, c7, d7, y7, -, -, -⟩ := Cond.ownField (t := .object Bundle.tN) hc hk (by decide +kernel) (q (.fieldLink Bundle.tN 7 Bundle.tN "cause" thD) (by decide +kernel)) (q (.lays Bundle.tN Bundle.tN "cause" thD) (by decide +kernel)) pl hpl
  obtain ⟨i17, j17, f17, a17, b17, c17, d17, y17, nm17, ty17, ff17⟩ := Cond.ownField (t := .array (.object "java/lang/StackTraceElement")) hc hk (by decide +kernel) (q (.fieldLink Bundle.tN 17 Bundle.tN "stackTrace" "[Ljava/lang/StackTraceElement;") (by decide +kernel)) (q (.lays "java/lang/IllegalArgumentException" Bundle.tN "stackTrace" "[Ljava/lang/StackTraceElement;") (by decide +kernel)) pl hpl
  obtain ⟨i24, j24, f24, a24, b24, c24, d24, y24, nm24, -, ff24⟩ := Cond.ownField (t := .object "java/util/List") hc hk (by decide +kernel) (q (.fieldLink Bundle.tN 24 Bundle.tN "suppressedExceptions" "Ljava/util/List;") (by decide +kernel)) (q (.lays "java/lang/IllegalArgumentException" Bundle.tN "suppressedExceptions" "Ljava/util/List;") (by decide +kernel)) pl hpl
  obtain ⟨i13, j13, f13, aS, cS, a13, b13, c13, d13, -, -, sta, hcS, iss, -, -, ff13⟩ := Cond.ownStatic (t := .array (.object "java/lang/StackTraceElement")) hc hk (by decide +kernel) (q (.fieldLink Bundle.tN 13 Bundle.tN "UNASSIGNED_STACK" "[Ljava/lang/StackTraceElement;") (by decide +kernel)) (q (.laysStatic Bundle.tN "UNASSIGNED_STACK" "[Ljava/lang/StackTraceElement;") (by decide +kernel)) pl hpl
  obtain ⟨i20, j20, f20, -, -, a20, b20, c20, d20, -, -, -, -, -, -, -, -⟩ := Cond.ownStatic (t := .object "java/util/List") hc hk (by decide +kernel) (q (.fieldLink Bundle.tN 20 Bundle.tN "SUPPRESSED_SENTINEL" "Ljava/util/List;") (by decide +kernel)) (q (.laysStatic Bundle.tN "SUPPRESSED_SENTINEL" "Ljava/util/List;") (by decide +kernel)) pl hpl
  obtain ⟨iM, jM, fM, aM, bM, cM, dM, yM, -, -, -⟩ := Cond.ownField (t := .object "java/lang/Object") hc hk (by decide +kernel) (q (.fieldLink Bundle.tN 198 Bundle.tN "backtrace" obD) (by decide +kernel)) (q (.lays Bundle.tN Bundle.tN "backtrace" obD) (by decide +kernel)) pl hpl
  -- the two slots differ: so the class IAE lays them
  have hap : f17.slot ≠ f24.slot := by
    obtain ⟨cE, kE, -, -, -, -, hcE, hkE, -⟩ := Cond.lays_spec (q (.lays "java/lang/IllegalArgumentException" Bundle.tN "stackTrace" "[Ljava/lang/StackTraceElement;") (by decide +kernel))
    obtain ⟨-, v1, w1, z1⟩ := Cond.laysAt hcE hkE ff17 (q (.lays "java/lang/IllegalArgumentException" Bundle.tN "stackTrace" "[Ljava/lang/StackTraceElement;") (by decide +kernel))
    obtain ⟨-, v2, w2, z2⟩ := Cond.laysAt hcE hkE ff24 (q (.lays "java/lang/IllegalArgumentException" Bundle.tN "suppressedExceptions" "Ljava/util/List;") (by decide +kernel))
    exact Cond.laysApart w1 w2 z1 z2 (by rw [nm17, nm24]; decide)
  have pa : ∀ {y : MethodName} {sg : MethodDescriptor} {ps : List FieldType}, parseMethodDescriptor y.desc = some sg → (parseMethodDescriptor y.desc).map (·.parameters) = some ps → sg.parameters = ps := fun e1 e2 => by rw [e1] at e2; simpa using e2
  refine ⟨{ cT := mc, kT := k, cO := mc, aS := aS, fillIdx := jF, fill0Idx := mi, initSIdx := jF, obj := mO, kObj := kO, methFill := xF, methFill0 := x0, methInitS := xF, methObj := xO, codeFill := cF, codeInitS := cF, codeObj := cO, fBack := fM, fDepth := fM, fStack := f17, fCause := f7, fSupp := f24, fMsg := fM, fUnassigned := f13, fSentinel := f20, cfT := cf, ci1 := p1, n1 := t1, ci27 := p2, n27 := t2, ci202 := p3, n202 := t3, ci7 := i7, i7 := j7, ci13 := i13, i13 := j13, ci17 := i17, i17 := j17, ci20 := i20, i20 := j20, ci24 := i24, i24 := j24 }, ?_, hc, nF, n0, ff17, ff13, ty17⟩
  constructor
  all_goals first
    | assumption
    | exact Vm.findClass_boot hc hk
    | exact pa (y := Bundle.tFill) sgF (by decide +kernel)
    | exact pa (y := Bundle.tFill0) sg0 (by decide +kernel)
    | (rw [pa (y := Lib.objectInit) sgO (by decide +kernel : _ = some [])]; rfl)
    | (show lookupSpecial s.vm mO.cls "<init>" xO.desc = .method mO; rw [dsO]; exact lookupSpecial_of_named nO rO stO)


/-- a field found by its name in Z is found in s, and its place is slotOf -/
theorem ff_at {Z s : State} (hZ : Z.Warmed39 s.vm) {C n d : String} {cf i : Nat} {k : Class} {f : Field} (q : Z.fieldFound? C n d = some (cf, k, i, f)) {cf' i' : Nat} {k' : Class} {f' : Field} (q' : s.fieldFound? C n d = some (cf', k', i', f')) : f' = f ∧ f'.slot = Jvm.RoadKit.slotOf Z C n d := by
  obtain ⟨k2, h2, -⟩ := State.fieldFound?_setVm (s := Z) hZ.alike q
  have e : some (cf, k2, i, f) = some (cf', k', i', f') := h2.symm.trans q'
  simp only [Option.some.injEq, Prod.mk.injEq] at e
  obtain ⟨-, -, -, rfl⟩ := e
  exact ⟨rfl, by simp [Jvm.RoadKit.slotOf, q]⟩
theorem ff_slot {Z s : State} (hZ : Z.Warmed39 s.vm) {C n d : String} {cf' i' : Nat} {k' : Class} {f' : Field} (q' : s.fieldFound? C n d = some (cf', k', i', f')) : f'.slot = Jvm.RoadKit.slotOf Z C n d := by
  obtain ⟨k2, h2⟩ := ff_back (U := s) hZ.alike q'
  exact (ff_at hZ h2 q').2
set_option maxHeartbeats 4000000 in
theorem fillStep {G : Gx} (H : Hyp G) {p : Program} {e : Env} {R : Room} {s : State} {m : MethodId} {args : Array Value} {below : List Frame} {meth : Method} {c : Code} {T : State} {L : List Loc} {k n : Nat} {h : Heap} (S : Stand p G.l e R s m args below meth c T L k n) (hx : p.tables.exec = Jvm.exec) (hZ : G.Z.Warmed39 s.vm) (hT0 : ThS G.Z s.heap) (hTK : s.vm.MethodsKnown) (hBl : s.vm.FramesKnown below) (hown : s.vm.findClass "java/lang/Throwable" = some m.cls) (eT : T.heap = h)
    {a : Addr} {u : Value} (E : Exa G.Z h a "java/lang/IllegalArgumentException") (N : Unt h a) (FB : Fld G.Z h a "java/lang/Throwable" "backtrace" "Ljava/lang/Object;" .null) (FS : Fld G.Z h a "java/lang/Throwable" "stackTrace" "[Ljava/lang/StackTraceElement;" u) (hu : u.isRef = true) (SU : Sta G.Z h "java/lang/Throwable" "UNASSIGNED_STACK" "[Ljava/lang/StackTraceElement;" u)
    {g : JFrame} (hg : g.method = m) (hsz : g.locals.size = c.maxLocals) (hst : g.stack = [.ref a]) (hmr : g.monitorRoom = 0) (hd : decode c.code g.pc = .ok (.invokevirtual 27, 3)) (hf : 3 ≤ R.frames) (hlo : 42 ≤ R.locals) (hc : k + 1 ≤ R.cells) (hsl : n + 2752 ≤ R.slots) :
    ∃ (T' : State) (n' s1 s2 s3 : Nat) (cell C : Cell), Stand p G.l e R s m args below meth c T' (L ++ [⟨a, s1⟩, ⟨a, s2⟩, ⟨a, s3⟩]) (k + 1) (n + n') ∧ n' ≤ 2752 ∧ s1 = Jvm.RoadKit.slotOf G.Z "java/lang/Throwable" "backtrace" "Ljava/lang/Object;" ∧ s2 = Jvm.RoadKit.slotOf G.Z "java/lang/Throwable" "depth" "I" ∧ s3 = Jvm.RoadKit.slotOf G.Z "java/lang/Throwable" "stackTrace" "[Ljava/lang/StackTraceElement;" ∧ h[a]? = some cell ∧ T'.heap[a]? = some C ∧ C.cls = cell.cls ∧ C.vm = cell.vm ∧ C.slots.size = cell.slots.size ∧ (∀ i, i ≠ s1 → i ≠ s2 → i ≠ s3 → C.slots[i]? = cell.slots[i]?) ∧ Steps p.tables e below (T.setTop g) (T'.setTop { g with pc := g.pc + 3, stack := [.ref a] }) := by
  have W := H.tws (args := args) hT0 hZ
  have q : ∀ (c : Jvm.Cond), c ∈ thW → c.holds args s none s [] = true := fun c hc => W c hc
  have htr : e.platform.stackTraces = true := by rw [S.admits.platform]; exact H.mo.2.2.1
  have hpl : e.platform.magicAccessors = ({} : Platform).magicAccessors := by rw [S.admits.platform]
  obtain ⟨T0, Lk, hcT, nF, nF0, ff17, ff13, ty17⟩ := thrT (pl := e.platform) (by rw [S.admits.platform]) (by rw [S.admits.platform]) hpl W
  -- the object
  obtain ⟨cell, hcell, hvm, hmon⟩ := N
  obtain ⟨cE, kE, x1, x2, x3, x4, x5⟩ := E
  cases hcell.symm.trans x1
  obtain ⟨kE', hkE', ekE⟩ := hZ.alike.2.2 _ _ x3
  have hfE : s.vm.findClass "java/lang/IllegalArgumentException" = some cell.cls := by rw [hZ.alike.findClass]; exact x2
  obtain ⟨cI, kI, y1, y2, y3, -, -, -⟩ := Cond.instantiable_spec (H.tw 36 rfl)
  cases x2.symm.trans y1
  cases x3.symm.trans y2
  have hord : kE'.kind = .ordinary := by rw [ekE]; exact y3
  have hsize : cell.slots.size = kE'.instanceTypes.size := by rw [ekE]; exact x5 y3
  -- the statics
  obtain ⟨cU, iU, kU, fU, st, cellS, z1, z2, z3, z4, z5, z6, z7⟩ := SU
  obtain ⟨kU', w1, w2⟩ := State.fieldFound?_setVm (s := G.Z) hZ.alike z1
  have eU : some (cU, kU', iU, fU) = some (T0.cT, T0.kT, T0.i13, T0.fUnassigned) := (show s.fieldFound? _ _ _ = _ from w1).symm.trans ff13
  simp only [Option.some.injEq, Prod.mk.injEq] at eU
  obtain ⟨-, eU1, -, eU2⟩ := eU
  have hst0 : T0.kT.statics = some st := by rw [← eU1, w2]; exact z4
  have eS : T0.aS = st := Option.some.inj (Lk.statics.symm.trans hst0)
  have hne : T0.aS ≠ a := fun z => by
    rw [eS] at z; subst z
    cases z5.symm.trans hcell
    rw [hvm] at z6; cases z6
  -- stackTrace
  obtain ⟨cS, cfS, kS, iS, fS, s1, s2, s3, s4, s5, s6, s7⟩ := FS
  cases hcell.symm.trans s1
  obtain ⟨eS1, eS2⟩ := ff_at hZ s2 ff17
  -- backtrace
  obtain ⟨ci198, i198, fB, hk198, hg198, ha198, hsB, -, hnB, htB, hffB⟩ := Cond.ownField (t := .object "java/lang/Object") hcT Lk.cls (by decide +kernel) (q (.fieldLink Bundle.tN 198 Bundle.tN "backtrace" obD) (by decide +kernel)) (q (.lays Bundle.tN Bundle.tN "backtrace" obD) (by decide +kernel)) e.platform hpl
  obtain ⟨cB, cfB, kB, iB, fB', b1, b2, b3, b4, b5, b6, b7⟩ := FB
  cases hcell.symm.trans b1
  obtain ⟨eB1, eB2⟩ := ff_at hZ b2 hffB
  -- depth
  obtain ⟨-, -, cD, kD, iD, fD, -, -, hffD, hstD, -⟩ := Cond.lays_spec (q (.lays "java/lang/IllegalArgumentException" Bundle.tN "depth" "I") (by decide +kernel))
  cases Option.some.inj ((Cond.lays_declared (q (.lays "java/lang/IllegalArgumentException" Bundle.tN "depth" "I") (by decide +kernel)) hffD).symm.trans hcT)
  obtain ⟨hkD, hatD⟩ := State.fieldFound?_spec hffD
  cases Option.some.inj (hkD.symm.trans Lk.cls)
  obtain ⟨hnD, htD⟩ := State.fieldFound?_type hffD (t := .int) (by decide +kernel)
  have hfb := Cond.soleField_find hcT Lk.cls (q (.soleField Bundle.tN "backtrace") (by decide +kernel)) ha198 hnB hsB
  have hfd := Cond.soleField_find hcT Lk.cls (q (.soleField Bundle.tN "depth") (by decide +kernel)) hatD hnD hstD
  obtain ⟨comp, cO, kO, -, -, hkO, hkindO, hO⟩ := Cond.arrayOver_spec (q (.arrayOver (.object "java/lang/Object")) (by decide +kernel))
  obtain ⟨lS, -⟩ := Cond.laysAt hfE hkE' ff17 (q (.lays "java/lang/IllegalArgumentException" Bundle.tN "stackTrace" "[Ljava/lang/StackTraceElement;") (by decide +kernel))
  obtain ⟨lB, -⟩ := Cond.laysAt hfE hkE' hffB (q (.lays "java/lang/IllegalArgumentException" Bundle.tN "backtrace" obD) (by decide +kernel))
  obtain ⟨lD, -⟩ := Cond.laysAt hfE hkE' hffD (q (.lays "java/lang/IllegalArgumentException" Bundle.tN "depth" "I") (by decide +kernel))
  have tk : ∀ {f : Field} {v : Value}, kE'.instanceTypes[f.slot]? = some f.type → fits f.type v = true → Jvm.Takes s cell f v := fun {f v} r1 r2 => by
    obtain ⟨u1, u2⟩ := Takes.of_laid (v := v) hkE' hord r1 r2
    exact ⟨by rw [hsize]; exact (Array.getElem?_eq_some_iff.mp r1).1, by rw [hvm]; exact u2⟩
  have hsel0 : selectMethod e.platform s.vm cell.cls T0.fill0 = .method T0.fill0 := by
    obtain ⟨c2, r2, m2, q1, q2, q3, q4, -⟩ := Cond.selects_spec (q (.selects "java/lang/IllegalArgumentException" Bundle.tFill0 Bundle.tFill0) (by decide +kernel))
    cases Option.some.inj (q1.symm.trans hfE)
    cases Option.some.inj (q2.symm.trans (State.methodFound?_of_named nF0 (by decide)))
    cases Option.some.inj (q3.symm.trans nF0)
    rw [Launch.admits_selectMethod S.admits]; exact q4
  have hSE := W (.selects "java/lang/IllegalArgumentException" Bundle.tFill Bundle.tFill) (by decide +kernel)
  obtain ⟨v6, vm6, ⟨T6, L6, c6, n6⟩, hW6, X6, ⟨hv6, C6, n', hn, hD6, q1, q2, q3, q4, hL6, hc6, hn6⟩, come⟩ := S.virtualBack hx (own := Bundle.tN) (C := "java/lang/IllegalArgumentException") (index := 27) (y := Bundle.tFill) (z := Bundle.tFill) hown (W (.methodLink Bundle.tN 27 Bundle.tFill) (by decide +kernel)) (W (.declares Bundle.tFill) (by decide +kernel)) (notFace_of_selects hSE) hSE (W (.instanceMethod Bundle.tFill) (by decide +kernel)) (by decide)
    (fillPaysAny (l := G.l) (W := 0) hx htr T0 Lk nF (u0 := ⟨u, hu⟩) (self := a) (cell := cell) (cellS := cellS) (fun _ => by rw [hvm]; simp) (by rw [hvm]; simp) (by rw [hmon]) (by rw [hmon]) (by rw [eS1]; exact s7) hsel0 hne (fun z => by rw [z] at z6; cases z6) (by rw [← eU2]; exact z7) (tk lS (by rw [ty17]; rcases ref_cases hu with rfl | ⟨_, rfl⟩ <;> rfl))
      ⟨{ ci198 := ci198, i198 := i198, fBack := fB }, ⟨hk198, hg198, ha198, hsB⟩, by rw [eB1]; exact b7⟩ hTK hBl hcT hO hkO hkindO hfb hfd (fun x => tk lB (by rw [htB]; rfl)) (fun x => tk lD (by rw [htD]; rfl)) (by omega) (by omega))
    (b := a) (cB := cell.cls) hfE ⟨cell, by rw [eT]; exact hcell, rfl, x4⟩ (g := g) hg hsz (Steps.refl _) (argsL := []) (rest := [])
    (fun sig h => by rw [show parseMethodDescriptor Bundle.tFill.desc = some ⟨[], some (.object Bundle.tN)⟩ from by decide +kernel] at h; rw [← Option.some.inj h]; rfl) hst (by rw [hmr]; exact Nat.le_refl _) hd
    (fun vmx hWx => ⟨rfl, hc, hsl, by show T.heap[a]? = some cell; rw [eT]; exact hcell, by show T.heap[T0.aS]? = some cellS; rw [eT, eS]; exact z5⟩)
  dsimp only [Pt.U, Pt.locs, Pt.cells, Pt.slots] at X6 hD6 hL6 hc6 hn6 come
  subst hv6 hL6 hc6 hn6
  exact ⟨T6, n', fB.slot, fD.slot, T0.fStack.slot, cell, C6, X6, hn, eB2, ff_slot hZ hffD, eS2, hcell, hD6, q1, q2, q3, q4, come⟩
end Thr921
section Thr921b
variable {G : Gx} {h : Heap} {Q : Option Value → Heap → Prop}
theorem ConK.introS {y : MethodName} {bytes : ByteArray} {maxL : Nat} {ret : Option FieldType} {ws : List Jvm.Cond} {rm : Room} {as : Array Value} {Ls : Array Slot} (hE : EW G.Z G.a0 G.EL) (ho : Old G.Z G.n0 h) (hpl : plainFor y = true) (hef : ∀ m, entryFrame m as maxL = mkF m 0 Ls [])
    (body : ∀ (X : Cx) (T : State), Kn G X → Fix G (y.cls, y.name, bytes, maxL, ret) X → Stand X.p G.l X.e rm X.s X.m X.args X.below X.meth X.c T [] 0 0 → T.heap = h → X.s.heap = h → G.Z.Warmed39 X.s.vm → X.s.vm.findClass y.cls = some X.m.cls → (G.wd = true → CHv G.Z G.EL X.s.vm h) → Go G rm X Q (T.setTop (mkF X.m 0 Ls []))) : ConK G y bytes maxL ret ws rm as h Q := by
  refine MetFree.of_bodySF hpl hisR ?_
  intro p e s m args below meth c s₁ Bd hml0 hP hK
  obtain ⟨rfl, hZ, hh, hc⟩ := hP
  have X0 : Stand p G.l e rm s m args below meth c s₁ [] 0 0 := Stand.of_body Bd
  have e0 : s₁.heap = h := by rw [← hh, Bd.state]; rfl
  obtain ⟨t, o, h1, h2, h3, h4⟩ := body (p, e, s, m, args, below, meth, c) s₁ ⟨hK.1, hK.2, by show ThS G.Z s.heap; rw [hh]; exact ThS.ext ho.2 ThS.start⟩ ⟨Bd.exec, Bd.bytes, hml0, Bd.returns, Bd.notSynchronized, (name_of_methodNamed Bd.named Bd.method).1, hE⟩ X0 e0 hh hZ (findClass_of_methodNamed Bd.named) hc
  exact ⟨t, o, castTop (hef m) h1, h2, h3, h4⟩
theorem keep_same {p : Program} {l : Launch} {e : Env} {R : Room} {s : State} {m : MethodId} {args : Array Value} {below : List Frame} {meth : Method} {c : Code} {T : State} {L : List Loc} {k n : Nat} (S : Stand p l e R s m args below meth c T L k n) (hs : s.heap = h) {a : Addr} (hb : ∀ x ∈ L, x.base = a) : Keep h T.heap [a] := by
  subst hs
  obtain ⟨-, sz, -, -, -, f⟩ := S.same
  refine ⟨sz, fun x cl q r => ?_, fun x cl q => ?_⟩
  · obtain ⟨c', u1, u2, u3, u4⟩ := f x cl q
    have e : c'.slots = cl.slots := Array.ext_getElem? fun i => u4 i fun z => r (List.mem_singleton.mpr (hb _ z))
    rw [show T.heap[x]? = some c' from u1, u2, e]
  · obtain ⟨c', u1, u2, u3, -⟩ := f x cl q
    exact ⟨c', u1, by rw [u2], by rw [u2], u3⟩
theorem unt_same {p : Program} {l : Launch} {e : Env} {R : Room} {s : State} {m : MethodId} {args : Array Value} {below : List Frame} {meth : Method} {c : Code} {T : State} {L : List Loc} {k n : Nat} (S : Stand p l e R s m args below meth c T L k n) (hs : s.heap = h) {a : Addr} (N : Unt h a) : Unt T.heap a := by
  subst hs
  obtain ⟨-, -, -, -, -, f⟩ := S.same
  obtain ⟨cl, q, r1, r2⟩ := N
  obtain ⟨c', u1, u2, -⟩ := f a cl q
  exact ⟨c', u1, by rw [u2]; exact r1, by rw [u2]; exact r2⟩
theorem fld_cell {Z : State} {h h' : Heap} {a : Addr} {C n d : String} {v : Value} {cell C' : Cell} (F : Fld Z h a C n d v) (hc : h[a]? = some cell) (hC : h'[a]? = some C') (e1 : C'.cls = cell.cls) (e2 : C'.vm = cell.vm) (e3 : C'.slots[Jvm.RoadKit.slotOf Z C n d]? = cell.slots[Jvm.RoadKit.slotOf Z C n d]?) : Fld Z h' a C n d v := by
  obtain ⟨c0, cf, k, i, f, q1, q2, q3, q4, q5, q6, q7⟩ := F
  cases hc.symm.trans q1
  have e : Jvm.RoadKit.slotOf Z C n d = f.slot := by simp [Jvm.RoadKit.slotOf, q2]
  rw [e] at e3
  exact ⟨C', cf, k, i, f, hC, q2, q3, by rw [e2]; exact q4, by rw [e2]; exact q5, by rw [e1]; exact q6, by rw [e3]; exact q7⟩
theorem and3 (x : Int32) : x &&& 3 = 0 ∨ x &&& 3 = 1 ∨ x &&& 3 = 2 ∨ x &&& 3 = 3 := by
  have h := c_mask x 3 2 (by decide) (by decide)
  have e : ∀ n : Int32, (x &&& 3).toInt = n.toInt → x &&& 3 = n := fun n q => Int32.toInt_inj.mp q
  have e0 : (0 : Int32).toInt = 0 := rfl
  have e1 : (1 : Int32).toInt = 1 := rfl
  have e2 : (2 : Int32).toInt = 2 := rfl
  have e3 : (3 : Int32).toInt = 3 := rfl
  have : x.toInt % (2 ^ 2 : Nat) = 0 ∨ x.toInt % (2 ^ 2 : Nat) = 1 ∨ x.toInt % (2 ^ 2 : Nat) = 2 ∨ x.toInt % (2 ^ 2 : Nat) = 3 := by omega
  rcases this with q | q | q | q
  · exact Or.inl (e 0 (by rw [h, q, e0]))
  · exact Or.inr (Or.inl (e 1 (by rw [h, q, e1])))
  · exact Or.inr (Or.inr (Or.inl (e 2 (by rw [h, q, e2]))))
  · exact Or.inr (Or.inr (Or.inr (e 3 (by rw [h, q, e3]))))
theorem mknown {s : State} (q : Jvm.D.tablesKnown s = true) : s.vm.MethodsKnown := fun m x hx => by
  unfold Vm.method? at hx
  cases hk : s.vm.classes[m.cls]? with
  | none => simp [hk] at hx
  | some k =>
    refine ⟨k, hk, fun cf hcf => ?_⟩
    have hx' : k.methods[m.idx]? = some x := by simpa [hk] using hx
    obtain ⟨hi, rfl⟩ := Array.getElem?_eq_some_iff.mp hk
    have r := (Array.all_eq_true_iff_forall_mem.mp q) _ (Array.getElem_mem hi)
    rw [hcf] at r
    have e : s.vm.classes[m.cls].methods.size = cf.methods.size := by simpa using r
    have := (Array.getElem?_eq_some_iff.mp hx').1
    rw [Array.getElem?_eq_getElem (by omega)]; rfl
theorem fknown {s : State} {m : MethodId} {args : Array Value} {below : List Frame} (q : Jvm.D.framesKnown s = true) (hf : s.frames = Frame.invoking m args :: below) : s.vm.FramesKnown below := fun y hy m' hm => by
  have r := List.all_eq_true.mp q y (by rw [hf]; exact List.mem_cons_of_mem _ hy)
  have key : Jvm.D.methodKnown s.vm m' = true → s.vm.knowsMethod m' := fun z => by
    unfold Jvm.D.methodKnown at z
    cases hk : s.vm.classes[m'.cls]? with
    | none => simp [hk] at z
    | some k =>
      refine ⟨k, hk, fun cf hcf => ?_⟩
      simpa [hk, hcf] using z
  cases y <;> simp only [frameMethod?, Option.some.injEq, reduceCtorEq] at hm
  all_goals first | (subst hm; exact key r) | exact absurd hm (by simp)
end Thr921b

theorem d0_0 : decode jdk_42_method_149_code 0 = .ok (.aload_n 0, 1) := by decide +kernel
theorem d0_1 : decode jdk_42_method_149_code 1 = .ok (.invokespecial 1, 3) := by decide +kernel
theorem d0_4 : decode jdk_42_method_149_code 4 = .ok (.iload_n 3, 1) := by decide +kernel
theorem d0_5 : decode jdk_42_method_149_code 5 = .ok (.ifCond .ne 22, 3) := by decide +kernel
theorem d0_8 : decode jdk_42_method_149_code 8 = .ok (.aload_n 0, 1) := by decide +kernel
theorem d0_9 : decode jdk_42_method_149_code 9 = .ok (.ldc 7, 2) := by decide +kernel
theorem d0_11 : decode jdk_42_method_149_code 11 = .ok (.getfield 9, 3) := by decide +kernel
theorem d0_14 : decode jdk_42_method_149_code 14 = .ok (.putfield 9, 3) := by decide +kernel
theorem d0_17 : decode jdk_42_method_149_code 17 = .ok (.aload_n 0, 1) := by decide +kernel
theorem d0_18 : decode jdk_42_method_149_code 18 = .ok (.ldc 7, 2) := by decide +kernel
theorem d0_20 : decode jdk_42_method_149_code 20 = .ok (.getfield 15, 3) := by decide +kernel
theorem d0_23 : decode jdk_42_method_149_code 23 = .ok (.putfield 15, 3) := by decide +kernel
theorem d0_26 : decode jdk_42_method_149_code 26 = .ok (.return_, 1) := by decide +kernel
theorem pn1 : plainName "java/lang/String" = true := by first | (simp [plainName, overriddenIn]; done) | decide +kernel
set_option maxRecDepth 65536 in
set_option maxHeartbeats 40000000 in
theorem con_init4e (G : Gx) (H : Hyp G) (x b : Nat) (h : Heap) (ho : Old G.Z G.n0 h) (E : Exa G.Z h x "java/lang/String") (V : Fld G.Z h x "java/lang/String" "value" "[B" .null) (C : Fld G.Z h x "java/lang/String" "coder" "B" (.int (0 : Int32))) (g : G.n0 ≤ x) :
    Con G (⟨"java/lang/String", "<init>", "([CIILjava/lang/Void;)V"⟩ : MethodName) jdk_42_method_149_code 6 none [] ({ frames := 1, cells := 4, slots := 8, locals := 12 } : Room) #[(.ref x), (.ref b), (.int (0 : Int32)), (.int (0 : Int32)), .null] h (nQ fun h' => Keep h h' [x] ∧ StrAt G.Z h' x 0 []) := by
  refine Con.intro H.el ho (plainFor_of_name pn1) (Ls := #[.val (.ref x), .val (.ref b), .val (.int (0 : Int32)), .val (.int (0 : Int32)), .val .null, .unset]) (fun m => by first | (simp [entryFrame, mkF, argsToLocals, Value.category]; done) | rfl) ?_
  intro X vm T w
  have ltx : x < h.size := E.lt
  refine w.aloadN (q := 1) d0_0 rfl rfl rfl ?_
  refine w.initO (q := 4) (W := 0) d0_1 (H.tw 12 rfl) (H.tw 13 rfl) (H.tw 14 rfl) rfl (by decide) (Nat.le_of_eq rfl) (by decide) rfl fun T1 w1 => ?_
  refine w1.iloadN (q := 5) d0_4 rfl rfl ?_
  refine w1.ifN (q := 8) d0_5 ((if0 _ _).trans (teq rfl).2) rfl ?_
  refine w1.aloadN (q := 9) d0_8 rfl rfl rfl ?_
  have sf0 := w1.sfB E V
  refine w1.ldcS (q := 11) (sz := 0) (vs := []) (z := 0) d0_9 H.wd (H.tw 257 rfl) H.sa (H.mem (by decide)) ⟨by decide, rfl⟩ (by decide) rfl (by decide) (by decide) (by decide) (by decide) rfl fun vm2 T2 h2 a2 bb2 kb2 w2 X2 ch2 A1_2 A2_2 A3_2 A4_2 => ?_
  have sz2 : h.size ≤ h2.size := X2.1
  have S2 : StrAt G.Z h2 a2 0 [] := StrAt.lit _ A1_2 A2_2 A3_2 A4_2 rfl rfl lat0 (by decide)
  replace E := E.ext X2
  have EX2 := E
  replace V := V.ext X2
  replace C := C.ext X2
  have sf1 : G.wd = true → Safe G.Z G.EL vm2 h2 x := fun z => ch2.safe ltx (sf0 z)
  refine w2.getF (q := 14) d0_11 (H.tw 29 rfl) Via.refl A3_2 rfl fun T3 w3 => ?_
  refine w3.putF (q := 17) d0_14 (H.tw 29 rfl) Via.refl V E (Or.inr ⟨(H.tw 30 rfl), rfl, rfl⟩) (H.tw 3 rfl) (ty := (.array .byte)) (by decide) rfl rfl g sf1 rfl fun T4 h4 w4 W4 sf4 => ?_
  have sz4 : h2.size ≤ h4.size := (Keep.of_wr W4).1
  replace E := E.wr W4
  replace C := C.other W4 (Or.inr (slot_ne (Or.inr (H.tw 28 rfl)) (Or.inr (H.tw 30 rfl)) (by decide) (t := .byte) (t' := (.array .byte)) (by decide) (by decide)))
  have V1 := V.same W4
  refine w4.aloadN (q := 18) d0_17 rfl rfl rfl ?_
  refine w4.ldcS (q := 20) (sz := 0) (vs := []) (z := 0) d0_18 H.wd (H.tw 257 rfl) H.sa (H.mem (by decide)) ⟨by decide, rfl⟩ (by decide) rfl (by decide) (by decide) (by decide) (by decide) rfl fun vm5 T5 h5 a5 bb5 kb5 w5 X5 ch5 A1_5 A2_5 A3_5 A4_5 => ?_
  have sz5 : h4.size ≤ h5.size := X5.1
  have S5 : StrAt G.Z h5 a5 0 [] := StrAt.lit _ A1_5 A2_5 A3_5 A4_5 rfl rfl lat0 (by decide)
  replace E := E.ext X5
  replace V1 := V1.ext X5
  replace C := C.ext X5
  have sf2 : G.wd = true → Safe G.Z G.EL vm5 h5 x := fun z => ch5.safe (Nat.lt_of_lt_of_le ltx (by omega)) (sf4 z)
  refine w5.getF (q := 23) d0_20 (H.tw 27 rfl) Via.refl A2_5 rfl fun T6 w6 => ?_
  refine w6.putF (q := 26) d0_23 (H.tw 27 rfl) Via.refl C E (Or.inr ⟨(H.tw 28 rfl), rfl, rfl⟩) (H.tw 3 rfl) (ty := .byte) (by decide) rfl rfl g sf2 rfl fun T7 h7 w7 W7 sf7 => ?_
  have sz7 : h5.size ≤ h7.size := (Keep.of_wr W7).1
  replace E := E.wr W7
  replace C := C.same W7
  replace V1 := V1.other W7 (Or.inr (slot_ne (Or.inr (H.tw 30 rfl)) (Or.inr (H.tw 28 rfl)) (by decide) (t := (.array .byte)) (t' := .byte) (by decide) (by decide)))
  have nx : bb2 ≠ x := fun z => Exa.neArv EX2 A4_2 (H.tw 3 rfl) z.symm
  have AA : Arv G.Z h7 bb2 kb2 .byte 0 [] (.int 0) := ((A4_2.other W4 nx).ext X5).other W7 nx
  have K1 : Keep h h7 [x] := ((((Keep.refl h [x]).ext X2).wr W4 (Or.inl (List.mem_singleton.mpr rfl))).ext X5).wr W7 (Or.inl (List.mem_singleton.mpr rfl))
  exact w7.retV d0_26 rfl (by decide) (by decide) ⟨rfl, K1, bb2, kb2, 0, [], E, V1, C, AA, Or.inl ⟨rfl, rfl, rfl, fun _ q => nomatch q⟩, (fun _ q => nomatch q), by decide⟩
theorem d2_0 : decode jdk_42_method_3_code 0 = .ok (.aload_n 0, 1) := by decide +kernel
theorem d2_1 : decode jdk_42_method_3_code 1 = .ok (.aload_n 1, 1) := by decide +kernel
theorem d2_2 : decode jdk_42_method_3_code 2 = .ok (.iconst 0, 1) := by decide +kernel
theorem d2_3 : decode jdk_42_method_3_code 3 = .ok (.aload_n 1, 1) := by decide +kernel
theorem d2_4 : decode jdk_42_method_3_code 4 = .ok (.arraylength, 1) := by decide +kernel
theorem d2_5 : decode jdk_42_method_3_code 5 = .ok (.aconst_null, 1) := by decide +kernel
theorem d2_6 : decode jdk_42_method_3_code 6 = .ok (.invokespecial 27, 3) := by decide +kernel
theorem pd3 : parseMethodDescriptor "([CIILjava/lang/Void;)V" = some ⟨[(.array .char), .int, .int, (.object "java/lang/Void")], none⟩ := by decide +kernel
theorem d2_9 : decode jdk_42_method_3_code 9 = .ok (.return_, 1) := by decide +kernel
set_option maxRecDepth 65536 in
set_option maxHeartbeats 40000000 in
theorem con_init1e (G : Gx) (H : Hyp G) (x b : Nat) (kc : ClassId) (dv : Value) (h : Heap) (ho : Old G.Z G.n0 h) (E : Exa G.Z h x "java/lang/String") (V : Fld G.Z h x "java/lang/String" "value" "[B" .null) (C : Fld G.Z h x "java/lang/String" "coder" "B" (.int (0 : Int32))) (g : G.n0 ≤ x) (A : Arv G.Z h b kc .char (0 : Int32) [] dv) :
    Con G (⟨"java/lang/String", "<init>", "([C)V"⟩ : MethodName) jdk_42_method_3_code 2 none [] ({ frames := 2, cells := 4, slots := 8, locals := 29 } : Room) #[(.ref x), (.ref b)] h (nQ fun h' => Keep h h' [x] ∧ StrAt G.Z h' x 0 []) := by
  refine Con.intro H.el ho (plainFor_of_name pn1) (Ls := #[.val (.ref x), .val (.ref b)]) (fun m => by first | (simp [entryFrame, mkF, argsToLocals, Value.category]; done) | rfl) ?_
  intro X vm T w
  refine w.aloadN (q := 1) d2_0 rfl rfl rfl ?_
  refine w.aloadN (q := 2) d2_1 rfl rfl rfl ?_
  refine w.iconst (q := 3) (0 : Int32) d2_2 rfl rfl ?_
  refine w.aloadN (q := 4) d2_3 rfl rfl rfl ?_
  refine w.alen (q := 5) d2_4 A rfl ?_
  refine w.aconst (q := 6) d2_5 rfl ?_
  refine w.callC (q := 9) d2_6 rfl (H.tw 8 rfl) (H.tw 9 rfl) (H.tw 11 rfl) (by decide) (a := x) (argsL := [(.ref b), (.int (0 : Int32)), (.int (0 : Int32)), .null]) (rest := []) rfl (lenOf pd3 rfl) rfl (W := 0) (Nat.le_of_eq rfl) ((con_init4e G H x b h w.old E V C g).pay w (H.tw 11 rfl) (H.tw 4 rfl) (by decide) (by decide)) (by decide) (by decide) rfl fun vm1 T1 h1 v1 w1 q1 => ?_
  obtain ⟨rfl, K1, S1⟩ := q1
  show Go _ _ _ _ (T1.setTop (mkF X.m 9 #[.val (.ref x), .val (.ref b)] []))
  exact w1.retV d2_9 rfl (by decide) (by decide) ⟨rfl, K1, S1⟩
theorem d4_0 : decode jdk_42_method_152_code 0 = .ok (.getstatic 38, 3) := by decide +kernel
theorem d4_3 : decode jdk_42_method_152_code 3 = .ok (.ifCond .eq 10, 3) := by decide +kernel
theorem d4_6 : decode jdk_42_method_152_code 6 = .ok (.aload_n 0, 1) := by decide +kernel
theorem d4_7 : decode jdk_42_method_152_code 7 = .ok (.getfield 15, 3) := by decide +kernel
theorem d4_10 : decode jdk_42_method_152_code 10 = .ok (.goto 4, 3) := by decide +kernel
theorem d4_14 : decode jdk_42_method_152_code 14 = .ok (.ireturn, 1) := by decide +kernel
set_option maxRecDepth 65536 in
set_option maxHeartbeats 40000000 in
theorem con_coder (G : Gx) (H : Hyp G) (a : Nat) (cd : Int32) (h : Heap) (ho : Old G.Z G.n0 h) (F : Fld G.Z h a "java/lang/String" "coder" "B" (.int cd)) (hcd : narrow .byte (.int cd) = .int cd) :
    Con G (⟨"java/lang/String", "coder", "()B"⟩ : MethodName) jdk_42_method_152_code 1 (some .byte) [] ({ frames := 0, cells := 0, slots := 0, locals := 0 } : Room) #[(.ref a)] h (vQ fun v h' => v = .int cd ∧ h = h') := by
  refine Con.intro H.el ho (plainFor_of_name pn1) (Ls := #[.val (.ref a)]) (fun m => by first | (simp [entryFrame, mkF, argsToLocals, Value.category]; done) | rfl) ?_
  intro X vm T w
  obtain ⟨cz, nz, Sz⟩ := H.cz
  refine w.getS (q := 3) d4_0 (H.tw 15 rfl) Via.refl Sz rfl fun T1 w1 => ?_
  refine w1.ifN (q := 6) d4_3 ((if0 _ _).trans (feq nz).1) rfl ?_
  refine w1.aloadN (q := 7) d4_6 rfl rfl rfl ?_
  refine w1.getF (q := 10) d4_7 (H.tw 27 rfl) Via.refl F rfl fun T2 w2 => ?_
  refine w2.goto (q := 14) d4_10 (by decide) (by decide) ?_
  exact w2.retZ d4_14 (t := .byte) rfl (by decide) hcd (by decide) (by decide) ⟨_, rfl, ⟨rfl, rfl⟩⟩
theorem d5_0 : decode jdk_68_method_68_code 0 = .ok (.getstatic 18, 3) := by decide +kernel
theorem d5_3 : decode jdk_68_method_68_code 3 = .ok (.ifCond .eq 14, 3) := by decide +kernel
theorem d5_6 : decode jdk_68_method_68_code 6 = .ok (.aload_n 0, 1) := by decide +kernel
theorem d5_7 : decode jdk_68_method_68_code 7 = .ok (.getfield 22, 3) := by decide +kernel
theorem d5_10 : decode jdk_68_method_68_code 10 = .ok (.ifCond .ne 7, 3) := by decide +kernel
theorem d5_13 : decode jdk_68_method_68_code 13 = .ok (.iconst 1, 1) := by decide +kernel
theorem d5_14 : decode jdk_68_method_68_code 14 = .ok (.goto 4, 3) := by decide +kernel
theorem d5_18 : decode jdk_68_method_68_code 18 = .ok (.ireturn, 1) := by decide +kernel
theorem pn6 : plainName "java/lang/AbstractStringBuilder" = true := by first | (simp [plainName, overriddenIn]; done) | decide +kernel
set_option maxRecDepth 65536 in
set_option maxHeartbeats 40000000 in
theorem con_blat0 (G : Gx) (H : Hyp G) (a : Nat) (h : Heap) (ho : Old G.Z G.n0 h) (F : Fld G.Z h a "java/lang/AbstractStringBuilder" "coder" "B" (.int (0 : Int32))) :
    Con G (⟨"java/lang/AbstractStringBuilder", "isLatin1", "()Z"⟩ : MethodName) jdk_68_method_68_code 1 (some .boolean) [] ({ frames := 0, cells := 0, slots := 0, locals := 0 } : Room) #[(.ref a)] h (vQ fun v h' => v = .int (1 : Int32) ∧ h = h') := by
  refine Con.intro H.el ho (plainFor_of_name pn6) (Ls := #[.val (.ref a)]) (fun m => by first | (simp [entryFrame, mkF, argsToLocals, Value.category]; done) | rfl) ?_
  intro X vm T w
  obtain ⟨cz, nz, Sz⟩ := H.cz
  refine w.getS (q := 3) d5_0 (H.tw 51 rfl) Via.refl Sz rfl fun T1 w1 => ?_
  refine w1.ifN (q := 6) d5_3 ((if0 _ _).trans (feq nz).1) rfl ?_
  refine w1.aloadN (q := 7) d5_6 rfl rfl rfl ?_
  refine w1.getF (q := 10) d5_7 (H.tw 54 rfl) Via.refl F rfl fun T2 w2 => ?_
  refine w2.ifN (q := 13) d5_10 ((if0 _ _).trans (teq rfl).2) rfl ?_
  refine w2.iconst (q := 14) (1 : Int32) d5_13 rfl rfl ?_
  refine w2.goto (q := 18) d5_14 (by decide) (by decide) ?_
  exact w2.retZ d5_18 (t := .boolean) rfl (by decide) rfl (by decide) (by decide) ⟨_, rfl, ⟨rfl, rfl⟩⟩
theorem d5_17 : decode jdk_68_method_68_code 17 = .ok (.iconst 0, 1) := by decide +kernel
set_option maxRecDepth 65536 in
set_option maxHeartbeats 40000000 in
theorem con_blat1 (G : Gx) (H : Hyp G) (a : Nat) (h : Heap) (ho : Old G.Z G.n0 h) (F : Fld G.Z h a "java/lang/AbstractStringBuilder" "coder" "B" (.int (1 : Int32))) :
    Con G (⟨"java/lang/AbstractStringBuilder", "isLatin1", "()Z"⟩ : MethodName) jdk_68_method_68_code 1 (some .boolean) [] ({ frames := 0, cells := 0, slots := 0, locals := 0 } : Room) #[(.ref a)] h (vQ fun v h' => v = .int (0 : Int32) ∧ h = h') := by
  refine Con.intro H.el ho (plainFor_of_name pn6) (Ls := #[.val (.ref a)]) (fun m => by first | (simp [entryFrame, mkF, argsToLocals, Value.category]; done) | rfl) ?_
  intro X vm T w
  obtain ⟨cz, nz, Sz⟩ := H.cz
  refine w.getS (q := 3) d5_0 (H.tw 51 rfl) Via.refl Sz rfl fun T1 w1 => ?_
  refine w1.ifN (q := 6) d5_3 ((if0 _ _).trans (feq nz).1) rfl ?_
  refine w1.aloadN (q := 7) d5_6 rfl rfl rfl ?_
  refine w1.getF (q := 10) d5_7 (H.tw 54 rfl) Via.refl F rfl fun T2 w2 => ?_
  refine w2.ifY (q := 17) d5_10 ((if0 _ _).trans (feq (by decide)).2) (by decide) (by decide) ?_
  refine w2.iconst (q := 18) (0 : Int32) d5_17 rfl rfl ?_
  exact w2.retZ d5_18 (t := .boolean) rfl (by decide) rfl (by decide) (by decide) ⟨_, rfl, ⟨rfl, rfl⟩⟩
theorem d7_0 : decode jdk_29_method_69_code 0 = .ok (.iload_n 0, 1) := by decide +kernel
theorem d7_1 : decode jdk_29_method_69_code 1 = .ok (.iload_n 1, 1) := by decide +kernel
theorem d7_2 : decode jdk_29_method_69_code 2 = .ok (.if_icmp .gt 7, 3) := by decide +kernel
theorem d7_9 : decode jdk_29_method_69_code 9 = .ok (.iload_n 1, 1) := by decide +kernel
theorem d7_10 : decode jdk_29_method_69_code 10 = .ok (.ireturn, 1) := by decide +kernel
set_option maxRecDepth 65536 in
set_option maxHeartbeats 40000000 in
theorem con_min (G : Gx) (H : Hyp G) (x y : Int32) (h : Heap) (ho : Old G.Z G.n0 h) (hn : y < x) :
    Con G (⟨"java/lang/Math", "min", "(II)I"⟩ : MethodName) jdk_29_method_69_code 2 (some .int) [] ({ frames := 0, cells := 0, slots := 0, locals := 0 } : Room) #[(.int x), (.int y)] h (vQ fun v h' => v = .int y ∧ h = h') := by
  refine Con.intro H.el ho (by decide +kernel) (Ls := #[.val (.int x), .val (.int y)]) (fun m => by first | (simp [entryFrame, mkF, argsToLocals, Value.category]; done) | rfl) ?_
  intro X vm T w
  refine w.iloadN (q := 1) d7_0 rfl rfl ?_
  refine w.iloadN (q := 2) d7_1 rfl rfl ?_
  refine w.icY (q := 9) d7_2 ((tlt hn).2.2.1) (by decide) (by decide) ?_
  refine w.iloadN (q := 10) d7_9 rfl rfl ?_
  exact w.retI d7_10 rfl (by decide) (by decide) ⟨_, rfl, ⟨rfl, rfl⟩⟩
theorem d7_5 : decode jdk_29_method_69_code 5 = .ok (.iload_n 0, 1) := by decide +kernel
theorem d7_6 : decode jdk_29_method_69_code 6 = .ok (.goto 4, 3) := by decide +kernel
set_option maxRecDepth 65536 in
set_option maxHeartbeats 40000000 in
theorem con_minx (G : Gx) (H : Hyp G) (x y : Int32) (h : Heap) (ho : Old G.Z G.n0 h) (hn : ¬ y < x) :
    Con G (⟨"java/lang/Math", "min", "(II)I"⟩ : MethodName) jdk_29_method_69_code 2 (some .int) [] ({ frames := 0, cells := 0, slots := 0, locals := 0 } : Room) #[(.int x), (.int y)] h (vQ fun v h' => v = .int x ∧ h = h') := by
  refine Con.intro H.el ho (by decide +kernel) (Ls := #[.val (.int x), .val (.int y)]) (fun m => by first | (simp [entryFrame, mkF, argsToLocals, Value.category]; done) | rfl) ?_
  intro X vm T w
  refine w.iloadN (q := 1) d7_0 rfl rfl ?_
  refine w.iloadN (q := 2) d7_1 rfl rfl ?_
  refine w.icN (q := 5) d7_2 ((flt hn).2.2.1) rfl ?_
  refine w.iloadN (q := 6) d7_5 rfl rfl ?_
  refine w.goto (q := 10) d7_6 (by decide) (by decide) ?_
  exact w.retI d7_10 rfl (by decide) (by decide) ⟨_, rfl, ⟨rfl, rfl⟩⟩
theorem d8_0 : decode jdk_29_method_65_code 0 = .ok (.iload_n 0, 1) := by decide +kernel
theorem d8_1 : decode jdk_29_method_65_code 1 = .ok (.iload_n 1, 1) := by decide +kernel
theorem d8_2 : decode jdk_29_method_65_code 2 = .ok (.if_icmp .lt 7, 3) := by decide +kernel
theorem d8_9 : decode jdk_29_method_65_code 9 = .ok (.iload_n 1, 1) := by decide +kernel
theorem d8_10 : decode jdk_29_method_65_code 10 = .ok (.ireturn, 1) := by decide +kernel
set_option maxRecDepth 65536 in
set_option maxHeartbeats 40000000 in
theorem con_max (G : Gx) (H : Hyp G) (x y : Int32) (h : Heap) (ho : Old G.Z G.n0 h) (hn : x < y) :
    Con G (⟨"java/lang/Math", "max", "(II)I"⟩ : MethodName) jdk_29_method_65_code 2 (some .int) [] ({ frames := 0, cells := 0, slots := 0, locals := 0 } : Room) #[(.int x), (.int y)] h (vQ fun v h' => v = .int y ∧ h = h') := by
  refine Con.intro H.el ho (by decide +kernel) (Ls := #[.val (.int x), .val (.int y)]) (fun m => by first | (simp [entryFrame, mkF, argsToLocals, Value.category]; done) | rfl) ?_
  intro X vm T w
  refine w.iloadN (q := 1) d8_0 rfl rfl ?_
  refine w.iloadN (q := 2) d8_1 rfl rfl ?_
  refine w.icY (q := 9) d8_2 ((tlt hn).1) (by decide) (by decide) ?_
  refine w.iloadN (q := 10) d8_9 rfl rfl ?_
  exact w.retI d8_10 rfl (by decide) (by decide) ⟨_, rfl, ⟨rfl, rfl⟩⟩
theorem d9_0 : decode jdk_52_method_21_code 0 = .ok (.iconst 0, 1) := by decide +kernel
theorem d9_1 : decode jdk_52_method_21_code 1 = .ok (.istore 5, 2) := by decide +kernel
theorem d9_3 : decode jdk_52_method_21_code 3 = .ok (.iload 5, 2) := by decide +kernel
theorem d9_5 : decode jdk_52_method_21_code 5 = .ok (.iload 4, 2) := by decide +kernel
theorem d9_7 : decode jdk_52_method_21_code 7 = .ok (.if_icmp .ge 37, 3) := by decide +kernel
theorem d9_44 : decode jdk_52_method_21_code 44 = .ok (.iload 4, 2) := by decide +kernel
theorem d9_46 : decode jdk_52_method_21_code 46 = .ok (.ireturn, 1) := by decide +kernel
theorem d9_10 : decode jdk_52_method_21_code 10 = .ok (.aload_n 0, 1) := by decide +kernel
theorem d9_11 : decode jdk_52_method_21_code 11 = .ok (.iload_n 1, 1) := by decide +kernel
theorem d9_12 : decode jdk_52_method_21_code 12 = .ok (.caload, 1) := by decide +kernel
theorem d9_13 : decode jdk_52_method_21_code 13 = .ok (.istore 6, 2) := by decide +kernel
theorem d9_15 : decode jdk_52_method_21_code 15 = .ok (.iload 6, 2) := by decide +kernel
theorem d9_17 : decode jdk_52_method_21_code 17 = .ok (.sipush 255, 3) := by decide +kernel
theorem d9_20 : decode jdk_52_method_21_code 20 = .ok (.if_icmp .le 6, 3) := by decide +kernel
theorem d9_23 : decode jdk_52_method_21_code 23 = .ok (.iload 5, 2) := by decide +kernel
theorem d9_25 : decode jdk_52_method_21_code 25 = .ok (.ireturn, 1) := by decide +kernel
theorem d9_26 : decode jdk_52_method_21_code 26 = .ok (.aload_n 2, 1) := by decide +kernel
theorem d9_27 : decode jdk_52_method_21_code 27 = .ok (.iload_n 3, 1) := by decide +kernel
theorem d9_28 : decode jdk_52_method_21_code 28 = .ok (.iload 6, 2) := by decide +kernel
theorem d9_30 : decode jdk_52_method_21_code 30 = .ok (.i2b, 1) := by decide +kernel
theorem d9_31 : decode jdk_52_method_21_code 31 = .ok (.bastore, 1) := by decide +kernel
theorem d9_32 : decode jdk_52_method_21_code 32 = .ok (.iinc 1 1, 3) := by decide +kernel
theorem d9_35 : decode jdk_52_method_21_code 35 = .ok (.iinc 3 1, 3) := by decide +kernel
theorem d9_38 : decode jdk_52_method_21_code 38 = .ok (.iinc 5 1, 3) := by decide +kernel
theorem d9_41 : decode jdk_52_method_21_code 41 = .ok (.goto (-38), 3) := by decide +kernel
theorem pn10 : plainName "java/lang/StringUTF16" = true := by first | (simp [plainName, overriddenIn]; done) | decide +kernel
set_option maxRecDepth 65536 in
set_option maxHeartbeats 40000000 in
theorem con_c5 (G : Gx) (H : Hyp G) (ca d : Nat) (kc kd : ClassId) (cs : List Int32) (dv : Value) (h : Heap) (ho : Old G.Z G.n0 h) (A : Arv G.Z h ca kc .char (Int32.ofNat cs.length) (cs.map Value.int) dv) (D0 : Arv G.Z h d kd .byte (Int32.ofNat cs.length) (List.replicate cs.length (.int (0 : Int32))) (.int (0 : Int32))) (hn : cs.length ≤ 18) (g : G.n0 ≤ d) (ne : ca ≠ d) :
    Con G (⟨"java/lang/StringUTF16", "compress", "([CI[BII)I"⟩ : MethodName) jdk_52_method_21_code 7 (some .int) [] ({ frames := 0, cells := 0, slots := 0, locals := 0 } : Room) #[(.ref ca), (.int (0 : Int32)), (.ref d), (.int (0 : Int32)), (.int (Int32.ofNat cs.length))] h (vQ fun v h' => ∃ r : Nat, v = .int (Int32.ofNat r) ∧ Keep h h' [d] ∧ ((r = cs.length ∧ (∀ c ∈ cs, ¬ (255 : Int32) < c) ∧ Arv G.Z h' d kd .byte (Int32.ofNat cs.length) (cs.map (fun c => Value.int (StrChars.lo8 c))) (.int (0 : Int32))) ∨ (r < cs.length ∧ (255 : Int32) < cs.getD r 0))) := by
  refine Con.intro H.el ho (plainFor_of_name pn10) (Ls := #[.val (.ref ca), .val (.int (0 : Int32)), .val (.ref d), .val (.int (0 : Int32)), .val (.int (Int32.ofNat cs.length)), .unset, .unset]) (fun m => by first | (simp [entryFrame, mkF, argsToLocals, Value.category]; done) | rfl) ?_
  intro X vm T w
  refine w.iconst (q := 1) (0 : Int32) d9_0 rfl rfl ?_
  refine w.istore (q := 3) (L2 := #[.val (.ref ca), .val (.int (0 : Int32)), .val (.ref d), .val (.int (0 : Int32)), .val (.int (Int32.ofNat cs.length)), .val (.int (0 : Int32)), .unset]) d9_1 rfl rfl ?_
  have loop : ∀ (j k : Nat), j + k = cs.length → ∀ (s6 : Slot), (s6 = .unset ∨ ∃ x, s6 = .val (.int x)) → ∀ (vmk : Vm) (Tk : State) (hk : Heap), Wk G (((⟨"java/lang/StringUTF16", "compress", "([CI[BII)I"⟩ : MethodName)).cls, ((⟨"java/lang/StringUTF16", "compress", "([CI[BII)I"⟩ : MethodName)).name, jdk_52_method_21_code, 7, (some .int)) ({ frames := 0, cells := 0, slots := 0, locals := 0 } : Room) X vmk Tk hk 0 0 → Keep h hk [d] → (∀ c ∈ cs.take k, ¬ (255 : Int32) < c) → Arv G.Z hk d kd .byte (Int32.ofNat cs.length) ((cs.take k).map (fun c => Value.int (StrChars.lo8 c)) ++ List.replicate j (.int (0 : Int32))) (.int (0 : Int32)) → Go G ({ frames := 0, cells := 0, slots := 0, locals := 0 } : Room) X (vQ fun v h' => ∃ r : Nat, v = .int (Int32.ofNat r) ∧ Keep h h' [d] ∧ ((r = cs.length ∧ (∀ c ∈ cs, ¬ (255 : Int32) < c) ∧ Arv G.Z h' d kd .byte (Int32.ofNat cs.length) (cs.map (fun c => Value.int (StrChars.lo8 c))) (.int (0 : Int32))) ∨ (r < cs.length ∧ (255 : Int32) < cs.getD r 0))) (Tk.setTop (mkF X.m 3 #[.val (.ref ca), .val (.int (Int32.ofNat k)), .val (.ref d), .val (.int (Int32.ofNat k)), .val (.int (Int32.ofNat cs.length)), .val (.int (Int32.ofNat k)), s6] [])) := by
    intro j
    induction j with
    | zero =>
      intro k hjk s6 hs6 vmk Tk hk wk K0 hl Dk
      have ek : k = cs.length := by omega
      subst ek
      rw [List.take_of_length_le (Nat.le_refl _)] at Dk hl
      refine wk.iload (q := 5) d9_3 rfl rfl ?_
      refine wk.iload (q := 7) d9_5 rfl rfl ?_
      refine wk.icY (q := 44) d9_7 ((flt (ofnlt (Nat.le_refl _) (by omega))).2.1) (by decide) (by decide) ?_
      refine wk.iload (q := 46) d9_44 rfl rfl ?_
      exact wk.retI d9_46 rfl (by decide) (by decide) ⟨_, rfl, _, rfl, K0, Or.inl ⟨rfl, hl, (by simpa using Dk)⟩⟩
    | succ j ih =>
      intro k hjk s6 hs6 vmk Tk hk wk K0 hl Dk
      refine wk.iload (q := 5) d9_3 rfl rfl ?_
      refine wk.iload (q := 7) d9_5 rfl rfl ?_
      refine wk.icN (q := 10) d9_7 ((tlt (oflt (by omega) (by omega))).2.1) rfl ?_
      refine wk.aloadN (q := 11) d9_10 rfl rfl rfl ?_
      refine wk.iloadN (q := 12) d9_11 rfl rfl ?_
      have Ak := A.keep K0 (nin1 ne)
      refine wk.caload (q := 13) (x := (cs.getD k 0)) d9_12 Ak ⟨nn0 (by omega), oflt (by omega) (by omega)⟩ (by rw [cln (by omega)]; exact getD_map Value.int cs 0 _ (by omega)) rfl ?_
      refine wk.istore (q := 15) (L2 := #[.val (.ref ca), .val (.int (Int32.ofNat k)), .val (.ref d), .val (.int (Int32.ofNat k)), .val (.int (Int32.ofNat cs.length)), .val (.int (Int32.ofNat k)), .val (.int (cs.getD k 0))]) d9_13 (by rcases hs6 with rfl | ⟨_, rfl⟩ <;> rfl) rfl ?_
      refine wk.iload (q := 17) d9_15 rfl rfl ?_
      refine wk.sipush (q := 20) (255 : Int32) d9_17 rfl rfl ?_
      by_cases cl : (255 : Int32) < (cs.getD k 0)
      ·
        refine wk.icN (q := 23) d9_20 ((tlt cl).2.2.2) rfl ?_
        refine wk.iload (q := 25) d9_23 rfl rfl ?_
        exact wk.retI d9_25 rfl (by decide) (by decide) ⟨_, rfl, _, rfl, K0, Or.inr ⟨by omega, cl⟩⟩
      ·
        refine wk.icY (q := 26) d9_20 ((flt cl).2.2.2) (by decide) (by decide) ?_
        refine wk.aloadN (q := 27) d9_26 rfl rfl rfl ?_
        refine wk.iloadN (q := 28) d9_27 rfl rfl ?_
        refine wk.iload (q := 30) d9_28 rfl rfl ?_
        refine wk.i2b (q := 31) d9_30 rfl ?_
        have lt : ((cs.take k).map (fun c => Value.int (StrChars.lo8 c))).length = k := by rw [List.length_map, List.length_take]; omega
        have lt2 : (cs.take k).length = k := by rw [List.length_take]; omega
        have sfk := wk.sfC Dk (fun p hp tx ht => (H.lens p hp tx ht).elim (fun q => by by_cases e15 : cs.length = 15; exact Or.inr ⟨14, ' ', by rw [q]; decide, by have := repl_last ((cs.take k).map (fun c => Value.int (StrChars.lo8 c))) (j + 1) (Value.int (0 : Int32)) (.int (0 : Int32)) (by omega); rw [lt, show k + (j + 1) - 1 = 14 from by omega] at this; rw [this]; decide⟩; exact Or.inl (by rw [q, cln (by omega)]; exact fun z => e15 z.symm)) (fun q => Or.inl (by rw [q, cln (by omega)]; exact fun z => absurd z (by show ¬ 0 = cs.length; omega))))
        refine wk.bastore (q := 32) (k) d9_31 Dk g sfk ⟨nn0 (by omega), oflt (by omega) (by omega)⟩ (cln (by omega)) (by rw [List.length_append, lt, List.length_replicate]; omega) rfl fun T1 h1 w1 K1 sf1 A1 => ?_
        have sz1 : hk.size ≤ h1.size := K1.1
        rw [show (cs.getD k 0).toInt8.toInt32.toInt8.toInt32 = StrChars.lo8 (cs.getD k 0) from lo8i _, List.replicate_succ] at A1
        have sA := mapset (fun c => Value.int (StrChars.lo8 c)) (cs.take k) (cs.getD k 0) (Value.int (0 : Int32)) (List.replicate j (Value.int (0 : Int32)))
        rw [lt2, take_snoc cs 0 (by omega)] at sA
        rw [sA] at A1
        refine w1.iinc (q := 35) (L2 := #[.val (.ref ca), .val (.int ((Int32.ofNat k) + (1 : Int32))), .val (.ref d), .val (.int (Int32.ofNat k)), .val (.int (Int32.ofNat cs.length)), .val (.int (Int32.ofNat k)), .val (.int (cs.getD k 0))]) (1 : Int32) d9_32 rfl rfl rfl rfl ?_
        refine w1.iinc (q := 38) (L2 := #[.val (.ref ca), .val (.int ((Int32.ofNat k) + (1 : Int32))), .val (.ref d), .val (.int ((Int32.ofNat k) + (1 : Int32))), .val (.int (Int32.ofNat cs.length)), .val (.int (Int32.ofNat k)), .val (.int (cs.getD k 0))]) (1 : Int32) d9_35 rfl rfl rfl rfl ?_
        refine w1.iinc (q := 41) (L2 := #[.val (.ref ca), .val (.int ((Int32.ofNat k) + (1 : Int32))), .val (.ref d), .val (.int ((Int32.ofNat k) + (1 : Int32))), .val (.int (Int32.ofNat cs.length)), .val (.int ((Int32.ofNat k) + (1 : Int32))), .val (.int (cs.getD k 0))]) (1 : Int32) d9_38 rfl rfl rfl rfl ?_
        rw [ofsucc k]
        refine w1.goto (q := 3) d9_41 (by decide) (by decide) ?_
        exact ih (k + 1) (by omega) _ (Or.inr ⟨_, rfl⟩) _ _ _ w1 (K0.trans K1 (fun x hx => Or.inl hx)) (fun c hc => by rw [← take_snoc cs 0 (by omega)] at hc; rcases List.mem_append.mp hc with q | q; exact hl c q; rw [List.mem_singleton.mp q]; exact cl) A1
  exact loop cs.length 0 (by omega) _ (Or.inl rfl) _ _ _ w (Keep.refl _ _) (fun c hc => by simp at hc) (by simpa using D0)
theorem d11_0 : decode jdk_52_method_3_code 0 = .ok (.iload_n 0, 1) := by decide +kernel
theorem d11_1 : decode jdk_52_method_3_code 1 = .ok (.ifCond .ge 11, 3) := by decide +kernel
theorem d11_12 : decode jdk_52_method_3_code 12 = .ok (.iload_n 0, 1) := by decide +kernel
theorem d11_13 : decode jdk_52_method_3_code 13 = .ok (.ldc 20, 2) := by decide +kernel
theorem d11_15 : decode jdk_52_method_3_code 15 = .ok (.if_icmp .lt 40, 3) := by decide +kernel
theorem d11_55 : decode jdk_52_method_3_code 55 = .ok (.iload_n 0, 1) := by decide +kernel
theorem d11_56 : decode jdk_52_method_3_code 56 = .ok (.iconst 1, 1) := by decide +kernel
theorem d11_57 : decode jdk_52_method_3_code 57 = .ok (.ishl, 1) := by decide +kernel
theorem d11_58 : decode jdk_52_method_3_code 58 = .ok (.ireturn, 1) := by decide +kernel
set_option maxRecDepth 65536 in
set_option maxHeartbeats 40000000 in
theorem con_nbl (G : Gx) (H : Hyp G) (n0 : Nat) (h : Heap) (ho : Old G.Z G.n0 h) (hn : n0 ≤ 40) :
    Con G (⟨"java/lang/StringUTF16", "newBytesLength", "(I)I"⟩ : MethodName) jdk_52_method_3_code 1 (some .int) [] ({ frames := 0, cells := 0, slots := 0, locals := 0 } : Room) #[(.int (Int32.ofNat n0))] h (vQ fun v h' => v = .int (Int32.ofNat (2 * n0)) ∧ h = h') := by
  refine Con.intro H.el ho (plainFor_of_name pn10) (Ls := #[.val (.int (Int32.ofNat n0))]) (fun m => by first | (simp [entryFrame, mkF, argsToLocals, Value.category]; done) | rfl) ?_
  intro X vm T w
  refine w.iloadN (q := 1) d11_0 rfl rfl ?_
  refine w.ifY (q := 12) d11_1 ((if0 _ _).trans (flt (nn0 (by omega))).2.1) (by decide) (by decide) ?_
  refine w.iloadN (q := 13) d11_12 rfl rfl ?_
  refine w.ldcI (q := 15) d11_13 (H.tw 267 rfl) rfl ?_
  refine w.icY (q := 55) d11_15 ((tlt (oflt (m := 1073741823) (by omega) (by decide))).1) (by decide) (by decide) ?_
  refine w.iloadN (q := 56) d11_55 rfl rfl ?_
  refine w.iconst (q := 57) (1 : Int32) d11_56 rfl rfl ?_
  refine w.ishl (q := 58) d11_57 rfl ?_
  rw [show ((Int32.ofNat n0) <<< ((1 : Int32) &&& 31)) = (Int32.ofNat (2 * n0)) from shl1 hn]
  exact w.retI d11_58 rfl (by decide) (by decide) ⟨_, rfl, ⟨rfl, rfl⟩⟩
theorem d12_0 : decode jdk_52_method_2_code 0 = .ok (.iload_n 0, 1) := by decide +kernel
theorem d12_1 : decode jdk_52_method_2_code 1 = .ok (.invokestatic 11, 3) := by decide +kernel
theorem pd13 : parseMethodDescriptor "(I)I" = some ⟨[.int], some .int⟩ := by decide +kernel
theorem d12_4 : decode jdk_52_method_2_code 4 = .ok (.newarray .byte, 2) := by decide +kernel
theorem d12_6 : decode jdk_52_method_2_code 6 = .ok (.areturn, 1) := by decide +kernel
set_option maxRecDepth 65536 in
set_option maxHeartbeats 40000000 in
theorem con_nbf (G : Gx) (H : Hyp G) (n0 : Nat) (h : Heap) (ho : Old G.Z G.n0 h) (hn : n0 ≤ 34) :
    Con G (⟨"java/lang/StringUTF16", "newBytesFor", "(I)[B"⟩ : MethodName) jdk_52_method_2_code 1 (some (.array .byte)) [] ({ frames := 1, cells := 1, slots := 68, locals := 12 } : Room) #[(.int (Int32.ofNat n0))] h (vQ fun v h' => ∃ (r : Nat) (kr : ClassId), v = .ref r ∧ Ext h h' ∧ h.size ≤ r ∧ Exa G.Z h' r "[B" ∧ Arv G.Z h' r kr .byte (Int32.ofNat (2 * n0)) (List.replicate (2 * n0) (.int (0 : Int32))) (.int (0 : Int32))) := by
  refine Con.intro H.el ho (plainFor_of_name pn10) (Ls := #[.val (.int (Int32.ofNat n0))]) (fun m => by first | (simp [entryFrame, mkF, argsToLocals, Value.category]; done) | rfl) ?_
  intro X vm T w
  refine w.iloadN (q := 1) d12_0 rfl rfl ?_
  refine w.callS (q := 4) d12_1 (H.tw 264 rfl) (H.tw 265 rfl) (H.tw 18 rfl) (H.tw 266 rfl) (by decide) (argsL := [(.int (Int32.ofNat n0))]) (rest := []) rfl (lenOf pd13 rfl) rfl (W := 0) (Nat.le_of_eq rfl) ((con_nbl G H n0 h ho (by omega)).pay w (H.tw 266 rfl) (H.tw 18 rfl) (by decide) (by decide)) (by decide) (by decide) rfl fun vm1 T1 h1 v1 w1 q1 => ?_
  obtain ⟨_, rfl, rfl, rfl⟩ := q1
  show Go _ _ _ _ (T1.setTop (mkF X.m 4 #[.val (.int (Int32.ofNat n0))] [(.int (Int32.ofNat (2 * n0)))]))
  refine w1.newPX (q := 6) (ad := "[B") 68 d12_4 (H.tw 20 rfl) (by decide) (nn0 (by omega)) (by rw [cln (by omega)]; omega) (by decide) (by decide) (by decide) rfl fun T2 h2 b2 kc2 e2 w2 E2 A2 Y2 sf2 => ?_
  replace A2 : Arv G.Z h2 b2 kc2 .byte (Int32.ofNat (2 * n0)) (List.replicate (2 * n0) (.int (0 : Int32))) (.int (0 : Int32)) := A2.pad (pad_rep [] (.int (0 : Int32)) (2 * n0))
  have lt2 : b2 < h2.size := A2.lt
  have sz2 : h.size ≤ h2.size := E2.1
  exact w2.retA d12_6 (t := (.array .byte)) rfl rfl rfl (by decide) (by decide) ⟨_, rfl, b2, kc2, rfl, E2, by omega, Y2, A2⟩
theorem d14_0 : decode jdk_52_method_4_code 0 = .ok (.getstatic 44, 3) := by decide +kernel
theorem d14_3 : decode jdk_52_method_4_code 3 = .ok (.ifCond .ne 25, 3) := by decide +kernel
theorem d14_28 : decode jdk_52_method_4_code 28 = .ok (.iload_n 1, 1) := by decide +kernel
theorem d14_29 : decode jdk_52_method_4_code 29 = .ok (.iconst 1, 1) := by decide +kernel
theorem d14_30 : decode jdk_52_method_4_code 30 = .ok (.ishl, 1) := by decide +kernel
theorem d14_31 : decode jdk_52_method_4_code 31 = .ok (.istore_n 1, 1) := by decide +kernel
theorem d14_32 : decode jdk_52_method_4_code 32 = .ok (.aload_n 0, 1) := by decide +kernel
theorem d14_33 : decode jdk_52_method_4_code 33 = .ok (.iload_n 1, 1) := by decide +kernel
theorem d14_34 : decode jdk_52_method_4_code 34 = .ok (.iinc 1 1, 3) := by decide +kernel
theorem d14_37 : decode jdk_52_method_4_code 37 = .ok (.iload_n 2, 1) := by decide +kernel
theorem d14_38 : decode jdk_52_method_4_code 38 = .ok (.getstatic 59, 3) := by decide +kernel
theorem d14_41 : decode jdk_52_method_4_code 41 = .ok (.ishr, 1) := by decide +kernel
theorem d14_42 : decode jdk_52_method_4_code 42 = .ok (.i2b, 1) := by decide +kernel
theorem d14_43 : decode jdk_52_method_4_code 43 = .ok (.bastore, 1) := by decide +kernel
theorem d14_44 : decode jdk_52_method_4_code 44 = .ok (.aload_n 0, 1) := by decide +kernel
theorem d14_45 : decode jdk_52_method_4_code 45 = .ok (.iload_n 1, 1) := by decide +kernel
theorem d14_46 : decode jdk_52_method_4_code 46 = .ok (.iload_n 2, 1) := by decide +kernel
theorem d14_47 : decode jdk_52_method_4_code 47 = .ok (.getstatic 63, 3) := by decide +kernel
theorem d14_50 : decode jdk_52_method_4_code 50 = .ok (.ishr, 1) := by decide +kernel
theorem d14_51 : decode jdk_52_method_4_code 51 = .ok (.i2b, 1) := by decide +kernel
theorem d14_52 : decode jdk_52_method_4_code 52 = .ok (.bastore, 1) := by decide +kernel
theorem d14_53 : decode jdk_52_method_4_code 53 = .ok (.return_, 1) := by decide +kernel
set_option maxRecDepth 65536 in
set_option maxHeartbeats 40000000 in
theorem con_pc (G : Gx) (H : Hyp G) (d k0 q0 : Nat) (kd : ClassId) (c : Int32) (p : List Int32) (x y : Value) (r : List Value) (h : Heap) (ho : Old G.Z G.n0 h) (A : Arv G.Z h d kd .byte (Int32.ofNat (2 * q0)) (StrChars.Road.wideBytes p ++ x :: y :: r) (.int (0 : Int32))) (hp : p.length = k0) (hq : 2 * k0 + 2 ≤ 2 * q0 ∧ q0 ≤ 34) (g : G.n0 ≤ d) :
    Con G (⟨"java/lang/StringUTF16", "putChar", "([BII)V"⟩ : MethodName) jdk_52_method_4_code 3 none [] ({ frames := 0, cells := 0, slots := 0, locals := 0 } : Room) #[(.ref d), (.int (Int32.ofNat k0)), (.int c)] h (nQ fun h' => Keep h h' [d] ∧ Arv G.Z h' d kd .byte (Int32.ofNat (2 * q0)) (StrChars.Road.wideBytes (p ++ [c]) ++ r) (.int (0 : Int32))) := by
  refine Con.intro H.el ho (plainFor_of_name pn10) (Ls := #[.val (.ref d), .val (.int (Int32.ofNat k0)), .val (.int c)]) (fun m => by first | (simp [entryFrame, mkF, argsToLocals, Value.category]; done) | rfl) ?_
  intro X vm T w
  obtain ⟨-, ⟨Sa, Sh, Sl⟩, -⟩ := H.mo
  have lw := wlen p
  have en : (Int32.ofNat (2 * q0)).toNatClampNeg = 2 * q0 := cln (by omega)
  refine w.getS (q := 3) d14_0 (H.tw 271 rfl) Via.refl Sa rfl fun T1 w1 => ?_
  refine w1.ifY (q := 28) d14_3 ((if0 _ _).trans (feq (by decide)).2) (by decide) (by decide) ?_
  refine w1.iloadN (q := 29) d14_28 rfl rfl ?_
  refine w1.iconst (q := 30) (1 : Int32) d14_29 rfl rfl ?_
  refine w1.ishl (q := 31) d14_30 rfl ?_
  rw [show ((Int32.ofNat k0) <<< ((1 : Int32) &&& 31)) = (Int32.ofNat (2 * k0)) from shl1 (by omega)]
  refine w1.istoreN (q := 32) (L2 := #[.val (.ref d), .val (.int (Int32.ofNat (2 * k0))), .val (.int c)]) d14_31 rfl rfl ?_
  refine w1.aloadN (q := 33) d14_32 rfl rfl rfl ?_
  refine w1.iloadN (q := 34) d14_33 rfl rfl ?_
  refine w1.iinc (q := 37) (L2 := #[.val (.ref d), .val (.int ((Int32.ofNat (2 * k0)) + (1 : Int32))), .val (.int c)]) (1 : Int32) d14_34 rfl rfl rfl rfl ?_
  refine w1.iloadN (q := 38) d14_37 rfl rfl ?_
  refine w1.getS (q := 41) d14_38 (H.tw 272 rfl) Via.refl Sh rfl fun T2 w2 => ?_
  refine w2.ishr (q := 42) d14_41 rfl ?_
  refine w2.i2b (q := 43) d14_42 rfl ?_
  rw [show (c >>> ((0 : Int32) &&& 31)).toInt8.toInt32 = (StrChars.lo8 c) from (by rw [shr0]; rfl)]
  refine w2.bastore (q := 44) (2 * k0) d14_43 A g (w2.sfL A (H.neL (by rw [en]; omega) (by rw [en]; omega))) ⟨nn0 (by omega), oflt (by omega) (by omega)⟩ (cln (by omega)) (by simp only [List.length_append, List.length_cons]; omega) rfl fun T3 h3 w3 K3 sf3 A3 => ?_
  have sz3 : h.size ≤ h3.size := K3.1
  rw [lo8i] at A3
  rw [show ((Int32.ofNat (2 * k0)) + (1 : Int32)) = (Int32.ofNat (2 * k0 + 1)) from ofsucc _]
  refine w3.aloadN (q := 45) d14_44 rfl rfl rfl ?_
  refine w3.iloadN (q := 46) d14_45 rfl rfl ?_
  refine w3.iloadN (q := 47) d14_46 rfl rfl ?_
  refine w3.getS (q := 50) d14_47 (H.tw 273 rfl) Via.refl Sl rfl fun T4 w4 => ?_
  refine w4.ishr (q := 51) d14_50 rfl ?_
  refine w4.i2b (q := 52) d14_51 rfl ?_
  rw [show (c >>> ((8 : Int32) &&& 31)).toInt8.toInt32 = (StrChars.hi8 c) from rfl]
  refine w4.bastore (q := 53) (2 * k0 + 1) d14_52 A3 g (w4.sfL A3 (H.neL (by rw [en]; omega) (by rw [en]; omega))) ⟨nn0 (by omega), oflt (by omega) (by omega)⟩ (cln (by omega)) (by simp only [List.length_set, List.length_append, List.length_cons]; omega) rfl fun T5 h5 w5 K5 sf5 A5 => ?_
  have sz5 : h3.size ≤ h5.size := K5.1
  rw [show (StrChars.hi8 c).toInt8.toInt32 = StrChars.hi8 c from lo8i _, wside p c x y r hp] at A5
  exact w5.retV d14_53 rfl (by decide) (by decide) ⟨rfl, K3.trans K5 (fun x hx => Or.inl hx), A5⟩
theorem d15_0 : decode jdk_52_method_14_code 0 = .ok (.iload_n 2, 1) := by decide +kernel
theorem d15_1 : decode jdk_52_method_14_code 1 = .ok (.invokestatic 107, 3) := by decide +kernel
theorem pd16 : parseMethodDescriptor "(I)[B" = some ⟨[.int], some (.array .byte)⟩ := by decide +kernel
theorem d15_4 : decode jdk_52_method_14_code 4 = .ok (.astore_n 3, 1) := by decide +kernel
theorem d15_5 : decode jdk_52_method_14_code 5 = .ok (.iconst 0, 1) := by decide +kernel
theorem d15_6 : decode jdk_52_method_14_code 6 = .ok (.istore 4, 2) := by decide +kernel
theorem d15_8 : decode jdk_52_method_14_code 8 = .ok (.iload 4, 2) := by decide +kernel
theorem d15_10 : decode jdk_52_method_14_code 10 = .ok (.iload_n 2, 1) := by decide +kernel
theorem d15_11 : decode jdk_52_method_14_code 11 = .ok (.if_icmp .ge 21, 3) := by decide +kernel
theorem d15_32 : decode jdk_52_method_14_code 32 = .ok (.aload_n 3, 1) := by decide +kernel
theorem d15_33 : decode jdk_52_method_14_code 33 = .ok (.areturn, 1) := by decide +kernel
theorem d15_14 : decode jdk_52_method_14_code 14 = .ok (.aload_n 3, 1) := by decide +kernel
theorem d15_15 : decode jdk_52_method_14_code 15 = .ok (.iload 4, 2) := by decide +kernel
theorem d15_17 : decode jdk_52_method_14_code 17 = .ok (.aload_n 0, 1) := by decide +kernel
theorem d15_18 : decode jdk_52_method_14_code 18 = .ok (.iload_n 1, 1) := by decide +kernel
theorem d15_19 : decode jdk_52_method_14_code 19 = .ok (.caload, 1) := by decide +kernel
theorem d15_20 : decode jdk_52_method_14_code 20 = .ok (.invokestatic 111, 3) := by decide +kernel
theorem pd17 : parseMethodDescriptor "([BII)V" = some ⟨[(.array .byte), .int, .int], none⟩ := by decide +kernel
theorem d15_23 : decode jdk_52_method_14_code 23 = .ok (.iinc 1 1, 3) := by decide +kernel
theorem d15_26 : decode jdk_52_method_14_code 26 = .ok (.iinc 4 1, 3) := by decide +kernel
theorem d15_29 : decode jdk_52_method_14_code 29 = .ok (.goto (-21), 3) := by decide +kernel
set_option maxRecDepth 65536 in
set_option maxHeartbeats 40000000 in
theorem con_tb (G : Gx) (H : Hyp G) (ca : Nat) (kc : ClassId) (cs : List Int32) (dv : Value) (h : Heap) (ho : Old G.Z G.n0 h) (A : Arv G.Z h ca kc .char (Int32.ofNat cs.length) (cs.map Value.int) dv) (hn : 1 ≤ cs.length ∧ cs.length ≤ 18) :
    Con G (⟨"java/lang/StringUTF16", "toBytes", "([CII)[B"⟩ : MethodName) jdk_52_method_14_code 5 (some (.array .byte)) [] ({ frames := 2, cells := 1, slots := 68, locals := 24 } : Room) #[(.ref ca), (.int (0 : Int32)), (.int (Int32.ofNat cs.length))] h (vQ fun v h' => ∃ (r : Nat) (kr : ClassId), v = .ref r ∧ Ext h h' ∧ h.size ≤ r ∧ Arv G.Z h' r kr .byte (Int32.ofNat (2 * cs.length)) (StrChars.Road.wideBytes cs) (.int (0 : Int32))) := by
  refine Con.intro H.el ho (plainFor_of_name pn10) (Ls := #[.val (.ref ca), .val (.int (0 : Int32)), .val (.int (Int32.ofNat cs.length)), .unset, .unset]) (fun m => by first | (simp [entryFrame, mkF, argsToLocals, Value.category]; done) | rfl) ?_
  intro X vm T w
  have lca : ca < h.size := A.lt
  refine w.iloadN (q := 1) d15_0 rfl rfl ?_
  refine w.callS (q := 4) d15_1 (H.tw 261 rfl) (H.tw 262 rfl) (H.tw 18 rfl) (H.tw 263 rfl) (by decide) (argsL := [(.int (Int32.ofNat cs.length))]) (rest := []) rfl (lenOf pd16 rfl) rfl (W := 0) (Nat.le_of_eq rfl) ((con_nbf G H cs.length h ho (by omega)).pay w (H.tw 263 rfl) (H.tw 18 rfl) (by decide) (by decide)) (by decide) (by decide) rfl fun vm1 T1 h1 v1 w1 q1 => ?_
  obtain ⟨_, rfl, ⟨d, kd, rfl, X1, z1, Y1, D0⟩⟩ := q1
  show Go _ _ _ _ (T1.setTop (mkF X.m 4 #[.val (.ref ca), .val (.int (0 : Int32)), .val (.int (Int32.ofNat cs.length)), .unset, .unset] [(.ref d)]))
  have sz1 := X1.1
  have g : G.n0 ≤ d := by have := ho.2.1; have := ho.1; omega
  refine w1.astoreN (q := 5) (L2 := #[.val (.ref ca), .val (.int (0 : Int32)), .val (.int (Int32.ofNat cs.length)), .val (.ref d), .unset]) d15_4 rfl rfl rfl ?_
  refine w1.iconst (q := 6) (0 : Int32) d15_5 rfl rfl ?_
  refine w1.istore (q := 8) (L2 := #[.val (.ref ca), .val (.int (0 : Int32)), .val (.int (Int32.ofNat cs.length)), .val (.ref d), .val (.int (0 : Int32))]) d15_6 rfl rfl ?_
  have loop : ∀ (j k : Nat), j + k = cs.length → ∀ (vmk : Vm) (Tk : State) (hk : Heap), Wk G (((⟨"java/lang/StringUTF16", "toBytes", "([CII)[B"⟩ : MethodName)).cls, ((⟨"java/lang/StringUTF16", "toBytes", "([CII)[B"⟩ : MethodName)).name, jdk_52_method_14_code, 5, (some (.array .byte))) ({ frames := 2, cells := 1, slots := 68, locals := 24 } : Room) X vmk Tk hk 1 68 → Ext h hk → Arv G.Z hk d kd .byte (Int32.ofNat (2 * cs.length)) (StrChars.Road.wideBytes (cs.take k) ++ List.replicate (2 * j) (.int (0 : Int32))) (.int (0 : Int32)) → Go G ({ frames := 2, cells := 1, slots := 68, locals := 24 } : Room) X (vQ fun v h' => ∃ (r : Nat) (kr : ClassId), v = .ref r ∧ Ext h h' ∧ h.size ≤ r ∧ Arv G.Z h' r kr .byte (Int32.ofNat (2 * cs.length)) (StrChars.Road.wideBytes cs) (.int (0 : Int32))) (Tk.setTop (mkF X.m 8 #[.val (.ref ca), .val (.int (Int32.ofNat k)), .val (.int (Int32.ofNat cs.length)), .val (.ref d), .val (.int (Int32.ofNat k))] [])) := by
    intro j
    induction j with
    | zero =>
      intro k hjk vmk Tk hk wk X0 Dk
      have ek : k = cs.length := by omega
      subst ek
      rw [List.take_of_length_le (Nat.le_refl _)] at Dk
      refine wk.iload (q := 10) d15_8 rfl rfl ?_
      refine wk.iloadN (q := 11) d15_10 rfl rfl ?_
      refine wk.icY (q := 32) d15_11 ((flt (ofnlt (Nat.le_refl _) (by omega))).2.1) (by decide) (by decide) ?_
      refine wk.aloadN (q := 33) d15_32 rfl rfl rfl ?_
      exact wk.retA d15_33 (t := (.array .byte)) rfl rfl rfl (by decide) (by decide) ⟨_, rfl, d, kd, rfl, X0, by omega, (by simpa using Dk)⟩
    | succ j ih =>
      intro k hjk vmk Tk hk wk X0 Dk
      refine wk.iload (q := 10) d15_8 rfl rfl ?_
      refine wk.iloadN (q := 11) d15_10 rfl rfl ?_
      refine wk.icN (q := 14) d15_11 ((tlt (oflt (by omega) (by omega))).2.1) rfl ?_
      refine wk.aloadN (q := 15) d15_14 rfl rfl rfl ?_
      refine wk.iload (q := 17) d15_15 rfl rfl ?_
      refine wk.aloadN (q := 18) d15_17 rfl rfl rfl ?_
      refine wk.iloadN (q := 19) d15_18 rfl rfl ?_
      refine wk.caload (q := 20) (x := (cs.getD k 0)) d15_19 (A.ext X0) ⟨nn0 (by omega), oflt (by omega) (by omega)⟩ (by rw [cln (by omega)]; exact getD_map Value.int cs 0 _ (by omega)) rfl ?_
      rw [rep2] at Dk
      refine wk.callS (q := 23) d15_20 (H.tw 268 rfl) (H.tw 269 rfl) (H.tw 18 rfl) (H.tw 270 rfl) (by decide) (argsL := [(.ref d), (.int (Int32.ofNat k)), (.int (cs.getD k 0))]) (rest := []) rfl (lenOf pd17 rfl) rfl (W := 0) (Nat.le_of_eq rfl) ((con_pc G H d k cs.length kd (cs.getD k 0) (cs.take k) _ _ _ hk wk.old Dk (by rw [List.length_take]; omega) (by omega) g).pay wk (H.tw 270 rfl) (H.tw 18 rfl) (by decide) (by decide)) (by decide) (by decide) rfl fun vm2 T2 h2 v2 w2 q2 => ?_
      obtain ⟨rfl, K2, D2⟩ := q2
      show Go _ _ _ _ (T2.setTop (mkF X.m 23 #[.val (.ref ca), .val (.int (Int32.ofNat k)), .val (.int (Int32.ofNat cs.length)), .val (.ref d), .val (.int (Int32.ofNat k))] []))
      rw [take_snoc cs 0 (by omega)] at D2
      refine w2.iinc (q := 26) (L2 := #[.val (.ref ca), .val (.int ((Int32.ofNat k) + (1 : Int32))), .val (.int (Int32.ofNat cs.length)), .val (.ref d), .val (.int (Int32.ofNat k))]) (1 : Int32) d15_23 rfl rfl rfl rfl ?_
      refine w2.iinc (q := 29) (L2 := #[.val (.ref ca), .val (.int ((Int32.ofNat k) + (1 : Int32))), .val (.int (Int32.ofNat cs.length)), .val (.ref d), .val (.int ((Int32.ofNat k) + (1 : Int32)))]) (1 : Int32) d15_26 rfl rfl rfl rfl ?_
      rw [ofsucc k]
      refine w2.goto (q := 8) d15_29 (by decide) (by decide) ?_
      exact ih (k + 1) (by omega) _ _ _ w2 (xkp X0 K2 (all1 (by omega))) D2
  exact loop cs.length 0 (by omega) _ _ _ w1 X1 (by simpa [StrChars.Road.wideBytes] using D0)
theorem d18_0 : decode jdk_52_method_5_code 0 = .ok (.getstatic 44, 3) := by decide +kernel
theorem d18_3 : decode jdk_52_method_5_code 3 = .ok (.ifCond .ne 25, 3) := by decide +kernel
theorem d18_28 : decode jdk_52_method_5_code 28 = .ok (.iload_n 1, 1) := by decide +kernel
theorem d18_29 : decode jdk_52_method_5_code 29 = .ok (.iconst 1, 1) := by decide +kernel
theorem d18_30 : decode jdk_52_method_5_code 30 = .ok (.ishl, 1) := by decide +kernel
theorem d18_31 : decode jdk_52_method_5_code 31 = .ok (.istore_n 1, 1) := by decide +kernel
theorem d18_32 : decode jdk_52_method_5_code 32 = .ok (.aload_n 0, 1) := by decide +kernel
theorem d18_33 : decode jdk_52_method_5_code 33 = .ok (.iload_n 1, 1) := by decide +kernel
theorem d18_34 : decode jdk_52_method_5_code 34 = .ok (.iinc 1 1, 3) := by decide +kernel
theorem d18_37 : decode jdk_52_method_5_code 37 = .ok (.baload, 1) := by decide +kernel
theorem d18_38 : decode jdk_52_method_5_code 38 = .ok (.sipush 255, 3) := by decide +kernel
theorem d18_41 : decode jdk_52_method_5_code 41 = .ok (.iand, 1) := by decide +kernel
theorem d18_42 : decode jdk_52_method_5_code 42 = .ok (.getstatic 59, 3) := by decide +kernel
theorem d18_45 : decode jdk_52_method_5_code 45 = .ok (.ishl, 1) := by decide +kernel
theorem d18_46 : decode jdk_52_method_5_code 46 = .ok (.aload_n 0, 1) := by decide +kernel
theorem d18_47 : decode jdk_52_method_5_code 47 = .ok (.iload_n 1, 1) := by decide +kernel
theorem d18_48 : decode jdk_52_method_5_code 48 = .ok (.baload, 1) := by decide +kernel
theorem d18_49 : decode jdk_52_method_5_code 49 = .ok (.sipush 255, 3) := by decide +kernel
theorem d18_52 : decode jdk_52_method_5_code 52 = .ok (.iand, 1) := by decide +kernel
theorem d18_53 : decode jdk_52_method_5_code 53 = .ok (.getstatic 63, 3) := by decide +kernel
theorem d18_56 : decode jdk_52_method_5_code 56 = .ok (.ishl, 1) := by decide +kernel
theorem d18_57 : decode jdk_52_method_5_code 57 = .ok (.ior, 1) := by decide +kernel
theorem d18_58 : decode jdk_52_method_5_code 58 = .ok (.i2c, 1) := by decide +kernel
theorem d18_59 : decode jdk_52_method_5_code 59 = .ok (.ireturn, 1) := by decide +kernel
set_option maxRecDepth 65536 in
set_option maxHeartbeats 40000000 in
theorem con_gc (G : Gx) (H : Hyp G) (d i0 : Nat) (kd : ClassId) (cs : List Int32) (h : Heap) (ho : Old G.Z G.n0 h) (A : Arv G.Z h d kd .byte (Int32.ofNat (2 * cs.length)) (StrChars.Road.wideBytes cs) (.int (0 : Int32))) (hi : i0 < cs.length ∧ cs.length ≤ 18) (hb : ∀ c ∈ cs, ¬ c < 0 ∧ ¬ (65535 : Int32) < c) (hc : (255 : Int32) < cs.getD i0 0) :
    Con G (⟨"java/lang/StringUTF16", "getChar", "([BI)C"⟩ : MethodName) jdk_52_method_5_code 2 (some .char) [] ({ frames := 0, cells := 0, slots := 0, locals := 0 } : Room) #[(.ref d), (.int (Int32.ofNat i0))] h (vQ fun v h' => ∃ r : Int32, v = .int r ∧ (255 : Int32) < r ∧ h = h') := by
  refine Con.intro H.el ho (plainFor_of_name pn10) (Ls := #[.val (.ref d), .val (.int (Int32.ofNat i0))]) (fun m => by first | (simp [entryFrame, mkF, argsToLocals, Value.category]; done) | rfl) ?_
  intro X vm T w
  obtain ⟨-, ⟨Sa, Sh, Sl⟩, -⟩ := H.mo
  refine w.getS (q := 3) d18_0 (H.tw 271 rfl) Via.refl Sa rfl fun T1 w1 => ?_
  refine w1.ifY (q := 28) d18_3 ((if0 _ _).trans (feq (by decide)).2) (by decide) (by decide) ?_
  refine w1.iloadN (q := 29) d18_28 rfl rfl ?_
  refine w1.iconst (q := 30) (1 : Int32) d18_29 rfl rfl ?_
  refine w1.ishl (q := 31) d18_30 rfl ?_
  rw [show ((Int32.ofNat i0) <<< ((1 : Int32) &&& 31)) = (Int32.ofNat (2 * i0)) from shl1 (by omega)]
  refine w1.istoreN (q := 32) (L2 := #[.val (.ref d), .val (.int (Int32.ofNat (2 * i0)))]) d18_31 rfl rfl ?_
  refine w1.aloadN (q := 33) d18_32 rfl rfl rfl ?_
  refine w1.iloadN (q := 34) d18_33 rfl rfl ?_
  refine w1.iinc (q := 37) (L2 := #[.val (.ref d), .val (.int ((Int32.ofNat (2 * i0)) + (1 : Int32)))]) (1 : Int32) d18_34 rfl rfl rfl rfl ?_
  refine w1.baload (q := 38) (x := (StrChars.lo8 (cs.getD i0 0))) d18_37 A ⟨nn0 (by omega), oflt (by omega) (by omega)⟩ (by rw [cln (by omega)]; exact StrChars.Road.wide_lo _ cs i0 hi.1) rfl ?_
  refine w1.sipush (q := 41) (255 : Int32) d18_38 rfl rfl ?_
  refine w1.iand (q := 42) d18_41 rfl ?_
  refine w1.getS (q := 45) d18_42 (H.tw 272 rfl) Via.refl Sh rfl fun T2 w2 => ?_
  refine w2.ishl (q := 46) d18_45 rfl ?_
  refine w2.aloadN (q := 47) d18_46 rfl rfl rfl ?_
  refine w2.iloadN (q := 48) d18_47 rfl rfl ?_
  rw [show ((Int32.ofNat (2 * i0)) + (1 : Int32)) = (Int32.ofNat (2 * i0 + 1)) from ofsucc _]
  refine w2.baload (q := 49) (x := (StrChars.hi8 (cs.getD i0 0))) d18_48 A ⟨nn0 (by omega), oflt (by omega) (by omega)⟩ (by rw [cln (by omega)]; exact StrChars.Road.wide_hi _ cs i0 hi.1) rfl ?_
  refine w2.sipush (q := 52) (255 : Int32) d18_49 rfl rfl ?_
  refine w2.iand (q := 53) d18_52 rfl ?_
  refine w2.getS (q := 56) d18_53 (H.tw 273 rfl) Via.refl Sl rfl fun T3 w3 => ?_
  refine w3.ishl (q := 57) d18_56 rfl ?_
  refine w3.ior (q := 58) d18_57 rfl ?_
  refine w3.i2c (q := 59) d18_58 rfl ?_
  exact w3.retZ d18_59 (t := .char) rfl (by decide) (congrArg Value.int (i2ci _)) (by decide) (by decide) ⟨_, rfl, _, rfl, gc_ok (hb _ (mem_getD cs 0 hi.1)) hc, rfl⟩
theorem d19_0 : decode jdk_52_method_16_code 0 = .ok (.iload_n 2, 1) := by decide +kernel
theorem d19_1 : decode jdk_52_method_16_code 1 = .ok (.newarray .byte, 2) := by decide +kernel
theorem d19_3 : decode jdk_52_method_16_code 3 = .ok (.astore_n 3, 1) := by decide +kernel
theorem d19_4 : decode jdk_52_method_16_code 4 = .ok (.aload_n 0, 1) := by decide +kernel
theorem d19_5 : decode jdk_52_method_16_code 5 = .ok (.iload_n 1, 1) := by decide +kernel
theorem d19_6 : decode jdk_52_method_16_code 6 = .ok (.aload_n 3, 1) := by decide +kernel
theorem d19_7 : decode jdk_52_method_16_code 7 = .ok (.iconst 0, 1) := by decide +kernel
theorem d19_8 : decode jdk_52_method_16_code 8 = .ok (.iload_n 2, 1) := by decide +kernel
theorem d19_9 : decode jdk_52_method_16_code 9 = .ok (.invokestatic 115, 3) := by decide +kernel
theorem pd20 : parseMethodDescriptor "([CI[BII)I" = some ⟨[(.array .char), .int, (.array .byte), .int, .int], some .int⟩ := by decide +kernel
theorem d19_12 : decode jdk_52_method_16_code 12 = .ok (.istore 4, 2) := by decide +kernel
theorem d19_14 : decode jdk_52_method_16_code 14 = .ok (.iload 4, 2) := by decide +kernel
theorem d19_16 : decode jdk_52_method_16_code 16 = .ok (.iload_n 2, 1) := by decide +kernel
theorem d19_17 : decode jdk_52_method_16_code 17 = .ok (.if_icmp .eq 40, 3) := by decide +kernel
theorem d19_57 : decode jdk_52_method_16_code 57 = .ok (.aload_n 3, 1) := by decide +kernel
theorem d19_58 : decode jdk_52_method_16_code 58 = .ok (.areturn, 1) := by decide +kernel
theorem d19_20 : decode jdk_52_method_16_code 20 = .ok (.aload_n 0, 1) := by decide +kernel
theorem d19_21 : decode jdk_52_method_16_code 21 = .ok (.iload_n 1, 1) := by decide +kernel
theorem d19_22 : decode jdk_52_method_16_code 22 = .ok (.iload_n 2, 1) := by decide +kernel
theorem d19_23 : decode jdk_52_method_16_code 23 = .ok (.invokestatic 119, 3) := by decide +kernel
theorem pd21 : parseMethodDescriptor "([CII)[B" = some ⟨[(.array .char), .int, .int], some (.array .byte)⟩ := by decide +kernel
theorem d19_26 : decode jdk_52_method_16_code 26 = .ok (.astore 5, 2) := by decide +kernel
theorem d19_28 : decode jdk_52_method_16_code 28 = .ok (.aload 5, 2) := by decide +kernel
theorem d19_30 : decode jdk_52_method_16_code 30 = .ok (.iload 4, 2) := by decide +kernel
theorem d19_32 : decode jdk_52_method_16_code 32 = .ok (.invokestatic 71, 3) := by decide +kernel
theorem pd22 : parseMethodDescriptor "([BI)C" = some ⟨[(.array .byte), .int], some .char⟩ := by decide +kernel
theorem d19_35 : decode jdk_52_method_16_code 35 = .ok (.sipush 255, 3) := by decide +kernel
theorem d19_38 : decode jdk_52_method_16_code 38 = .ok (.if_icmp .gt 16, 3) := by decide +kernel
theorem d19_54 : decode jdk_52_method_16_code 54 = .ok (.aload 5, 2) := by decide +kernel
theorem d19_56 : decode jdk_52_method_16_code 56 = .ok (.areturn, 1) := by decide +kernel
set_option maxRecDepth 65536 in
set_option maxHeartbeats 40000000 in
theorem con_c3 (G : Gx) (H : Hyp G) (ca : Nat) (kc : ClassId) (cs : List Int32) (dv : Value) (h : Heap) (ho : Old G.Z G.n0 h) (A : Arv G.Z h ca kc .char (Int32.ofNat cs.length) (cs.map Value.int) dv) (hn : 1 ≤ cs.length ∧ cs.length ≤ 18) (hb : ∀ c ∈ cs, ¬ c < 0 ∧ ¬ (65535 : Int32) < c) :
    Con G (⟨"java/lang/StringUTF16", "compress", "([CII)[B"⟩ : MethodName) jdk_52_method_16_code 6 (some (.array .byte)) [] ({ frames := 3, cells := 2, slots := 86, locals := 40 } : Room) #[(.ref ca), (.int (0 : Int32)), (.int (Int32.ofNat cs.length))] h (vQ fun v h' => ∃ (r : Nat) (kr : ClassId), v = .ref r ∧ Ext h h' ∧ h.size ≤ r ∧ (((∀ c ∈ cs, ¬ (255 : Int32) < c) ∧ Arv G.Z h' r kr .byte (Int32.ofNat cs.length) (cs.map (fun c => Value.int (StrChars.lo8 c))) (.int (0 : Int32))) ∨ ((∃ c ∈ cs, (255 : Int32) < c) ∧ Arv G.Z h' r kr .byte (Int32.ofNat (2 * cs.length)) (StrChars.Road.wideBytes cs) (.int (0 : Int32))))) := by
  refine Con.intro H.el ho (plainFor_of_name pn10) (Ls := #[.val (.ref ca), .val (.int (0 : Int32)), .val (.int (Int32.ofNat cs.length)), .unset, .unset, .unset]) (fun m => by first | (simp [entryFrame, mkF, argsToLocals, Value.category]; done) | rfl) ?_
  intro X vm T w
  have lca : ca < h.size := A.lt
  refine w.iloadN (q := 1) d19_0 rfl rfl ?_
  refine w.newP (q := 3) 18 d19_1 (H.tw 20 rfl) (nn0 (by omega)) (by rw [cln (by omega)]; omega) (by decide) (by decide) (by decide) rfl fun T1 h1 b1 kc1 e1 w1 E1 A1 => ?_
  replace A1 : Arv G.Z h1 b1 kc1 .byte (Int32.ofNat cs.length) (List.replicate (cs.length) (.int (0 : Int32))) (.int (0 : Int32)) := A1.pad (pad_rep [] (.int (0 : Int32)) (cs.length))
  have lt1 : b1 < h1.size := A1.lt
  have sz1 : h.size ≤ h1.size := E1.1
  have g1 : G.n0 ≤ b1 := by have := ho.2.1; have := ho.1; omega
  refine w1.astoreN (q := 4) (L2 := #[.val (.ref ca), .val (.int (0 : Int32)), .val (.int (Int32.ofNat cs.length)), .val (.ref b1), .unset, .unset]) d19_3 rfl rfl rfl ?_
  refine w1.aloadN (q := 5) d19_4 rfl rfl rfl ?_
  refine w1.iloadN (q := 6) d19_5 rfl rfl ?_
  refine w1.aloadN (q := 7) d19_6 rfl rfl rfl ?_
  refine w1.iconst (q := 8) (0 : Int32) d19_7 rfl rfl ?_
  refine w1.iloadN (q := 9) d19_8 rfl rfl ?_
  refine w1.callS (q := 12) d19_9 (H.tw 21 rfl) (H.tw 22 rfl) (H.tw 18 rfl) (H.tw 23 rfl) (by decide) (argsL := [(.ref ca), (.int (0 : Int32)), (.ref b1), (.int (0 : Int32)), (.int (Int32.ofNat cs.length))]) (rest := []) rfl (lenOf pd20 rfl) rfl (W := 0) (Nat.le_of_eq rfl) ((con_c5 G H ca b1 kc kc1 cs dv h1 w1.old (A.ext E1) A1 hn.2 g1 (neN (by omega))).pay w1 (H.tw 23 rfl) (H.tw 18 rfl) (by decide) (by decide)) (by decide) (by decide) rfl fun vm2 T2 h2 v2 w2 q2 => ?_
  obtain ⟨_, rfl, ⟨r, rfl, K2, dj⟩⟩ := q2
  show Go _ _ _ _ (T2.setTop (mkF X.m 12 #[.val (.ref ca), .val (.int (0 : Int32)), .val (.int (Int32.ofNat cs.length)), .val (.ref b1), .unset, .unset] [(.int (Int32.ofNat r))]))
  have X2 : Ext h h2 := xkp E1 K2 (all1 (by omega))
  have sz2 := K2.1
  refine w2.istore (q := 14) (L2 := #[.val (.ref ca), .val (.int (0 : Int32)), .val (.int (Int32.ofNat cs.length)), .val (.ref b1), .val (.int (Int32.ofNat r)), .unset]) d19_12 rfl rfl ?_
  refine w2.iload (q := 16) d19_14 rfl rfl ?_
  refine w2.iloadN (q := 17) d19_16 rfl rfl ?_
  rcases dj with ⟨rfl, hal, D1⟩ | ⟨hr, hc⟩
  ·
    refine w2.icY (q := 57) d19_17 ((teq rfl).1) (by decide) (by decide) ?_
    refine w2.aloadN (q := 58) d19_57 rfl rfl rfl ?_
    exact w2.retA d19_58 (t := (.array .byte)) rfl rfl rfl (by decide) (by decide) ⟨_, rfl, b1, kc1, rfl, X2, by omega, Or.inl ⟨hal, D1⟩⟩
  ·
    refine w2.icN (q := 20) d19_17 ((feq (ofne (by omega) (by omega) (by omega))).1) rfl ?_
    refine w2.aloadN (q := 21) d19_20 rfl rfl rfl ?_
    refine w2.iloadN (q := 22) d19_21 rfl rfl ?_
    refine w2.iloadN (q := 23) d19_22 rfl rfl ?_
    refine w2.callS (q := 26) d19_23 (H.tw 258 rfl) (H.tw 259 rfl) (H.tw 18 rfl) (H.tw 260 rfl) (by decide) (argsL := [(.ref ca), (.int (0 : Int32)), (.int (Int32.ofNat cs.length))]) (rest := []) rfl (lenOf pd21 rfl) rfl (W := 0) (Nat.le_of_eq rfl) ((con_tb G H ca kc cs dv h2 w2.old (A.ext X2) hn).pay w2 (H.tw 260 rfl) (H.tw 18 rfl) (by decide) (by decide)) (by decide) (by decide) rfl fun vm3 T3 h3 v3 w3 q3 => ?_
    obtain ⟨_, rfl, ⟨r2, kr2, rfl, X3, z3, D2⟩⟩ := q3
    show Go _ _ _ _ (T3.setTop (mkF X.m 26 #[.val (.ref ca), .val (.int (0 : Int32)), .val (.int (Int32.ofNat cs.length)), .val (.ref b1), .val (.int (Int32.ofNat r)), .unset] [(.ref r2)]))
    refine w3.astore (q := 28) (L2 := #[.val (.ref ca), .val (.int (0 : Int32)), .val (.int (Int32.ofNat cs.length)), .val (.ref b1), .val (.int (Int32.ofNat r)), .val (.ref r2)]) d19_26 rfl rfl rfl ?_
    refine w3.aload (q := 30) d19_28 rfl rfl rfl ?_
    refine w3.iload (q := 32) d19_30 rfl rfl ?_
    refine w3.callS (q := 35) d19_32 (H.tw 274 rfl) (H.tw 275 rfl) (H.tw 18 rfl) (H.tw 276 rfl) (by decide) (argsL := [(.ref r2), (.int (Int32.ofNat r))]) (rest := []) rfl (lenOf pd22 rfl) rfl (W := 0) (Nat.le_of_eq rfl) ((con_gc G H r2 r kr2 cs h3 w3.old D2 ⟨hr, hn.2⟩ hb hc).pay w3 (H.tw 276 rfl) (H.tw 18 rfl) (by decide) (by decide)) (by decide) (by decide) rfl fun vm4 T4 h4 v4 w4 q4 => ?_
    obtain ⟨_, rfl, ⟨rc, rfl, hrc, rfl⟩⟩ := q4
    show Go _ _ _ _ (T4.setTop (mkF X.m 35 #[.val (.ref ca), .val (.int (0 : Int32)), .val (.int (Int32.ofNat cs.length)), .val (.ref b1), .val (.int (Int32.ofNat r)), .val (.ref r2)] [(.int rc)]))
    refine w4.sipush (q := 38) (255 : Int32) d19_35 rfl rfl ?_
    refine w4.icY (q := 54) d19_38 ((tlt hrc).2.2.1) (by decide) (by decide) ?_
    refine w4.aload (q := 56) d19_54 rfl rfl rfl ?_
    exact w4.retA d19_56 (t := (.array .byte)) rfl rfl rfl (by decide) (by decide) ⟨_, rfl, r2, kr2, rfl, xtr X2 X3, by have := X2.1; omega, Or.inr ⟨⟨_, mem_getD cs 0 hr, hc⟩, D2⟩⟩
theorem d23_0 : decode jdk_52_method_15_code 0 = .ok (.iload_n 1, 1) := by decide +kernel
theorem d23_1 : decode jdk_52_method_15_code 1 = .ok (.aload_n 0, 1) := by decide +kernel
theorem d23_2 : decode jdk_52_method_15_code 2 = .ok (.arraylength, 1) := by decide +kernel
theorem d23_3 : decode jdk_52_method_15_code 3 = .ok (.isub, 1) := by decide +kernel
theorem d23_4 : decode jdk_52_method_15_code 4 = .ok (.bipush 31, 2) := by decide +kernel
theorem d23_6 : decode jdk_52_method_15_code 6 = .ok (.iushr, 1) := by decide +kernel
theorem d23_7 : decode jdk_52_method_15_code 7 = .ok (.i2b, 1) := by decide +kernel
theorem d23_8 : decode jdk_52_method_15_code 8 = .ok (.ireturn, 1) := by decide +kernel
set_option maxRecDepth 65536 in
set_option maxHeartbeats 40000000 in
theorem con_cf0 (G : Gx) (H : Hyp G) (r n0 : Nat) (kr : ClassId) (vs : List Value) (h : Heap) (ho : Old G.Z G.n0 h) (A : Arv G.Z h r kr .byte (Int32.ofNat (n0)) vs (.int (0 : Int32))) (hn : 1 ≤ n0 ∧ n0 ≤ 18) :
    Con G (⟨"java/lang/StringUTF16", "coderFromArrayLen", "([BI)B"⟩ : MethodName) jdk_52_method_15_code 2 (some .byte) [] ({ frames := 0, cells := 0, slots := 0, locals := 0 } : Room) #[(.ref r), (.int (Int32.ofNat n0))] h (vQ fun v h' => v = .int (0 : Int32) ∧ h = h') := by
  refine Con.intro H.el ho (plainFor_of_name pn10) (Ls := #[.val (.ref r), .val (.int (Int32.ofNat n0))]) (fun m => by first | (simp [entryFrame, mkF, argsToLocals, Value.category]; done) | rfl) ?_
  intro X vm T w
  refine w.iloadN (q := 1) d23_0 rfl rfl ?_
  refine w.aloadN (q := 2) d23_1 rfl rfl rfl ?_
  refine w.alen (q := 3) d23_2 A rfl ?_
  refine w.isub (q := 4) d23_3 rfl ?_
  refine w.bipush (q := 6) (31 : Int32) d23_4 rfl rfl ?_
  refine w.iushr (q := 7) d23_6 rfl ?_
  refine w.i2b (q := 8) d23_7 rfl ?_
  rw [show ((((Int32.ofNat n0) - (Int32.ofNat (n0))).toUInt32 >>> ((31 : Int32) &&& 31).toUInt32).toInt32).toInt8.toInt32 = (0 : Int32) from cfa0 _]
  exact w.retZ d23_8 (t := .byte) rfl (by decide) rfl (by decide) (by decide) ⟨_, rfl, ⟨rfl, rfl⟩⟩
set_option maxRecDepth 65536 in
set_option maxHeartbeats 40000000 in
theorem con_cf1 (G : Gx) (H : Hyp G) (r n0 : Nat) (kr : ClassId) (vs : List Value) (h : Heap) (ho : Old G.Z G.n0 h) (A : Arv G.Z h r kr .byte (Int32.ofNat (2 * n0)) vs (.int (0 : Int32))) (hn : 1 ≤ n0 ∧ n0 ≤ 18) :
    Con G (⟨"java/lang/StringUTF16", "coderFromArrayLen", "([BI)B"⟩ : MethodName) jdk_52_method_15_code 2 (some .byte) [] ({ frames := 0, cells := 0, slots := 0, locals := 0 } : Room) #[(.ref r), (.int (Int32.ofNat n0))] h (vQ fun v h' => v = .int (1 : Int32) ∧ h = h') := by
  refine Con.intro H.el ho (plainFor_of_name pn10) (Ls := #[.val (.ref r), .val (.int (Int32.ofNat n0))]) (fun m => by first | (simp [entryFrame, mkF, argsToLocals, Value.category]; done) | rfl) ?_
  intro X vm T w
  refine w.iloadN (q := 1) d23_0 rfl rfl ?_
  refine w.aloadN (q := 2) d23_1 rfl rfl rfl ?_
  refine w.alen (q := 3) d23_2 A rfl ?_
  refine w.isub (q := 4) d23_3 rfl ?_
  refine w.bipush (q := 6) (31 : Int32) d23_4 rfl rfl ?_
  refine w.iushr (q := 7) d23_6 rfl ?_
  refine w.i2b (q := 8) d23_7 rfl ?_
  rw [show ((((Int32.ofNat n0) - (Int32.ofNat (2 * n0))).toUInt32 >>> ((31 : Int32) &&& 31).toUInt32).toInt32).toInt8.toInt32 = (1 : Int32) from cfa1 hn]
  exact w.retZ d23_8 (t := .byte) rfl (by decide) rfl (by decide) (by decide) ⟨_, rfl, ⟨rfl, rfl⟩⟩
theorem d0_27 : decode jdk_42_method_149_code 27 = .ok (.getstatic 38, 3) := by decide +kernel
theorem d0_30 : decode jdk_42_method_149_code 30 = .ok (.ifCond .eq 28, 3) := by decide +kernel
theorem d0_33 : decode jdk_42_method_149_code 33 = .ok (.aload_n 1, 1) := by decide +kernel
theorem d0_34 : decode jdk_42_method_149_code 34 = .ok (.iload_n 2, 1) := by decide +kernel
theorem d0_35 : decode jdk_42_method_149_code 35 = .ok (.iload_n 3, 1) := by decide +kernel
theorem d0_36 : decode jdk_42_method_149_code 36 = .ok (.invokestatic 177, 3) := by decide +kernel
theorem d0_39 : decode jdk_42_method_149_code 39 = .ok (.astore 5, 2) := by decide +kernel
theorem d0_41 : decode jdk_42_method_149_code 41 = .ok (.aload_n 0, 1) := by decide +kernel
theorem d0_42 : decode jdk_42_method_149_code 42 = .ok (.aload 5, 2) := by decide +kernel
theorem d0_44 : decode jdk_42_method_149_code 44 = .ok (.iload_n 3, 1) := by decide +kernel
theorem d0_45 : decode jdk_42_method_149_code 45 = .ok (.invokestatic 47, 3) := by decide +kernel
theorem pd24 : parseMethodDescriptor "([BI)B" = some ⟨[(.array .byte), .int], some .byte⟩ := by decide +kernel
theorem d0_48 : decode jdk_42_method_149_code 48 = .ok (.putfield 15, 3) := by decide +kernel
theorem d0_51 : decode jdk_42_method_149_code 51 = .ok (.aload_n 0, 1) := by decide +kernel
theorem d0_52 : decode jdk_42_method_149_code 52 = .ok (.aload 5, 2) := by decide +kernel
theorem d0_54 : decode jdk_42_method_149_code 54 = .ok (.putfield 9, 3) := by decide +kernel
theorem d0_57 : decode jdk_42_method_149_code 57 = .ok (.return_, 1) := by decide +kernel
set_option maxRecDepth 65536 in
set_option maxHeartbeats 40000000 in
theorem con_i4 (G : Gx) (H : Hyp G) (x ca : Nat) (kc : ClassId) (cs : List Int32) (dv : Value) (h : Heap) (ho : Old G.Z G.n0 h) (E : Exa G.Z h x "java/lang/String") (V : Fld G.Z h x "java/lang/String" "value" "[B" .null) (Cc : Fld G.Z h x "java/lang/String" "coder" "B" (.int (0 : Int32))) (g : G.n0 ≤ x) (A : Arv G.Z h ca kc .char (Int32.ofNat cs.length) (cs.map Value.int) dv) (hn : 1 ≤ cs.length ∧ cs.length ≤ 18) (hb : ∀ c ∈ cs, ¬ c < 0 ∧ ¬ (65535 : Int32) < c) :
    Con G (⟨"java/lang/String", "<init>", "([CIILjava/lang/Void;)V"⟩ : MethodName) jdk_42_method_149_code 6 none [] ({ frames := 4, cells := 2, slots := 86, locals := 57 } : Room) #[(.ref x), (.ref ca), (.int (0 : Int32)), (.int (Int32.ofNat cs.length)), .null] h (nQ fun h' => Keep h h' [x] ∧ ∃ cd : Int32, (cd = 0 ∨ cd = 1) ∧ StrAt G.Z h' x cd cs) := by
  refine Con.intro H.el ho (plainFor_of_name pn1) (Ls := #[.val (.ref x), .val (.ref ca), .val (.int (0 : Int32)), .val (.int (Int32.ofNat cs.length)), .val .null, .unset]) (fun m => by first | (simp [entryFrame, mkF, argsToLocals, Value.category]; done) | rfl) ?_
  intro X vm T w
  have ltx : x < h.size := E.lt
  obtain ⟨cz, nz, Sz⟩ := H.cz
  refine w.aloadN (q := 1) d0_0 rfl rfl rfl ?_
  refine w.initO (q := 4) (W := 0) d0_1 (H.tw 12 rfl) (H.tw 13 rfl) (H.tw 14 rfl) rfl (by decide) (Nat.le_of_eq rfl) (by decide) rfl fun T1 w1 => ?_
  refine w1.iloadN (q := 5) d0_4 rfl rfl ?_
  refine w1.ifY (q := 27) d0_5 ((if0 _ _).trans (feq (ofne (m := 0) (by omega) (by omega) (by decide))).2) (by decide) (by decide) ?_
  refine w1.getS (q := 30) d0_27 (H.tw 15 rfl) Via.refl Sz rfl fun T2 w2 => ?_
  refine w2.ifN (q := 33) d0_30 ((if0 _ _).trans (feq nz).1) rfl ?_
  refine w2.aloadN (q := 34) d0_33 rfl rfl rfl ?_
  refine w2.iloadN (q := 35) d0_34 rfl rfl ?_
  refine w2.iloadN (q := 36) d0_35 rfl rfl ?_
  refine w2.callS (q := 39) d0_36 (H.tw 16 rfl) (H.tw 17 rfl) (H.tw 18 rfl) (H.tw 19 rfl) (by decide) (argsL := [(.ref ca), (.int (0 : Int32)), (.int (Int32.ofNat cs.length))]) (rest := []) rfl (lenOf pd21 rfl) rfl (W := 0) (Nat.le_of_eq rfl) ((con_c3 G H ca kc cs dv h w2.old A hn hb).pay w2 (H.tw 19 rfl) (H.tw 18 rfl) (by decide) (by decide)) (by decide) (by decide) rfl fun vm3 T3 h3 v3 w3 q3 => ?_
  obtain ⟨_, rfl, ⟨r, kr, rfl, X3, zr, dj⟩⟩ := q3
  show Go _ _ _ _ (T3.setTop (mkF X.m 39 #[.val (.ref x), .val (.ref ca), .val (.int (0 : Int32)), .val (.int (Int32.ofNat cs.length)), .val .null, .unset] [(.ref r)]))
  replace E := E.ext X3
  replace V := V.ext X3
  replace Cc := Cc.ext X3
  refine w3.astore (q := 41) (L2 := #[.val (.ref x), .val (.ref ca), .val (.int (0 : Int32)), .val (.int (Int32.ofNat cs.length)), .val .null, .val (.ref r)]) d0_39 rfl rfl rfl ?_
  refine w3.aloadN (q := 42) d0_41 rfl rfl rfl ?_
  refine w3.aload (q := 44) d0_42 rfl rfl rfl ?_
  refine w3.iloadN (q := 45) d0_44 rfl rfl ?_
  rcases dj with ⟨hal, D1⟩ | ⟨hex, D1⟩
  ·
    refine w3.callS (q := 48) d0_45 (H.tw 24 rfl) (H.tw 25 rfl) (H.tw 18 rfl) (H.tw 26 rfl) (by decide) (argsL := [(.ref r), (.int (Int32.ofNat cs.length))]) (rest := [(.ref x)]) rfl (lenOf pd24 rfl) rfl (W := 1) (Nat.le_of_eq rfl) ((con_cf0 G H r cs.length kr _ h3 w3.old D1 hn).pay w3 (H.tw 26 rfl) (H.tw 18 rfl) (by decide) (by decide)) (by decide) (by decide) rfl fun vm4 T4 h4 v4 w4 q4 => ?_
    obtain ⟨_, rfl, rfl, rfl⟩ := q4
    show Go _ _ _ _ (T4.setTop (mkF X.m 48 #[.val (.ref x), .val (.ref ca), .val (.int (0 : Int32)), .val (.int (Int32.ofNat cs.length)), .val .null, .val (.ref r)] [(.int (0 : Int32)), (.ref x)]))
    refine w4.putF (q := 51) d0_48 (H.tw 27 rfl) Via.refl Cc E (Or.inr ⟨(H.tw 28 rfl), rfl, rfl⟩) (H.tw 3 rfl) (ty := .byte) (by decide) rfl rfl g (w4.sfB E V) rfl fun T5 h5 w5 W5 sf5 => ?_
    have sz5 : h3.size ≤ h5.size := (Keep.of_wr W5).1
    replace E := E.wr W5
    replace V := V.other W5 (Or.inr (slot_ne (Or.inr (H.tw 30 rfl)) (Or.inr (H.tw 28 rfl)) (by decide) (t := (.array .byte)) (t' := .byte) (by decide) (by decide)))
    have C2 := Cc.same W5
    replace D1 := D1.other W5 (neN (by omega))
    refine w5.aloadN (q := 52) d0_51 rfl rfl rfl ?_
    refine w5.aload (q := 54) d0_52 rfl rfl rfl ?_
    refine w5.putF (q := 57) d0_54 (H.tw 29 rfl) Via.refl V E (Or.inr ⟨(H.tw 30 rfl), rfl, rfl⟩) (H.tw 3 rfl) (ty := (.array .byte)) (by decide) rfl rfl g (w5.sfB E V) rfl fun T6 h6 w6 W6 sf6 => ?_
    have sz6 : h5.size ≤ h6.size := (Keep.of_wr W6).1
    replace E := E.wr W6
    have V2 := V.same W6
    replace C2 := C2.other W6 (Or.inr (slot_ne (Or.inr (H.tw 28 rfl)) (Or.inr (H.tw 30 rfl)) (by decide) (t := .byte) (t' := (.array .byte)) (by decide) (by decide)))
    replace D1 := D1.other W6 (neN (by omega))
    have K1 : Keep h h6 [x] := (((Keep.refl h [x]).ext X3).wr W5 (Or.inl (List.mem_singleton.mpr rfl))).wr W6 (Or.inl (List.mem_singleton.mpr rfl))
    exact w6.retV d0_57 rfl (by decide) (by decide) ⟨rfl, K1, 0, Or.inl rfl, r, kr, _, _, E, V2, C2, D1, Or.inl ⟨rfl, rfl, rfl, hal⟩, hb, by omega⟩
  ·
    refine w3.callS (q := 48) d0_45 (H.tw 24 rfl) (H.tw 25 rfl) (H.tw 18 rfl) (H.tw 26 rfl) (by decide) (argsL := [(.ref r), (.int (Int32.ofNat cs.length))]) (rest := [(.ref x)]) rfl (lenOf pd24 rfl) rfl (W := 1) (Nat.le_of_eq rfl) ((con_cf1 G H r cs.length kr _ h3 w3.old D1 hn).pay w3 (H.tw 26 rfl) (H.tw 18 rfl) (by decide) (by decide)) (by decide) (by decide) rfl fun vm7 T7 h7 v7 w7 q7 => ?_
    obtain ⟨_, rfl, rfl, rfl⟩ := q7
    show Go _ _ _ _ (T7.setTop (mkF X.m 48 #[.val (.ref x), .val (.ref ca), .val (.int (0 : Int32)), .val (.int (Int32.ofNat cs.length)), .val .null, .val (.ref r)] [(.int (1 : Int32)), (.ref x)]))
    refine w7.putF (q := 51) d0_48 (H.tw 27 rfl) Via.refl Cc E (Or.inr ⟨(H.tw 28 rfl), rfl, rfl⟩) (H.tw 3 rfl) (ty := .byte) (by decide) rfl rfl g (w7.sfB E V) rfl fun T8 h8 w8 W8 sf8 => ?_
    have sz8 : h3.size ≤ h8.size := (Keep.of_wr W8).1
    replace E := E.wr W8
    replace V := V.other W8 (Or.inr (slot_ne (Or.inr (H.tw 30 rfl)) (Or.inr (H.tw 28 rfl)) (by decide) (t := (.array .byte)) (t' := .byte) (by decide) (by decide)))
    have C2 := Cc.same W8
    replace D1 := D1.other W8 (neN (by omega))
    refine w8.aloadN (q := 52) d0_51 rfl rfl rfl ?_
    refine w8.aload (q := 54) d0_52 rfl rfl rfl ?_
    refine w8.putF (q := 57) d0_54 (H.tw 29 rfl) Via.refl V E (Or.inr ⟨(H.tw 30 rfl), rfl, rfl⟩) (H.tw 3 rfl) (ty := (.array .byte)) (by decide) rfl rfl g (w8.sfB E V) rfl fun T9 h9 w9 W9 sf9 => ?_
    have sz9 : h8.size ≤ h9.size := (Keep.of_wr W9).1
    replace E := E.wr W9
    have V2 := V.same W9
    replace C2 := C2.other W9 (Or.inr (slot_ne (Or.inr (H.tw 28 rfl)) (Or.inr (H.tw 30 rfl)) (by decide) (t := .byte) (t' := (.array .byte)) (by decide) (by decide)))
    replace D1 := D1.other W9 (neN (by omega))
    have K1 : Keep h h9 [x] := (((Keep.refl h [x]).ext X3).wr W8 (Or.inl (List.mem_singleton.mpr rfl))).wr W9 (Or.inl (List.mem_singleton.mpr rfl))
    exact w9.retV d0_57 rfl (by decide) (by decide) ⟨rfl, K1, 1, Or.inr rfl, r, kr, _, _, E, V2, C2, D1, Or.inr ⟨rfl, rfl, rfl, hex⟩, hb, by omega⟩
set_option maxRecDepth 65536 in
set_option maxHeartbeats 40000000 in
theorem con_i1 (G : Gx) (H : Hyp G) (x ca : Nat) (kc : ClassId) (cs : List Int32) (dv : Value) (h : Heap) (ho : Old G.Z G.n0 h) (E : Exa G.Z h x "java/lang/String") (V : Fld G.Z h x "java/lang/String" "value" "[B" .null) (Cc : Fld G.Z h x "java/lang/String" "coder" "B" (.int (0 : Int32))) (g : G.n0 ≤ x) (A : Arv G.Z h ca kc .char (Int32.ofNat cs.length) (cs.map Value.int) dv) (hn : 1 ≤ cs.length ∧ cs.length ≤ 18) (hb : ∀ c ∈ cs, ¬ c < 0 ∧ ¬ (65535 : Int32) < c) :
    Con G (⟨"java/lang/String", "<init>", "([C)V"⟩ : MethodName) jdk_42_method_3_code 2 none [] ({ frames := 5, cells := 2, slots := 86, locals := 74 } : Room) #[(.ref x), (.ref ca)] h (nQ fun h' => Keep h h' [x] ∧ ∃ cd : Int32, (cd = 0 ∨ cd = 1) ∧ StrAt G.Z h' x cd cs) := by
  refine Con.intro H.el ho (plainFor_of_name pn1) (Ls := #[.val (.ref x), .val (.ref ca)]) (fun m => by first | (simp [entryFrame, mkF, argsToLocals, Value.category]; done) | rfl) ?_
  intro X vm T w
  refine w.aloadN (q := 1) d2_0 rfl rfl rfl ?_
  refine w.aloadN (q := 2) d2_1 rfl rfl rfl ?_
  refine w.iconst (q := 3) (0 : Int32) d2_2 rfl rfl ?_
  refine w.aloadN (q := 4) d2_3 rfl rfl rfl ?_
  refine w.alen (q := 5) d2_4 A rfl ?_
  refine w.aconst (q := 6) d2_5 rfl ?_
  refine w.callC (q := 9) d2_6 rfl (H.tw 8 rfl) (H.tw 9 rfl) (H.tw 11 rfl) (by decide) (a := x) (argsL := [(.ref ca), (.int (0 : Int32)), (.int (Int32.ofNat cs.length)), .null]) (rest := []) rfl (lenOf pd3 rfl) rfl (W := 0) (Nat.le_of_eq rfl) ((con_i4 G H x ca kc cs dv h ho E V Cc g A hn hb).pay w (H.tw 11 rfl) (H.tw 4 rfl) (by decide) (by decide)) (by decide) (by decide) rfl fun vm1 T1 h1 v1 w1 q1 => ?_
  obtain ⟨rfl, K1, S1⟩ := q1
  show Go _ _ _ _ (T1.setTop (mkF X.m 9 #[.val (.ref x), .val (.ref ca)] []))
  exact w1.retV d2_9 rfl (by decide) (by decide) ⟨rfl, K1, S1⟩
theorem d25_0 : decode jdk_68_method_2_code 0 = .ok (.aload_n 0, 1) := by decide +kernel
theorem d25_1 : decode jdk_68_method_2_code 1 = .ok (.invokespecial 3, 3) := by decide +kernel
theorem d25_4 : decode jdk_68_method_2_code 4 = .ok (.getstatic 18, 3) := by decide +kernel
theorem d25_7 : decode jdk_68_method_2_code 7 = .ok (.ifCond .eq 18, 3) := by decide +kernel
theorem d25_10 : decode jdk_68_method_2_code 10 = .ok (.aload_n 0, 1) := by decide +kernel
theorem d25_11 : decode jdk_68_method_2_code 11 = .ok (.iload_n 1, 1) := by decide +kernel
theorem d25_12 : decode jdk_68_method_2_code 12 = .ok (.newarray .byte, 2) := by decide +kernel
theorem d25_14 : decode jdk_68_method_2_code 14 = .ok (.putfield 15, 3) := by decide +kernel
theorem d25_17 : decode jdk_68_method_2_code 17 = .ok (.aload_n 0, 1) := by decide +kernel
theorem d25_18 : decode jdk_68_method_2_code 18 = .ok (.iconst 0, 1) := by decide +kernel
theorem d25_19 : decode jdk_68_method_2_code 19 = .ok (.putfield 22, 3) := by decide +kernel
theorem d25_22 : decode jdk_68_method_2_code 22 = .ok (.goto 16, 3) := by decide +kernel
theorem d25_38 : decode jdk_68_method_2_code 38 = .ok (.return_, 1) := by decide +kernel
set_option maxRecDepth 65536 in
set_option maxHeartbeats 40000000 in
theorem con_asb (G : Gx) (H : Hyp G) (a : Nat) (h : Heap) (ho : Old G.Z G.n0 h) (E : Exa G.Z h a "java/lang/StringBuilder") (Fv : Fld G.Z h a "java/lang/AbstractStringBuilder" "value" "[B" .null) (Fc : Fld G.Z h a "java/lang/AbstractStringBuilder" "coder" "B" (.int (0 : Int32))) (Fn : Fld G.Z h a "java/lang/AbstractStringBuilder" "count" "I" (.int (0 : Int32))) (Fm : Fld G.Z h a "java/lang/AbstractStringBuilder" "maybeLatin1" "Z" (.int (0 : Int32))) (g : G.n0 ≤ a) :
    Con G (⟨"java/lang/AbstractStringBuilder", "<init>", "(I)V"⟩ : MethodName) jdk_68_method_2_code 2 none [] ({ frames := 1, cells := 1, slots := 16, locals := 12 } : Room) #[(.ref a), (.int (16 : Int32))] h (nQ fun h' => Keep h h' [a] ∧ ∃ (ar : Nat) (kc : ClassId), h.size ≤ ar ∧ SBL G.Z h' a ar kc 16 []) := by
  refine Con.intro H.el ho (plainFor_of_name pn6) (Ls := #[.val (.ref a), .val (.int (16 : Int32))]) (fun m => by first | (simp [entryFrame, mkF, argsToLocals, Value.category]; done) | rfl) ?_
  intro X vm T w
  obtain ⟨cz, nz, Sz⟩ := H.cz
  have lta : a < h.size := E.lt
  refine w.aloadN (q := 1) d25_0 rfl rfl rfl ?_
  refine w.initO (q := 4) (W := 0) d25_1 (H.tw 50 rfl) (H.tw 13 rfl) (H.tw 14 rfl) rfl (by decide) (Nat.le_of_eq rfl) (by decide) rfl fun T1 w1 => ?_
  refine w1.getS (q := 7) d25_4 (H.tw 51 rfl) Via.refl Sz rfl fun T2 w2 => ?_
  refine w2.ifN (q := 10) d25_7 ((if0 _ _).trans (feq nz).1) rfl ?_
  refine w2.aloadN (q := 11) d25_10 rfl rfl rfl ?_
  refine w2.iloadN (q := 12) d25_11 rfl rfl ?_
  refine w2.newPX (q := 14) (ad := "[B") 16 d25_12 (H.tw 20 rfl) (by decide) (by decide) (by decide) (by decide) (by decide) (by decide) rfl fun T3 h3 b3 kc3 e3 w3 E3 A3 Y3 sf3 => ?_
  replace A3 : Arv G.Z h3 b3 kc3 .byte (16 : Int32) (List.replicate (16) (.int (0 : Int32))) (.int (0 : Int32)) := A3.pad (pad_rep [] (.int (0 : Int32)) (16))
  have lt3 : b3 < h3.size := A3.lt
  have sz3 : h.size ≤ h3.size := E3.1
  replace E := E.ext E3
  replace Fv := Fv.ext E3
  replace Fc := Fc.ext E3
  replace Fn := Fn.ext E3
  replace Fm := Fm.ext E3
  refine w3.putF (q := 17) d25_14 (H.tw 52 rfl) Via.refl Fv E (Or.inl (H.tw 53 rfl)) (H.tw 39 rfl) (ty := (.array .byte)) (by decide) rfl rfl g (w3.sfE E (by decide) (by decide)) rfl fun T4 h4 w4 W4 sf4 => ?_
  have sz4 : h3.size ≤ h4.size := (Keep.of_wr W4).1
  replace E := E.wr W4
  replace Fc := Fc.other W4 (Or.inr (slot_ne (Or.inl (H.tw 55 rfl)) (Or.inl (H.tw 53 rfl)) (by decide) (t := .byte) (t' := (.array .byte)) (by decide) (by decide)))
  replace Fn := Fn.other W4 (Or.inr (slot_ne (Or.inl (H.tw 80 rfl)) (Or.inl (H.tw 53 rfl)) (by decide) (t := .int) (t' := (.array .byte)) (by decide) (by decide)))
  replace Fm := Fm.other W4 (Or.inr (slot_ne (Or.inl (H.tw 305 rfl)) (Or.inl (H.tw 53 rfl)) (by decide) (t := .boolean) (t' := (.array .byte)) (by decide) (by decide)))
  replace Fv := Fv.same W4
  replace A3 := A3.other W4 (neN (by omega))
  replace Y3 := Y3.wr W4
  refine w4.aloadN (q := 18) d25_17 rfl rfl rfl ?_
  refine w4.iconst (q := 19) (0 : Int32) d25_18 rfl rfl ?_
  refine w4.putF (q := 22) d25_19 (H.tw 54 rfl) Via.refl Fc E (Or.inl (H.tw 55 rfl)) (H.tw 39 rfl) (ty := .byte) (by decide) rfl rfl g (w4.sfE E (by decide) (by decide)) rfl fun T5 h5 w5 W5 sf5 => ?_
  have sz5 : h4.size ≤ h5.size := (Keep.of_wr W5).1
  replace E := E.wr W5
  replace Fv := Fv.other W5 (Or.inr (slot_ne (Or.inl (H.tw 53 rfl)) (Or.inl (H.tw 55 rfl)) (by decide) (t := (.array .byte)) (t' := .byte) (by decide) (by decide)))
  replace Fn := Fn.other W5 (Or.inr (slot_ne (Or.inl (H.tw 80 rfl)) (Or.inl (H.tw 55 rfl)) (by decide) (t := .int) (t' := .byte) (by decide) (by decide)))
  replace Fm := Fm.other W5 (Or.inr (slot_ne (Or.inl (H.tw 305 rfl)) (Or.inl (H.tw 55 rfl)) (by decide) (t := .boolean) (t' := .byte) (by decide) (by decide)))
  replace Fc := Fc.same W5
  replace A3 := A3.other W5 (neN (by omega))
  replace Y3 := Y3.wr W5
  have K1 : Keep h h5 [a] := (((Keep.refl h [a]).ext E3).wr W4 (Or.inl (List.mem_singleton.mpr rfl))).wr W5 (Or.inl (List.mem_singleton.mpr rfl))
  refine w5.goto (q := 38) d25_22 (by decide) (by decide) ?_
  exact w5.retV d25_38 rfl (by decide) (by decide) ⟨rfl, K1, b3, kc3, by omega, List.replicate 16 (.int (0 : Int32)), rfl, E, Fv, Fc, Fn, Fm, Y3, A3⟩
theorem d26_0 : decode jdk_67_method_1_code 0 = .ok (.aload_n 0, 1) := by decide +kernel
theorem d26_1 : decode jdk_67_method_1_code 1 = .ok (.bipush 16, 2) := by decide +kernel
theorem d26_3 : decode jdk_67_method_1_code 3 = .ok (.invokespecial 1, 3) := by decide +kernel
theorem pd27 : parseMethodDescriptor "(I)V" = some ⟨[.int], none⟩ := by decide +kernel
theorem d26_6 : decode jdk_67_method_1_code 6 = .ok (.return_, 1) := by decide +kernel
theorem pn28 : plainName "java/lang/StringBuilder" = true := by first | (simp [plainName, overriddenIn]; done) | decide +kernel
set_option maxRecDepth 65536 in
set_option maxHeartbeats 40000000 in
theorem con_sb (G : Gx) (H : Hyp G) (a : Nat) (h : Heap) (ho : Old G.Z G.n0 h) (E : Exa G.Z h a "java/lang/StringBuilder") (Fv : Fld G.Z h a "java/lang/AbstractStringBuilder" "value" "[B" .null) (Fc : Fld G.Z h a "java/lang/AbstractStringBuilder" "coder" "B" (.int (0 : Int32))) (Fn : Fld G.Z h a "java/lang/AbstractStringBuilder" "count" "I" (.int (0 : Int32))) (Fm : Fld G.Z h a "java/lang/AbstractStringBuilder" "maybeLatin1" "Z" (.int (0 : Int32))) (g : G.n0 ≤ a) :
    Con G (⟨"java/lang/StringBuilder", "<init>", "()V"⟩ : MethodName) jdk_67_method_1_code 1 none [] ({ frames := 2, cells := 1, slots := 16, locals := 25 } : Room) #[(.ref a)] h (nQ fun h' => Keep h h' [a] ∧ ∃ (ar : Nat) (kc : ClassId), h.size ≤ ar ∧ SBL G.Z h' a ar kc 16 []) := by
  refine Con.intro H.el ho (plainFor_of_name pn28) (Ls := #[.val (.ref a)]) (fun m => by first | (simp [entryFrame, mkF, argsToLocals, Value.category]; done) | rfl) ?_
  intro X vm T w
  refine w.aloadN (q := 1) d26_0 rfl rfl rfl ?_
  refine w.bipush (q := 3) (16 : Int32) d26_1 rfl rfl ?_
  refine w.callC (q := 6) d26_3 rfl (H.tw 44 rfl) (H.tw 45 rfl) (H.tw 49 rfl) (by decide) (a := a) (argsL := [(.int (16 : Int32))]) (rest := []) rfl (lenOf pd27 rfl) rfl (W := 0) (Nat.le_of_eq rfl) ((con_asb G H a h ho E Fv Fc Fn Fm g).pay w (H.tw 49 rfl) (H.tw 48 rfl) (by decide) (by decide)) (by decide) (by decide) rfl fun vm1 T1 h1 v1 w1 q1 => ?_
  obtain ⟨rfl, K1, B1⟩ := q1
  show Go _ _ _ _ (T1.setTop (mkF X.m 6 #[.val (.ref a)] []))
  exact w1.retV d26_6 rfl (by decide) (by decide) ⟨rfl, K1, B1⟩
theorem d29_0 : decode jdk_48_method_27_code 0 = .ok (.iload_n 0, 1) := by decide +kernel
theorem d29_1 : decode jdk_48_method_27_code 1 = .ok (.iload_n 1, 1) := by decide +kernel
theorem d29_2 : decode jdk_48_method_27_code 2 = .ok (.iload_n 2, 1) := by decide +kernel
theorem d29_3 : decode jdk_48_method_27_code 3 = .ok (.invokestatic 194, 3) := by decide +kernel
theorem pd30 : parseMethodDescriptor "(II)I" = some ⟨[.int, .int], some .int⟩ := by decide +kernel
theorem d29_6 : decode jdk_48_method_27_code 6 = .ok (.iadd, 1) := by decide +kernel
theorem d29_7 : decode jdk_48_method_27_code 7 = .ok (.istore_n 3, 1) := by decide +kernel
theorem d29_8 : decode jdk_48_method_27_code 8 = .ok (.iconst 0, 1) := by decide +kernel
theorem d29_9 : decode jdk_48_method_27_code 9 = .ok (.iload_n 3, 1) := by decide +kernel
theorem d29_10 : decode jdk_48_method_27_code 10 = .ok (.if_icmp .ge 11, 3) := by decide +kernel
theorem d29_13 : decode jdk_48_method_27_code 13 = .ok (.iload_n 3, 1) := by decide +kernel
theorem d29_14 : decode jdk_48_method_27_code 14 = .ok (.ldc 200, 2) := by decide +kernel
theorem d29_16 : decode jdk_48_method_27_code 16 = .ok (.if_icmp .gt 5, 3) := by decide +kernel
theorem d29_19 : decode jdk_48_method_27_code 19 = .ok (.iload_n 3, 1) := by decide +kernel
theorem d29_20 : decode jdk_48_method_27_code 20 = .ok (.ireturn, 1) := by decide +kernel
theorem pn31 : plainName "jdk/internal/util/ArraysSupport" = true := by first | (simp [plainName, overriddenIn]; done) | decide +kernel
set_option maxRecDepth 65536 in
set_option maxHeartbeats 40000000 in
theorem con_nl (G : Gx) (H : Hyp G) (x y z : Int32) (h : Heap) (ho : Old G.Z G.n0 h) (hx : x = 16) (hz : z = 18) (hy : y < z) :
    Con G (⟨"jdk/internal/util/ArraysSupport", "newLength", "(III)I"⟩ : MethodName) jdk_48_method_27_code 4 (some .int) [] ({ frames := 1, cells := 0, slots := 0, locals := 14 } : Room) #[(.int x), (.int y), (.int z)] h (vQ fun v h' => v = .int (34 : Int32) ∧ h = h') := by
  refine Con.intro H.el ho (plainFor_of_name pn31) (Ls := #[.val (.int x), .val (.int y), .val (.int z), .unset]) (fun m => by first | (simp [entryFrame, mkF, argsToLocals, Value.category]; done) | rfl) ?_
  intro X vm T w
  refine w.iloadN (q := 1) d29_0 rfl rfl ?_
  refine w.iloadN (q := 2) d29_1 rfl rfl ?_
  refine w.iloadN (q := 3) d29_2 rfl rfl ?_
  refine w.callS (q := 6) d29_3 (H.tw 238 rfl) (H.tw 239 rfl) (H.tw 240 rfl) (H.tw 241 rfl) (by decide) (argsL := [(.int y), (.int z)]) (rest := [(.int x)]) rfl (lenOf pd30 rfl) rfl (W := 1) (Nat.le_of_eq rfl) ((con_max G H y z h ho hy).pay w (H.tw 241 rfl) (H.tw 240 rfl) (by decide) (by decide)) (by decide) (by decide) rfl fun vm1 T1 h1 v1 w1 q1 => ?_
  obtain ⟨_, rfl, rfl, rfl⟩ := q1
  show Go _ _ _ _ (T1.setTop (mkF X.m 6 #[.val (.int x), .val (.int y), .val (.int z), .unset] [(.int z), (.int x)]))
  refine w1.iadd (q := 7) d29_6 rfl ?_
  refine w1.istoreN (q := 8) (L2 := #[.val (.int x), .val (.int y), .val (.int z), .val (.int (x + z))]) d29_7 rfl rfl ?_
  refine w1.iconst (q := 9) (0 : Int32) d29_8 rfl rfl ?_
  refine w1.iloadN (q := 10) d29_9 rfl rfl ?_
  refine w1.icN (q := 13) d29_10 ((tlt (by rw [hx, hz]; decide)).2.1) rfl ?_
  refine w1.iloadN (q := 14) d29_13 rfl rfl ?_
  refine w1.ldcI (q := 16) d29_14 (H.tw 242 rfl) rfl ?_
  refine w1.icN (q := 19) d29_16 ((flt (by rw [hx, hz]; decide)).2.2.1) rfl ?_
  refine w1.iloadN (q := 20) d29_19 rfl rfl ?_
  exact w1.retI d29_20 rfl (by decide) (by decide) ⟨_, rfl, ⟨congrArg Value.int (by rw [hx, hz]; decide), rfl⟩⟩
theorem d32_0 : decode jdk_68_method_10_code 0 = .ok (.aload_n 0, 1) := by decide +kernel
theorem d32_1 : decode jdk_68_method_10_code 1 = .ok (.getfield 15, 3) := by decide +kernel
theorem d32_4 : decode jdk_68_method_10_code 4 = .ok (.arraylength, 1) := by decide +kernel
theorem d32_5 : decode jdk_68_method_10_code 5 = .ok (.istore_n 2, 1) := by decide +kernel
theorem d32_6 : decode jdk_68_method_10_code 6 = .ok (.iload_n 1, 1) := by decide +kernel
theorem d32_7 : decode jdk_68_method_10_code 7 = .ok (.aload_n 0, 1) := by decide +kernel
theorem d32_8 : decode jdk_68_method_10_code 8 = .ok (.getfield 22, 3) := by decide +kernel
theorem d32_11 : decode jdk_68_method_10_code 11 = .ok (.ishl, 1) := by decide +kernel
theorem d32_12 : decode jdk_68_method_10_code 12 = .ok (.istore_n 3, 1) := by decide +kernel
theorem d32_13 : decode jdk_68_method_10_code 13 = .ok (.iload_n 3, 1) := by decide +kernel
theorem d32_14 : decode jdk_68_method_10_code 14 = .ok (.iload_n 2, 1) := by decide +kernel
theorem d32_15 : decode jdk_68_method_10_code 15 = .ok (.isub, 1) := by decide +kernel
theorem d32_16 : decode jdk_68_method_10_code 16 = .ok (.istore 4, 2) := by decide +kernel
theorem d32_18 : decode jdk_68_method_10_code 18 = .ok (.iload_n 2, 1) := by decide +kernel
theorem d32_19 : decode jdk_68_method_10_code 19 = .ok (.iload 4, 2) := by decide +kernel
theorem d32_21 : decode jdk_68_method_10_code 21 = .ok (.iload_n 2, 1) := by decide +kernel
theorem d32_22 : decode jdk_68_method_10_code 22 = .ok (.iconst 2, 1) := by decide +kernel
theorem d32_23 : decode jdk_68_method_10_code 23 = .ok (.aload_n 0, 1) := by decide +kernel
theorem d32_24 : decode jdk_68_method_10_code 24 = .ok (.getfield 22, 3) := by decide +kernel
theorem d32_27 : decode jdk_68_method_10_code 27 = .ok (.ishl, 1) := by decide +kernel
theorem d32_28 : decode jdk_68_method_10_code 28 = .ok (.iadd, 1) := by decide +kernel
theorem d32_29 : decode jdk_68_method_10_code 29 = .ok (.invokestatic 114, 3) := by decide +kernel
theorem pd33 : parseMethodDescriptor "(III)I" = some ⟨[.int, .int, .int], some .int⟩ := by decide +kernel
theorem d32_32 : decode jdk_68_method_10_code 32 = .ok (.istore 5, 2) := by decide +kernel
theorem d32_34 : decode jdk_68_method_10_code 34 = .ok (.iload 5, 2) := by decide +kernel
theorem d32_36 : decode jdk_68_method_10_code 36 = .ok (.ldc 39, 2) := by decide +kernel
theorem d32_38 : decode jdk_68_method_10_code 38 = .ok (.if_icmp .ne 13, 3) := by decide +kernel
theorem d32_51 : decode jdk_68_method_10_code 51 = .ok (.iload 5, 2) := by decide +kernel
theorem d32_53 : decode jdk_68_method_10_code 53 = .ok (.aload_n 0, 1) := by decide +kernel
theorem d32_54 : decode jdk_68_method_10_code 54 = .ok (.getfield 22, 3) := by decide +kernel
theorem d32_57 : decode jdk_68_method_10_code 57 = .ok (.ishr, 1) := by decide +kernel
theorem d32_58 : decode jdk_68_method_10_code 58 = .ok (.ireturn, 1) := by decide +kernel
set_option maxRecDepth 65536 in
set_option maxHeartbeats 40000000 in
theorem con_nc (G : Gx) (H : Hyp G) (b ar : Nat) (kc : ClassId) (mm : Int32) (vs : List Value) (h : Heap) (ho : Old G.Z G.n0 h) (Fv : Fld G.Z h b "java/lang/AbstractStringBuilder" "value" "[B" (.ref ar)) (Fc : Fld G.Z h b "java/lang/AbstractStringBuilder" "coder" "B" (.int (0 : Int32))) (A : Arv G.Z h ar kc .byte (Int32.ofNat 16) vs (.int (0 : Int32))) (hm : mm = 17 ∨ mm = 18) :
    Con G (⟨"java/lang/AbstractStringBuilder", "newCapacity", "(I)I"⟩ : MethodName) jdk_68_method_10_code 6 (some .int) [] ({ frames := 2, cells := 0, slots := 0, locals := 29 } : Room) #[(.ref b), (.int mm)] h (vQ fun v h' => v = .int (34 : Int32) ∧ h = h') := by
  refine Con.intro H.el ho (plainFor_of_name pn6) (Ls := #[.val (.ref b), .val (.int mm), .unset, .unset, .unset, .unset]) (fun m => by first | (simp [entryFrame, mkF, argsToLocals, Value.category]; done) | rfl) ?_
  intro X vm T w
  refine w.aloadN (q := 1) d32_0 rfl rfl rfl ?_
  refine w.getF (q := 4) d32_1 (H.tw 52 rfl) Via.refl Fv rfl fun T1 w1 => ?_
  refine w1.alen (q := 5) d32_4 A rfl ?_
  refine w1.istoreN (q := 6) (L2 := #[.val (.ref b), .val (.int mm), .val (.int (Int32.ofNat 16)), .unset, .unset, .unset]) d32_5 rfl rfl ?_
  refine w1.iloadN (q := 7) d32_6 rfl rfl ?_
  refine w1.aloadN (q := 8) d32_7 rfl rfl rfl ?_
  refine w1.getF (q := 11) d32_8 (H.tw 54 rfl) Via.refl Fc rfl fun T2 w2 => ?_
  refine w2.ishl (q := 12) d32_11 rfl ?_
  refine w2.istoreN (q := 13) (L2 := #[.val (.ref b), .val (.int mm), .val (.int (Int32.ofNat 16)), .val (.int (mm <<< ((0 : Int32) &&& 31))), .unset, .unset]) d32_12 rfl rfl ?_
  refine w2.iloadN (q := 14) d32_13 rfl rfl ?_
  refine w2.iloadN (q := 15) d32_14 rfl rfl ?_
  refine w2.isub (q := 16) d32_15 rfl ?_
  refine w2.istore (q := 18) (L2 := #[.val (.ref b), .val (.int mm), .val (.int (Int32.ofNat 16)), .val (.int (mm <<< ((0 : Int32) &&& 31))), .val (.int ((mm <<< ((0 : Int32) &&& 31)) - (Int32.ofNat 16))), .unset]) d32_16 rfl rfl ?_
  refine w2.iloadN (q := 19) d32_18 rfl rfl ?_
  refine w2.iload (q := 21) d32_19 rfl rfl ?_
  refine w2.iloadN (q := 22) d32_21 rfl rfl ?_
  refine w2.iconst (q := 23) (2 : Int32) d32_22 rfl rfl ?_
  refine w2.aloadN (q := 24) d32_23 rfl rfl rfl ?_
  refine w2.getF (q := 27) d32_24 (H.tw 54 rfl) Via.refl Fc rfl fun T3 w3 => ?_
  refine w3.ishl (q := 28) d32_27 rfl ?_
  refine w3.iadd (q := 29) d32_28 rfl ?_
  refine w3.callS (q := 32) d32_29 (H.tw 234 rfl) (H.tw 235 rfl) (H.tw 236 rfl) (H.tw 237 rfl) (by decide) (argsL := [(.int (Int32.ofNat 16)), (.int ((mm <<< ((0 : Int32) &&& 31)) - (Int32.ofNat 16))), (.int ((Int32.ofNat 16) + ((2 : Int32) <<< ((0 : Int32) &&& 31))))]) (rest := []) rfl (lenOf pd33 rfl) rfl (W := 0) (Nat.le_of_eq rfl) ((con_nl G H _ _ _ h w3.old rfl (by decide) (by rcases hm with rfl | rfl <;> decide)).pay w3 (H.tw 237 rfl) (H.tw 236 rfl) (by decide) (by decide)) (by decide) (by decide) rfl fun vm4 T4 h4 v4 w4 q4 => ?_
  obtain ⟨_, rfl, rfl, rfl⟩ := q4
  show Go _ _ _ _ (T4.setTop (mkF X.m 32 #[.val (.ref b), .val (.int mm), .val (.int (Int32.ofNat 16)), .val (.int (mm <<< ((0 : Int32) &&& 31))), .val (.int ((mm <<< ((0 : Int32) &&& 31)) - (Int32.ofNat 16))), .unset] [(.int (34 : Int32))]))
  refine w4.istore (q := 34) (L2 := #[.val (.ref b), .val (.int mm), .val (.int (Int32.ofNat 16)), .val (.int (mm <<< ((0 : Int32) &&& 31))), .val (.int ((mm <<< ((0 : Int32) &&& 31)) - (Int32.ofNat 16))), .val (.int (34 : Int32))]) d32_32 rfl rfl ?_
  refine w4.iload (q := 36) d32_34 rfl rfl ?_
  refine w4.ldcI (q := 38) d32_36 (H.tw 243 rfl) rfl ?_
  refine w4.icY (q := 51) d32_38 ((feq (by decide)).2) (by decide) (by decide) ?_
  refine w4.iload (q := 53) d32_51 rfl rfl ?_
  refine w4.aloadN (q := 54) d32_53 rfl rfl rfl ?_
  refine w4.getF (q := 57) d32_54 (H.tw 54 rfl) Via.refl Fc rfl fun T5 w5 => ?_
  refine w5.ishr (q := 58) d32_57 rfl ?_
  exact w5.retI d32_58 rfl (by decide) (by decide) ⟨_, rfl, ⟨congrArg Value.int (by decide), rfl⟩⟩
theorem d34_0 : decode jdk_65_method_121_code 0 = .ok (.iload_n 1, 1) := by decide +kernel
theorem d34_1 : decode jdk_65_method_121_code 1 = .ok (.aload_n 0, 1) := by decide +kernel
theorem d34_2 : decode jdk_65_method_121_code 2 = .ok (.arraylength, 1) := by decide +kernel
theorem d34_3 : decode jdk_65_method_121_code 3 = .ok (.if_icmp .ne 11, 3) := by decide +kernel
theorem d34_14 : decode jdk_65_method_121_code 14 = .ok (.iload_n 1, 1) := by decide +kernel
theorem d34_15 : decode jdk_65_method_121_code 15 = .ok (.newarray .byte, 2) := by decide +kernel
theorem d34_17 : decode jdk_65_method_121_code 17 = .ok (.astore_n 2, 1) := by decide +kernel
theorem d34_18 : decode jdk_65_method_121_code 18 = .ok (.aload_n 0, 1) := by decide +kernel
theorem d34_19 : decode jdk_65_method_121_code 19 = .ok (.iconst 0, 1) := by decide +kernel
theorem d34_20 : decode jdk_65_method_121_code 20 = .ok (.aload_n 2, 1) := by decide +kernel
theorem d34_21 : decode jdk_65_method_121_code 21 = .ok (.iconst 0, 1) := by decide +kernel
theorem d34_22 : decode jdk_65_method_121_code 22 = .ok (.aload_n 0, 1) := by decide +kernel
theorem d34_23 : decode jdk_65_method_121_code 23 = .ok (.arraylength, 1) := by decide +kernel
theorem d34_24 : decode jdk_65_method_121_code 24 = .ok (.iload_n 1, 1) := by decide +kernel
theorem d34_25 : decode jdk_65_method_121_code 25 = .ok (.invokestatic 304, 3) := by decide +kernel
theorem d34_28 : decode jdk_65_method_121_code 28 = .ok (.invokestatic 150, 3) := by decide +kernel
theorem d34_31 : decode jdk_65_method_121_code 31 = .ok (.aload_n 2, 1) := by decide +kernel
theorem d34_32 : decode jdk_65_method_121_code 32 = .ok (.areturn, 1) := by decide +kernel
theorem pn35 : plainName "java/util/Arrays" = true := by first | (simp [plainName, overriddenIn]; done) | decide +kernel
set_option maxRecDepth 65536 in
set_option maxHeartbeats 40000000 in
theorem con_co (G : Gx) (H : Hyp G) (ar : Nat) (kc : ClassId) (nn : Int32) (vs : List Value) (h : Heap) (ho : Old G.Z G.n0 h) (A : Arv G.Z h ar kc .byte (Int32.ofNat 16) vs (.int (0 : Int32))) (hv : vs.length = 16) (hn : nn = 34) :
    Con G (⟨"java/util/Arrays", "copyOf", "([BI)[B"⟩ : MethodName) jdk_65_method_121_code 3 (some (.array .byte)) [] ({ frames := 1, cells := 1, slots := 34, locals := 18 } : Room) #[(.ref ar), (.int nn)] h (vQ fun v h' => ∃ (r : Nat) (kr : ClassId), v = .ref r ∧ Ext h h' ∧ h.size ≤ r ∧ Exa G.Z h' r "[B" ∧ Arv G.Z h' r kr .byte (Int32.ofNat 34) (vs ++ List.replicate 18 (.int (0 : Int32))) (.int (0 : Int32))) := by
  refine Con.intro H.el ho (plainFor_of_name pn35) (Ls := #[.val (.ref ar), .val (.int nn), .unset]) (fun m => by first | (simp [entryFrame, mkF, argsToLocals, Value.category]; done) | rfl) ?_
  intro X vm T w
  subst hn
  refine w.iloadN (q := 1) d34_0 rfl rfl ?_
  refine w.aloadN (q := 2) d34_1 rfl rfl rfl ?_
  refine w.alen (q := 3) d34_2 A rfl ?_
  refine w.icY (q := 14) d34_3 ((feq (by decide)).2) (by decide) (by decide) ?_
  refine w.iloadN (q := 15) d34_14 rfl rfl ?_
  refine w.newPX (q := 17) (ad := "[B") 34 d34_15 (H.tw 20 rfl) (by decide) (by decide) (by decide) (by decide) (by decide) (by decide) rfl fun T1 h1 b1 kc1 e1 w1 E1 A1 Y1 sf1 => ?_
  replace A1 : Arv G.Z h1 b1 kc1 .byte (34 : Int32) (List.replicate (34) (.int (0 : Int32))) (.int (0 : Int32)) := A1.pad (pad_rep [] (.int (0 : Int32)) (34))
  have lt1 : b1 < h1.size := A1.lt
  have sz1 : h.size ≤ h1.size := E1.1
  have g1 : G.n0 ≤ b1 := by have := ho.2.1; have := ho.1; omega
  replace A := A.ext E1
  refine w1.astoreN (q := 18) (L2 := #[.val (.ref ar), .val (.int (34 : Int32)), .val (.ref b1)]) d34_17 rfl rfl rfl ?_
  refine w1.aloadN (q := 19) d34_18 rfl rfl rfl ?_
  refine w1.iconst (q := 20) (0 : Int32) d34_19 rfl rfl ?_
  refine w1.aloadN (q := 21) d34_20 rfl rfl rfl ?_
  refine w1.iconst (q := 22) (0 : Int32) d34_21 rfl rfl ?_
  refine w1.aloadN (q := 23) d34_22 rfl rfl rfl ?_
  refine w1.alen (q := 24) d34_23 A rfl ?_
  refine w1.iloadN (q := 25) d34_24 rfl rfl ?_
  refine w1.callS (q := 28) d34_25 (H.tw 247 rfl) (H.tw 248 rfl) (H.tw 240 rfl) (H.tw 249 rfl) (by decide) (argsL := [(.int (Int32.ofNat 16)), (.int (34 : Int32))]) (rest := [(.int (0 : Int32)), (.ref b1), (.int (0 : Int32)), (.ref ar)]) rfl (lenOf pd30 rfl) rfl (W := 4) (Nat.le_of_eq rfl) ((con_minx G H _ _ h1 w1.old (by decide)).pay w1 (H.tw 249 rfl) (H.tw 240 rfl) (by decide) (by decide)) (by decide) (by decide) rfl fun vm2 T2 h2 v2 w2 q2 => ?_
  obtain ⟨_, rfl, rfl, rfl⟩ := q2
  show Go _ _ _ _ (T2.setTop (mkF X.m 28 #[.val (.ref ar), .val (.int (34 : Int32)), .val (.ref b1)] [(.int (Int32.ofNat 16)), (.int (0 : Int32)), (.ref b1), (.int (0 : Int32)), (.ref ar)]))
  have e0 : (0 : Int32).toNatClampNeg = 0 := by decide
  have e16 : (Int32.ofNat 16).toNatClampNeg = 16 := by decide
  have e34 : (34 : Int32).toNatClampNeg = 34 := by decide
  refine w2.acopy (q := 31) (W := 0) (us := vs) d34_28 (H.tw 250 rfl) (H.tw 105 rfl) (H.tw 103 rfl) (H.tw 104 rfl) A A1 rfl (by decide) (by decide) (by decide) (by rw [e0, e16]; omega) (by rw [e0, e16, e34]; decide) (by rw [e0, e16, ← hv]; exact us_all vs _) (by rw [e0, e16, List.length_replicate]; decide) g1 (w2.sfL A1 (H.neL (by decide) (by decide))) rfl (by decide) (Nat.le_of_eq rfl) (by decide) rfl fun T3 h3 w3 K3 A3 => ?_
  have sz3 : h1.size ≤ h3.size := K3.1
  have X1 : Ext h h3 := xkp E1 K3 (all1 (by omega))
  refine w3.aloadN (q := 32) d34_31 rfl rfl rfl ?_
  exact w3.retA d34_32 (t := (.array .byte)) rfl rfl rfl (by decide) (by decide) ⟨_, rfl, b1, kc1, rfl, X1, by omega, Y1.keep K3, A3⟩
theorem d36_0 : decode jdk_68_method_9_code 0 = .ok (.aload_n 0, 1) := by decide +kernel
theorem d36_1 : decode jdk_68_method_9_code 1 = .ok (.getfield 15, 3) := by decide +kernel
theorem d36_4 : decode jdk_68_method_9_code 4 = .ok (.arraylength, 1) := by decide +kernel
theorem d36_5 : decode jdk_68_method_9_code 5 = .ok (.aload_n 0, 1) := by decide +kernel
theorem d36_6 : decode jdk_68_method_9_code 6 = .ok (.getfield 22, 3) := by decide +kernel
theorem d36_9 : decode jdk_68_method_9_code 9 = .ok (.ishr, 1) := by decide +kernel
theorem d36_10 : decode jdk_68_method_9_code 10 = .ok (.istore_n 2, 1) := by decide +kernel
theorem d36_11 : decode jdk_68_method_9_code 11 = .ok (.iload_n 1, 1) := by decide +kernel
theorem d36_12 : decode jdk_68_method_9_code 12 = .ok (.iload_n 2, 1) := by decide +kernel
theorem d36_13 : decode jdk_68_method_9_code 13 = .ok (.isub, 1) := by decide +kernel
theorem d36_14 : decode jdk_68_method_9_code 14 = .ok (.ifCond .le 24, 3) := by decide +kernel
theorem d36_38 : decode jdk_68_method_9_code 38 = .ok (.return_, 1) := by decide +kernel
set_option maxRecDepth 65536 in
set_option maxHeartbeats 40000000 in
theorem con_ens0 (G : Gx) (H : Hyp G) (b ar mm : Nat) (kc : ClassId) (vs : List Value) (h : Heap) (ho : Old G.Z G.n0 h) (Fv : Fld G.Z h b "java/lang/AbstractStringBuilder" "value" "[B" (.ref ar)) (Fc : Fld G.Z h b "java/lang/AbstractStringBuilder" "coder" "B" (.int (0 : Int32))) (A : Arv G.Z h ar kc .byte (Int32.ofNat 16) vs (.int (0 : Int32))) (hm : mm ≤ 16) :
    Con G (⟨"java/lang/AbstractStringBuilder", "ensureCapacityInternal", "(I)V"⟩ : MethodName) jdk_68_method_9_code 3 none [] ({ frames := 0, cells := 0, slots := 0, locals := 0 } : Room) #[(.ref b), (.int (Int32.ofNat mm))] h (nQ fun h' => h = h') := by
  refine Con.intro H.el ho (plainFor_of_name pn6) (Ls := #[.val (.ref b), .val (.int (Int32.ofNat mm)), .unset]) (fun m => by first | (simp [entryFrame, mkF, argsToLocals, Value.category]; done) | rfl) ?_
  intro X vm T w
  refine w.aloadN (q := 1) d36_0 rfl rfl rfl ?_
  refine w.getF (q := 4) d36_1 (H.tw 52 rfl) Via.refl Fv rfl fun T1 w1 => ?_
  refine w1.alen (q := 5) d36_4 A rfl ?_
  refine w1.aloadN (q := 6) d36_5 rfl rfl rfl ?_
  refine w1.getF (q := 9) d36_6 (H.tw 54 rfl) Via.refl Fc rfl fun T2 w2 => ?_
  refine w2.ishr (q := 10) d36_9 rfl ?_
  refine w2.istoreN (q := 11) (L2 := #[.val (.ref b), .val (.int (Int32.ofNat mm)), .val (.int ((Int32.ofNat 16) >>> ((0 : Int32) &&& 31)))]) d36_10 rfl rfl ?_
  refine w2.iloadN (q := 12) d36_11 rfl rfl ?_
  refine w2.iloadN (q := 13) d36_12 rfl rfl ?_
  refine w2.isub (q := 14) d36_13 rfl ?_
  refine w2.ifY (q := 38) d36_14 ((if0 _ _).trans (flt (by rw [show ((Int32.ofNat 16) >>> ((0 : Int32) &&& 31)) = 16 from by decide]; exact ens_ok hm)).2.2.2) (by decide) (by decide) ?_
  exact w2.retV d36_38 rfl (by decide) (by decide) ⟨rfl, rfl⟩
theorem d36_17 : decode jdk_68_method_9_code 17 = .ok (.aload_n 0, 1) := by decide +kernel
theorem d36_18 : decode jdk_68_method_9_code 18 = .ok (.aload_n 0, 1) := by decide +kernel
theorem d36_19 : decode jdk_68_method_9_code 19 = .ok (.getfield 15, 3) := by decide +kernel
theorem d36_22 : decode jdk_68_method_9_code 22 = .ok (.aload_n 0, 1) := by decide +kernel
theorem d36_23 : decode jdk_68_method_9_code 23 = .ok (.iload_n 1, 1) := by decide +kernel
theorem d36_24 : decode jdk_68_method_9_code 24 = .ok (.invokevirtual 104, 3) := by decide +kernel
theorem d36_27 : decode jdk_68_method_9_code 27 = .ok (.aload_n 0, 1) := by decide +kernel
theorem d36_28 : decode jdk_68_method_9_code 28 = .ok (.getfield 22, 3) := by decide +kernel
theorem d36_31 : decode jdk_68_method_9_code 31 = .ok (.ishl, 1) := by decide +kernel
theorem d36_32 : decode jdk_68_method_9_code 32 = .ok (.invokestatic 108, 3) := by decide +kernel
theorem pd37 : parseMethodDescriptor "([BI)[B" = some ⟨[(.array .byte), .int], some (.array .byte)⟩ := by decide +kernel
theorem d36_35 : decode jdk_68_method_9_code 35 = .ok (.putfield 15, 3) := by decide +kernel
set_option maxRecDepth 65536 in
set_option maxHeartbeats 40000000 in
theorem con_ensG (G : Gx) (H : Hyp G) (b ar mm cnt : Nat) (kc : ClassId) (vs : List Value) (h : Heap) (ho : Old G.Z G.n0 h) (B : SBc G.Z h b ar kc 0 cnt 16 vs) (hv : vs.length = 16) (hm : mm = 17 ∨ mm = 18) (g : G.n0 ≤ b) :
    Con G (⟨"java/lang/AbstractStringBuilder", "ensureCapacityInternal", "(I)V"⟩ : MethodName) jdk_68_method_9_code 3 none [] ({ frames := 3, cells := 1, slots := 34, locals := 48 } : Room) #[(.ref b), (.int (Int32.ofNat mm))] h (nQ fun h' => ∃ (ar' : Nat) (kc' : ClassId), h.size ≤ ar' ∧ Keep h h' [b] ∧ SBc G.Z h' b ar' kc' 0 cnt 34 (vs ++ List.replicate 18 (.int (0 : Int32)))) := by
  refine Con.intro H.el ho (plainFor_of_name pn6) (Ls := #[.val (.ref b), .val (.int (Int32.ofNat mm)), .unset]) (fun m => by first | (simp [entryFrame, mkF, argsToLocals, Value.category]; done) | rfl) ?_
  intro X vm T w
  obtain ⟨E, Fv, Fc, Fn, Fm, Ya, A⟩ := B
  have ltb : b < h.size := E.lt
  refine w.aloadN (q := 1) d36_0 rfl rfl rfl ?_
  refine w.getF (q := 4) d36_1 (H.tw 52 rfl) Via.refl Fv rfl fun T1 w1 => ?_
  refine w1.alen (q := 5) d36_4 A rfl ?_
  refine w1.aloadN (q := 6) d36_5 rfl rfl rfl ?_
  refine w1.getF (q := 9) d36_6 (H.tw 54 rfl) Via.refl Fc rfl fun T2 w2 => ?_
  refine w2.ishr (q := 10) d36_9 rfl ?_
  refine w2.istoreN (q := 11) (L2 := #[.val (.ref b), .val (.int (Int32.ofNat mm)), .val (.int ((Int32.ofNat 16) >>> ((0 : Int32) &&& 31)))]) d36_10 rfl rfl ?_
  refine w2.iloadN (q := 12) d36_11 rfl rfl ?_
  refine w2.iloadN (q := 13) d36_12 rfl rfl ?_
  refine w2.isub (q := 14) d36_13 rfl ?_
  refine w2.ifN (q := 17) d36_14 ((if0 _ _).trans (tlt (by rcases hm with rfl | rfl <;> decide)).2.2.2) rfl ?_
  refine w2.aloadN (q := 18) d36_17 rfl rfl rfl ?_
  refine w2.aloadN (q := 19) d36_18 rfl rfl rfl ?_
  refine w2.getF (q := 22) d36_19 (H.tw 52 rfl) Via.refl Fv rfl fun T3 w3 => ?_
  refine w3.aloadN (q := 23) d36_22 rfl rfl rfl ?_
  refine w3.iloadN (q := 24) d36_23 rfl rfl ?_
  refine w3.callPs (q := 27) d36_24 (H.tw 229 rfl) (H.tw 230 rfl) (H.tw 231 rfl) (H.tw 233 rfl) (H.tw 232 rfl) (by decide) E (argsL := [(.int (Int32.ofNat mm))]) (rest := [(.ref ar), (.ref b)]) rfl (lenOf pd13 rfl) rfl (W := 2) (Nat.le_of_eq rfl) ((con_nc G H b ar kc _ vs h w3.old Fv Fc A (by rcases hm with rfl | rfl <;> decide)).pay w3 (H.tw 233 rfl) (H.tw 48 rfl) (by decide) (by decide)) (by decide) (by decide) rfl fun vm4 T4 h4 v4 w4 q4 => ?_
  obtain ⟨_, rfl, rfl, rfl⟩ := q4
  show Go _ _ _ _ (T4.setTop (mkF X.m 27 #[.val (.ref b), .val (.int (Int32.ofNat mm)), .val (.int ((Int32.ofNat 16) >>> ((0 : Int32) &&& 31)))] [(.int (34 : Int32)), (.ref ar), (.ref b)]))
  refine w4.aloadN (q := 28) d36_27 rfl rfl rfl ?_
  refine w4.getF (q := 31) d36_28 (H.tw 54 rfl) Via.refl Fc rfl fun T5 w5 => ?_
  refine w5.ishl (q := 32) d36_31 rfl ?_
  refine w5.callS (q := 35) d36_32 (H.tw 244 rfl) (H.tw 245 rfl) (H.tw 138 rfl) (H.tw 246 rfl) (by decide) (argsL := [(.ref ar), (.int ((34 : Int32) <<< ((0 : Int32) &&& 31)))]) (rest := [(.ref b)]) rfl (lenOf pd37 rfl) rfl (W := 1) (Nat.le_of_eq rfl) ((con_co G H ar kc _ vs h w5.old A hv (by decide)).pay w5 (H.tw 246 rfl) (H.tw 138 rfl) (by decide) (by decide)) (by decide) (by decide) rfl fun vm6 T6 h6 v6 w6 q6 => ?_
  obtain ⟨_, rfl, ⟨r, kr, rfl, X6, zr, Yr, Ar⟩⟩ := q6
  show Go _ _ _ _ (T6.setTop (mkF X.m 35 #[.val (.ref b), .val (.int (Int32.ofNat mm)), .val (.int ((Int32.ofNat 16) >>> ((0 : Int32) &&& 31)))] [(.ref r), (.ref b)]))
  replace E := E.ext X6
  replace Fv := Fv.ext X6
  replace Fc := Fc.ext X6
  replace Fn := Fn.ext X6
  replace Fm := Fm.ext X6
  refine w6.putF (q := 38) d36_35 (H.tw 52 rfl) Via.refl Fv E (Or.inl (H.tw 53 rfl)) (H.tw 39 rfl) (ty := (.array .byte)) (by decide) rfl rfl g (w6.sfE E (by decide) (by decide)) rfl fun T7 h7 w7 W7 sf7 => ?_
  have sz7 : h6.size ≤ h7.size := (Keep.of_wr W7).1
  replace E := E.wr W7
  replace Fc := Fc.other W7 (Or.inr (slot_ne (Or.inl (H.tw 55 rfl)) (Or.inl (H.tw 53 rfl)) (by decide) (t := .byte) (t' := (.array .byte)) (by decide) (by decide)))
  replace Fn := Fn.other W7 (Or.inr (slot_ne (Or.inl (H.tw 80 rfl)) (Or.inl (H.tw 53 rfl)) (by decide) (t := .int) (t' := (.array .byte)) (by decide) (by decide)))
  replace Fm := Fm.other W7 (Or.inr (slot_ne (Or.inl (H.tw 305 rfl)) (Or.inl (H.tw 53 rfl)) (by decide) (t := .boolean) (t' := (.array .byte)) (by decide) (by decide)))
  replace Fv := Fv.same W7
  replace Ar := Ar.other W7 (neN (by omega))
  replace Yr := Yr.wr W7
  exact w7.retV d36_38 rfl (by decide) (by decide) ⟨rfl, r, kr, zr, ((Keep.refl h [b]).ext X6).wr W7 (Or.inl (List.mem_singleton.mpr rfl)), E, Fv, Fc, Fn, Fm, Yr, Ar⟩
theorem d38_0 : decode jdk_52_method_6_code 0 = .ok (.aload_n 0, 1) := by decide +kernel
theorem d38_1 : decode jdk_52_method_6_code 1 = .ok (.arraylength, 1) := by decide +kernel
theorem d38_2 : decode jdk_52_method_6_code 2 = .ok (.iconst 1, 1) := by decide +kernel
theorem d38_3 : decode jdk_52_method_6_code 3 = .ok (.ishr, 1) := by decide +kernel
theorem d38_4 : decode jdk_52_method_6_code 4 = .ok (.ireturn, 1) := by decide +kernel
set_option maxRecDepth 65536 in
set_option maxHeartbeats 40000000 in
theorem con_ul (G : Gx) (H : Hyp G) (d : Nat) (kd : ClassId) (N : Int32) (vs : List Value) (h : Heap) (ho : Old G.Z G.n0 h) (A : Arv G.Z h d kd .byte N vs (.int (0 : Int32))) :
    Con G (⟨"java/lang/StringUTF16", "length", "([B)I"⟩ : MethodName) jdk_52_method_6_code 1 (some .int) [] ({ frames := 0, cells := 0, slots := 0, locals := 0 } : Room) #[(.ref d)] h (vQ fun v h' => v = .int (N >>> ((1 : Int32) &&& 31)) ∧ h = h') := by
  refine Con.intro H.el ho (plainFor_of_name pn10) (Ls := #[.val (.ref d)]) (fun m => by first | (simp [entryFrame, mkF, argsToLocals, Value.category]; done) | rfl) ?_
  intro X vm T w
  refine w.aloadN (q := 1) d38_0 rfl rfl rfl ?_
  refine w.alen (q := 2) d38_1 A rfl ?_
  refine w.iconst (q := 3) (1 : Int32) d38_2 rfl rfl ?_
  refine w.ishr (q := 4) d38_3 rfl ?_
  exact w.retI d38_4 rfl (by decide) (by decide) ⟨_, rfl, ⟨rfl, rfl⟩⟩
theorem d39_0 : decode jdk_41_method_13_code 0 = .ok (.iload_n 2, 1) := by decide +kernel
theorem d39_1 : decode jdk_41_method_13_code 1 = .ok (.iload_n 0, 1) := by decide +kernel
theorem d39_2 : decode jdk_41_method_13_code 2 = .ok (.ior, 1) := by decide +kernel
theorem d39_3 : decode jdk_41_method_13_code 3 = .ok (.iload_n 1, 1) := by decide +kernel
theorem d39_4 : decode jdk_41_method_13_code 4 = .ok (.ior, 1) := by decide +kernel
theorem d39_5 : decode jdk_41_method_13_code 5 = .ok (.ifCond .lt 10, 3) := by decide +kernel
theorem d39_8 : decode jdk_41_method_13_code 8 = .ok (.iload_n 1, 1) := by decide +kernel
theorem d39_9 : decode jdk_41_method_13_code 9 = .ok (.iload_n 2, 1) := by decide +kernel
theorem d39_10 : decode jdk_41_method_13_code 10 = .ok (.iload_n 0, 1) := by decide +kernel
theorem d39_11 : decode jdk_41_method_13_code 11 = .ok (.isub, 1) := by decide +kernel
theorem d39_12 : decode jdk_41_method_13_code 12 = .ok (.if_icmp .le 11, 3) := by decide +kernel
theorem d39_23 : decode jdk_41_method_13_code 23 = .ok (.iload_n 0, 1) := by decide +kernel
theorem d39_24 : decode jdk_41_method_13_code 24 = .ok (.ireturn, 1) := by decide +kernel
theorem pn40 : plainName "jdk/internal/util/Preconditions" = true := by first | (simp [plainName, overriddenIn]; done) | decide +kernel
set_option maxRecDepth 65536 in
set_option maxHeartbeats 40000000 in
theorem con_cfs (G : Gx) (H : Hyp G) (x y z : Int32) (fm : Value) (hfm : fm.isRef = true) (h : Heap) (ho : Old G.Z G.n0 h) (hb1 : ¬ ((z ||| x) ||| y) < 0) (hb2 : ¬ (z - x) < y) :
    Con G (⟨"jdk/internal/util/Preconditions", "checkFromIndexSize", "(IIILjava/util/function/BiFunction;)I"⟩ : MethodName) jdk_41_method_13_code 4 (some .int) [] ({ frames := 0, cells := 0, slots := 0, locals := 0 } : Room) #[(.int x), (.int y), (.int z), fm] h (vQ fun v h' => v = .int x ∧ h = h') := by
  refine Con.intro H.el ho (plainFor_of_name pn40) (Ls := #[.val (.int x), .val (.int y), .val (.int z), .val fm]) (fun m => by (rcases ref_cases hfm with rfl | ⟨_, rfl⟩) <;> first | (simp [entryFrame, mkF, argsToLocals, Value.category]; done) | rfl) ?_
  intro X vm T w
  refine w.iloadN (q := 1) d39_0 rfl rfl ?_
  refine w.iloadN (q := 2) d39_1 rfl rfl ?_
  refine w.ior (q := 3) d39_2 rfl ?_
  refine w.iloadN (q := 4) d39_3 rfl rfl ?_
  refine w.ior (q := 5) d39_4 rfl ?_
  refine w.ifN (q := 8) d39_5 ((if0 _ _).trans (flt hb1).1) rfl ?_
  refine w.iloadN (q := 9) d39_8 rfl rfl ?_
  refine w.iloadN (q := 10) d39_9 rfl rfl ?_
  refine w.iloadN (q := 11) d39_10 rfl rfl ?_
  refine w.isub (q := 12) d39_11 rfl ?_
  refine w.icY (q := 23) d39_12 ((flt hb2).2.2.2) (by decide) (by decide) ?_
  refine w.iloadN (q := 24) d39_23 rfl rfl ?_
  exact w.retI d39_24 rfl (by decide) (by decide) ⟨_, rfl, ⟨rfl, rfl⟩⟩
theorem d41_0 : decode jdk_42_method_157_code 0 = .ok (.iload_n 0, 1) := by decide +kernel
theorem d41_1 : decode jdk_42_method_157_code 1 = .ok (.iload_n 1, 1) := by decide +kernel
theorem d41_2 : decode jdk_42_method_157_code 2 = .ok (.iload_n 2, 1) := by decide +kernel
theorem d41_3 : decode jdk_42_method_157_code 3 = .ok (.getstatic 1053, 3) := by decide +kernel
theorem d41_6 : decode jdk_42_method_157_code 6 = .ok (.invokestatic 1065, 3) := by decide +kernel
theorem pd42 : parseMethodDescriptor "(IIILjava/util/function/BiFunction;)I" = some ⟨[.int, .int, .int, (.object "java/util/function/BiFunction")], some .int⟩ := by decide +kernel
theorem d41_9 : decode jdk_42_method_157_code 9 = .ok (.ireturn, 1) := by decide +kernel
set_option maxRecDepth 65536 in
set_option maxHeartbeats 40000000 in
theorem con_cbo (G : Gx) (H : Hyp G) (x y z : Int32) (h : Heap) (ho : Old G.Z G.n0 h) (hb1 : ¬ ((z ||| x) ||| y) < 0) (hb2 : ¬ (z - x) < y) :
    Con G (⟨"java/lang/String", "checkBoundsOffCount", "(III)I"⟩ : MethodName) jdk_42_method_157_code 3 (some .int) [] ({ frames := 1, cells := 0, slots := 0, locals := 15 } : Room) #[(.int x), (.int y), (.int z)] h (vQ fun v h' => v = .int x ∧ h = h') := by
  refine Con.intro H.el ho (plainFor_of_name pn1) (Ls := #[.val (.int x), .val (.int y), .val (.int z)]) (fun m => by first | (simp [entryFrame, mkF, argsToLocals, Value.category]; done) | rfl) ?_
  intro X vm T w
  obtain ⟨⟨fm, hfm, Sf⟩, -⟩ := H.mo
  refine w.iloadN (q := 1) d41_0 rfl rfl ?_
  refine w.iloadN (q := 2) d41_1 rfl rfl ?_
  refine w.iloadN (q := 3) d41_2 rfl rfl ?_
  refine w.getS (q := 6) d41_3 (H.tw 299 rfl) Via.refl Sf rfl fun T1 w1 => ?_
  refine w1.callS (q := 9) d41_6 (H.tw 301 rfl) (H.tw 302 rfl) (H.tw 300 rfl) (H.tw 303 rfl) (by decide) (argsL := [(.int x), (.int y), (.int z), fm]) (rest := []) rfl (lenOf pd42 rfl) rfl (W := 0) (Nat.le_of_eq rfl) ((con_cfs G H x y z fm hfm h w1.old hb1 hb2).pay w1 (H.tw 303 rfl) (H.tw 300 rfl) (by decide) (by decide)) (by decide) (by decide) rfl fun vm2 T2 h2 v2 w2 q2 => ?_
  obtain ⟨_, rfl, rfl, rfl⟩ := q2
  show Go _ _ _ _ (T2.setTop (mkF X.m 9 #[.val (.int x), .val (.int y), .val (.int z)] [(.int x)]))
  exact w2.retI d41_9 rfl (by decide) (by decide) ⟨_, rfl, ⟨rfl, rfl⟩⟩
theorem d43_0 : decode jdk_52_method_94_code 0 = .ok (.iload_n 0, 1) := by decide +kernel
theorem d43_1 : decode jdk_52_method_94_code 1 = .ok (.iload_n 1, 1) := by decide +kernel
theorem d43_2 : decode jdk_52_method_94_code 2 = .ok (.aload_n 2, 1) := by decide +kernel
theorem d43_3 : decode jdk_52_method_94_code 3 = .ok (.invokestatic 48, 3) := by decide +kernel
theorem pd44 : parseMethodDescriptor "([B)I" = some ⟨[(.array .byte)], some .int⟩ := by decide +kernel
theorem d43_6 : decode jdk_52_method_94_code 6 = .ok (.invokestatic 419, 3) := by decide +kernel
theorem d43_9 : decode jdk_52_method_94_code 9 = .ok (.pop, 1) := by decide +kernel
theorem d43_10 : decode jdk_52_method_94_code 10 = .ok (.return_, 1) := by decide +kernel
set_option maxRecDepth 65536 in
set_option maxHeartbeats 40000000 in
theorem con_ucb (G : Gx) (H : Hyp G) (x y N : Int32) (d : Nat) (kd : ClassId) (vs : List Value) (h : Heap) (ho : Old G.Z G.n0 h) (A : Arv G.Z h d kd .byte N vs (.int (0 : Int32))) (hb1 : ¬ (((N >>> ((1 : Int32) &&& 31)) ||| x) ||| y) < 0) (hb2 : ¬ ((N >>> ((1 : Int32) &&& 31)) - x) < y) :
    Con G (⟨"java/lang/StringUTF16", "checkBoundsOffCount", "(II[B)V"⟩ : MethodName) jdk_52_method_94_code 3 none [] ({ frames := 2, cells := 0, slots := 0, locals := 29 } : Room) #[(.int x), (.int y), (.ref d)] h (nQ fun h' => h = h') := by
  refine Con.intro H.el ho (plainFor_of_name pn10) (Ls := #[.val (.int x), .val (.int y), .val (.ref d)]) (fun m => by first | (simp [entryFrame, mkF, argsToLocals, Value.category]; done) | rfl) ?_
  intro X vm T w
  refine w.iloadN (q := 1) d43_0 rfl rfl ?_
  refine w.iloadN (q := 2) d43_1 rfl rfl ?_
  refine w.aloadN (q := 3) d43_2 rfl rfl rfl ?_
  refine w.callS (q := 6) d43_3 (H.tw 293 rfl) (H.tw 294 rfl) (H.tw 18 rfl) (H.tw 295 rfl) (by decide) (argsL := [(.ref d)]) (rest := [(.int y), (.int x)]) rfl (lenOf pd44 rfl) rfl (W := 2) (Nat.le_of_eq rfl) ((con_ul G H d kd N vs h ho A).pay w (H.tw 295 rfl) (H.tw 18 rfl) (by decide) (by decide)) (by decide) (by decide) rfl fun vm1 T1 h1 v1 w1 q1 => ?_
  obtain ⟨_, rfl, rfl, rfl⟩ := q1
  show Go _ _ _ _ (T1.setTop (mkF X.m 6 #[.val (.int x), .val (.int y), .val (.ref d)] [(.int (N >>> ((1 : Int32) &&& 31))), (.int y), (.int x)]))
  refine w1.callS (q := 9) d43_6 (H.tw 296 rfl) (H.tw 297 rfl) (H.tw 4 rfl) (H.tw 298 rfl) (by decide) (argsL := [(.int x), (.int y), (.int (N >>> ((1 : Int32) &&& 31)))]) (rest := []) rfl (lenOf pd33 rfl) rfl (W := 0) (Nat.le_of_eq rfl) ((con_cbo G H x y _ h w1.old hb1 hb2).pay w1 (H.tw 298 rfl) (H.tw 4 rfl) (by decide) (by decide)) (by decide) (by decide) rfl fun vm2 T2 h2 v2 w2 q2 => ?_
  obtain ⟨_, rfl, rfl, rfl⟩ := q2
  show Go _ _ _ _ (T2.setTop (mkF X.m 9 #[.val (.int x), .val (.int y), .val (.ref d)] [(.int x)]))
  refine w2.pop (q := 10) d43_9 rfl rfl ?_
  exact w2.retV d43_10 rfl (by decide) (by decide) ⟨rfl, rfl⟩
theorem d45_0 : decode jdk_52_method_86_code 0 = .ok (.iload_n 3, 1) := by decide +kernel
theorem d45_1 : decode jdk_52_method_86_code 1 = .ok (.iload 4, 2) := by decide +kernel
theorem d45_3 : decode jdk_52_method_86_code 3 = .ok (.aload_n 2, 1) := by decide +kernel
theorem d45_4 : decode jdk_52_method_86_code 4 = .ok (.invokestatic 173, 3) := by decide +kernel
theorem pd46 : parseMethodDescriptor "(II[B)V" = some ⟨[.int, .int, (.array .byte)], none⟩ := by decide +kernel
theorem d45_7 : decode jdk_52_method_86_code 7 = .ok (.iconst 0, 1) := by decide +kernel
theorem d45_8 : decode jdk_52_method_86_code 8 = .ok (.istore 5, 2) := by decide +kernel
theorem d45_10 : decode jdk_52_method_86_code 10 = .ok (.iload 5, 2) := by decide +kernel
theorem d45_12 : decode jdk_52_method_86_code 12 = .ok (.iload 4, 2) := by decide +kernel
theorem d45_14 : decode jdk_52_method_86_code 14 = .ok (.if_icmp .ge 27, 3) := by decide +kernel
theorem d45_41 : decode jdk_52_method_86_code 41 = .ok (.return_, 1) := by decide +kernel
theorem d45_17 : decode jdk_52_method_86_code 17 = .ok (.aload_n 2, 1) := by decide +kernel
theorem d45_18 : decode jdk_52_method_86_code 18 = .ok (.iload_n 3, 1) := by decide +kernel
theorem d45_19 : decode jdk_52_method_86_code 19 = .ok (.iinc 3 1, 3) := by decide +kernel
theorem d45_22 : decode jdk_52_method_86_code 22 = .ok (.aload_n 0, 1) := by decide +kernel
theorem d45_23 : decode jdk_52_method_86_code 23 = .ok (.iload_n 1, 1) := by decide +kernel
theorem d45_24 : decode jdk_52_method_86_code 24 = .ok (.iinc 1 1, 3) := by decide +kernel
theorem d45_27 : decode jdk_52_method_86_code 27 = .ok (.baload, 1) := by decide +kernel
theorem d45_28 : decode jdk_52_method_86_code 28 = .ok (.sipush 255, 3) := by decide +kernel
theorem d45_31 : decode jdk_52_method_86_code 31 = .ok (.iand, 1) := by decide +kernel
theorem d45_32 : decode jdk_52_method_86_code 32 = .ok (.invokestatic 111, 3) := by decide +kernel
theorem d45_35 : decode jdk_52_method_86_code 35 = .ok (.iinc 5 1, 3) := by decide +kernel
theorem d45_38 : decode jdk_52_method_86_code 38 = .ok (.goto (-28), 3) := by decide +kernel
set_option maxRecDepth 65536 in
set_option maxHeartbeats 40000000 in
theorem con_i5 (G : Gx) (H : Hyp G) (sr d K : Nat) (ks kd : ClassId) (N : Int32) (cs : List Int32) (tl rs : List Value) (h : Heap) (ho : Old G.Z G.n0 h) (A : Arv G.Z h sr ks .byte N (cs.map (fun c => Value.int (StrChars.lo8 c)) ++ tl) (.int (0 : Int32))) (D0 : Arv G.Z h d kd .byte (Int32.ofNat (2 * K)) (List.replicate (2 * cs.length) (.int (0 : Int32)) ++ rs) (.int (0 : Int32))) (hK : K = 16 ∨ K = 34) (h15 : cs.length = 15) (hN : N = Int32.ofNat K) (hlat : ∀ c ∈ cs, ¬ c < 0 ∧ ¬ (255 : Int32) < c) (g : G.n0 ≤ d) (ne : sr ≠ d) :
    Con G (⟨"java/lang/StringUTF16", "inflate", "([BI[BII)V"⟩ : MethodName) jdk_52_method_86_code 6 none [] ({ frames := 3, cells := 0, slots := 0, locals := 43 } : Room) #[(.ref sr), (.int (0 : Int32)), (.ref d), (.int (0 : Int32)), (.int (Int32.ofNat cs.length))] h (nQ fun h' => Keep h h' [d] ∧ Arv G.Z h' d kd .byte (Int32.ofNat (2 * K)) (StrChars.Road.wideBytes cs ++ rs) (.int (0 : Int32))) := by
  refine Con.intro H.el ho (plainFor_of_name pn10) (Ls := #[.val (.ref sr), .val (.int (0 : Int32)), .val (.ref d), .val (.int (0 : Int32)), .val (.int (Int32.ofNat cs.length)), .unset]) (fun m => by first | (simp [entryFrame, mkF, argsToLocals, Value.category]; done) | rfl) ?_
  intro X vm T w
  have hK2 : 15 < K ∧ K ≤ 34 := by omega
  refine w.iloadN (q := 1) d45_0 rfl rfl ?_
  refine w.iload (q := 3) d45_1 rfl rfl ?_
  refine w.aloadN (q := 4) d45_3 rfl rfl rfl ?_
  refine w.callS (q := 7) d45_4 (H.tw 290 rfl) (H.tw 291 rfl) (H.tw 18 rfl) (H.tw 292 rfl) (by decide) (argsL := [(.int (0 : Int32)), (.int (Int32.ofNat cs.length)), (.ref d)]) (rest := []) rfl (lenOf pd46 rfl) rfl (W := 0) (Nat.le_of_eq rfl) ((con_ucb G H _ _ _ d kd _ h ho D0 (by rw [h15]; rcases hK with rfl | rfl <;> decide) (by rw [h15]; rcases hK with rfl | rfl <;> decide)).pay w (H.tw 292 rfl) (H.tw 18 rfl) (by decide) (by decide)) (by decide) (by decide) rfl fun vm1 T1 h1 v1 w1 q1 => ?_
  obtain ⟨rfl, rfl⟩ := q1
  show Go _ _ _ _ (T1.setTop (mkF X.m 7 #[.val (.ref sr), .val (.int (0 : Int32)), .val (.ref d), .val (.int (0 : Int32)), .val (.int (Int32.ofNat cs.length)), .unset] []))
  refine w1.iconst (q := 8) (0 : Int32) d45_7 rfl rfl ?_
  refine w1.istore (q := 10) (L2 := #[.val (.ref sr), .val (.int (0 : Int32)), .val (.ref d), .val (.int (0 : Int32)), .val (.int (Int32.ofNat cs.length)), .val (.int (0 : Int32))]) d45_8 rfl rfl ?_
  have loop : ∀ (j k : Nat), j + k = cs.length → ∀ (vmk : Vm) (Tk : State) (hk : Heap), Wk G (((⟨"java/lang/StringUTF16", "inflate", "([BI[BII)V"⟩ : MethodName)).cls, ((⟨"java/lang/StringUTF16", "inflate", "([BI[BII)V"⟩ : MethodName)).name, jdk_52_method_86_code, 6, none) ({ frames := 3, cells := 0, slots := 0, locals := 43 } : Room) X vmk Tk hk 0 0 → Keep h hk [d] → Arv G.Z hk d kd .byte (Int32.ofNat (2 * K)) (StrChars.Road.wideBytes (cs.take k) ++ (List.replicate (2 * j) (.int (0 : Int32)) ++ rs)) (.int (0 : Int32)) → Go G ({ frames := 3, cells := 0, slots := 0, locals := 43 } : Room) X (nQ fun h' => Keep h h' [d] ∧ Arv G.Z h' d kd .byte (Int32.ofNat (2 * K)) (StrChars.Road.wideBytes cs ++ rs) (.int (0 : Int32))) (Tk.setTop (mkF X.m 10 #[.val (.ref sr), .val (.int (Int32.ofNat k)), .val (.ref d), .val (.int (Int32.ofNat k)), .val (.int (Int32.ofNat cs.length)), .val (.int (Int32.ofNat k))] [])) := by
    intro j
    induction j with
    | zero =>
      intro k hjk vmk Tk hk wk K0 Dk
      have ek : k = cs.length := by omega
      subst ek
      rw [List.take_of_length_le (Nat.le_refl _)] at Dk
      refine wk.iload (q := 12) d45_10 rfl rfl ?_
      refine wk.iload (q := 14) d45_12 rfl rfl ?_
      refine wk.icY (q := 41) d45_14 ((flt (ofnlt (Nat.le_refl _) (by omega))).2.1) (by decide) (by decide) ?_
      exact wk.retV d45_41 rfl (by decide) (by decide) ⟨rfl, K0, (by simpa using Dk)⟩
    | succ j ih =>
      intro k hjk vmk Tk hk wk K0 Dk
      refine wk.iload (q := 12) d45_10 rfl rfl ?_
      refine wk.iload (q := 14) d45_12 rfl rfl ?_
      refine wk.icN (q := 17) d45_14 ((tlt (oflt (by omega) (by omega))).2.1) rfl ?_
      refine wk.aloadN (q := 18) d45_17 rfl rfl rfl ?_
      refine wk.iloadN (q := 19) d45_18 rfl rfl ?_
      refine wk.iinc (q := 22) (L2 := #[.val (.ref sr), .val (.int (Int32.ofNat k)), .val (.ref d), .val (.int ((Int32.ofNat k) + (1 : Int32))), .val (.int (Int32.ofNat cs.length)), .val (.int (Int32.ofNat k))]) (1 : Int32) d45_19 rfl rfl rfl rfl ?_
      refine wk.aloadN (q := 23) d45_22 rfl rfl rfl ?_
      refine wk.iloadN (q := 24) d45_23 rfl rfl ?_
      refine wk.iinc (q := 27) (L2 := #[.val (.ref sr), .val (.int ((Int32.ofNat k) + (1 : Int32))), .val (.ref d), .val (.int ((Int32.ofNat k) + (1 : Int32))), .val (.int (Int32.ofNat cs.length)), .val (.int (Int32.ofNat k))]) (1 : Int32) d45_24 rfl rfl rfl rfl ?_
      refine wk.baload (q := 28) (x := (StrChars.lo8 (cs.getD k 0))) d45_27 (A.keep K0 (nin1 ne)) ⟨nn0 (by omega), by rw [hN]; exact oflt (by omega) (by omega)⟩ (by rw [cln (by omega)]; exact getD_app cs tl (by omega)) rfl ?_
      refine wk.sipush (q := 31) (255 : Int32) d45_28 rfl rfl ?_
      refine wk.iand (q := 32) d45_31 rfl ?_
      rw [show ((StrChars.lo8 (cs.getD k 0)) &&& (255 : Int32)) = (cs.getD k 0) from lo255 (hlat _ (mem_getD cs 0 (by omega)))]
      rw [rep2, List.cons_append, List.cons_append] at Dk
      refine wk.callS (q := 35) d45_32 (H.tw 268 rfl) (H.tw 269 rfl) (H.tw 18 rfl) (H.tw 270 rfl) (by decide) (argsL := [(.ref d), (.int (Int32.ofNat k)), (.int (cs.getD k 0))]) (rest := []) rfl (lenOf pd17 rfl) rfl (W := 0) (Nat.le_of_eq rfl) ((con_pc G H d k K kd (cs.getD k 0) (cs.take k) _ _ _ hk wk.old Dk (by rw [List.length_take]; omega) (by omega) g).pay wk (H.tw 270 rfl) (H.tw 18 rfl) (by decide) (by decide)) (by decide) (by decide) rfl fun vm2 T2 h2 v2 w2 q2 => ?_
      obtain ⟨rfl, K2, D2⟩ := q2
      show Go _ _ _ _ (T2.setTop (mkF X.m 35 #[.val (.ref sr), .val (.int ((Int32.ofNat k) + (1 : Int32))), .val (.ref d), .val (.int ((Int32.ofNat k) + (1 : Int32))), .val (.int (Int32.ofNat cs.length)), .val (.int (Int32.ofNat k))] []))
      rw [take_snoc cs 0 (by omega)] at D2
      refine w2.iinc (q := 38) (L2 := #[.val (.ref sr), .val (.int ((Int32.ofNat k) + (1 : Int32))), .val (.ref d), .val (.int ((Int32.ofNat k) + (1 : Int32))), .val (.int (Int32.ofNat cs.length)), .val (.int ((Int32.ofNat k) + (1 : Int32)))]) (1 : Int32) d45_35 rfl rfl rfl rfl ?_
      rw [ofsucc k]
      refine w2.goto (q := 10) d45_38 (by decide) (by decide) ?_
      exact ih (k + 1) (by omega) _ _ _ w2 (K0.trans K2 (fun x hx => Or.inl hx)) D2
  exact loop cs.length 0 (by omega) _ _ _ w1 (Keep.refl _ _) (by simpa [StrChars.Road.wideBytes] using D0)
theorem d47_0 : decode jdk_43_method_50_code 0 = .ok (.aload_n 0, 1) := by decide +kernel
theorem d47_1 : decode jdk_43_method_50_code 1 = .ok (.iload_n 1, 1) := by decide +kernel
theorem d47_2 : decode jdk_43_method_50_code 2 = .ok (.aload_n 2, 1) := by decide +kernel
theorem d47_3 : decode jdk_43_method_50_code 3 = .ok (.iload_n 3, 1) := by decide +kernel
theorem d47_4 : decode jdk_43_method_50_code 4 = .ok (.iload 4, 2) := by decide +kernel
theorem d47_6 : decode jdk_43_method_50_code 6 = .ok (.invokestatic 240, 3) := by decide +kernel
theorem pd48 : parseMethodDescriptor "([BI[BII)V" = some ⟨[(.array .byte), .int, (.array .byte), .int, .int], none⟩ := by decide +kernel
theorem d47_9 : decode jdk_43_method_50_code 9 = .ok (.return_, 1) := by decide +kernel
theorem pn49 : plainName "java/lang/StringLatin1" = true := by first | (simp [plainName, overriddenIn]; done) | decide +kernel
set_option maxRecDepth 65536 in
set_option maxHeartbeats 40000000 in
theorem con_li (G : Gx) (H : Hyp G) (sr d K : Nat) (ks kd : ClassId) (N : Int32) (cs : List Int32) (tl rs : List Value) (h : Heap) (ho : Old G.Z G.n0 h) (A : Arv G.Z h sr ks .byte N (cs.map (fun c => Value.int (StrChars.lo8 c)) ++ tl) (.int (0 : Int32))) (D0 : Arv G.Z h d kd .byte (Int32.ofNat (2 * K)) (List.replicate (2 * cs.length) (.int (0 : Int32)) ++ rs) (.int (0 : Int32))) (hK : K = 16 ∨ K = 34) (h15 : cs.length = 15) (hN : N = Int32.ofNat K) (hlat : ∀ c ∈ cs, ¬ c < 0 ∧ ¬ (255 : Int32) < c) (g : G.n0 ≤ d) (ne : sr ≠ d) :
    Con G (⟨"java/lang/StringLatin1", "inflate", "([BI[BII)V"⟩ : MethodName) jdk_43_method_50_code 5 none [] ({ frames := 4, cells := 0, slots := 0, locals := 60 } : Room) #[(.ref sr), (.int (0 : Int32)), (.ref d), (.int (0 : Int32)), (.int (Int32.ofNat cs.length))] h (nQ fun h' => Keep h h' [d] ∧ Arv G.Z h' d kd .byte (Int32.ofNat (2 * K)) (StrChars.Road.wideBytes cs ++ rs) (.int (0 : Int32))) := by
  refine Con.intro H.el ho (plainFor_of_name pn49) (Ls := #[.val (.ref sr), .val (.int (0 : Int32)), .val (.ref d), .val (.int (0 : Int32)), .val (.int (Int32.ofNat cs.length))]) (fun m => by first | (simp [entryFrame, mkF, argsToLocals, Value.category]; done) | rfl) ?_
  intro X vm T w
  refine w.aloadN (q := 1) d47_0 rfl rfl rfl ?_
  refine w.iloadN (q := 2) d47_1 rfl rfl ?_
  refine w.aloadN (q := 3) d47_2 rfl rfl rfl ?_
  refine w.iloadN (q := 4) d47_3 rfl rfl ?_
  refine w.iload (q := 6) d47_4 rfl rfl ?_
  refine w.callS (q := 9) d47_6 (H.tw 287 rfl) (H.tw 288 rfl) (H.tw 18 rfl) (H.tw 289 rfl) (by decide) (argsL := [(.ref sr), (.int (0 : Int32)), (.ref d), (.int (0 : Int32)), (.int (Int32.ofNat cs.length))]) (rest := []) rfl (lenOf pd48 rfl) rfl (W := 0) (Nat.le_of_eq rfl) ((con_i5 G H sr d K ks kd N cs tl rs h ho A D0 hK h15 hN hlat g ne).pay w (H.tw 289 rfl) (H.tw 18 rfl) (by decide) (by decide)) (by decide) (by decide) rfl fun vm1 T1 h1 v1 w1 q1 => ?_
  obtain ⟨rfl, K1, D1⟩ := q1
  show Go _ _ _ _ (T1.setTop (mkF X.m 9 #[.val (.ref sr), .val (.int (0 : Int32)), .val (.ref d), .val (.int (0 : Int32)), .val (.int (Int32.ofNat cs.length))] []))
  exact w1.retV d47_9 rfl (by decide) (by decide) ⟨rfl, K1, D1⟩
theorem d50_0 : decode jdk_68_method_11_code 0 = .ok (.aload_n 0, 1) := by decide +kernel
theorem d50_1 : decode jdk_68_method_11_code 1 = .ok (.invokevirtual 83, 3) := by decide +kernel
theorem pd51 : parseMethodDescriptor "()Z" = some ⟨[], some .boolean⟩ := by decide +kernel
theorem d50_4 : decode jdk_68_method_11_code 4 = .ok (.ifCond .ne 4, 3) := by decide +kernel
theorem d50_8 : decode jdk_68_method_11_code 8 = .ok (.aload_n 0, 1) := by decide +kernel
theorem d50_9 : decode jdk_68_method_11_code 9 = .ok (.getfield 15, 3) := by decide +kernel
theorem d50_12 : decode jdk_68_method_11_code 12 = .ok (.arraylength, 1) := by decide +kernel
theorem d50_13 : decode jdk_68_method_11_code 13 = .ok (.invokestatic 26, 3) := by decide +kernel
theorem d50_16 : decode jdk_68_method_11_code 16 = .ok (.astore_n 1, 1) := by decide +kernel
theorem d50_17 : decode jdk_68_method_11_code 17 = .ok (.aload_n 0, 1) := by decide +kernel
theorem d50_18 : decode jdk_68_method_11_code 18 = .ok (.getfield 15, 3) := by decide +kernel
theorem d50_21 : decode jdk_68_method_11_code 21 = .ok (.iconst 0, 1) := by decide +kernel
theorem d50_22 : decode jdk_68_method_11_code 22 = .ok (.aload_n 1, 1) := by decide +kernel
theorem d50_23 : decode jdk_68_method_11_code 23 = .ok (.iconst 0, 1) := by decide +kernel
theorem d50_24 : decode jdk_68_method_11_code 24 = .ok (.aload_n 0, 1) := by decide +kernel
theorem d50_25 : decode jdk_68_method_11_code 25 = .ok (.getfield 79, 3) := by decide +kernel
theorem d50_28 : decode jdk_68_method_11_code 28 = .ok (.invokestatic 125, 3) := by decide +kernel
theorem d50_31 : decode jdk_68_method_11_code 31 = .ok (.aload_n 0, 1) := by decide +kernel
theorem d50_32 : decode jdk_68_method_11_code 32 = .ok (.aload_n 1, 1) := by decide +kernel
theorem d50_33 : decode jdk_68_method_11_code 33 = .ok (.putfield 15, 3) := by decide +kernel
theorem d50_36 : decode jdk_68_method_11_code 36 = .ok (.aload_n 0, 1) := by decide +kernel
theorem d50_37 : decode jdk_68_method_11_code 37 = .ok (.iconst 1, 1) := by decide +kernel
theorem d50_38 : decode jdk_68_method_11_code 38 = .ok (.putfield 22, 3) := by decide +kernel
theorem d50_41 : decode jdk_68_method_11_code 41 = .ok (.return_, 1) := by decide +kernel
set_option maxRecDepth 65536 in
set_option maxHeartbeats 40000000 in
theorem con_bi (G : Gx) (H : Hyp G) (b ar K : Nat) (kc : ClassId) (cs : List Int32) (h : Heap) (ho : Old G.Z G.n0 h) (B : SBL G.Z h b ar kc K cs) (hK : K = 16 ∨ K = 34) (h15 : cs.length = 15) (hlat : ∀ c ∈ cs, ¬ c < 0 ∧ ¬ (255 : Int32) < c) (g : G.n0 ≤ b) :
    Con G (⟨"java/lang/AbstractStringBuilder", "inflate", "()V"⟩ : MethodName) jdk_68_method_11_code 2 none [] ({ frames := 5, cells := 1, slots := 68, locals := 76 } : Room) #[(.ref b)] h (nQ fun h' => ∃ (ar' : Nat) (kc' : ClassId), h.size ≤ ar' ∧ Keep h h' [b] ∧ SBU G.Z h' b ar' kc' K cs) := by
  refine Con.intro H.el ho (plainFor_of_name pn6) (Ls := #[.val (.ref b), .unset]) (fun m => by first | (simp [entryFrame, mkF, argsToLocals, Value.category]; done) | rfl) ?_
  intro X vm T w
  obtain ⟨tl, htl, E, Fv, Fc, Fn, Fm, Ya, A⟩ := B
  have ltb : b < h.size := E.lt
  have lta : ar < h.size := A.lt
  have hK2 : K ≤ 34 ∧ 16 ≤ K := by omega
  refine w.aloadN (q := 1) d50_0 rfl rfl rfl ?_
  refine w.callV (q := 4) d50_1 (H.tw 282 rfl) (H.tw 132 rfl) (notFace_of_selects (C := "java/lang/StringBuilder") (args := G.a0) (H.tw 134 rfl)) (H.tw 134 rfl) (H.tw 133 rfl) (by decide) E (argsL := []) (rest := []) rfl (lenOf pd51 rfl) rfl (W := 0) (Nat.le_of_eq rfl) ((con_blat0 G H b h ho Fc).pay w (H.tw 135 rfl) (H.tw 48 rfl) (by decide) (by decide)) (by decide) (by decide) rfl fun vm1 T1 h1 v1 w1 q1 => ?_
  obtain ⟨_, rfl, rfl, rfl⟩ := q1
  show Go _ _ _ _ (T1.setTop (mkF X.m 4 #[.val (.ref b), .unset] [(.int (1 : Int32))]))
  refine w1.ifY (q := 8) d50_4 ((if0 _ _).trans (feq (by decide)).2) (by decide) (by decide) ?_
  refine w1.aloadN (q := 9) d50_8 rfl rfl rfl ?_
  refine w1.getF (q := 12) d50_9 (H.tw 52 rfl) Via.refl Fv rfl fun T2 w2 => ?_
  refine w2.alen (q := 13) d50_12 A rfl ?_
  refine w2.callS (q := 16) d50_13 (H.tw 283 rfl) (H.tw 262 rfl) (H.tw 18 rfl) (H.tw 263 rfl) (by decide) (argsL := [(.int (Int32.ofNat K))]) (rest := []) rfl (lenOf pd16 rfl) rfl (W := 0) (Nat.le_of_eq rfl) ((con_nbf G H K h w2.old hK2.1).pay w2 (H.tw 263 rfl) (H.tw 18 rfl) (by decide) (by decide)) (by decide) (by decide) rfl fun vm3 T3 h3 v3 w3 q3 => ?_
  obtain ⟨_, rfl, ⟨d, kd, rfl, X3, zd, Yd, D0⟩⟩ := q3
  show Go _ _ _ _ (T3.setTop (mkF X.m 16 #[.val (.ref b), .unset] [(.ref d)]))
  have gd : G.n0 ≤ d := by have := ho.2.1; have := ho.1; omega
  replace E := E.ext X3
  replace Fv := Fv.ext X3
  replace Fc := Fc.ext X3
  replace Fn := Fn.ext X3
  replace Fm := Fm.ext X3
  replace A := A.ext X3
  have er : List.replicate (2 * K) (Value.int (0 : Int32)) = List.replicate (2 * cs.length) (.int (0 : Int32)) ++ List.replicate (2 * (K - cs.length)) (.int (0 : Int32)) := by rw [List.replicate_append_replicate]; congr 1; omega
  rw [er] at D0
  refine w3.astoreN (q := 17) (L2 := #[.val (.ref b), .val (.ref d)]) d50_16 rfl rfl rfl ?_
  refine w3.aloadN (q := 18) d50_17 rfl rfl rfl ?_
  refine w3.getF (q := 21) d50_18 (H.tw 52 rfl) Via.refl Fv rfl fun T4 w4 => ?_
  refine w4.iconst (q := 22) (0 : Int32) d50_21 rfl rfl ?_
  refine w4.aloadN (q := 23) d50_22 rfl rfl rfl ?_
  refine w4.iconst (q := 24) (0 : Int32) d50_23 rfl rfl ?_
  refine w4.aloadN (q := 25) d50_24 rfl rfl rfl ?_
  refine w4.getF (q := 28) d50_25 (H.tw 79 rfl) Via.refl Fn rfl fun T5 w5 => ?_
  refine w5.callS (q := 31) d50_28 (H.tw 284 rfl) (H.tw 285 rfl) (H.tw 221 rfl) (H.tw 286 rfl) (by decide) (argsL := [(.ref ar), (.int (0 : Int32)), (.ref d), (.int (0 : Int32)), (.int (Int32.ofNat cs.length))]) (rest := []) rfl (lenOf pd48 rfl) rfl (W := 0) (Nat.le_of_eq rfl) ((con_li G H ar d K kc kd _ cs tl _ h3 w5.old A D0 hK h15 rfl hlat gd (neN (by omega))).pay w5 (H.tw 286 rfl) (H.tw 221 rfl) (by decide) (by decide)) (by decide) (by decide) rfl fun vm6 T6 h6 v6 w6 q6 => ?_
  obtain ⟨rfl, K6, D6⟩ := q6
  show Go _ _ _ _ (T6.setTop (mkF X.m 31 #[.val (.ref b), .val (.ref d)] []))
  have ltb2 : b < h3.size := by have := X3.1; omega
  replace E := E.keep K6
  replace Yd := Yd.keep K6
  replace Fv := Fv.keep K6 (nin1 (by omega))
  replace Fc := Fc.keep K6 (nin1 (by omega))
  replace Fn := Fn.keep K6 (nin1 (by omega))
  replace Fm := Fm.keep K6 (nin1 (by omega))
  refine w6.aloadN (q := 32) d50_31 rfl rfl rfl ?_
  refine w6.aloadN (q := 33) d50_32 rfl rfl rfl ?_
  refine w6.putF (q := 36) d50_33 (H.tw 52 rfl) Via.refl Fv E (Or.inl (H.tw 53 rfl)) (H.tw 39 rfl) (ty := (.array .byte)) (by decide) rfl rfl g (w6.sfE E (by decide) (by decide)) rfl fun T7 h7 w7 W7 sf7 => ?_
  have sz7 : h6.size ≤ h7.size := (Keep.of_wr W7).1
  replace E := E.wr W7
  replace Fc := Fc.other W7 (Or.inr (slot_ne (Or.inl (H.tw 55 rfl)) (Or.inl (H.tw 53 rfl)) (by decide) (t := .byte) (t' := (.array .byte)) (by decide) (by decide)))
  replace Fn := Fn.other W7 (Or.inr (slot_ne (Or.inl (H.tw 80 rfl)) (Or.inl (H.tw 53 rfl)) (by decide) (t := .int) (t' := (.array .byte)) (by decide) (by decide)))
  replace Fm := Fm.other W7 (Or.inr (slot_ne (Or.inl (H.tw 305 rfl)) (Or.inl (H.tw 53 rfl)) (by decide) (t := .boolean) (t' := (.array .byte)) (by decide) (by decide)))
  replace Fv := Fv.same W7
  replace D6 := D6.other W7 (neN (by omega))
  replace Yd := Yd.wr W7
  refine w7.aloadN (q := 37) d50_36 rfl rfl rfl ?_
  refine w7.iconst (q := 38) (1 : Int32) d50_37 rfl rfl ?_
  refine w7.putF (q := 41) d50_38 (H.tw 54 rfl) Via.refl Fc E (Or.inl (H.tw 55 rfl)) (H.tw 39 rfl) (ty := .byte) (by decide) rfl rfl g (w7.sfE E (by decide) (by decide)) rfl fun T8 h8 w8 W8 sf8 => ?_
  have sz8 : h7.size ≤ h8.size := (Keep.of_wr W8).1
  replace E := E.wr W8
  replace Fv := Fv.other W8 (Or.inr (slot_ne (Or.inl (H.tw 53 rfl)) (Or.inl (H.tw 55 rfl)) (by decide) (t := (.array .byte)) (t' := .byte) (by decide) (by decide)))
  replace Fn := Fn.other W8 (Or.inr (slot_ne (Or.inl (H.tw 80 rfl)) (Or.inl (H.tw 55 rfl)) (by decide) (t := .int) (t' := .byte) (by decide) (by decide)))
  replace Fm := Fm.other W8 (Or.inr (slot_ne (Or.inl (H.tw 305 rfl)) (Or.inl (H.tw 55 rfl)) (by decide) (t := .boolean) (t' := .byte) (by decide) (by decide)))
  replace Fc := Fc.same W8
  replace D6 := D6.other W8 (neN (by omega))
  replace Yd := Yd.wr W8
  have K9 : Keep h h8 [b] := ((((Keep.refl h [b]).ext X3).trans K6 (all1 (Or.inr zd))).wr W7 (Or.inl (List.mem_singleton.mpr rfl))).wr W8 (Or.inl (List.mem_singleton.mpr rfl))
  exact w8.retV d50_41 rfl (by decide) (by decide) ⟨rfl, d, kd, zd, K9, List.replicate (2 * (K - cs.length)) (.int (0 : Int32)), (by rw [List.length_replicate]; omega), E, Fv, Fc, Fn, Fm, Yd, D6⟩
theorem d52_0 : decode jdk_68_method_71_code 0 = .ok (.getstatic 18, 3) := by decide +kernel
theorem d52_3 : decode jdk_68_method_71_code 3 = .ok (.ifCond .eq 18, 3) := by decide +kernel
theorem d52_6 : decode jdk_68_method_71_code 6 = .ok (.aload_n 0, 1) := by decide +kernel
theorem d52_7 : decode jdk_68_method_71_code 7 = .ok (.getfield 22, 3) := by decide +kernel
theorem d52_10 : decode jdk_68_method_71_code 10 = .ok (.aload_n 1, 1) := by decide +kernel
theorem d52_11 : decode jdk_68_method_71_code 11 = .ok (.invokevirtual 40, 3) := by decide +kernel
theorem pd53 : parseMethodDescriptor "()B" = some ⟨[], some .byte⟩ := by decide +kernel
theorem d52_14 : decode jdk_68_method_71_code 14 = .ok (.if_icmp .eq 7, 3) := by decide +kernel
theorem d52_21 : decode jdk_68_method_71_code 21 = .ok (.return_, 1) := by decide +kernel
set_option maxRecDepth 65536 in
set_option maxHeartbeats 40000000 in
theorem con_inf0 (G : Gx) (H : Hyp G) (b s : Nat) (h : Heap) (ho : Old G.Z G.n0 h) (Fc : Fld G.Z h b "java/lang/AbstractStringBuilder" "coder" "B" (.int (0 : Int32))) (Es : Exa G.Z h s "java/lang/String") (Gc : Fld G.Z h s "java/lang/String" "coder" "B" (.int (0 : Int32))) :
    Con G (⟨"java/lang/AbstractStringBuilder", "inflateIfNeededFor", "(Ljava/lang/String;)V"⟩ : MethodName) jdk_68_method_71_code 2 none [] ({ frames := 1, cells := 0, slots := 0, locals := 13 } : Room) #[(.ref b), (.ref s)] h (nQ fun h' => h = h') := by
  refine Con.intro H.el ho (plainFor_of_name pn6) (Ls := #[.val (.ref b), .val (.ref s)]) (fun m => by first | (simp [entryFrame, mkF, argsToLocals, Value.category]; done) | rfl) ?_
  intro X vm T w
  obtain ⟨cz, nz, Sz⟩ := H.cz
  refine w.getS (q := 3) d52_0 (H.tw 51 rfl) Via.refl Sz rfl fun T1 w1 => ?_
  refine w1.ifN (q := 6) d52_3 ((if0 _ _).trans (feq nz).1) rfl ?_
  refine w1.aloadN (q := 7) d52_6 rfl rfl rfl ?_
  refine w1.getF (q := 10) d52_7 (H.tw 54 rfl) Via.refl Fc rfl fun T2 w2 => ?_
  refine w2.aloadN (q := 11) d52_10 rfl rfl rfl ?_
  refine w2.callV (q := 14) d52_11 (H.tw 96 rfl) (H.tw 75 rfl) (notFace_of_selects (C := "java/lang/String") (args := G.a0) (H.tw 77 rfl)) (H.tw 77 rfl) (H.tw 76 rfl) (by decide) Es (argsL := []) (rest := [(.int (0 : Int32))]) rfl (lenOf pd53 rfl) rfl (W := 1) (Nat.le_of_eq rfl) ((con_coder G H s (0 : Int32) h w2.old Gc rfl).pay w2 (H.tw 78 rfl) (H.tw 4 rfl) (by decide) (by decide)) (by decide) (by decide) rfl fun vm3 T3 h3 v3 w3 q3 => ?_
  obtain ⟨_, rfl, rfl, rfl⟩ := q3
  show Go _ _ _ _ (T3.setTop (mkF X.m 14 #[.val (.ref b), .val (.ref s)] [(.int (0 : Int32)), (.int (0 : Int32))]))
  refine w3.icY (q := 21) d52_14 ((teq rfl).1) (by decide) (by decide) ?_
  exact w3.retV d52_21 rfl (by decide) (by decide) ⟨rfl, rfl⟩
theorem d52_17 : decode jdk_68_method_71_code 17 = .ok (.aload_n 0, 1) := by decide +kernel
theorem d52_18 : decode jdk_68_method_71_code 18 = .ok (.invokevirtual 195, 3) := by decide +kernel
theorem pd54 : parseMethodDescriptor "()V" = some ⟨[], none⟩ := by decide +kernel
set_option maxRecDepth 65536 in
set_option maxHeartbeats 40000000 in
theorem con_infU (G : Gx) (H : Hyp G) (b s ar K : Nat) (kc : ClassId) (cs : List Int32) (h : Heap) (ho : Old G.Z G.n0 h) (B : SBL G.Z h b ar kc K cs) (hK : K = 16 ∨ K = 34) (h15 : cs.length = 15) (hlat : ∀ c ∈ cs, ¬ c < 0 ∧ ¬ (255 : Int32) < c) (g : G.n0 ≤ b) (Es : Exa G.Z h s "java/lang/String") (Gc : Fld G.Z h s "java/lang/String" "coder" "B" (.int (1 : Int32))) :
    Con G (⟨"java/lang/AbstractStringBuilder", "inflateIfNeededFor", "(Ljava/lang/String;)V"⟩ : MethodName) jdk_68_method_71_code 2 none [] ({ frames := 6, cells := 1, slots := 68, locals := 89 } : Room) #[(.ref b), (.ref s)] h (nQ fun h' => ∃ (ar' : Nat) (kc' : ClassId), h.size ≤ ar' ∧ Keep h h' [b] ∧ SBU G.Z h' b ar' kc' K cs) := by
  refine Con.intro H.el ho (plainFor_of_name pn6) (Ls := #[.val (.ref b), .val (.ref s)]) (fun m => by first | (simp [entryFrame, mkF, argsToLocals, Value.category]; done) | rfl) ?_
  intro X vm T w
  obtain ⟨cz, nz, Sz⟩ := H.cz
  have Fc : Fld G.Z h b "java/lang/AbstractStringBuilder" "coder" "B" (.int (0 : Int32)) := by obtain ⟨tl, -, -, -, F, -⟩ := B; exact F
  refine w.getS (q := 3) d52_0 (H.tw 51 rfl) Via.refl Sz rfl fun T1 w1 => ?_
  refine w1.ifN (q := 6) d52_3 ((if0 _ _).trans (feq nz).1) rfl ?_
  refine w1.aloadN (q := 7) d52_6 rfl rfl rfl ?_
  refine w1.getF (q := 10) d52_7 (H.tw 54 rfl) Via.refl Fc rfl fun T2 w2 => ?_
  refine w2.aloadN (q := 11) d52_10 rfl rfl rfl ?_
  refine w2.callV (q := 14) d52_11 (H.tw 96 rfl) (H.tw 75 rfl) (notFace_of_selects (C := "java/lang/String") (args := G.a0) (H.tw 77 rfl)) (H.tw 77 rfl) (H.tw 76 rfl) (by decide) Es (argsL := []) (rest := [(.int (0 : Int32))]) rfl (lenOf pd53 rfl) rfl (W := 1) (Nat.le_of_eq rfl) ((con_coder G H s (1 : Int32) h w2.old Gc rfl).pay w2 (H.tw 78 rfl) (H.tw 4 rfl) (by decide) (by decide)) (by decide) (by decide) rfl fun vm3 T3 h3 v3 w3 q3 => ?_
  obtain ⟨_, rfl, rfl, rfl⟩ := q3
  show Go _ _ _ _ (T3.setTop (mkF X.m 14 #[.val (.ref b), .val (.ref s)] [(.int (1 : Int32)), (.int (0 : Int32))]))
  refine w3.icN (q := 17) d52_14 ((feq (by decide)).1) rfl ?_
  refine w3.aloadN (q := 18) d52_17 rfl rfl rfl ?_
  refine w3.callPs (q := 21) d52_18 (H.tw 277 rfl) (H.tw 278 rfl) (H.tw 279 rfl) (H.tw 281 rfl) (H.tw 280 rfl) (by decide) B.exa (argsL := []) (rest := []) rfl (lenOf pd54 rfl) rfl (W := 0) (Nat.le_of_eq rfl) ((con_bi G H b ar K kc cs h w3.old B hK h15 hlat g).pay w3 (H.tw 281 rfl) (H.tw 48 rfl) (by decide) (by decide)) (by decide) (by decide) rfl fun vm4 T4 h4 v4 w4 q4 => ?_
  obtain ⟨rfl, R4⟩ := q4
  show Go _ _ _ _ (T4.setTop (mkF X.m 21 #[.val (.ref b), .val (.ref s)] []))
  exact w4.retV d52_21 rfl (by decide) (by decide) ⟨rfl, R4⟩
theorem d55_0 : decode jdk_42_method_147_code 0 = .ok (.aload_n 0, 1) := by decide +kernel
theorem d55_1 : decode jdk_42_method_147_code 1 = .ok (.invokevirtual 335, 3) := by decide +kernel
theorem d55_4 : decode jdk_42_method_147_code 4 = .ok (.iload_n 3, 1) := by decide +kernel
theorem d55_5 : decode jdk_42_method_147_code 5 = .ok (.if_icmp .ne 23, 3) := by decide +kernel
theorem d55_8 : decode jdk_42_method_147_code 8 = .ok (.aload_n 0, 1) := by decide +kernel
theorem d55_9 : decode jdk_42_method_147_code 9 = .ok (.getfield 9, 3) := by decide +kernel
theorem d55_12 : decode jdk_42_method_147_code 12 = .ok (.iconst 0, 1) := by decide +kernel
theorem d55_13 : decode jdk_42_method_147_code 13 = .ok (.aload_n 1, 1) := by decide +kernel
theorem d55_14 : decode jdk_42_method_147_code 14 = .ok (.iload_n 2, 1) := by decide +kernel
theorem d55_15 : decode jdk_42_method_147_code 15 = .ok (.iload_n 3, 1) := by decide +kernel
theorem d55_16 : decode jdk_42_method_147_code 16 = .ok (.ishl, 1) := by decide +kernel
theorem d55_17 : decode jdk_42_method_147_code 17 = .ok (.aload_n 0, 1) := by decide +kernel
theorem d55_18 : decode jdk_42_method_147_code 18 = .ok (.getfield 9, 3) := by decide +kernel
theorem d55_21 : decode jdk_42_method_147_code 21 = .ok (.arraylength, 1) := by decide +kernel
theorem d55_22 : decode jdk_42_method_147_code 22 = .ok (.invokestatic 212, 3) := by decide +kernel
theorem d55_25 : decode jdk_42_method_147_code 25 = .ok (.goto 18, 3) := by decide +kernel
theorem d55_43 : decode jdk_42_method_147_code 43 = .ok (.return_, 1) := by decide +kernel
set_option maxRecDepth 65536 in
set_option maxHeartbeats 40000000 in
theorem con_gb (G : Gx) (H : Hyp G) (s t ar pn q NB : Nat) (kb kc : ClassId) (cd : Int32) (vs vd : List Value) (h : Heap) (ho : Old G.Z G.n0 h) (Es : Exa G.Z h s "java/lang/String") (Gv : Fld G.Z h s "java/lang/String" "value" "[B" (.ref t)) (Gc : Fld G.Z h s "java/lang/String" "coder" "B" (.int cd)) (hcd : narrow .byte (.int cd) = .int cd) (A : Arv G.Z h t kb .byte (Int32.ofNat vs.length) vs (.int (0 : Int32))) (B : Arv G.Z h ar kc .byte (Int32.ofNat NB) vd (.int (0 : Int32))) (hl : vd.length = NB) (hs : (Int32.ofNat pn) <<< (cd &&& 31) = Int32.ofNat q) (hp : q + vs.length ≤ NB) (hNB : NB ≤ 68 ∧ NB ≠ 15 ∧ NB ≠ 0) (g : G.n0 ≤ ar) :
    Con G (⟨"java/lang/String", "getBytes", "([BIB)V"⟩ : MethodName) jdk_42_method_147_code 4 none [] ({ frames := 1, cells := 0, slots := 0, locals := 18 } : Room) #[(.ref s), (.ref ar), (.int (Int32.ofNat pn)), (.int cd)] h (nQ fun h' => Keep h h' [ar] ∧ Arv G.Z h' ar kc .byte (Int32.ofNat NB) (vd.take q ++ vs ++ vd.drop (q + vs.length)) (.int (0 : Int32))) := by
  refine Con.intro H.el ho (plainFor_of_name pn1) (Ls := #[.val (.ref s), .val (.ref ar), .val (.int (Int32.ofNat pn)), .val (.int cd)]) (fun m => by first | (simp [entryFrame, mkF, argsToLocals, Value.category]; done) | rfl) ?_
  intro X vm T w
  refine w.aloadN (q := 1) d55_0 rfl rfl rfl ?_
  refine w.callV (q := 4) d55_1 (H.tw 74 rfl) (H.tw 75 rfl) (notFace_of_selects (C := "java/lang/String") (args := G.a0) (H.tw 77 rfl)) (H.tw 77 rfl) (H.tw 76 rfl) (by decide) Es (argsL := []) (rest := []) rfl (lenOf pd53 rfl) rfl (W := 0) (Nat.le_of_eq rfl) ((con_coder G H s cd h ho Gc hcd).pay w (H.tw 78 rfl) (H.tw 4 rfl) (by decide) (by decide)) (by decide) (by decide) rfl fun vm1 T1 h1 v1 w1 q1 => ?_
  obtain ⟨_, rfl, rfl, rfl⟩ := q1
  show Go _ _ _ _ (T1.setTop (mkF X.m 4 #[.val (.ref s), .val (.ref ar), .val (.int (Int32.ofNat pn)), .val (.int cd)] [(.int cd)]))
  refine w1.iloadN (q := 5) d55_4 rfl rfl ?_
  refine w1.icN (q := 8) d55_5 ((teq rfl).2) rfl ?_
  refine w1.aloadN (q := 9) d55_8 rfl rfl rfl ?_
  refine w1.getF (q := 12) d55_9 (H.tw 29 rfl) Via.refl Gv rfl fun T2 w2 => ?_
  refine w2.iconst (q := 13) (0 : Int32) d55_12 rfl rfl ?_
  refine w2.aloadN (q := 14) d55_13 rfl rfl rfl ?_
  refine w2.iloadN (q := 15) d55_14 rfl rfl ?_
  refine w2.iloadN (q := 16) d55_15 rfl rfl ?_
  refine w2.ishl (q := 17) d55_16 rfl ?_
  refine w2.aloadN (q := 18) d55_17 rfl rfl rfl ?_
  rw [show ((Int32.ofNat pn) <<< (cd &&& 31)) = (Int32.ofNat q) from hs]
  refine w2.getF (q := 21) d55_18 (H.tw 29 rfl) Via.refl Gv rfl fun T3 w3 => ?_
  refine w3.alen (q := 22) d55_21 A rfl ?_
  have ep : (Int32.ofNat q).toNatClampNeg = q := cln (by omega)
  have el : (Int32.ofNat vs.length).toNatClampNeg = vs.length := cln (by omega)
  have eN : (Int32.ofNat NB).toNatClampNeg = NB := cln (by omega)
  have e0 : (0 : Int32).toNatClampNeg = 0 := by decide
  refine w3.acopy (q := 25) (W := 0) (us := vs) d55_22 (H.tw 102 rfl) (H.tw 105 rfl) (H.tw 103 rfl) (H.tw 104 rfl) A B rfl (by decide) (nn0 (by omega)) (nn0 (by omega)) (by rw [e0]; omega) (by rw [ep, el, eN]; exact hp) (by rw [el, e0]; exact us_all vs _) (by rw [ep, el]; omega) g (w3.sfL B (H.neL (by rw [eN]; omega) (by rw [eN]; omega))) rfl (by decide) (Nat.le_of_eq rfl) (by decide) rfl fun T4 h4 w4 K4 A4 => ?_
  have sz4 : h.size ≤ h4.size := K4.1
  rw [ep, el] at A4
  refine w4.goto (q := 43) d55_25 (by decide) (by decide) ?_
  exact w4.retV d55_43 rfl (by decide) (by decide) ⟨rfl, K4, A4⟩
theorem d56_0 : decode jdk_68_method_73_code 0 = .ok (.aload_n 0, 1) := by decide +kernel
theorem d56_1 : decode jdk_68_method_73_code 1 = .ok (.aload_n 2, 1) := by decide +kernel
theorem d56_2 : decode jdk_68_method_73_code 2 = .ok (.invokevirtual 397, 3) := by decide +kernel
theorem pd57 : parseMethodDescriptor "(Ljava/lang/String;)V" = some ⟨[(.object "java/lang/String")], none⟩ := by decide +kernel
theorem d56_5 : decode jdk_68_method_73_code 5 = .ok (.aload_n 2, 1) := by decide +kernel
theorem d56_6 : decode jdk_68_method_73_code 6 = .ok (.aload_n 0, 1) := by decide +kernel
theorem d56_7 : decode jdk_68_method_73_code 7 = .ok (.getfield 15, 3) := by decide +kernel
theorem d56_10 : decode jdk_68_method_73_code 10 = .ok (.iload_n 1, 1) := by decide +kernel
theorem d56_11 : decode jdk_68_method_73_code 11 = .ok (.aload_n 0, 1) := by decide +kernel
theorem d56_12 : decode jdk_68_method_73_code 12 = .ok (.getfield 22, 3) := by decide +kernel
theorem d56_15 : decode jdk_68_method_73_code 15 = .ok (.invokevirtual 399, 3) := by decide +kernel
theorem pd58 : parseMethodDescriptor "([BIB)V" = some ⟨[(.array .byte), .int, .byte], none⟩ := by decide +kernel
theorem d56_18 : decode jdk_68_method_73_code 18 = .ok (.return_, 1) := by decide +kernel
set_option maxRecDepth 65536 in
set_option maxHeartbeats 40000000 in
theorem con_psa0 (G : Gx) (H : Hyp G) (b s t ar pn cnt NB : Nat) (kb kc : ClassId) (vs vd : List Value) (h : Heap) (ho : Old G.Z G.n0 h) (B : SBc G.Z h b ar kc 0 cnt NB vd) (Es : Exa G.Z h s "java/lang/String") (Gv : Fld G.Z h s "java/lang/String" "value" "[B" (.ref t)) (Gc : Fld G.Z h s "java/lang/String" "coder" "B" (.int (0 : Int32))) (A : Arv G.Z h t kb .byte (Int32.ofNat vs.length) vs (.int (0 : Int32))) (hl : vd.length = NB) (hp : pn + vs.length ≤ NB) (hNB : NB ≤ 68 ∧ NB ≠ 15 ∧ NB ≠ 0) (g : G.n0 ≤ ar) :
    Con G (⟨"java/lang/AbstractStringBuilder", "putStringAt", "(ILjava/lang/String;)V"⟩ : MethodName) jdk_68_method_73_code 3 none [] ({ frames := 2, cells := 0, slots := 0, locals := 33 } : Room) #[(.ref b), (.int (Int32.ofNat pn)), (.ref s)] h (nQ fun h' => Keep h h' [ar] ∧ Arv G.Z h' ar kc .byte (Int32.ofNat NB) (vd.take pn ++ vs ++ vd.drop (pn + vs.length)) (.int (0 : Int32))) := by
  refine Con.intro H.el ho (plainFor_of_name pn6) (Ls := #[.val (.ref b), .val (.int (Int32.ofNat pn)), .val (.ref s)]) (fun m => by first | (simp [entryFrame, mkF, argsToLocals, Value.category]; done) | rfl) ?_
  intro X vm T w
  obtain ⟨E, Fv, Fc, Fn, Fm, Ya, B⟩ := B
  refine w.aloadN (q := 1) d56_0 rfl rfl rfl ?_
  refine w.aloadN (q := 2) d56_1 rfl rfl rfl ?_
  refine w.callPs (q := 5) d56_2 (H.tw 91 rfl) (H.tw 92 rfl) (H.tw 93 rfl) (H.tw 95 rfl) (H.tw 94 rfl) (by decide) E (argsL := [(.ref s)]) (rest := []) rfl (lenOf pd57 rfl) rfl (W := 0) (Nat.le_of_eq rfl) ((con_inf0 G H b s h ho Fc Es Gc).pay w (H.tw 95 rfl) (H.tw 48 rfl) (by decide) (by decide)) (by decide) (by decide) rfl fun vm1 T1 h1 v1 w1 q1 => ?_
  obtain ⟨rfl, rfl⟩ := q1
  show Go _ _ _ _ (T1.setTop (mkF X.m 5 #[.val (.ref b), .val (.int (Int32.ofNat pn)), .val (.ref s)] []))
  refine w1.aloadN (q := 6) d56_5 rfl rfl rfl ?_
  refine w1.aloadN (q := 7) d56_6 rfl rfl rfl ?_
  refine w1.getF (q := 10) d56_7 (H.tw 52 rfl) Via.refl Fv rfl fun T2 w2 => ?_
  refine w2.iloadN (q := 11) d56_10 rfl rfl ?_
  refine w2.aloadN (q := 12) d56_11 rfl rfl rfl ?_
  refine w2.getF (q := 15) d56_12 (H.tw 54 rfl) Via.refl Fc rfl fun T3 w3 => ?_
  refine w3.callV (q := 18) d56_15 (H.tw 97 rfl) (H.tw 98 rfl) (notFace_of_selects (C := "java/lang/String") (args := G.a0) (H.tw 100 rfl)) (H.tw 100 rfl) (H.tw 99 rfl) (by decide) Es (argsL := [(.ref ar), (.int (Int32.ofNat pn)), (.int (0 : Int32))]) (rest := []) rfl (lenOf pd58 rfl) rfl (W := 0) (Nat.le_of_eq rfl) ((con_gb G H s t ar pn pn NB kb kc (0 : Int32) vs vd h w3.old Es Gv Gc rfl A B hl (shl0 _) hp hNB g).pay w3 (H.tw 101 rfl) (H.tw 4 rfl) (by decide) (by decide)) (by decide) (by decide) rfl fun vm4 T4 h4 v4 w4 q4 => ?_
  obtain ⟨rfl, K4, A4⟩ := q4
  show Go _ _ _ _ (T4.setTop (mkF X.m 18 #[.val (.ref b), .val (.int (Int32.ofNat pn)), .val (.ref s)] []))
  exact w4.retV d56_18 rfl (by decide) (by decide) ⟨rfl, K4, A4⟩
set_option maxRecDepth 65536 in
set_option maxHeartbeats 40000000 in
theorem con_psaU (G : Gx) (H : Hyp G) (b s t ar K : Nat) (kb kc : ClassId) (cs ds : List Int32) (h : Heap) (ho : Old G.Z G.n0 h) (B : SBL G.Z h b ar kc K cs) (hK : K = 16 ∨ K = 34) (h15 : cs.length = 15) (hlat : ∀ c ∈ cs, ¬ c < 0 ∧ ¬ (255 : Int32) < c) (g : G.n0 ≤ b) (Es : Exa G.Z h s "java/lang/String") (Gv : Fld G.Z h s "java/lang/String" "value" "[B" (.ref t)) (Gc : Fld G.Z h s "java/lang/String" "coder" "B" (.int (1 : Int32))) (A : Arv G.Z h t kb .byte (Int32.ofNat (2 * ds.length)) (StrChars.Road.wideBytes ds) (.int (0 : Int32))) (hp : cs.length + ds.length ≤ K) (nst : s ≠ b) :
    Con G (⟨"java/lang/AbstractStringBuilder", "putStringAt", "(ILjava/lang/String;)V"⟩ : MethodName) jdk_68_method_73_code 3 none [] ({ frames := 7, cells := 1, slots := 68, locals := 102 } : Room) #[(.ref b), (.int (Int32.ofNat cs.length)), (.ref s)] h (nQ fun h' => ∃ (ar' : Nat) (kc' : ClassId) (tl : List Value), h.size ≤ ar' ∧ Keep h h' [b] ∧ 2 * (cs ++ ds).length + tl.length = 2 * K ∧ SBc G.Z h' b ar' kc' 1 cs.length (2 * K) (StrChars.Road.wideBytes (cs ++ ds) ++ tl)) := by
  refine Con.intro H.el ho (plainFor_of_name pn6) (Ls := #[.val (.ref b), .val (.int (Int32.ofNat cs.length)), .val (.ref s)]) (fun m => by first | (simp [entryFrame, mkF, argsToLocals, Value.category]; done) | rfl) ?_
  intro X vm T w
  have nbt : b ≠ t := Exa.neArv B.exa A (H.tw 39 rfl)
  have lts : s < h.size := Es.lt
  have ltt : t < h.size := A.lt
  have hK2 : K ≤ 34 ∧ 16 ≤ K := by omega
  refine w.aloadN (q := 1) d56_0 rfl rfl rfl ?_
  refine w.aloadN (q := 2) d56_1 rfl rfl rfl ?_
  refine w.callPs (q := 5) d56_2 (H.tw 91 rfl) (H.tw 92 rfl) (H.tw 93 rfl) (H.tw 95 rfl) (H.tw 94 rfl) (by decide) B.exa (argsL := [(.ref s)]) (rest := []) rfl (lenOf pd57 rfl) rfl (W := 0) (Nat.le_of_eq rfl) ((con_infU G H b s ar K kc cs h ho B hK h15 hlat g Es Gc).pay w (H.tw 95 rfl) (H.tw 48 rfl) (by decide) (by decide)) (by decide) (by decide) rfl fun vm1 T1 h1 v1 w1 q1 => ?_
  obtain ⟨rfl, ⟨ar1, kc1, za, K1, B1⟩⟩ := q1
  show Go _ _ _ _ (T1.setTop (mkF X.m 5 #[.val (.ref b), .val (.int (Int32.ofNat cs.length)), .val (.ref s)] []))
  obtain ⟨tl, htl, E, Fv, Fc, Fn, Fm, Ya, B2⟩ := B1
  have ga : G.n0 ≤ ar1 := by have := ho.2.1; have := ho.1; omega
  replace Es := Es.keep K1
  replace Gv := Gv.keep K1 (nin1 nst)
  replace Gc := Gc.keep K1 (nin1 nst)
  replace A := A.keep K1 (nin1 nbt.symm)
  have lw := wlen ds
  have lw2 := wlen cs
  have ltb1 : b < h1.size := E.lt
  have nba : b ≠ ar1 := Exa.neArv E B2 (H.tw 39 rfl)
  refine w1.aloadN (q := 6) d56_5 rfl rfl rfl ?_
  refine w1.aloadN (q := 7) d56_6 rfl rfl rfl ?_
  refine w1.getF (q := 10) d56_7 (H.tw 52 rfl) Via.refl Fv rfl fun T2 w2 => ?_
  refine w2.iloadN (q := 11) d56_10 rfl rfl ?_
  refine w2.aloadN (q := 12) d56_11 rfl rfl rfl ?_
  refine w2.getF (q := 15) d56_12 (H.tw 54 rfl) Via.refl Fc rfl fun T3 w3 => ?_
  refine w3.callV (q := 18) d56_15 (H.tw 97 rfl) (H.tw 98 rfl) (notFace_of_selects (C := "java/lang/String") (args := G.a0) (H.tw 100 rfl)) (H.tw 100 rfl) (H.tw 99 rfl) (by decide) Es (argsL := [(.ref ar1), (.int (Int32.ofNat cs.length)), (.int (1 : Int32))]) (rest := []) rfl (lenOf pd58 rfl) rfl (W := 0) (Nat.le_of_eq rfl) ((con_gb G H s t ar1 cs.length (2 * cs.length) (2 * K) kb kc1 (1 : Int32) (StrChars.Road.wideBytes ds) _ h1 w3.old Es Gv Gc rfl (by rw [lw]; exact A) B2 (by rw [List.length_append]; omega) (shl1 (by omega)) (by omega) (by omega) ga).pay w3 (H.tw 101 rfl) (H.tw 4 rfl) (by decide) (by decide)) (by decide) (by decide) rfl fun vm4 T4 h4 v4 w4 q4 => ?_
  obtain ⟨rfl, K4, A4⟩ := q4
  show Go _ _ _ _ (T4.setTop (mkF X.m 18 #[.val (.ref b), .val (.int (Int32.ofNat cs.length)), .val (.ref s)] []))
  rw [app_wide] at A4
  replace E := E.keep K4
  replace Ya := Ya.keep K4
  replace Fv := Fv.keep K4 (nin1 nba)
  replace Fc := Fc.keep K4 (nin1 nba)
  replace Fn := Fn.keep K4 (nin1 nba)
  replace Fm := Fm.keep K4 (nin1 nba)
  exact w4.retV d56_18 rfl (by decide) (by decide) ⟨rfl, ar1, kc1, tl.drop (2 * ds.length), za, K1.trans K4 (all1 (Or.inr za)), (by rw [List.length_append, List.length_drop]; omega), E, Fv, Fc, Fn, Fm, Ya, A4⟩
theorem d59_0 : decode jdk_68_method_22_code 0 = .ok (.aload_n 1, 1) := by decide +kernel
theorem d59_1 : decode jdk_68_method_22_code 1 = .ok (.ifnonnull 8, 3) := by decide +kernel
theorem d59_9 : decode jdk_68_method_22_code 9 = .ok (.aload_n 1, 1) := by decide +kernel
theorem d59_10 : decode jdk_68_method_22_code 10 = .ok (.invokevirtual 32, 3) := by decide +kernel
theorem pd60 : parseMethodDescriptor "()I" = some ⟨[], some .int⟩ := by decide +kernel
theorem d59_13 : decode jdk_68_method_22_code 13 = .ok (.istore_n 2, 1) := by decide +kernel
theorem d59_14 : decode jdk_68_method_22_code 14 = .ok (.aload_n 0, 1) := by decide +kernel
theorem d59_15 : decode jdk_68_method_22_code 15 = .ok (.aload_n 0, 1) := by decide +kernel
theorem d59_16 : decode jdk_68_method_22_code 16 = .ok (.getfield 79, 3) := by decide +kernel
theorem d59_19 : decode jdk_68_method_22_code 19 = .ok (.iload_n 2, 1) := by decide +kernel
theorem d59_20 : decode jdk_68_method_22_code 20 = .ok (.iadd, 1) := by decide +kernel
theorem d59_21 : decode jdk_68_method_22_code 21 = .ok (.invokevirtual 100, 3) := by decide +kernel
theorem d59_24 : decode jdk_68_method_22_code 24 = .ok (.aload_n 0, 1) := by decide +kernel
theorem d59_25 : decode jdk_68_method_22_code 25 = .ok (.aload_n 0, 1) := by decide +kernel
theorem d59_26 : decode jdk_68_method_22_code 26 = .ok (.getfield 79, 3) := by decide +kernel
theorem d59_29 : decode jdk_68_method_22_code 29 = .ok (.aload_n 1, 1) := by decide +kernel
theorem d59_30 : decode jdk_68_method_22_code 30 = .ok (.invokevirtual 208, 3) := by decide +kernel
theorem pd61 : parseMethodDescriptor "(ILjava/lang/String;)V" = some ⟨[.int, (.object "java/lang/String")], none⟩ := by decide +kernel
theorem d59_33 : decode jdk_68_method_22_code 33 = .ok (.aload_n 0, 1) := by decide +kernel
theorem d59_34 : decode jdk_68_method_22_code 34 = .ok (.dup, 1) := by decide +kernel
theorem d59_35 : decode jdk_68_method_22_code 35 = .ok (.getfield 79, 3) := by decide +kernel
theorem d59_38 : decode jdk_68_method_22_code 38 = .ok (.iload_n 2, 1) := by decide +kernel
theorem d59_39 : decode jdk_68_method_22_code 39 = .ok (.iadd, 1) := by decide +kernel
theorem d59_40 : decode jdk_68_method_22_code 40 = .ok (.putfield 79, 3) := by decide +kernel
theorem d59_43 : decode jdk_68_method_22_code 43 = .ok (.aload_n 0, 1) := by decide +kernel
theorem d59_44 : decode jdk_68_method_22_code 44 = .ok (.areturn, 1) := by decide +kernel
set_option maxRecDepth 65536 in
set_option maxHeartbeats 40000000 in
theorem con_ap0 (G : Gx) (H : Hyp G) (b s ar : Nat) (kc : ClassId) (cs ds : List Int32) (h : Heap) (ho : Old G.Z G.n0 h) (B : SBL G.Z h b ar kc 16 cs) (S : StrAt G.Z h s 0 ds) (g : G.n0 ≤ b) (g2 : G.n0 ≤ ar) (hl : cs.length + ds.length ≤ 16) :
    Con G (⟨"java/lang/AbstractStringBuilder", "append", "(Ljava/lang/String;)Ljava/lang/AbstractStringBuilder;"⟩ : MethodName) jdk_68_method_22_code 3 (some (.object "java/lang/AbstractStringBuilder")) [] ({ frames := 3, cells := 0, slots := 0, locals := 47 } : Room) #[(.ref b), (.ref s)] h (vQ fun v h' => v = .ref b ∧ Keep h h' [b, ar] ∧ SBL G.Z h' b ar kc 16 (cs ++ ds)) := by
  refine Con.intro H.el ho (plainFor_of_name pn6) (Ls := #[.val (.ref b), .val (.ref s), .unset]) (fun m => by first | (simp [entryFrame, mkF, argsToLocals, Value.category]; done) | rfl) ?_
  intro X vm T w
  obtain ⟨t, kb, Es, Gv, Gc, A, hS⟩ := StrAt.open0 S
  have Eb := B.exa
  have ltb : b < h.size := Eb.lt
  have nsb : s ≠ b := Exa.ne Es Eb (by decide)
  have lts : s < h.size := Es.lt
  have ltt : t < h.size := A.lt
  have nbt : b ≠ t := Exa.neArv Eb A (H.tw 39 rfl)
  obtain ⟨tl, htl, BB⟩ := B
  obtain ⟨E, Fv, Fc, Fn, Fm, Ya, Ar⟩ := BB
  have nba : b ≠ ar := Exa.neArv E Ar (H.tw 39 rfl)
  refine w.aloadN (q := 1) d59_0 rfl rfl rfl ?_
  refine w.nnY (q := 9) d59_1 (by decide) (by decide) ?_
  refine w.aloadN (q := 10) d59_9 rfl rfl rfl ?_
  refine w.callV (q := 13) d59_10 (H.tw 69 rfl) (H.tw 70 rfl) (notFace_of_selects (C := "java/lang/String") (args := G.a0) (H.tw 72 rfl)) (H.tw 72 rfl) (H.tw 71 rfl) (by decide) Es (argsL := []) (rest := []) rfl (lenOf pd60 rfl) rfl (W := 0) (Nat.le_of_eq rfl) (pay_len w H.wl (H.tw 3 rfl) H.cz S (by decide) (by decide)) (by decide) (by decide) rfl fun vm1 T1 h1 v1 w1 q1 => ?_
  obtain ⟨_, rfl, rfl, rfl⟩ := q1
  show Go _ _ _ _ (T1.setTop (mkF X.m 13 #[.val (.ref b), .val (.ref s), .unset] [(.int (Int32.ofNat ds.length))]))
  refine w1.istoreN (q := 14) (L2 := #[.val (.ref b), .val (.ref s), .val (.int (Int32.ofNat ds.length))]) d59_13 rfl rfl ?_
  refine w1.aloadN (q := 15) d59_14 rfl rfl rfl ?_
  refine w1.aloadN (q := 16) d59_15 rfl rfl rfl ?_
  refine w1.getF (q := 19) d59_16 (H.tw 79 rfl) Via.refl Fn rfl fun T2 w2 => ?_
  refine w2.iloadN (q := 20) d59_19 rfl rfl ?_
  refine w2.iadd (q := 21) d59_20 rfl ?_
  rw [show ((Int32.ofNat cs.length) + (Int32.ofNat ds.length)) = (Int32.ofNat (cs.length + ds.length)) from ofadd _ _]
  have el : (ds.map (fun c => Value.int (StrChars.lo8 c))).length = ds.length := List.length_map _
  have lm : ((cs.map (fun c => Value.int (StrChars.lo8 c))) ++ tl).length = 16 := by rw [List.length_append, List.length_map]; exact htl
  refine w2.callPs (q := 24) d59_21 (H.tw 81 rfl) (H.tw 82 rfl) (H.tw 83 rfl) (H.tw 85 rfl) (H.tw 84 rfl) (by decide) E (argsL := [(.int (Int32.ofNat (cs.length + ds.length)))]) (rest := []) rfl (lenOf pd27 rfl) rfl (W := 0) (Nat.le_of_eq rfl) ((con_ens0 G H b ar (cs.length + ds.length) kc _ h w2.old Fv Fc Ar (by omega)).pay w2 (H.tw 85 rfl) (H.tw 48 rfl) (by decide) (by decide)) (by decide) (by decide) rfl fun vm3 T3 h3 v3 w3 q3 => ?_
  obtain ⟨rfl, rfl⟩ := q3
  show Go _ _ _ _ (T3.setTop (mkF X.m 24 #[.val (.ref b), .val (.ref s), .val (.int (Int32.ofNat ds.length))] []))
  have BB : SBc G.Z h b ar kc 0 cs.length 16 ((cs.map (fun c => Value.int (StrChars.lo8 c))) ++ tl) := ⟨E, Fv, Fc, Fn, Fm, Ya, Ar⟩
  refine w3.aloadN (q := 25) d59_24 rfl rfl rfl ?_
  refine w3.aloadN (q := 26) d59_25 rfl rfl rfl ?_
  refine w3.getF (q := 29) d59_26 (H.tw 79 rfl) Via.refl Fn rfl fun T4 w4 => ?_
  refine w4.aloadN (q := 30) d59_29 rfl rfl rfl ?_
  refine w4.callPs (q := 33) d59_30 (H.tw 86 rfl) (H.tw 87 rfl) (H.tw 88 rfl) (H.tw 90 rfl) (H.tw 89 rfl) (by decide) E (argsL := [(.int (Int32.ofNat cs.length)), (.ref s)]) (rest := []) rfl (lenOf pd61 rfl) rfl (W := 0) (Nat.le_of_eq rfl) ((con_psa0 G H b s t ar cs.length cs.length 16 kb kc (ds.map (fun c => Value.int (StrChars.lo8 c))) _ h w4.old BB Es Gv Gc (by rw [el]; exact A) lm (by rw [el]; omega) (by decide) g2).pay w4 (H.tw 90 rfl) (H.tw 48 rfl) (by decide) (by decide)) (by decide) (by decide) rfl fun vm5 T5 h5 v5 w5 q5 => ?_
  obtain ⟨rfl, K5, A5⟩ := q5
  show Go _ _ _ _ (T5.setTop (mkF X.m 33 #[.val (.ref b), .val (.ref s), .val (.int (Int32.ofNat ds.length))] []))
  replace E := E.keep K5
  replace Ya := Ya.keep K5
  replace Fv := Fv.keep K5 (nin1 nba)
  replace Fc := Fc.keep K5 (nin1 nba)
  replace Fn := Fn.keep K5 (nin1 nba)
  replace Fm := Fm.keep K5 (nin1 nba)
  refine w5.aloadN (q := 34) d59_33 rfl rfl rfl ?_
  refine w5.dup (q := 35) d59_34 rfl rfl ?_
  refine w5.getF (q := 38) d59_35 (H.tw 79 rfl) Via.refl Fn rfl fun T6 w6 => ?_
  refine w6.iloadN (q := 39) d59_38 rfl rfl ?_
  refine w6.iadd (q := 40) d59_39 rfl ?_
  rw [show ((Int32.ofNat cs.length) + (Int32.ofNat ds.length)) = (Int32.ofNat (cs.length + ds.length)) from ofadd _ _]
  refine w6.putF (q := 43) d59_40 (H.tw 79 rfl) Via.refl Fn E (Or.inl (H.tw 80 rfl)) (H.tw 39 rfl) (ty := .int) (by decide) rfl rfl g (w6.sfE E (by decide) (by decide)) rfl fun T7 h7 w7 W7 sf7 => ?_
  have sz7 : h5.size ≤ h7.size := (Keep.of_wr W7).1
  replace E := E.wr W7
  replace Fv := Fv.other W7 (Or.inr (slot_ne (Or.inl (H.tw 53 rfl)) (Or.inl (H.tw 80 rfl)) (by decide) (t := (.array .byte)) (t' := .int) (by decide) (by decide)))
  replace Fc := Fc.other W7 (Or.inr (slot_ne (Or.inl (H.tw 55 rfl)) (Or.inl (H.tw 80 rfl)) (by decide) (t := .byte) (t' := .int) (by decide) (by decide)))
  replace Fm := Fm.other W7 (Or.inr (slot_ne (Or.inl (H.tw 305 rfl)) (Or.inl (H.tw 80 rfl)) (by decide) (t := .boolean) (t' := .int) (by decide) (by decide)))
  replace Fn := Fn.same W7
  replace A5 := A5.other W7 nba.symm
  replace Ya := Ya.wr W7
  rw [app_list] at A5
  rw [← List.length_append] at Fn
  have K9 : Keep h h7 [b, ar] := ((Keep.refl h [b, ar]).trans K5 (fun x hx => Or.inl (List.mem_cons_of_mem _ hx))).wr W7 (Or.inl List.mem_cons_self)
  refine w7.aloadN (q := 44) d59_43 rfl rfl rfl ?_
  exact w7.retA d59_44 (t := (.object "java/lang/AbstractStringBuilder")) rfl rfl rfl (by decide) (by decide) ⟨_, rfl, rfl, K9, tl.drop ds.length, (by rw [List.length_append, List.length_drop]; omega), E, Fv, Fc, Fn, Fm, Ya, A5⟩
theorem d62_0 : decode jdk_67_method_7_code 0 = .ok (.aload_n 0, 1) := by decide +kernel
theorem d62_1 : decode jdk_67_method_7_code 1 = .ok (.aload_n 1, 1) := by decide +kernel
theorem d62_2 : decode jdk_67_method_7_code 2 = .ok (.invokespecial 29, 3) := by decide +kernel
theorem pd63 : parseMethodDescriptor "(Ljava/lang/String;)Ljava/lang/AbstractStringBuilder;" = some ⟨[(.object "java/lang/String")], some (.object "java/lang/AbstractStringBuilder")⟩ := by decide +kernel
theorem d62_5 : decode jdk_67_method_7_code 5 = .ok (.pop, 1) := by decide +kernel
theorem d62_6 : decode jdk_67_method_7_code 6 = .ok (.aload_n 0, 1) := by decide +kernel
theorem d62_7 : decode jdk_67_method_7_code 7 = .ok (.areturn, 1) := by decide +kernel
set_option maxRecDepth 65536 in
set_option maxHeartbeats 40000000 in
theorem con_sp0 (G : Gx) (H : Hyp G) (b s ar : Nat) (kc : ClassId) (cs ds : List Int32) (h : Heap) (ho : Old G.Z G.n0 h) (B : SBL G.Z h b ar kc 16 cs) (S : StrAt G.Z h s 0 ds) (g : G.n0 ≤ b) (g2 : G.n0 ≤ ar) (hl : cs.length + ds.length ≤ 16) :
    Con G (⟨"java/lang/StringBuilder", "append", "(Ljava/lang/String;)Ljava/lang/StringBuilder;"⟩ : MethodName) jdk_67_method_7_code 2 (some (.object "java/lang/StringBuilder")) [] ({ frames := 4, cells := 0, slots := 0, locals := 61 } : Room) #[(.ref b), (.ref s)] h (vQ fun v h' => v = .ref b ∧ Keep h h' [b, ar] ∧ SBL G.Z h' b ar kc 16 (cs ++ ds)) := by
  refine Con.intro H.el ho (plainFor_of_name pn28) (Ls := #[.val (.ref b), .val (.ref s)]) (fun m => by first | (simp [entryFrame, mkF, argsToLocals, Value.category]; done) | rfl) ?_
  intro X vm T w
  have E := B.exa
  refine w.aloadN (q := 1) d62_0 rfl rfl rfl ?_
  refine w.aloadN (q := 2) d62_1 rfl rfl rfl ?_
  refine w.callSup (C := "java/lang/StringBuilder") (q := 5) d62_2 (H.tw 64 rfl) (same_of_named (H.tw 68 rfl) (H.tw 84 rfl) rfl (by decide)) (H.tw 65 rfl) (H.tw 66 rfl) (by decide) (H.tw 68 rfl) (Ins.self E) (a := b) (argsL := [(.ref s)]) (rest := []) rfl (lenOf pd63 rfl) rfl (W := 0) (Nat.le_of_eq rfl) ((con_ap0 G H b s ar kc cs ds h ho B S g g2 hl).pay w (H.tw 68 rfl) (H.tw 48 rfl) (by decide) (by decide)) (by decide) (by decide) rfl fun vm1 T1 h1 v1 w1 q1 => ?_
  obtain ⟨_, rfl, rfl, K1, B1⟩ := q1
  show Go _ _ _ _ (T1.setTop (mkF X.m 5 #[.val (.ref b), .val (.ref s)] [(.ref b)]))
  refine w1.pop (q := 6) d62_5 rfl rfl ?_
  refine w1.aloadN (q := 7) d62_6 rfl rfl rfl ?_
  exact w1.retA d62_7 (t := (.object "java/lang/StringBuilder")) rfl rfl rfl (by decide) (by decide) ⟨_, rfl, rfl, K1, B1⟩
set_option maxRecDepth 65536 in
set_option maxHeartbeats 40000000 in
theorem con_apG (G : Gx) (H : Hyp G) (b s ar : Nat) (kc : ClassId) (cs ds : List Int32) (h : Heap) (ho : Old G.Z G.n0 h) (B : SBL G.Z h b ar kc 16 cs) (S : StrAt G.Z h s 0 ds) (g : G.n0 ≤ b) (g2 : G.n0 ≤ ar) (h15 : cs.length = 15) (hlat : ∀ c ∈ cs, ¬ c < 0 ∧ ¬ (255 : Int32) < c) (hd : ds.length = 2 ∨ ds.length = 3) :
    Con G (⟨"java/lang/AbstractStringBuilder", "append", "(Ljava/lang/String;)Ljava/lang/AbstractStringBuilder;"⟩ : MethodName) jdk_68_method_22_code 3 (some (.object "java/lang/AbstractStringBuilder")) [] ({ frames := 4, cells := 1, slots := 34, locals := 62 } : Room) #[(.ref b), (.ref s)] h (vQ fun v h' => v = .ref b ∧ ∃ (ar' : Nat) (kc' : ClassId), h.size ≤ ar' ∧ Keep h h' [b] ∧ SBL G.Z h' b ar' kc' 34 (cs ++ ds)) := by
  refine Con.intro H.el ho (plainFor_of_name pn6) (Ls := #[.val (.ref b), .val (.ref s), .unset]) (fun m => by first | (simp [entryFrame, mkF, argsToLocals, Value.category]; done) | rfl) ?_
  intro X vm T w
  obtain ⟨t, kb, Es, Gv, Gc, A, hS⟩ := StrAt.open0 S
  have Eb := B.exa
  have ltb : b < h.size := Eb.lt
  have nsb : s ≠ b := Exa.ne Es Eb (by decide)
  have lts : s < h.size := Es.lt
  have ltt : t < h.size := A.lt
  have nbt : b ≠ t := Exa.neArv Eb A (H.tw 39 rfl)
  obtain ⟨tl, htl, BB⟩ := B
  obtain ⟨E, Fv, Fc, Fn, Fm, Ya, Ar⟩ := BB
  have nba : b ≠ ar := Exa.neArv E Ar (H.tw 39 rfl)
  refine w.aloadN (q := 1) d59_0 rfl rfl rfl ?_
  refine w.nnY (q := 9) d59_1 (by decide) (by decide) ?_
  refine w.aloadN (q := 10) d59_9 rfl rfl rfl ?_
  refine w.callV (q := 13) d59_10 (H.tw 69 rfl) (H.tw 70 rfl) (notFace_of_selects (C := "java/lang/String") (args := G.a0) (H.tw 72 rfl)) (H.tw 72 rfl) (H.tw 71 rfl) (by decide) Es (argsL := []) (rest := []) rfl (lenOf pd60 rfl) rfl (W := 0) (Nat.le_of_eq rfl) (pay_len w H.wl (H.tw 3 rfl) H.cz S (by decide) (by decide)) (by decide) (by decide) rfl fun vm1 T1 h1 v1 w1 q1 => ?_
  obtain ⟨_, rfl, rfl, rfl⟩ := q1
  show Go _ _ _ _ (T1.setTop (mkF X.m 13 #[.val (.ref b), .val (.ref s), .unset] [(.int (Int32.ofNat ds.length))]))
  refine w1.istoreN (q := 14) (L2 := #[.val (.ref b), .val (.ref s), .val (.int (Int32.ofNat ds.length))]) d59_13 rfl rfl ?_
  refine w1.aloadN (q := 15) d59_14 rfl rfl rfl ?_
  refine w1.aloadN (q := 16) d59_15 rfl rfl rfl ?_
  refine w1.getF (q := 19) d59_16 (H.tw 79 rfl) Via.refl Fn rfl fun T2 w2 => ?_
  refine w2.iloadN (q := 20) d59_19 rfl rfl ?_
  refine w2.iadd (q := 21) d59_20 rfl ?_
  rw [show ((Int32.ofNat cs.length) + (Int32.ofNat ds.length)) = (Int32.ofNat (cs.length + ds.length)) from ofadd _ _]
  have el : (ds.map (fun c => Value.int (StrChars.lo8 c))).length = ds.length := List.length_map _
  have lm : ((cs.map (fun c => Value.int (StrChars.lo8 c))) ++ tl).length = 16 := by rw [List.length_append, List.length_map]; exact htl
  refine w2.callPs (q := 24) d59_21 (H.tw 81 rfl) (H.tw 82 rfl) (H.tw 83 rfl) (H.tw 85 rfl) (H.tw 84 rfl) (by decide) E (argsL := [(.int (Int32.ofNat (cs.length + ds.length)))]) (rest := []) rfl (lenOf pd27 rfl) rfl (W := 0) (Nat.le_of_eq rfl) ((con_ensG G H b ar (cs.length + ds.length) cs.length kc _ h w2.old ⟨E, Fv, Fc, Fn, Fm, Ya, Ar⟩ lm (by omega) g).pay w2 (H.tw 85 rfl) (H.tw 48 rfl) (by decide) (by decide)) (by decide) (by decide) rfl fun vm3 T3 h3 v3 w3 q3 => ?_
  obtain ⟨rfl, ⟨ar1, kc1, za, K3, BB⟩⟩ := q3
  show Go _ _ _ _ (T3.setTop (mkF X.m 24 #[.val (.ref b), .val (.ref s), .val (.int (Int32.ofNat ds.length))] []))
  clear E Fv Fc Fn Fm Ya Ar
  rw [List.append_assoc] at BB
  obtain ⟨E, Fv, Fc, Fn, Fm, Ya, Ar⟩ := id BB
  have ga1 : G.n0 ≤ ar1 := by have := ho.2.1; have := ho.1; omega
  have nb1 : b ≠ ar1 := Exa.neArv E Ar (H.tw 39 rfl)
  replace Es := Es.keep K3
  replace Gv := Gv.keep K3 (nin1 nsb)
  replace Gc := Gc.keep K3 (nin1 nsb)
  replace A := A.keep K3 (nin1 nbt.symm)
  have htl2 : cs.length + (tl ++ List.replicate 18 (Value.int (0 : Int32))).length = 34 := by rw [List.length_append, List.length_replicate]; omega
  refine w3.aloadN (q := 25) d59_24 rfl rfl rfl ?_
  refine w3.aloadN (q := 26) d59_25 rfl rfl rfl ?_
  refine w3.getF (q := 29) d59_26 (H.tw 79 rfl) Via.refl Fn rfl fun T4 w4 => ?_
  refine w4.aloadN (q := 30) d59_29 rfl rfl rfl ?_
  refine w4.callPs (q := 33) d59_30 (H.tw 86 rfl) (H.tw 87 rfl) (H.tw 88 rfl) (H.tw 90 rfl) (H.tw 89 rfl) (by decide) E (argsL := [(.int (Int32.ofNat cs.length)), (.ref s)]) (rest := []) rfl (lenOf pd61 rfl) rfl (W := 0) (Nat.le_of_eq rfl) ((con_psa0 G H b s t ar1 cs.length cs.length 34 kb kc1 (ds.map (fun c => Value.int (StrChars.lo8 c))) _ h3 w4.old BB Es Gv Gc (by rw [el]; exact A) (by rw [List.length_append, List.length_map]; exact htl2) (by rw [el]; omega) (by decide) ga1).pay w4 (H.tw 90 rfl) (H.tw 48 rfl) (by decide) (by decide)) (by decide) (by decide) rfl fun vm5 T5 h5 v5 w5 q5 => ?_
  obtain ⟨rfl, K5, A5⟩ := q5
  show Go _ _ _ _ (T5.setTop (mkF X.m 33 #[.val (.ref b), .val (.ref s), .val (.int (Int32.ofNat ds.length))] []))
  replace E := E.keep K5
  replace Ya := Ya.keep K5
  replace Fv := Fv.keep K5 (nin1 nb1)
  replace Fc := Fc.keep K5 (nin1 nb1)
  replace Fn := Fn.keep K5 (nin1 nb1)
  replace Fm := Fm.keep K5 (nin1 nb1)
  refine w5.aloadN (q := 34) d59_33 rfl rfl rfl ?_
  refine w5.dup (q := 35) d59_34 rfl rfl ?_
  refine w5.getF (q := 38) d59_35 (H.tw 79 rfl) Via.refl Fn rfl fun T6 w6 => ?_
  refine w6.iloadN (q := 39) d59_38 rfl rfl ?_
  refine w6.iadd (q := 40) d59_39 rfl ?_
  rw [show ((Int32.ofNat cs.length) + (Int32.ofNat ds.length)) = (Int32.ofNat (cs.length + ds.length)) from ofadd _ _]
  refine w6.putF (q := 43) d59_40 (H.tw 79 rfl) Via.refl Fn E (Or.inl (H.tw 80 rfl)) (H.tw 39 rfl) (ty := .int) (by decide) rfl rfl g (w6.sfE E (by decide) (by decide)) rfl fun T7 h7 w7 W7 sf7 => ?_
  have sz7 : h5.size ≤ h7.size := (Keep.of_wr W7).1
  replace E := E.wr W7
  replace Fv := Fv.other W7 (Or.inr (slot_ne (Or.inl (H.tw 53 rfl)) (Or.inl (H.tw 80 rfl)) (by decide) (t := (.array .byte)) (t' := .int) (by decide) (by decide)))
  replace Fc := Fc.other W7 (Or.inr (slot_ne (Or.inl (H.tw 55 rfl)) (Or.inl (H.tw 80 rfl)) (by decide) (t := .byte) (t' := .int) (by decide) (by decide)))
  replace Fm := Fm.other W7 (Or.inr (slot_ne (Or.inl (H.tw 305 rfl)) (Or.inl (H.tw 80 rfl)) (by decide) (t := .boolean) (t' := .int) (by decide) (by decide)))
  replace Fn := Fn.same W7
  replace A5 := A5.other W7 nb1.symm
  replace Ya := Ya.wr W7
  rw [app_list] at A5
  rw [← List.length_append] at Fn
  have K9 : Keep h h7 [b] := (K3.trans K5 (all1 (Or.inr za))).wr W7 (Or.inl (List.mem_singleton.mpr rfl))
  refine w7.aloadN (q := 44) d59_43 rfl rfl rfl ?_
  exact w7.retA d59_44 (t := (.object "java/lang/AbstractStringBuilder")) rfl rfl rfl (by decide) (by decide) ⟨_, rfl, rfl, ar1, kc1, za, K9, (tl ++ List.replicate 18 (Value.int (0 : Int32))).drop ds.length, (by rw [List.length_append, List.length_drop]; omega), E, Fv, Fc, Fn, Fm, Ya, A5⟩
set_option maxRecDepth 65536 in
set_option maxHeartbeats 40000000 in
theorem con_spG (G : Gx) (H : Hyp G) (b s ar : Nat) (kc : ClassId) (cs ds : List Int32) (h : Heap) (ho : Old G.Z G.n0 h) (B : SBL G.Z h b ar kc 16 cs) (S : StrAt G.Z h s 0 ds) (g : G.n0 ≤ b) (g2 : G.n0 ≤ ar) (h15 : cs.length = 15) (hlat : ∀ c ∈ cs, ¬ c < 0 ∧ ¬ (255 : Int32) < c) (hd : ds.length = 2 ∨ ds.length = 3) :
    Con G (⟨"java/lang/StringBuilder", "append", "(Ljava/lang/String;)Ljava/lang/StringBuilder;"⟩ : MethodName) jdk_67_method_7_code 2 (some (.object "java/lang/StringBuilder")) [] ({ frames := 5, cells := 1, slots := 34, locals := 76 } : Room) #[(.ref b), (.ref s)] h (vQ fun v h' => v = .ref b ∧ ∃ (ar' : Nat) (kc' : ClassId), h.size ≤ ar' ∧ Keep h h' [b] ∧ SBL G.Z h' b ar' kc' 34 (cs ++ ds)) := by
  refine Con.intro H.el ho (plainFor_of_name pn28) (Ls := #[.val (.ref b), .val (.ref s)]) (fun m => by first | (simp [entryFrame, mkF, argsToLocals, Value.category]; done) | rfl) ?_
  intro X vm T w
  have E := B.exa
  refine w.aloadN (q := 1) d62_0 rfl rfl rfl ?_
  refine w.aloadN (q := 2) d62_1 rfl rfl rfl ?_
  refine w.callSup (C := "java/lang/StringBuilder") (q := 5) d62_2 (H.tw 64 rfl) (same_of_named (H.tw 68 rfl) (H.tw 84 rfl) rfl (by decide)) (H.tw 65 rfl) (H.tw 66 rfl) (by decide) (H.tw 68 rfl) (Ins.self E) (a := b) (argsL := [(.ref s)]) (rest := []) rfl (lenOf pd63 rfl) rfl (W := 0) (Nat.le_of_eq rfl) ((con_apG G H b s ar kc cs ds h ho B S g g2 h15 hlat hd).pay w (H.tw 68 rfl) (H.tw 48 rfl) (by decide) (by decide)) (by decide) (by decide) rfl fun vm1 T1 h1 v1 w1 q1 => ?_
  obtain ⟨_, rfl, rfl, ar1, kc1, za, K1, B1⟩ := q1
  show Go _ _ _ _ (T1.setTop (mkF X.m 5 #[.val (.ref b), .val (.ref s)] [(.ref b)]))
  refine w1.pop (q := 6) d62_5 rfl rfl ?_
  refine w1.aloadN (q := 7) d62_6 rfl rfl rfl ?_
  exact w1.retA d62_7 (t := (.object "java/lang/StringBuilder")) rfl rfl rfl (by decide) (by decide) ⟨_, rfl, rfl, ar1, kc1, za, K1, B1⟩
set_option maxRecDepth 65536 in
set_option maxHeartbeats 40000000 in
theorem con_apU (G : Gx) (H : Hyp G) (b s ar : Nat) (kc : ClassId) (cs ds : List Int32) (h : Heap) (ho : Old G.Z G.n0 h) (B : SBL G.Z h b ar kc 16 cs) (S : StrAt G.Z h s 1 ds) (g : G.n0 ≤ b) (g2 : G.n0 ≤ ar) (h15 : cs.length = 15) (hlat : ∀ c ∈ cs, ¬ c < 0 ∧ ¬ (255 : Int32) < c) (hd : ds.length = 1) :
    Con G (⟨"java/lang/AbstractStringBuilder", "append", "(Ljava/lang/String;)Ljava/lang/AbstractStringBuilder;"⟩ : MethodName) jdk_68_method_22_code 3 (some (.object "java/lang/AbstractStringBuilder")) [] ({ frames := 8, cells := 1, slots := 68, locals := 116 } : Room) #[(.ref b), (.ref s)] h (vQ fun v h' => v = .ref b ∧ ∃ (ar' : Nat) (kc' : ClassId), h.size ≤ ar' ∧ Keep h h' [b] ∧ SBU G.Z h' b ar' kc' 16 (cs ++ ds)) := by
  refine Con.intro H.el ho (plainFor_of_name pn6) (Ls := #[.val (.ref b), .val (.ref s), .unset]) (fun m => by first | (simp [entryFrame, mkF, argsToLocals, Value.category]; done) | rfl) ?_
  intro X vm T w
  obtain ⟨t, kb, Es, Gv, Gc, A, hS, -⟩ := StrAt.open1 S
  have Eb := B.exa
  have ltb : b < h.size := Eb.lt
  have nsb : s ≠ b := Exa.ne Es Eb (by decide)
  have lts : s < h.size := Es.lt
  have ltt : t < h.size := A.lt
  have nbt : b ≠ t := Exa.neArv Eb A (H.tw 39 rfl)
  obtain ⟨tl, htl, BB⟩ := B
  obtain ⟨E, Fv, Fc, Fn, Fm, Ya, Ar⟩ := BB
  have nba : b ≠ ar := Exa.neArv E Ar (H.tw 39 rfl)
  refine w.aloadN (q := 1) d59_0 rfl rfl rfl ?_
  refine w.nnY (q := 9) d59_1 (by decide) (by decide) ?_
  refine w.aloadN (q := 10) d59_9 rfl rfl rfl ?_
  refine w.callV (q := 13) d59_10 (H.tw 69 rfl) (H.tw 70 rfl) (notFace_of_selects (C := "java/lang/String") (args := G.a0) (H.tw 72 rfl)) (H.tw 72 rfl) (H.tw 71 rfl) (by decide) Es (argsL := []) (rest := []) rfl (lenOf pd60 rfl) rfl (W := 0) (Nat.le_of_eq rfl) (pay_len w H.wl (H.tw 3 rfl) H.cz S (by decide) (by decide)) (by decide) (by decide) rfl fun vm1 T1 h1 v1 w1 q1 => ?_
  obtain ⟨_, rfl, rfl, rfl⟩ := q1
  show Go _ _ _ _ (T1.setTop (mkF X.m 13 #[.val (.ref b), .val (.ref s), .unset] [(.int (Int32.ofNat ds.length))]))
  refine w1.istoreN (q := 14) (L2 := #[.val (.ref b), .val (.ref s), .val (.int (Int32.ofNat ds.length))]) d59_13 rfl rfl ?_
  refine w1.aloadN (q := 15) d59_14 rfl rfl rfl ?_
  refine w1.aloadN (q := 16) d59_15 rfl rfl rfl ?_
  refine w1.getF (q := 19) d59_16 (H.tw 79 rfl) Via.refl Fn rfl fun T2 w2 => ?_
  refine w2.iloadN (q := 20) d59_19 rfl rfl ?_
  refine w2.iadd (q := 21) d59_20 rfl ?_
  rw [show ((Int32.ofNat cs.length) + (Int32.ofNat ds.length)) = (Int32.ofNat (cs.length + ds.length)) from ofadd _ _]
  have el : (ds.map (fun c => Value.int (StrChars.lo8 c))).length = ds.length := List.length_map _
  have lm : ((cs.map (fun c => Value.int (StrChars.lo8 c))) ++ tl).length = 16 := by rw [List.length_append, List.length_map]; exact htl
  refine w2.callPs (q := 24) d59_21 (H.tw 81 rfl) (H.tw 82 rfl) (H.tw 83 rfl) (H.tw 85 rfl) (H.tw 84 rfl) (by decide) E (argsL := [(.int (Int32.ofNat (cs.length + ds.length)))]) (rest := []) rfl (lenOf pd27 rfl) rfl (W := 0) (Nat.le_of_eq rfl) ((con_ens0 G H b ar (cs.length + ds.length) kc _ h w2.old Fv Fc Ar (by omega)).pay w2 (H.tw 85 rfl) (H.tw 48 rfl) (by decide) (by decide)) (by decide) (by decide) rfl fun vm3 T3 h3 v3 w3 q3 => ?_
  obtain ⟨rfl, rfl⟩ := q3
  show Go _ _ _ _ (T3.setTop (mkF X.m 24 #[.val (.ref b), .val (.ref s), .val (.int (Int32.ofNat ds.length))] []))
  have BB : SBc G.Z h b ar kc 0 cs.length 16 ((cs.map (fun c => Value.int (StrChars.lo8 c))) ++ tl) := ⟨E, Fv, Fc, Fn, Fm, Ya, Ar⟩
  refine w3.aloadN (q := 25) d59_24 rfl rfl rfl ?_
  refine w3.aloadN (q := 26) d59_25 rfl rfl rfl ?_
  refine w3.getF (q := 29) d59_26 (H.tw 79 rfl) Via.refl Fn rfl fun T4 w4 => ?_
  refine w4.aloadN (q := 30) d59_29 rfl rfl rfl ?_
  refine w4.callPs (q := 33) d59_30 (H.tw 86 rfl) (H.tw 87 rfl) (H.tw 88 rfl) (H.tw 90 rfl) (H.tw 89 rfl) (by decide) E (argsL := [(.int (Int32.ofNat cs.length)), (.ref s)]) (rest := []) rfl (lenOf pd61 rfl) rfl (W := 0) (Nat.le_of_eq rfl) ((con_psaU G H b s t ar 16 kb kc cs ds h w4.old ⟨tl, htl, BB⟩ (Or.inl rfl) h15 hlat g Es Gv Gc A (by omega) nsb).pay w4 (H.tw 90 rfl) (H.tw 48 rfl) (by decide) (by decide)) (by decide) (by decide) rfl fun vm5 T5 h5 v5 w5 q5 => ?_
  obtain ⟨rfl, ⟨ar2, kc2, tl2, za2, K5, ht2, B2⟩⟩ := q5
  show Go _ _ _ _ (T5.setTop (mkF X.m 33 #[.val (.ref b), .val (.ref s), .val (.int (Int32.ofNat ds.length))] []))
  clear E Fv Fc Fn Fm Ya Ar
  obtain ⟨E, Fv, Fc, Fn, Fm, Ya, Ar⟩ := B2
  have nb2 : b ≠ ar2 := Exa.neArv E Ar (H.tw 39 rfl)
  refine w5.aloadN (q := 34) d59_33 rfl rfl rfl ?_
  refine w5.dup (q := 35) d59_34 rfl rfl ?_
  refine w5.getF (q := 38) d59_35 (H.tw 79 rfl) Via.refl Fn rfl fun T6 w6 => ?_
  refine w6.iloadN (q := 39) d59_38 rfl rfl ?_
  refine w6.iadd (q := 40) d59_39 rfl ?_
  rw [show ((Int32.ofNat cs.length) + (Int32.ofNat ds.length)) = (Int32.ofNat (cs.length + ds.length)) from ofadd _ _]
  refine w6.putF (q := 43) d59_40 (H.tw 79 rfl) Via.refl Fn E (Or.inl (H.tw 80 rfl)) (H.tw 39 rfl) (ty := .int) (by decide) rfl rfl g (w6.sfE E (by decide) (by decide)) rfl fun T7 h7 w7 W7 sf7 => ?_
  have sz7 : h5.size ≤ h7.size := (Keep.of_wr W7).1
  replace E := E.wr W7
  replace Fv := Fv.other W7 (Or.inr (slot_ne (Or.inl (H.tw 53 rfl)) (Or.inl (H.tw 80 rfl)) (by decide) (t := (.array .byte)) (t' := .int) (by decide) (by decide)))
  replace Fc := Fc.other W7 (Or.inr (slot_ne (Or.inl (H.tw 55 rfl)) (Or.inl (H.tw 80 rfl)) (by decide) (t := .byte) (t' := .int) (by decide) (by decide)))
  replace Fm := Fm.other W7 (Or.inr (slot_ne (Or.inl (H.tw 305 rfl)) (Or.inl (H.tw 80 rfl)) (by decide) (t := .boolean) (t' := .int) (by decide) (by decide)))
  replace Fn := Fn.same W7
  replace Ar := Ar.other W7 nb2.symm
  replace Ya := Ya.wr W7
  rw [← List.length_append] at Fn
  have K9 : Keep h h7 [b] := K5.wr W7 (Or.inl (List.mem_singleton.mpr rfl))
  refine w7.aloadN (q := 44) d59_43 rfl rfl rfl ?_
  exact w7.retA d59_44 (t := (.object "java/lang/AbstractStringBuilder")) rfl rfl rfl (by decide) (by decide) ⟨_, rfl, rfl, ar2, kc2, za2, K9, tl2, ht2, E, Fv, Fc, Fn, Fm, Ya, Ar⟩
set_option maxRecDepth 65536 in
set_option maxHeartbeats 40000000 in
theorem con_spU (G : Gx) (H : Hyp G) (b s ar : Nat) (kc : ClassId) (cs ds : List Int32) (h : Heap) (ho : Old G.Z G.n0 h) (B : SBL G.Z h b ar kc 16 cs) (S : StrAt G.Z h s 1 ds) (g : G.n0 ≤ b) (g2 : G.n0 ≤ ar) (h15 : cs.length = 15) (hlat : ∀ c ∈ cs, ¬ c < 0 ∧ ¬ (255 : Int32) < c) (hd : ds.length = 1) :
    Con G (⟨"java/lang/StringBuilder", "append", "(Ljava/lang/String;)Ljava/lang/StringBuilder;"⟩ : MethodName) jdk_67_method_7_code 2 (some (.object "java/lang/StringBuilder")) [] ({ frames := 9, cells := 1, slots := 68, locals := 130 } : Room) #[(.ref b), (.ref s)] h (vQ fun v h' => v = .ref b ∧ ∃ (ar' : Nat) (kc' : ClassId), h.size ≤ ar' ∧ Keep h h' [b] ∧ SBU G.Z h' b ar' kc' 16 (cs ++ ds)) := by
  refine Con.intro H.el ho (plainFor_of_name pn28) (Ls := #[.val (.ref b), .val (.ref s)]) (fun m => by first | (simp [entryFrame, mkF, argsToLocals, Value.category]; done) | rfl) ?_
  intro X vm T w
  have E := B.exa
  refine w.aloadN (q := 1) d62_0 rfl rfl rfl ?_
  refine w.aloadN (q := 2) d62_1 rfl rfl rfl ?_
  refine w.callSup (C := "java/lang/StringBuilder") (q := 5) d62_2 (H.tw 64 rfl) (same_of_named (H.tw 68 rfl) (H.tw 84 rfl) rfl (by decide)) (H.tw 65 rfl) (H.tw 66 rfl) (by decide) (H.tw 68 rfl) (Ins.self E) (a := b) (argsL := [(.ref s)]) (rest := []) rfl (lenOf pd63 rfl) rfl (W := 0) (Nat.le_of_eq rfl) ((con_apU G H b s ar kc cs ds h ho B S g g2 h15 hlat hd).pay w (H.tw 68 rfl) (H.tw 48 rfl) (by decide) (by decide)) (by decide) (by decide) rfl fun vm1 T1 h1 v1 w1 q1 => ?_
  obtain ⟨_, rfl, rfl, ar1, kc1, za, K1, B1⟩ := q1
  show Go _ _ _ _ (T1.setTop (mkF X.m 5 #[.val (.ref b), .val (.ref s)] [(.ref b)]))
  refine w1.pop (q := 6) d62_5 rfl rfl ?_
  refine w1.aloadN (q := 7) d62_6 rfl rfl rfl ?_
  exact w1.retA d62_7 (t := (.object "java/lang/StringBuilder")) rfl rfl rfl (by decide) (by decide) ⟨_, rfl, rfl, ar1, kc1, za, K1, B1⟩
set_option maxRecDepth 65536 in
set_option maxHeartbeats 40000000 in
theorem con_apH (G : Gx) (H : Hyp G) (b s ar : Nat) (kc : ClassId) (cs ds : List Int32) (h : Heap) (ho : Old G.Z G.n0 h) (B : SBL G.Z h b ar kc 16 cs) (S : StrAt G.Z h s 1 ds) (g : G.n0 ≤ b) (g2 : G.n0 ≤ ar) (h15 : cs.length = 15) (hlat : ∀ c ∈ cs, ¬ c < 0 ∧ ¬ (255 : Int32) < c) (hd : ds.length = 2 ∨ ds.length = 3) :
    Con G (⟨"java/lang/AbstractStringBuilder", "append", "(Ljava/lang/String;)Ljava/lang/AbstractStringBuilder;"⟩ : MethodName) jdk_68_method_22_code 3 (some (.object "java/lang/AbstractStringBuilder")) [] ({ frames := 8, cells := 2, slots := 102, locals := 116 } : Room) #[(.ref b), (.ref s)] h (vQ fun v h' => v = .ref b ∧ ∃ (ar' : Nat) (kc' : ClassId), h.size ≤ ar' ∧ Keep h h' [b] ∧ SBU G.Z h' b ar' kc' 34 (cs ++ ds)) := by
  refine Con.intro H.el ho (plainFor_of_name pn6) (Ls := #[.val (.ref b), .val (.ref s), .unset]) (fun m => by first | (simp [entryFrame, mkF, argsToLocals, Value.category]; done) | rfl) ?_
  intro X vm T w
  obtain ⟨t, kb, Es, Gv, Gc, A, hS, -⟩ := StrAt.open1 S
  have Eb := B.exa
  have ltb : b < h.size := Eb.lt
  have nsb : s ≠ b := Exa.ne Es Eb (by decide)
  have lts : s < h.size := Es.lt
  have ltt : t < h.size := A.lt
  have nbt : b ≠ t := Exa.neArv Eb A (H.tw 39 rfl)
  obtain ⟨tl, htl, BB⟩ := B
  obtain ⟨E, Fv, Fc, Fn, Fm, Ya, Ar⟩ := BB
  have nba : b ≠ ar := Exa.neArv E Ar (H.tw 39 rfl)
  refine w.aloadN (q := 1) d59_0 rfl rfl rfl ?_
  refine w.nnY (q := 9) d59_1 (by decide) (by decide) ?_
  refine w.aloadN (q := 10) d59_9 rfl rfl rfl ?_
  refine w.callV (q := 13) d59_10 (H.tw 69 rfl) (H.tw 70 rfl) (notFace_of_selects (C := "java/lang/String") (args := G.a0) (H.tw 72 rfl)) (H.tw 72 rfl) (H.tw 71 rfl) (by decide) Es (argsL := []) (rest := []) rfl (lenOf pd60 rfl) rfl (W := 0) (Nat.le_of_eq rfl) (pay_len w H.wl (H.tw 3 rfl) H.cz S (by decide) (by decide)) (by decide) (by decide) rfl fun vm1 T1 h1 v1 w1 q1 => ?_
  obtain ⟨_, rfl, rfl, rfl⟩ := q1
  show Go _ _ _ _ (T1.setTop (mkF X.m 13 #[.val (.ref b), .val (.ref s), .unset] [(.int (Int32.ofNat ds.length))]))
  refine w1.istoreN (q := 14) (L2 := #[.val (.ref b), .val (.ref s), .val (.int (Int32.ofNat ds.length))]) d59_13 rfl rfl ?_
  refine w1.aloadN (q := 15) d59_14 rfl rfl rfl ?_
  refine w1.aloadN (q := 16) d59_15 rfl rfl rfl ?_
  refine w1.getF (q := 19) d59_16 (H.tw 79 rfl) Via.refl Fn rfl fun T2 w2 => ?_
  refine w2.iloadN (q := 20) d59_19 rfl rfl ?_
  refine w2.iadd (q := 21) d59_20 rfl ?_
  rw [show ((Int32.ofNat cs.length) + (Int32.ofNat ds.length)) = (Int32.ofNat (cs.length + ds.length)) from ofadd _ _]
  have el : (ds.map (fun c => Value.int (StrChars.lo8 c))).length = ds.length := List.length_map _
  have lm : ((cs.map (fun c => Value.int (StrChars.lo8 c))) ++ tl).length = 16 := by rw [List.length_append, List.length_map]; exact htl
  refine w2.callPs (q := 24) d59_21 (H.tw 81 rfl) (H.tw 82 rfl) (H.tw 83 rfl) (H.tw 85 rfl) (H.tw 84 rfl) (by decide) E (argsL := [(.int (Int32.ofNat (cs.length + ds.length)))]) (rest := []) rfl (lenOf pd27 rfl) rfl (W := 0) (Nat.le_of_eq rfl) ((con_ensG G H b ar (cs.length + ds.length) cs.length kc _ h w2.old ⟨E, Fv, Fc, Fn, Fm, Ya, Ar⟩ lm (by omega) g).pay w2 (H.tw 85 rfl) (H.tw 48 rfl) (by decide) (by decide)) (by decide) (by decide) rfl fun vm3 T3 h3 v3 w3 q3 => ?_
  obtain ⟨rfl, ⟨ar1, kc1, za, K3, BB⟩⟩ := q3
  show Go _ _ _ _ (T3.setTop (mkF X.m 24 #[.val (.ref b), .val (.ref s), .val (.int (Int32.ofNat ds.length))] []))
  clear E Fv Fc Fn Fm Ya Ar
  rw [List.append_assoc] at BB
  obtain ⟨E, Fv, Fc, Fn, Fm, Ya, Ar⟩ := id BB
  have ga1 : G.n0 ≤ ar1 := by have := ho.2.1; have := ho.1; omega
  have nb1 : b ≠ ar1 := Exa.neArv E Ar (H.tw 39 rfl)
  replace Es := Es.keep K3
  replace Gv := Gv.keep K3 (nin1 nsb)
  replace Gc := Gc.keep K3 (nin1 nsb)
  replace A := A.keep K3 (nin1 nbt.symm)
  have htl2 : cs.length + (tl ++ List.replicate 18 (Value.int (0 : Int32))).length = 34 := by rw [List.length_append, List.length_replicate]; omega
  refine w3.aloadN (q := 25) d59_24 rfl rfl rfl ?_
  refine w3.aloadN (q := 26) d59_25 rfl rfl rfl ?_
  refine w3.getF (q := 29) d59_26 (H.tw 79 rfl) Via.refl Fn rfl fun T4 w4 => ?_
  refine w4.aloadN (q := 30) d59_29 rfl rfl rfl ?_
  refine w4.callPs (q := 33) d59_30 (H.tw 86 rfl) (H.tw 87 rfl) (H.tw 88 rfl) (H.tw 90 rfl) (H.tw 89 rfl) (by decide) E (argsL := [(.int (Int32.ofNat cs.length)), (.ref s)]) (rest := []) rfl (lenOf pd61 rfl) rfl (W := 0) (Nat.le_of_eq rfl) ((con_psaU G H b s t ar1 34 kb kc1 cs ds h3 w4.old ⟨(tl ++ List.replicate 18 (Value.int (0 : Int32))), htl2, BB⟩ (Or.inr rfl) h15 hlat g Es Gv Gc A (by omega) nsb).pay w4 (H.tw 90 rfl) (H.tw 48 rfl) (by decide) (by decide)) (by decide) (by decide) rfl fun vm5 T5 h5 v5 w5 q5 => ?_
  obtain ⟨rfl, ⟨ar2, kc2, tl2, za2, K5, ht2, B2⟩⟩ := q5
  show Go _ _ _ _ (T5.setTop (mkF X.m 33 #[.val (.ref b), .val (.ref s), .val (.int (Int32.ofNat ds.length))] []))
  clear E Fv Fc Fn Fm Ya Ar
  obtain ⟨E, Fv, Fc, Fn, Fm, Ya, Ar⟩ := B2
  have nb2 : b ≠ ar2 := Exa.neArv E Ar (H.tw 39 rfl)
  refine w5.aloadN (q := 34) d59_33 rfl rfl rfl ?_
  refine w5.dup (q := 35) d59_34 rfl rfl ?_
  refine w5.getF (q := 38) d59_35 (H.tw 79 rfl) Via.refl Fn rfl fun T6 w6 => ?_
  refine w6.iloadN (q := 39) d59_38 rfl rfl ?_
  refine w6.iadd (q := 40) d59_39 rfl ?_
  rw [show ((Int32.ofNat cs.length) + (Int32.ofNat ds.length)) = (Int32.ofNat (cs.length + ds.length)) from ofadd _ _]
  refine w6.putF (q := 43) d59_40 (H.tw 79 rfl) Via.refl Fn E (Or.inl (H.tw 80 rfl)) (H.tw 39 rfl) (ty := .int) (by decide) rfl rfl g (w6.sfE E (by decide) (by decide)) rfl fun T7 h7 w7 W7 sf7 => ?_
  have sz7 : h5.size ≤ h7.size := (Keep.of_wr W7).1
  replace E := E.wr W7
  replace Fv := Fv.other W7 (Or.inr (slot_ne (Or.inl (H.tw 53 rfl)) (Or.inl (H.tw 80 rfl)) (by decide) (t := (.array .byte)) (t' := .int) (by decide) (by decide)))
  replace Fc := Fc.other W7 (Or.inr (slot_ne (Or.inl (H.tw 55 rfl)) (Or.inl (H.tw 80 rfl)) (by decide) (t := .byte) (t' := .int) (by decide) (by decide)))
  replace Fm := Fm.other W7 (Or.inr (slot_ne (Or.inl (H.tw 305 rfl)) (Or.inl (H.tw 80 rfl)) (by decide) (t := .boolean) (t' := .int) (by decide) (by decide)))
  replace Fn := Fn.same W7
  replace Ar := Ar.other W7 nb2.symm
  replace Ya := Ya.wr W7
  rw [← List.length_append] at Fn
  have K9 : Keep h h7 [b] := (K3.trans K5 (fun x hx => Or.inl hx)).wr W7 (Or.inl (List.mem_singleton.mpr rfl))
  refine w7.aloadN (q := 44) d59_43 rfl rfl rfl ?_
  exact w7.retA d59_44 (t := (.object "java/lang/AbstractStringBuilder")) rfl rfl rfl (by decide) (by decide) ⟨_, rfl, rfl, ar2, kc2, (Nat.le_trans K3.1 za2), K9, tl2, ht2, E, Fv, Fc, Fn, Fm, Ya, Ar⟩
set_option maxRecDepth 65536 in
set_option maxHeartbeats 40000000 in
theorem con_spH (G : Gx) (H : Hyp G) (b s ar : Nat) (kc : ClassId) (cs ds : List Int32) (h : Heap) (ho : Old G.Z G.n0 h) (B : SBL G.Z h b ar kc 16 cs) (S : StrAt G.Z h s 1 ds) (g : G.n0 ≤ b) (g2 : G.n0 ≤ ar) (h15 : cs.length = 15) (hlat : ∀ c ∈ cs, ¬ c < 0 ∧ ¬ (255 : Int32) < c) (hd : ds.length = 2 ∨ ds.length = 3) :
    Con G (⟨"java/lang/StringBuilder", "append", "(Ljava/lang/String;)Ljava/lang/StringBuilder;"⟩ : MethodName) jdk_67_method_7_code 2 (some (.object "java/lang/StringBuilder")) [] ({ frames := 9, cells := 2, slots := 102, locals := 130 } : Room) #[(.ref b), (.ref s)] h (vQ fun v h' => v = .ref b ∧ ∃ (ar' : Nat) (kc' : ClassId), h.size ≤ ar' ∧ Keep h h' [b] ∧ SBU G.Z h' b ar' kc' 34 (cs ++ ds)) := by
  refine Con.intro H.el ho (plainFor_of_name pn28) (Ls := #[.val (.ref b), .val (.ref s)]) (fun m => by first | (simp [entryFrame, mkF, argsToLocals, Value.category]; done) | rfl) ?_
  intro X vm T w
  have E := B.exa
  refine w.aloadN (q := 1) d62_0 rfl rfl rfl ?_
  refine w.aloadN (q := 2) d62_1 rfl rfl rfl ?_
  refine w.callSup (C := "java/lang/StringBuilder") (q := 5) d62_2 (H.tw 64 rfl) (same_of_named (H.tw 68 rfl) (H.tw 84 rfl) rfl (by decide)) (H.tw 65 rfl) (H.tw 66 rfl) (by decide) (H.tw 68 rfl) (Ins.self E) (a := b) (argsL := [(.ref s)]) (rest := []) rfl (lenOf pd63 rfl) rfl (W := 0) (Nat.le_of_eq rfl) ((con_apH G H b s ar kc cs ds h ho B S g g2 h15 hlat hd).pay w (H.tw 68 rfl) (H.tw 48 rfl) (by decide) (by decide)) (by decide) (by decide) rfl fun vm1 T1 h1 v1 w1 q1 => ?_
  obtain ⟨_, rfl, rfl, ar1, kc1, za, K1, B1⟩ := q1
  show Go _ _ _ _ (T1.setTop (mkF X.m 5 #[.val (.ref b), .val (.ref s)] [(.ref b)]))
  refine w1.pop (q := 6) d62_5 rfl rfl ?_
  refine w1.aloadN (q := 7) d62_6 rfl rfl rfl ?_
  exact w1.retA d62_7 (t := (.object "java/lang/StringBuilder")) rfl rfl rfl (by decide) (by decide) ⟨_, rfl, rfl, ar1, kc1, za, K1, B1⟩
theorem d64_0 : decode jdk_65_method_131_code 0 = .ok (.iload_n 1, 1) := by decide +kernel
theorem d64_1 : decode jdk_65_method_131_code 1 = .ok (.iload_n 0, 1) := by decide +kernel
theorem d64_2 : decode jdk_65_method_131_code 2 = .ok (.if_icmp .ge 35, 3) := by decide +kernel
theorem d64_37 : decode jdk_65_method_131_code 37 = .ok (.return_, 1) := by decide +kernel
set_option maxRecDepth 65536 in
set_option maxHeartbeats 40000000 in
theorem con_chk (G : Gx) (H : Hyp G) (m0 : Nat) (h : Heap) (ho : Old G.Z G.n0 h) (hn : m0 ≤ 68) :
    Con G (⟨"java/util/Arrays", "checkLength", "(II)V"⟩ : MethodName) jdk_65_method_131_code 2 none [] ({ frames := 0, cells := 0, slots := 0, locals := 0 } : Room) #[(.int (0 : Int32)), (.int (Int32.ofNat m0))] h (nQ fun h' => h = h') := by
  refine Con.intro H.el ho (plainFor_of_name pn35) (Ls := #[.val (.int (0 : Int32)), .val (.int (Int32.ofNat m0))]) (fun m => by first | (simp [entryFrame, mkF, argsToLocals, Value.category]; done) | rfl) ?_
  intro X vm T w
  refine w.iloadN (q := 1) d64_0 rfl rfl ?_
  refine w.iloadN (q := 2) d64_1 rfl rfl ?_
  refine w.icY (q := 37) d64_2 ((flt (nn0 (by omega))).2.1) (by decide) (by decide) ?_
  exact w.retV d64_37 rfl (by decide) (by decide) ⟨rfl, rfl⟩
theorem d65_0 : decode jdk_65_method_133_code 0 = .ok (.iload_n 1, 1) := by decide +kernel
theorem d65_1 : decode jdk_65_method_133_code 1 = .ok (.iload_n 2, 1) := by decide +kernel
theorem d65_2 : decode jdk_65_method_133_code 2 = .ok (.invokestatic 343, 3) := by decide +kernel
theorem pd66 : parseMethodDescriptor "(II)V" = some ⟨[.int, .int], none⟩ := by decide +kernel
theorem d65_5 : decode jdk_65_method_133_code 5 = .ok (.iload_n 2, 1) := by decide +kernel
theorem d65_6 : decode jdk_65_method_133_code 6 = .ok (.iload_n 1, 1) := by decide +kernel
theorem d65_7 : decode jdk_65_method_133_code 7 = .ok (.isub, 1) := by decide +kernel
theorem d65_8 : decode jdk_65_method_133_code 8 = .ok (.istore_n 3, 1) := by decide +kernel
theorem d65_9 : decode jdk_65_method_133_code 9 = .ok (.iload_n 3, 1) := by decide +kernel
theorem d65_10 : decode jdk_65_method_133_code 10 = .ok (.newarray .byte, 2) := by decide +kernel
theorem d65_12 : decode jdk_65_method_133_code 12 = .ok (.astore 4, 2) := by decide +kernel
theorem d65_14 : decode jdk_65_method_133_code 14 = .ok (.aload_n 0, 1) := by decide +kernel
theorem d65_15 : decode jdk_65_method_133_code 15 = .ok (.iload_n 1, 1) := by decide +kernel
theorem d65_16 : decode jdk_65_method_133_code 16 = .ok (.aload 4, 2) := by decide +kernel
theorem d65_18 : decode jdk_65_method_133_code 18 = .ok (.iconst 0, 1) := by decide +kernel
theorem d65_19 : decode jdk_65_method_133_code 19 = .ok (.aload_n 0, 1) := by decide +kernel
theorem d65_20 : decode jdk_65_method_133_code 20 = .ok (.arraylength, 1) := by decide +kernel
theorem d65_21 : decode jdk_65_method_133_code 21 = .ok (.iload_n 1, 1) := by decide +kernel
theorem d65_22 : decode jdk_65_method_133_code 22 = .ok (.isub, 1) := by decide +kernel
theorem d65_23 : decode jdk_65_method_133_code 23 = .ok (.iload_n 3, 1) := by decide +kernel
theorem d65_24 : decode jdk_65_method_133_code 24 = .ok (.invokestatic 304, 3) := by decide +kernel
theorem d65_27 : decode jdk_65_method_133_code 27 = .ok (.invokestatic 150, 3) := by decide +kernel
theorem d65_30 : decode jdk_65_method_133_code 30 = .ok (.aload 4, 2) := by decide +kernel
theorem d65_32 : decode jdk_65_method_133_code 32 = .ok (.areturn, 1) := by decide +kernel
set_option maxRecDepth 65536 in
set_option maxHeartbeats 40000000 in
theorem con_crb (G : Gx) (H : Hyp G) (ar m0 NB : Nat) (kc : ClassId) (vs : List Value) (h : Heap) (ho : Old G.Z G.n0 h) (A : Arv G.Z h ar kc .byte (Int32.ofNat NB) vs (.int (0 : Int32))) (hv : vs.length = NB) (hn : 1 ≤ m0 ∧ m0 < NB ∧ NB ≤ 68) :
    Con G (⟨"java/util/Arrays", "copyOfRangeByte", "([BII)[B"⟩ : MethodName) jdk_65_method_133_code 5 (some (.array .byte)) [] ({ frames := 1, cells := 1, slots := 68, locals := 18 } : Room) #[(.ref ar), (.int (0 : Int32)), (.int (Int32.ofNat m0))] h (vQ fun v h' => ∃ (t : Nat) (kt : ClassId), v = .ref t ∧ Ext h h' ∧ h.size ≤ t ∧ Arv G.Z h' t kt .byte (Int32.ofNat m0) (vs.take m0) (.int (0 : Int32))) := by
  refine Con.intro H.el ho (plainFor_of_name pn35) (Ls := #[.val (.ref ar), .val (.int (0 : Int32)), .val (.int (Int32.ofNat m0)), .unset, .unset]) (fun m => by first | (simp [entryFrame, mkF, argsToLocals, Value.category]; done) | rfl) ?_
  intro X vm T w
  refine w.iloadN (q := 1) d65_0 rfl rfl ?_
  refine w.iloadN (q := 2) d65_1 rfl rfl ?_
  refine w.callS (q := 5) d65_2 (H.tw 254 rfl) (H.tw 255 rfl) (H.tw 138 rfl) (H.tw 256 rfl) (by decide) (argsL := [(.int (0 : Int32)), (.int (Int32.ofNat m0))]) (rest := []) rfl (lenOf pd66 rfl) rfl (W := 0) (Nat.le_of_eq rfl) ((con_chk G H m0 h ho (by omega)).pay w (H.tw 256 rfl) (H.tw 138 rfl) (by decide) (by decide)) (by decide) (by decide) rfl fun vm1 T1 h1 v1 w1 q1 => ?_
  obtain ⟨rfl, rfl⟩ := q1
  show Go _ _ _ _ (T1.setTop (mkF X.m 5 #[.val (.ref ar), .val (.int (0 : Int32)), .val (.int (Int32.ofNat m0)), .unset, .unset] []))
  refine w1.iloadN (q := 6) d65_5 rfl rfl ?_
  refine w1.iloadN (q := 7) d65_6 rfl rfl ?_
  refine w1.isub (q := 8) d65_7 rfl ?_
  rw [show ((Int32.ofNat m0) - (0 : Int32)) = (Int32.ofNat m0) from sub0 _]
  refine w1.istoreN (q := 9) (L2 := #[.val (.ref ar), .val (.int (0 : Int32)), .val (.int (Int32.ofNat m0)), .val (.int (Int32.ofNat m0)), .unset]) d65_8 rfl rfl ?_
  refine w1.iloadN (q := 10) d65_9 rfl rfl ?_
  have en : (Int32.ofNat m0).toNatClampNeg = m0 := cln (by omega)
  have eN : (Int32.ofNat NB).toNatClampNeg = NB := cln (by omega)
  have e0 : (0 : Int32).toNatClampNeg = 0 := by decide
  refine w1.newP (q := 12) 68 d65_10 (H.tw 20 rfl) (nn0 (by omega)) (by rw [en]; omega) (by decide) (by decide) (by decide) rfl fun T2 h2 b2 kc2 e2 w2 E2 A2 => ?_
  replace A2 : Arv G.Z h2 b2 kc2 .byte (Int32.ofNat m0) (List.replicate (m0) (.int (0 : Int32))) (.int (0 : Int32)) := A2.pad (pad_rep [] (.int (0 : Int32)) (m0))
  have lt2 : b2 < h2.size := A2.lt
  have sz2 : h.size ≤ h2.size := E2.1
  replace A := A.ext E2
  have g2 : G.n0 ≤ b2 := by have := ho.2.1; have := ho.1; omega
  refine w2.astore (q := 14) (L2 := #[.val (.ref ar), .val (.int (0 : Int32)), .val (.int (Int32.ofNat m0)), .val (.int (Int32.ofNat m0)), .val (.ref b2)]) d65_12 rfl rfl rfl ?_
  refine w2.aloadN (q := 15) d65_14 rfl rfl rfl ?_
  refine w2.iloadN (q := 16) d65_15 rfl rfl ?_
  refine w2.aload (q := 18) d65_16 rfl rfl rfl ?_
  refine w2.iconst (q := 19) (0 : Int32) d65_18 rfl rfl ?_
  refine w2.aloadN (q := 20) d65_19 rfl rfl rfl ?_
  refine w2.alen (q := 21) d65_20 A rfl ?_
  refine w2.iloadN (q := 22) d65_21 rfl rfl ?_
  refine w2.isub (q := 23) d65_22 rfl ?_
  refine w2.iloadN (q := 24) d65_23 rfl rfl ?_
  refine w2.callS (q := 27) d65_24 (H.tw 247 rfl) (H.tw 248 rfl) (H.tw 240 rfl) (H.tw 249 rfl) (by decide) (argsL := [(.int ((Int32.ofNat NB) - (0 : Int32))), (.int (Int32.ofNat m0))]) (rest := [(.int (0 : Int32)), (.ref b2), (.int (0 : Int32)), (.ref ar)]) rfl (lenOf pd30 rfl) rfl (W := 4) (Nat.le_of_eq rfl) ((con_min G H _ (Int32.ofNat m0) h2 w2.old (by rw [sub0]; exact oflt (by omega) (by omega))).pay w2 (H.tw 249 rfl) (H.tw 240 rfl) (by decide) (by decide)) (by decide) (by decide) rfl fun vm3 T3 h3 v3 w3 q3 => ?_
  obtain ⟨_, rfl, rfl, rfl⟩ := q3
  show Go _ _ _ _ (T3.setTop (mkF X.m 27 #[.val (.ref ar), .val (.int (0 : Int32)), .val (.int (Int32.ofNat m0)), .val (.int (Int32.ofNat m0)), .val (.ref b2)] [(.int (Int32.ofNat m0)), (.int (0 : Int32)), (.ref b2), (.int (0 : Int32)), (.ref ar)]))
  have sfk := w3.sfC A2 (fun p hp tx ht => (H.lens p hp tx ht).elim (fun q => by by_cases e15 : m0 = 15; exact Or.inr ⟨14, ' ', by rw [q]; decide, by have := repl_last ([] : List Value) m0 (Value.int (0 : Int32)) (.int (0 : Int32)) (by omega); rw [List.length_nil, show 0 + m0 - 1 = 14 from by omega, List.nil_append] at this; rw [this]; decide⟩; exact Or.inl (by rw [q, en]; exact fun z => e15 z.symm)) (fun q => Or.inl (by rw [q, en]; exact fun z => absurd z (by show ¬ 0 = m0; omega))))
  refine w3.acopy (q := 30) (W := 0) (us := (vs.take m0)) d65_27 (H.tw 250 rfl) (H.tw 105 rfl) (H.tw 103 rfl) (H.tw 104 rfl) A A2 rfl (by decide) (by decide) (nn0 (by omega)) (by rw [e0, en, eN]; omega) (by rw [e0, en]; omega) (by rw [en, e0]; exact us_take vs _ m0 (by omega)) (by rw [e0, en, List.length_replicate]; omega) g2 sfk rfl (by decide) (Nat.le_of_eq rfl) (by decide) rfl fun T4 h4 w4 K4 A4 => ?_
  have sz4 : h2.size ≤ h4.size := K4.1
  rw [e0, en] at A4
  have X1 : Ext h h4 := xkp E2 K4 (all1 (by omega))
  refine w4.aload (q := 32) d65_30 rfl rfl rfl ?_
  exact w4.retA d65_32 (t := (.array .byte)) rfl rfl rfl (by decide) (by decide) ⟨_, rfl, b2, kc2, rfl, X1, by omega, (by simpa using A4)⟩
theorem d67_0 : decode jdk_65_method_132_code 0 = .ok (.iload_n 1, 1) := by decide +kernel
theorem d67_1 : decode jdk_65_method_132_code 1 = .ok (.ifCond .ne 9, 3) := by decide +kernel
theorem d67_4 : decode jdk_65_method_132_code 4 = .ok (.iload_n 2, 1) := by decide +kernel
theorem d67_5 : decode jdk_65_method_132_code 5 = .ok (.aload_n 0, 1) := by decide +kernel
theorem d67_6 : decode jdk_65_method_132_code 6 = .ok (.arraylength, 1) := by decide +kernel
theorem d67_7 : decode jdk_65_method_132_code 7 = .ok (.if_icmp .eq 10, 3) := by decide +kernel
theorem d67_17 : decode jdk_65_method_132_code 17 = .ok (.aload_n 0, 1) := by decide +kernel
theorem d67_18 : decode jdk_65_method_132_code 18 = .ok (.invokevirtual 310, 3) := by decide +kernel
theorem d67_21 : decode jdk_65_method_132_code 21 = .ok (.checkcast 311, 3) := by decide +kernel
theorem d67_24 : decode jdk_65_method_132_code 24 = .ok (.areturn, 1) := by decide +kernel
theorem d67_10 : decode jdk_65_method_132_code 10 = .ok (.aload_n 0, 1) := by decide +kernel
theorem d67_11 : decode jdk_65_method_132_code 11 = .ok (.iload_n 1, 1) := by decide +kernel
theorem d67_12 : decode jdk_65_method_132_code 12 = .ok (.iload_n 2, 1) := by decide +kernel
theorem d67_13 : decode jdk_65_method_132_code 13 = .ok (.invokestatic 339, 3) := by decide +kernel
theorem pd68 : parseMethodDescriptor "([BII)[B" = some ⟨[(.array .byte), .int, .int], some (.array .byte)⟩ := by decide +kernel
theorem d67_16 : decode jdk_65_method_132_code 16 = .ok (.areturn, 1) := by decide +kernel
set_option maxRecDepth 65536 in
set_option maxHeartbeats 40000000 in
theorem con_cr (G : Gx) (H : Hyp G) (ar m0 NB : Nat) (kc : ClassId) (vs : List Value) (h : Heap) (ho : Old G.Z G.n0 h) (A : Arv G.Z h ar kc .byte (Int32.ofNat NB) vs (.int (0 : Int32))) (hv : vs.length = NB) (hn : 1 ≤ m0 ∧ m0 ≤ NB ∧ NB ≤ 68) (Ya : Exa G.Z h ar "[B") :
    Con G (⟨"java/util/Arrays", "copyOfRange", "([BII)[B"⟩ : MethodName) jdk_65_method_132_code 3 (some (.array .byte)) [] ({ frames := 2, cells := 1, slots := 68, locals := 34 } : Room) #[(.ref ar), (.int (0 : Int32)), (.int (Int32.ofNat m0))] h (vQ fun v h' => ∃ (t : Nat) (kt : ClassId), v = .ref t ∧ Ext h h' ∧ h.size ≤ t ∧ Arv G.Z h' t kt .byte (Int32.ofNat m0) (vs.take m0) (.int (0 : Int32))) := by
  refine Con.intro H.el ho (plainFor_of_name pn35) (Ls := #[.val (.ref ar), .val (.int (0 : Int32)), .val (.int (Int32.ofNat m0))]) (fun m => by first | (simp [entryFrame, mkF, argsToLocals, Value.category]; done) | rfl) ?_
  intro X vm T w
  refine w.iloadN (q := 1) d67_0 rfl rfl ?_
  refine w.ifN (q := 4) d67_1 ((if0 _ _).trans (teq rfl).2) rfl ?_
  refine w.iloadN (q := 5) d67_4 rfl rfl ?_
  refine w.aloadN (q := 6) d67_5 rfl rfl rfl ?_
  refine w.alen (q := 7) d67_6 A rfl ?_
  by_cases cm : m0 = NB
  ·
    subst cm
    refine w.icY (q := 17) d67_7 ((teq rfl).1) (by decide) (by decide) ?_
    refine w.aloadN (q := 18) d67_17 rfl rfl rfl ?_
    refine w.clone (q := 21) (W := 0) (ad := "[B") 68 d67_18 (H.tw 140 rfl) (H.tw 141 rfl) (H.tw 145 rfl) (H.tw 143 rfl) (H.tw 144 rfl) (H.tw 146 rfl) A Ya rfl (by decide) (Nat.le_of_eq rfl) (by decide) (by rw [cln (by omega)]; omega) (by decide) (by decide) rfl fun T1 h1 b1 e1 w1 E1 A1 Y1 => ?_
    refine w1.castY (q := 24) d67_21 (H.tw 147 rfl) (Ins.self Y1) rfl fun T2 w2 => ?_
    exact w2.retA d67_24 (t := (.array .byte)) rfl rfl rfl (by decide) (by decide) ⟨_, rfl, b1, kc, rfl, E1, by omega, (by rw [List.take_of_length_le (by omega)]; exact A1)⟩
  ·
    refine w.icN (q := 10) d67_7 ((feq (ofne cm (by omega) (by omega))).1) rfl ?_
    refine w.aloadN (q := 11) d67_10 rfl rfl rfl ?_
    refine w.iloadN (q := 12) d67_11 rfl rfl ?_
    refine w.iloadN (q := 13) d67_12 rfl rfl ?_
    refine w.callS (q := 16) d67_13 (H.tw 251 rfl) (H.tw 252 rfl) (H.tw 138 rfl) (H.tw 253 rfl) (by decide) (argsL := [(.ref ar), (.int (0 : Int32)), (.int (Int32.ofNat m0))]) (rest := []) rfl (lenOf pd68 rfl) rfl (W := 0) (Nat.le_of_eq rfl) ((con_crb G H ar m0 NB kc vs h w.old A hv (by omega)).pay w (H.tw 253 rfl) (H.tw 138 rfl) (by decide) (by decide)) (by decide) (by decide) rfl fun vm3 T3 h3 v3 w3 q3 => ?_
    obtain ⟨_, rfl, ⟨t3, kt3, rfl, X3, z3, A3⟩⟩ := q3
    show Go _ _ _ _ (T3.setTop (mkF X.m 16 #[.val (.ref ar), .val (.int (0 : Int32)), .val (.int (Int32.ofNat m0))] [(.ref t3)]))
    exact w3.retA d67_16 (t := (.array .byte)) rfl rfl rfl (by decide) (by decide) ⟨_, rfl, t3, kt3, rfl, X3, z3, A3⟩
theorem d69_0 : decode jdk_68_method_64_code 0 = .ok (.aload_n 0, 1) := by decide +kernel
theorem d69_1 : decode jdk_68_method_64_code 1 = .ok (.getfield 15, 3) := by decide +kernel
theorem d69_4 : decode jdk_68_method_64_code 4 = .ok (.areturn, 1) := by decide +kernel
set_option maxRecDepth 65536 in
set_option maxHeartbeats 40000000 in
theorem con_gv (G : Gx) (H : Hyp G) (a : Nat) (v : Value) (hv : v.isRef = true) (h : Heap) (ho : Old G.Z G.n0 h) (F : Fld G.Z h a "java/lang/AbstractStringBuilder" "value" "[B" v) :
    Con G (⟨"java/lang/AbstractStringBuilder", "getValue", "()[B"⟩ : MethodName) jdk_68_method_64_code 1 (some (.array .byte)) [] ({ frames := 0, cells := 0, slots := 0, locals := 0 } : Room) #[(.ref a)] h (vQ fun v' h' => v' = v ∧ h = h') := by
  refine Con.intro H.el ho (plainFor_of_name pn6) (Ls := #[.val (.ref a)]) (fun m => by first | (simp [entryFrame, mkF, argsToLocals, Value.category]; done) | rfl) ?_
  intro X vm T w
  refine w.aloadN (q := 1) d69_0 rfl rfl rfl ?_
  refine w.getF (q := 4) d69_1 (H.tw 52 rfl) Via.refl F rfl fun T1 w1 => ?_
  exact w1.retA d69_4 (t := (.array .byte)) rfl rfl hv (by decide) (by decide) ⟨_, rfl, ⟨rfl, rfl⟩⟩
theorem d70_0 : decode jdk_68_method_6_code 0 = .ok (.aload_n 0, 1) := by decide +kernel
theorem d70_1 : decode jdk_68_method_6_code 1 = .ok (.getfield 79, 3) := by decide +kernel
theorem d70_4 : decode jdk_68_method_6_code 4 = .ok (.ireturn, 1) := by decide +kernel
set_option maxRecDepth 65536 in
set_option maxHeartbeats 40000000 in
theorem con_aln (G : Gx) (H : Hyp G) (a : Nat) (x : Int32) (h : Heap) (ho : Old G.Z G.n0 h) (F : Fld G.Z h a "java/lang/AbstractStringBuilder" "count" "I" (.int x)) :
    Con G (⟨"java/lang/AbstractStringBuilder", "length", "()I"⟩ : MethodName) jdk_68_method_6_code 1 (some .int) [] ({ frames := 0, cells := 0, slots := 0, locals := 0 } : Room) #[(.ref a)] h (vQ fun v' h' => v' = (.int x) ∧ h = h') := by
  refine Con.intro H.el ho (plainFor_of_name pn6) (Ls := #[.val (.ref a)]) (fun m => by first | (simp [entryFrame, mkF, argsToLocals, Value.category]; done) | rfl) ?_
  intro X vm T w
  refine w.aloadN (q := 1) d70_0 rfl rfl rfl ?_
  refine w.getF (q := 4) d70_1 (H.tw 79 rfl) Via.refl F rfl fun T1 w1 => ?_
  exact w1.retI d70_4 rfl (by decide) (by decide) ⟨_, rfl, ⟨rfl, rfl⟩⟩
theorem d71_0 : decode jdk_67_method_93_code 0 = .ok (.aload_n 0, 1) := by decide +kernel
theorem d71_1 : decode jdk_67_method_93_code 1 = .ok (.invokespecial 343, 3) := by decide +kernel
theorem d71_4 : decode jdk_67_method_93_code 4 = .ok (.ireturn, 1) := by decide +kernel
set_option maxRecDepth 65536 in
set_option maxHeartbeats 40000000 in
theorem con_sln (G : Gx) (H : Hyp G) (a : Nat) (x : Int32) (h : Heap) (ho : Old G.Z G.n0 h) (E : Exa G.Z h a "java/lang/StringBuilder") (F : Fld G.Z h a "java/lang/AbstractStringBuilder" "count" "I" (.int x)) :
    Con G (⟨"java/lang/StringBuilder", "length", "()I"⟩ : MethodName) jdk_67_method_93_code 1 (some .int) [] ({ frames := 1, cells := 0, slots := 0, locals := 12 } : Room) #[(.ref a)] h (vQ fun v h' => v = .int x ∧ h = h') := by
  refine Con.intro H.el ho (plainFor_of_name pn28) (Ls := #[.val (.ref a)]) (fun m => by first | (simp [entryFrame, mkF, argsToLocals, Value.category]; done) | rfl) ?_
  intro X vm T w
  refine w.aloadN (q := 1) d71_0 rfl rfl rfl ?_
  refine w.callSup (C := "java/lang/StringBuilder") (q := 4) d71_1 (H.tw 129 rfl) (same_of_named (H.tw 130 rfl) (H.tw 84 rfl) rfl (by decide)) (H.tw 125 rfl) (H.tw 66 rfl) (by decide) (H.tw 130 rfl) (Ins.self E) (a := a) (argsL := []) (rest := []) rfl (lenOf pd60 rfl) rfl (W := 0) (Nat.le_of_eq rfl) ((con_aln G H a x h ho F).pay w (H.tw 130 rfl) (H.tw 48 rfl) (by decide) (by decide)) (by decide) (by decide) rfl fun vm1 T1 h1 v1 w1 q1 => ?_
  obtain ⟨_, rfl, rfl, rfl⟩ := q1
  show Go _ _ _ _ (T1.setTop (mkF X.m 4 #[.val (.ref a)] [(.int x)]))
  exact w1.retI d71_4 rfl (by decide) (by decide) ⟨_, rfl, ⟨rfl, rfl⟩⟩
theorem d72_0 : decode jdk_42_method_150_code 0 = .ok (.aload_n 0, 1) := by decide +kernel
theorem d72_1 : decode jdk_42_method_150_code 1 = .ok (.invokespecial 1, 3) := by decide +kernel
theorem d72_4 : decode jdk_42_method_150_code 4 = .ok (.aload_n 1, 1) := by decide +kernel
theorem d72_5 : decode jdk_42_method_150_code 5 = .ok (.invokevirtual 552, 3) := by decide +kernel
theorem pd73 : parseMethodDescriptor "()[B" = some ⟨[], some (.array .byte)⟩ := by decide +kernel
theorem d72_8 : decode jdk_42_method_150_code 8 = .ok (.astore_n 3, 1) := by decide +kernel
theorem d72_9 : decode jdk_42_method_150_code 9 = .ok (.aload_n 1, 1) := by decide +kernel
theorem d72_10 : decode jdk_42_method_150_code 10 = .ok (.invokevirtual 549, 3) := by decide +kernel
theorem d72_13 : decode jdk_42_method_150_code 13 = .ok (.istore 4, 2) := by decide +kernel
theorem d72_15 : decode jdk_42_method_150_code 15 = .ok (.aload_n 1, 1) := by decide +kernel
theorem d72_16 : decode jdk_42_method_150_code 16 = .ok (.invokevirtual 1047, 3) := by decide +kernel
theorem d72_19 : decode jdk_42_method_150_code 19 = .ok (.ifCond .eq 22, 3) := by decide +kernel
theorem d72_22 : decode jdk_42_method_150_code 22 = .ok (.aload_n 0, 1) := by decide +kernel
theorem d72_23 : decode jdk_42_method_150_code 23 = .ok (.iconst 0, 1) := by decide +kernel
theorem d72_24 : decode jdk_42_method_150_code 24 = .ok (.putfield 15, 3) := by decide +kernel
theorem d72_27 : decode jdk_42_method_150_code 27 = .ok (.aload_n 0, 1) := by decide +kernel
theorem d72_28 : decode jdk_42_method_150_code 28 = .ok (.aload_n 3, 1) := by decide +kernel
theorem d72_29 : decode jdk_42_method_150_code 29 = .ok (.iconst 0, 1) := by decide +kernel
theorem d72_30 : decode jdk_42_method_150_code 30 = .ok (.iload 4, 2) := by decide +kernel
theorem d72_32 : decode jdk_42_method_150_code 32 = .ok (.invokestatic 54, 3) := by decide +kernel
theorem d72_35 : decode jdk_42_method_150_code 35 = .ok (.putfield 9, 3) := by decide +kernel
theorem d72_38 : decode jdk_42_method_150_code 38 = .ok (.goto 59, 3) := by decide +kernel
theorem d72_97 : decode jdk_42_method_150_code 97 = .ok (.return_, 1) := by decide +kernel
set_option maxRecDepth 65536 in
set_option maxHeartbeats 40000000 in
theorem con_si2L (G : Gx) (H : Hyp G) (x b ar K : Nat) (kc : ClassId) (cs : List Int32) (h : Heap) (ho : Old G.Z G.n0 h) (E : Exa G.Z h x "java/lang/String") (V : Fld G.Z h x "java/lang/String" "value" "[B" .null) (Cc : Fld G.Z h x "java/lang/String" "coder" "B" (.int (0 : Int32))) (g : G.n0 ≤ x) (B : SBL G.Z h b ar kc K cs) (hlat : ∀ c ∈ cs, ¬ c < 0 ∧ ¬ (255 : Int32) < c) (hn : 1 ≤ cs.length ∧ cs.length ≤ 18 ∧ K ≤ 34) :
    Con G (⟨"java/lang/String", "<init>", "(Ljava/lang/AbstractStringBuilder;Ljava/lang/Void;)V"⟩ : MethodName) jdk_42_method_150_code 5 none [] ({ frames := 3, cells := 1, slots := 68, locals := 49 } : Room) #[(.ref x), (.ref b), .null] h (nQ fun h' => Keep h h' [x] ∧ StrAt G.Z h' x 0 cs) := by
  refine Con.intro H.el ho (plainFor_of_name pn1) (Ls := #[.val (.ref x), .val (.ref b), .val .null, .unset, .unset]) (fun m => by first | (simp [entryFrame, mkF, argsToLocals, Value.category]; done) | rfl) ?_
  intro X vm T w
  have ltx : x < h.size := E.lt
  obtain ⟨cz, nz, Sz⟩ := H.cz
  obtain ⟨tl, htl, Eb, Fv, Fc, Fn, Fm, Ya, A⟩ := B
  have nxa : x ≠ ar := Exa.neArv E A (H.tw 3 rfl)
  have lw := wlen cs
  refine w.aloadN (q := 1) d72_0 rfl rfl rfl ?_
  refine w.initO (q := 4) (W := 0) d72_1 (H.tw 12 rfl) (H.tw 13 rfl) (H.tw 14 rfl) rfl (by decide) (Nat.le_of_eq rfl) (by decide) rfl fun T1 w1 => ?_
  refine w1.aloadN (q := 5) d72_4 rfl rfl rfl ?_
  refine w1.callV (q := 8) d72_5 (H.tw 118 rfl) (H.tw 119 rfl) (notFace_of_selects (C := "java/lang/StringBuilder") (args := G.a0) (H.tw 121 rfl)) (H.tw 121 rfl) (H.tw 120 rfl) (by decide) Eb (argsL := []) (rest := []) rfl (lenOf pd73 rfl) rfl (W := 0) (Nat.le_of_eq rfl) ((con_gv G H b (.ref ar) rfl h w1.old Fv).pay w1 (H.tw 122 rfl) (H.tw 48 rfl) (by decide) (by decide)) (by decide) (by decide) rfl fun vm2 T2 h2 v2 w2 q2 => ?_
  obtain ⟨_, rfl, rfl, rfl⟩ := q2
  show Go _ _ _ _ (T2.setTop (mkF X.m 8 #[.val (.ref x), .val (.ref b), .val .null, .unset, .unset] [(.ref ar)]))
  refine w2.astoreN (q := 9) (L2 := #[.val (.ref x), .val (.ref b), .val .null, .val (.ref ar), .unset]) d72_8 rfl rfl rfl ?_
  refine w2.aloadN (q := 10) d72_9 rfl rfl rfl ?_
  refine w2.callV (q := 13) d72_10 (H.tw 123 rfl) (H.tw 124 rfl) (notFace_of_cls (H.tw 84 rfl) rfl) (H.tw 126 rfl) (H.tw 127 rfl) (by decide) Eb (argsL := []) (rest := []) rfl (lenOf pd60 rfl) rfl (W := 0) (Nat.le_of_eq rfl) ((con_sln G H b _ h w2.old Eb Fn).pay w2 (H.tw 128 rfl) (H.tw 40 rfl) (by decide) (by decide)) (by decide) (by decide) rfl fun vm3 T3 h3 v3 w3 q3 => ?_
  obtain ⟨_, rfl, rfl, rfl⟩ := q3
  show Go _ _ _ _ (T3.setTop (mkF X.m 13 #[.val (.ref x), .val (.ref b), .val .null, .val (.ref ar), .unset] [(.int (Int32.ofNat cs.length))]))
  refine w3.istore (q := 15) (L2 := #[.val (.ref x), .val (.ref b), .val .null, .val (.ref ar), .val (.int (Int32.ofNat cs.length))]) d72_13 rfl rfl ?_
  refine w3.aloadN (q := 16) d72_15 rfl rfl rfl ?_
  refine w3.callV (q := 19) d72_16 (H.tw 131 rfl) (H.tw 132 rfl) (notFace_of_selects (C := "java/lang/StringBuilder") (args := G.a0) (H.tw 134 rfl)) (H.tw 134 rfl) (H.tw 133 rfl) (by decide) Eb (argsL := []) (rest := []) rfl (lenOf pd51 rfl) rfl (W := 0) (Nat.le_of_eq rfl) ((con_blat0 G H b h w3.old Fc).pay w3 (H.tw 135 rfl) (H.tw 48 rfl) (by decide) (by decide)) (by decide) (by decide) rfl fun vm4 T4 h4 v4 w4 q4 => ?_
  obtain ⟨_, rfl, rfl, rfl⟩ := q4
  show Go _ _ _ _ (T4.setTop (mkF X.m 19 #[.val (.ref x), .val (.ref b), .val .null, .val (.ref ar), .val (.int (Int32.ofNat cs.length))] [(.int (1 : Int32))]))
  refine w4.ifN (q := 22) d72_19 ((if0 _ _).trans (feq (by decide)).1) rfl ?_
  refine w4.aloadN (q := 23) d72_22 rfl rfl rfl ?_
  refine w4.iconst (q := 24) (0 : Int32) d72_23 rfl rfl ?_
  refine w4.putF (q := 27) d72_24 (H.tw 27 rfl) Via.refl Cc E (Or.inr ⟨(H.tw 28 rfl), rfl, rfl⟩) (H.tw 3 rfl) (ty := .byte) (by decide) rfl rfl g (w4.sfB E V) rfl fun T5 h5 w5 W5 sf5 => ?_
  have sz5 : h.size ≤ h5.size := (Keep.of_wr W5).1
  replace E := E.wr W5
  replace V := V.other W5 (Or.inr (slot_ne (Or.inr (H.tw 30 rfl)) (Or.inr (H.tw 28 rfl)) (by decide) (t := (.array .byte)) (t' := .byte) (by decide) (by decide)))
  have C2 := Cc.same W5
  replace A := A.other W5 (Ne.symm nxa)
  replace Ya := Ya.wr W5
  refine w5.aloadN (q := 28) d72_27 rfl rfl rfl ?_
  refine w5.aloadN (q := 29) d72_28 rfl rfl rfl ?_
  refine w5.iconst (q := 30) (0 : Int32) d72_29 rfl rfl ?_
  refine w5.iload (q := 32) d72_30 rfl rfl ?_
  refine w5.callS (q := 35) d72_32 (H.tw 136 rfl) (H.tw 137 rfl) (H.tw 138 rfl) (H.tw 139 rfl) (by decide) (argsL := [(.ref ar), (.int (0 : Int32)), (.int (Int32.ofNat cs.length))]) (rest := [(.ref x)]) rfl (lenOf pd68 rfl) rfl (W := 1) (Nat.le_of_eq rfl) ((con_cr G H ar cs.length K kc _ h5 w5.old A (by rw [List.length_append, List.length_map]; exact htl) (by omega) Ya).pay w5 (H.tw 139 rfl) (H.tw 138 rfl) (by decide) (by decide)) (by decide) (by decide) rfl fun vm6 T6 h6 v6 w6 q6 => ?_
  obtain ⟨_, rfl, ⟨t6, kt6, rfl, X6, z6, A6⟩⟩ := q6
  show Go _ _ _ _ (T6.setTop (mkF X.m 35 #[.val (.ref x), .val (.ref b), .val .null, .val (.ref ar), .val (.int (Int32.ofNat cs.length))] [(.ref t6), (.ref x)]))
  replace E := E.ext X6
  replace V := V.ext X6
  replace C2 := C2.ext X6
  refine w6.putF (q := 38) d72_35 (H.tw 29 rfl) Via.refl V E (Or.inr ⟨(H.tw 30 rfl), rfl, rfl⟩) (H.tw 3 rfl) (ty := (.array .byte)) (by decide) rfl rfl g (w6.sfB E V) rfl fun T7 h7 w7 W7 sf7 => ?_
  have sz7 : h6.size ≤ h7.size := (Keep.of_wr W7).1
  replace E := E.wr W7
  replace C2 := C2.other W7 (Or.inr (slot_ne (Or.inr (H.tw 28 rfl)) (Or.inr (H.tw 30 rfl)) (by decide) (t := .byte) (t' := (.array .byte)) (by decide) (by decide)))
  have V2 := V.same W7
  replace A6 := A6.other W7 (neN (by have := sz5; omega))
  have K1 : Keep h h7 [x] := ((Keep.of_wr W5).ext X6).wr W7 (Or.inl (List.mem_singleton.mpr rfl))
  refine w7.goto (q := 97) d72_38 (by decide) (by decide) ?_
  rw [map_take] at A6
  exact w7.retV d72_97 rfl (by decide) (by decide) ⟨rfl, K1, StrAt.lit cs E C2 V2 A6 rfl rfl hlat (by omega)⟩
theorem d74_0 : decode jdk_42_method_53_code 0 = .ok (.aload_n 0, 1) := by decide +kernel
theorem d74_1 : decode jdk_42_method_53_code 1 = .ok (.aload_n 1, 1) := by decide +kernel
theorem d74_2 : decode jdk_42_method_53_code 2 = .ok (.aconst_null, 1) := by decide +kernel
theorem d74_3 : decode jdk_42_method_53_code 3 = .ok (.invokespecial 489, 3) := by decide +kernel
theorem pd75 : parseMethodDescriptor "(Ljava/lang/AbstractStringBuilder;Ljava/lang/Void;)V" = some ⟨[(.object "java/lang/AbstractStringBuilder"), (.object "java/lang/Void")], none⟩ := by decide +kernel
theorem d74_6 : decode jdk_42_method_53_code 6 = .ok (.return_, 1) := by decide +kernel
set_option maxRecDepth 65536 in
set_option maxHeartbeats 40000000 in
theorem con_si1L (G : Gx) (H : Hyp G) (x b ar K : Nat) (kc : ClassId) (cs : List Int32) (h : Heap) (ho : Old G.Z G.n0 h) (E : Exa G.Z h x "java/lang/String") (V : Fld G.Z h x "java/lang/String" "value" "[B" .null) (Cc : Fld G.Z h x "java/lang/String" "coder" "B" (.int (0 : Int32))) (g : G.n0 ≤ x) (B : SBL G.Z h b ar kc K cs) (hlat : ∀ c ∈ cs, ¬ c < 0 ∧ ¬ (255 : Int32) < c) (hn : 1 ≤ cs.length ∧ cs.length ≤ 18 ∧ K ≤ 34) :
    Con G (⟨"java/lang/String", "<init>", "(Ljava/lang/StringBuilder;)V"⟩ : MethodName) jdk_42_method_53_code 2 none [] ({ frames := 4, cells := 1, slots := 68, locals := 65 } : Room) #[(.ref x), (.ref b)] h (nQ fun h' => Keep h h' [x] ∧ StrAt G.Z h' x 0 cs) := by
  refine Con.intro H.el ho (plainFor_of_name pn1) (Ls := #[.val (.ref x), .val (.ref b)]) (fun m => by first | (simp [entryFrame, mkF, argsToLocals, Value.category]; done) | rfl) ?_
  intro X vm T w
  refine w.aloadN (q := 1) d74_0 rfl rfl rfl ?_
  refine w.aloadN (q := 2) d74_1 rfl rfl rfl ?_
  refine w.aconst (q := 3) d74_2 rfl ?_
  refine w.callC (q := 6) d74_3 rfl (H.tw 115 rfl) (H.tw 116 rfl) (H.tw 117 rfl) (by decide) (a := x) (argsL := [(.ref b), .null]) (rest := []) rfl (lenOf pd75 rfl) rfl (W := 0) (Nat.le_of_eq rfl) ((con_si2L G H x b ar K kc cs h ho E V Cc g B hlat hn).pay w (H.tw 117 rfl) (H.tw 4 rfl) (by decide) (by decide)) (by decide) (by decide) rfl fun vm1 T1 h1 v1 w1 q1 => ?_
  obtain ⟨rfl, K1, S1⟩ := q1
  show Go _ _ _ _ (T1.setTop (mkF X.m 6 #[.val (.ref x), .val (.ref b)] []))
  exact w1.retV d74_6 rfl (by decide) (by decide) ⟨rfl, K1, S1⟩
theorem d76_0 : decode jdk_67_method_42_code 0 = .ok (.new 18, 3) := by decide +kernel
theorem d76_3 : decode jdk_67_method_42_code 3 = .ok (.dup, 1) := by decide +kernel
theorem d76_4 : decode jdk_67_method_42_code 4 = .ok (.aload_n 0, 1) := by decide +kernel
theorem d76_5 : decode jdk_67_method_42_code 5 = .ok (.invokespecial 137, 3) := by decide +kernel
theorem pd77 : parseMethodDescriptor "(Ljava/lang/StringBuilder;)V" = some ⟨[(.object "java/lang/StringBuilder")], none⟩ := by decide +kernel
theorem d76_8 : decode jdk_67_method_42_code 8 = .ok (.areturn, 1) := by decide +kernel
set_option maxRecDepth 65536 in
set_option maxHeartbeats 40000000 in
theorem con_btsL (G : Gx) (H : Hyp G) (b ar K : Nat) (kc : ClassId) (cs : List Int32) (h : Heap) (ho : Old G.Z G.n0 h) (B : SBL G.Z h b ar kc K cs) (hlat : ∀ c ∈ cs, ¬ c < 0 ∧ ¬ (255 : Int32) < c) (hn : 1 ≤ cs.length ∧ cs.length ≤ 18 ∧ K ≤ 34) :
    Con G (⟨"java/lang/StringBuilder", "toString", "()Ljava/lang/String;"⟩ : MethodName) jdk_67_method_42_code 1 (some (.object "java/lang/String")) [] ({ frames := 5, cells := 2, slots := 72, locals := 79 } : Room) #[(.ref b)] h (vQ fun v h' => ∃ r : Nat, v = .ref r ∧ Ext h h' ∧ h.size ≤ r ∧ StrAt G.Z h' r 0 cs) := by
  refine Con.intro H.el ho (plainFor_of_name pn28) (Ls := #[.val (.ref b)]) (fun m => by first | (simp [entryFrame, mkF, argsToLocals, Value.category]; done) | rfl) ?_
  intro X vm T w
  refine w.newO (q := 3) d76_0 (H.tw 111 rfl) (H.tw 3 rfl) (H.tw 4 rfl) (by decide) (by decide) rfl fun T1 h1 b1 e1 w1 E1 A1 D1 U1 => ?_
  have lt1 : b1 < h1.size := A1.lt
  have sz1 : h.size ≤ h1.size := E1.1
  have F1_value : Fld G.Z h1 b1 "java/lang/String" "value" "[B" .null := D1 (Or.inr (H.tw 30 rfl)) (ty := (.array .byte)) (by decide)
  have F1_coder : Fld G.Z h1 b1 "java/lang/String" "coder" "B" (.int (0 : Int32)) := D1 (Or.inr (H.tw 28 rfl)) (ty := .byte) (by decide)
  have g1 : G.n0 ≤ b1 := by have := ho.2.1; have := ho.1; omega
  refine w1.dup (q := 4) d76_3 rfl rfl ?_
  refine w1.aloadN (q := 5) d76_4 rfl rfl rfl ?_
  refine w1.callC (q := 8) d76_5 rfl (H.tw 112 rfl) (H.tw 113 rfl) (H.tw 114 rfl) (by decide) (a := b1) (argsL := [(.ref b)]) (rest := [(.ref b1)]) rfl (lenOf pd77 rfl) rfl (W := 1) (Nat.le_of_eq rfl) ((con_si1L G H b1 b ar K kc cs h1 w1.old A1 F1_value F1_coder g1 (B.ext E1) hlat hn).pay w1 (H.tw 114 rfl) (H.tw 4 rfl) (by decide) (by decide)) (by decide) (by decide) rfl fun vm2 T2 h2 v2 w2 q2 => ?_
  obtain ⟨rfl, K2, S2⟩ := q2
  show Go _ _ _ _ (T2.setTop (mkF X.m 8 #[.val (.ref b)] [(.ref b1)]))
  have X2 : Ext h h2 := xkp E1 K2 (all1 (by omega))
  exact w2.retA d76_8 (t := (.object "java/lang/String")) rfl rfl rfl (by decide) (by decide) ⟨_, rfl, b1, rfl, X2, by omega, S2⟩
theorem d72_41 : decode jdk_42_method_150_code 41 = .ok (.getstatic 38, 3) := by decide +kernel
theorem d72_44 : decode jdk_42_method_150_code 44 = .ok (.ifCond .eq 35, 3) := by decide +kernel
theorem d72_47 : decode jdk_42_method_150_code 47 = .ok (.aload_n 1, 1) := by decide +kernel
theorem d72_48 : decode jdk_42_method_150_code 48 = .ok (.getfield 1048, 3) := by decide +kernel
theorem d72_51 : decode jdk_42_method_150_code 51 = .ok (.ifCond .eq 28, 3) := by decide +kernel
theorem d72_79 : decode jdk_42_method_150_code 79 = .ok (.aload_n 0, 1) := by decide +kernel
theorem d72_80 : decode jdk_42_method_150_code 80 = .ok (.iconst 1, 1) := by decide +kernel
theorem d72_81 : decode jdk_42_method_150_code 81 = .ok (.putfield 15, 3) := by decide +kernel
theorem d72_84 : decode jdk_42_method_150_code 84 = .ok (.aload_n 0, 1) := by decide +kernel
theorem d72_85 : decode jdk_42_method_150_code 85 = .ok (.aload_n 3, 1) := by decide +kernel
theorem d72_86 : decode jdk_42_method_150_code 86 = .ok (.iconst 0, 1) := by decide +kernel
theorem d72_87 : decode jdk_42_method_150_code 87 = .ok (.iload 4, 2) := by decide +kernel
theorem d72_89 : decode jdk_42_method_150_code 89 = .ok (.iconst 1, 1) := by decide +kernel
theorem d72_90 : decode jdk_42_method_150_code 90 = .ok (.ishl, 1) := by decide +kernel
theorem d72_91 : decode jdk_42_method_150_code 91 = .ok (.invokestatic 54, 3) := by decide +kernel
theorem d72_94 : decode jdk_42_method_150_code 94 = .ok (.putfield 9, 3) := by decide +kernel
set_option maxRecDepth 65536 in
set_option maxHeartbeats 40000000 in
theorem con_si2U (G : Gx) (H : Hyp G) (x b ar K : Nat) (kc : ClassId) (cs : List Int32) (h : Heap) (ho : Old G.Z G.n0 h) (E : Exa G.Z h x "java/lang/String") (V : Fld G.Z h x "java/lang/String" "value" "[B" .null) (Cc : Fld G.Z h x "java/lang/String" "coder" "B" (.int (0 : Int32))) (g : G.n0 ≤ x) (B : SBU G.Z h b ar kc K cs) (hb : ∀ c ∈ cs, ¬ c < 0 ∧ ¬ (65535 : Int32) < c) (hex : ∃ c ∈ cs, (255 : Int32) < c) (hn : 1 ≤ cs.length ∧ cs.length ≤ 18 ∧ K ≤ 34) :
    Con G (⟨"java/lang/String", "<init>", "(Ljava/lang/AbstractStringBuilder;Ljava/lang/Void;)V"⟩ : MethodName) jdk_42_method_150_code 5 none [] ({ frames := 3, cells := 1, slots := 68, locals := 49 } : Room) #[(.ref x), (.ref b), .null] h (nQ fun h' => Keep h h' [x] ∧ StrAt G.Z h' x 1 cs) := by
  refine Con.intro H.el ho (plainFor_of_name pn1) (Ls := #[.val (.ref x), .val (.ref b), .val .null, .unset, .unset]) (fun m => by first | (simp [entryFrame, mkF, argsToLocals, Value.category]; done) | rfl) ?_
  intro X vm T w
  have ltx : x < h.size := E.lt
  obtain ⟨cz, nz, Sz⟩ := H.cz
  obtain ⟨tl, htl, Eb, Fv, Fc, Fn, Fm, Ya, A⟩ := B
  have nxa : x ≠ ar := Exa.neArv E A (H.tw 3 rfl)
  have lw := wlen cs
  refine w.aloadN (q := 1) d72_0 rfl rfl rfl ?_
  refine w.initO (q := 4) (W := 0) d72_1 (H.tw 12 rfl) (H.tw 13 rfl) (H.tw 14 rfl) rfl (by decide) (Nat.le_of_eq rfl) (by decide) rfl fun T1 w1 => ?_
  refine w1.aloadN (q := 5) d72_4 rfl rfl rfl ?_
  refine w1.callV (q := 8) d72_5 (H.tw 118 rfl) (H.tw 119 rfl) (notFace_of_selects (C := "java/lang/StringBuilder") (args := G.a0) (H.tw 121 rfl)) (H.tw 121 rfl) (H.tw 120 rfl) (by decide) Eb (argsL := []) (rest := []) rfl (lenOf pd73 rfl) rfl (W := 0) (Nat.le_of_eq rfl) ((con_gv G H b (.ref ar) rfl h w1.old Fv).pay w1 (H.tw 122 rfl) (H.tw 48 rfl) (by decide) (by decide)) (by decide) (by decide) rfl fun vm2 T2 h2 v2 w2 q2 => ?_
  obtain ⟨_, rfl, rfl, rfl⟩ := q2
  show Go _ _ _ _ (T2.setTop (mkF X.m 8 #[.val (.ref x), .val (.ref b), .val .null, .unset, .unset] [(.ref ar)]))
  refine w2.astoreN (q := 9) (L2 := #[.val (.ref x), .val (.ref b), .val .null, .val (.ref ar), .unset]) d72_8 rfl rfl rfl ?_
  refine w2.aloadN (q := 10) d72_9 rfl rfl rfl ?_
  refine w2.callV (q := 13) d72_10 (H.tw 123 rfl) (H.tw 124 rfl) (notFace_of_cls (H.tw 84 rfl) rfl) (H.tw 126 rfl) (H.tw 127 rfl) (by decide) Eb (argsL := []) (rest := []) rfl (lenOf pd60 rfl) rfl (W := 0) (Nat.le_of_eq rfl) ((con_sln G H b _ h w2.old Eb Fn).pay w2 (H.tw 128 rfl) (H.tw 40 rfl) (by decide) (by decide)) (by decide) (by decide) rfl fun vm3 T3 h3 v3 w3 q3 => ?_
  obtain ⟨_, rfl, rfl, rfl⟩ := q3
  show Go _ _ _ _ (T3.setTop (mkF X.m 13 #[.val (.ref x), .val (.ref b), .val .null, .val (.ref ar), .unset] [(.int (Int32.ofNat cs.length))]))
  refine w3.istore (q := 15) (L2 := #[.val (.ref x), .val (.ref b), .val .null, .val (.ref ar), .val (.int (Int32.ofNat cs.length))]) d72_13 rfl rfl ?_
  refine w3.aloadN (q := 16) d72_15 rfl rfl rfl ?_
  refine w3.callV (q := 19) d72_16 (H.tw 131 rfl) (H.tw 132 rfl) (notFace_of_selects (C := "java/lang/StringBuilder") (args := G.a0) (H.tw 134 rfl)) (H.tw 134 rfl) (H.tw 133 rfl) (by decide) Eb (argsL := []) (rest := []) rfl (lenOf pd51 rfl) rfl (W := 0) (Nat.le_of_eq rfl) ((con_blat1 G H b h w3.old Fc).pay w3 (H.tw 135 rfl) (H.tw 48 rfl) (by decide) (by decide)) (by decide) (by decide) rfl fun vm4 T4 h4 v4 w4 q4 => ?_
  obtain ⟨_, rfl, rfl, rfl⟩ := q4
  show Go _ _ _ _ (T4.setTop (mkF X.m 19 #[.val (.ref x), .val (.ref b), .val .null, .val (.ref ar), .val (.int (Int32.ofNat cs.length))] [(.int (0 : Int32))]))
  refine w4.ifY (q := 41) d72_19 ((if0 _ _).trans (teq rfl).1) (by decide) (by decide) ?_
  refine w4.getS (q := 44) d72_41 (H.tw 15 rfl) Via.refl Sz rfl fun T5 w5 => ?_
  refine w5.ifN (q := 47) d72_44 ((if0 _ _).trans (feq nz).1) rfl ?_
  refine w5.aloadN (q := 48) d72_47 rfl rfl rfl ?_
  refine w5.getF (q := 51) d72_48 (H.tw 304 rfl) Via.refl Fm rfl fun T6 w6 => ?_
  refine w6.ifY (q := 79) d72_51 ((if0 _ _).trans (teq rfl).1) (by decide) (by decide) ?_
  refine w6.aloadN (q := 80) d72_79 rfl rfl rfl ?_
  refine w6.iconst (q := 81) (1 : Int32) d72_80 rfl rfl ?_
  refine w6.putF (q := 84) d72_81 (H.tw 27 rfl) Via.refl Cc E (Or.inr ⟨(H.tw 28 rfl), rfl, rfl⟩) (H.tw 3 rfl) (ty := .byte) (by decide) rfl rfl g (w6.sfB E V) rfl fun T7 h7 w7 W7 sf7 => ?_
  have sz7 : h.size ≤ h7.size := (Keep.of_wr W7).1
  replace E := E.wr W7
  replace V := V.other W7 (Or.inr (slot_ne (Or.inr (H.tw 30 rfl)) (Or.inr (H.tw 28 rfl)) (by decide) (t := (.array .byte)) (t' := .byte) (by decide) (by decide)))
  have C2 := Cc.same W7
  replace A := A.other W7 (Ne.symm nxa)
  replace Ya := Ya.wr W7
  refine w7.aloadN (q := 85) d72_84 rfl rfl rfl ?_
  refine w7.aloadN (q := 86) d72_85 rfl rfl rfl ?_
  refine w7.iconst (q := 87) (0 : Int32) d72_86 rfl rfl ?_
  refine w7.iload (q := 89) d72_87 rfl rfl ?_
  refine w7.iconst (q := 90) (1 : Int32) d72_89 rfl rfl ?_
  refine w7.ishl (q := 91) d72_90 rfl ?_
  rw [show ((Int32.ofNat cs.length) <<< ((1 : Int32) &&& 31)) = (Int32.ofNat (2 * cs.length)) from shl1 (by omega)]
  refine w7.callS (q := 94) d72_91 (H.tw 136 rfl) (H.tw 137 rfl) (H.tw 138 rfl) (H.tw 139 rfl) (by decide) (argsL := [(.ref ar), (.int (0 : Int32)), (.int (Int32.ofNat (2 * cs.length)))]) (rest := [(.ref x)]) rfl (lenOf pd68 rfl) rfl (W := 1) (Nat.le_of_eq rfl) ((con_cr G H ar (2 * cs.length) (2 * K) kc _ h7 w7.old A (by rw [List.length_append, lw]; exact htl) (by omega) Ya).pay w7 (H.tw 139 rfl) (H.tw 138 rfl) (by decide) (by decide)) (by decide) (by decide) rfl fun vm8 T8 h8 v8 w8 q8 => ?_
  obtain ⟨_, rfl, ⟨t8, kt8, rfl, X8, z8, A8⟩⟩ := q8
  show Go _ _ _ _ (T8.setTop (mkF X.m 94 #[.val (.ref x), .val (.ref b), .val .null, .val (.ref ar), .val (.int (Int32.ofNat cs.length))] [(.ref t8), (.ref x)]))
  replace E := E.ext X8
  replace V := V.ext X8
  replace C2 := C2.ext X8
  refine w8.putF (q := 97) d72_94 (H.tw 29 rfl) Via.refl V E (Or.inr ⟨(H.tw 30 rfl), rfl, rfl⟩) (H.tw 3 rfl) (ty := (.array .byte)) (by decide) rfl rfl g (w8.sfB E V) rfl fun T9 h9 w9 W9 sf9 => ?_
  have sz9 : h8.size ≤ h9.size := (Keep.of_wr W9).1
  replace E := E.wr W9
  replace C2 := C2.other W9 (Or.inr (slot_ne (Or.inr (H.tw 28 rfl)) (Or.inr (H.tw 30 rfl)) (by decide) (t := .byte) (t' := (.array .byte)) (by decide) (by decide)))
  have V2 := V.same W9
  replace A8 := A8.other W9 (neN (by have := sz7; omega))
  have K1 : Keep h h9 [x] := ((Keep.of_wr W7).ext X8).wr W9 (Or.inl (List.mem_singleton.mpr rfl))
  rw [lat_map_wide_take] at A8
  exact w9.retV d72_97 rfl (by decide) (by decide) ⟨rfl, K1, t8, kt8, _, _, E, V2, C2, A8, Or.inr ⟨rfl, rfl, rfl, hex⟩, hb, by omega⟩
set_option maxRecDepth 65536 in
set_option maxHeartbeats 40000000 in
theorem con_si1U (G : Gx) (H : Hyp G) (x b ar K : Nat) (kc : ClassId) (cs : List Int32) (h : Heap) (ho : Old G.Z G.n0 h) (E : Exa G.Z h x "java/lang/String") (V : Fld G.Z h x "java/lang/String" "value" "[B" .null) (Cc : Fld G.Z h x "java/lang/String" "coder" "B" (.int (0 : Int32))) (g : G.n0 ≤ x) (B : SBU G.Z h b ar kc K cs) (hb : ∀ c ∈ cs, ¬ c < 0 ∧ ¬ (65535 : Int32) < c) (hex : ∃ c ∈ cs, (255 : Int32) < c) (hn : 1 ≤ cs.length ∧ cs.length ≤ 18 ∧ K ≤ 34) :
    Con G (⟨"java/lang/String", "<init>", "(Ljava/lang/StringBuilder;)V"⟩ : MethodName) jdk_42_method_53_code 2 none [] ({ frames := 4, cells := 1, slots := 68, locals := 65 } : Room) #[(.ref x), (.ref b)] h (nQ fun h' => Keep h h' [x] ∧ StrAt G.Z h' x 1 cs) := by
  refine Con.intro H.el ho (plainFor_of_name pn1) (Ls := #[.val (.ref x), .val (.ref b)]) (fun m => by first | (simp [entryFrame, mkF, argsToLocals, Value.category]; done) | rfl) ?_
  intro X vm T w
  refine w.aloadN (q := 1) d74_0 rfl rfl rfl ?_
  refine w.aloadN (q := 2) d74_1 rfl rfl rfl ?_
  refine w.aconst (q := 3) d74_2 rfl ?_
  refine w.callC (q := 6) d74_3 rfl (H.tw 115 rfl) (H.tw 116 rfl) (H.tw 117 rfl) (by decide) (a := x) (argsL := [(.ref b), .null]) (rest := []) rfl (lenOf pd75 rfl) rfl (W := 0) (Nat.le_of_eq rfl) ((con_si2U G H x b ar K kc cs h ho E V Cc g B hb hex hn).pay w (H.tw 117 rfl) (H.tw 4 rfl) (by decide) (by decide)) (by decide) (by decide) rfl fun vm1 T1 h1 v1 w1 q1 => ?_
  obtain ⟨rfl, K1, S1⟩ := q1
  show Go _ _ _ _ (T1.setTop (mkF X.m 6 #[.val (.ref x), .val (.ref b)] []))
  exact w1.retV d74_6 rfl (by decide) (by decide) ⟨rfl, K1, S1⟩
set_option maxRecDepth 65536 in
set_option maxHeartbeats 40000000 in
theorem con_btsU (G : Gx) (H : Hyp G) (b ar K : Nat) (kc : ClassId) (cs : List Int32) (h : Heap) (ho : Old G.Z G.n0 h) (B : SBU G.Z h b ar kc K cs) (hb : ∀ c ∈ cs, ¬ c < 0 ∧ ¬ (65535 : Int32) < c) (hex : ∃ c ∈ cs, (255 : Int32) < c) (hn : 1 ≤ cs.length ∧ cs.length ≤ 18 ∧ K ≤ 34) :
    Con G (⟨"java/lang/StringBuilder", "toString", "()Ljava/lang/String;"⟩ : MethodName) jdk_67_method_42_code 1 (some (.object "java/lang/String")) [] ({ frames := 5, cells := 2, slots := 72, locals := 79 } : Room) #[(.ref b)] h (vQ fun v h' => ∃ r : Nat, v = .ref r ∧ Ext h h' ∧ h.size ≤ r ∧ StrAt G.Z h' r 1 cs) := by
  refine Con.intro H.el ho (plainFor_of_name pn28) (Ls := #[.val (.ref b)]) (fun m => by first | (simp [entryFrame, mkF, argsToLocals, Value.category]; done) | rfl) ?_
  intro X vm T w
  refine w.newO (q := 3) d76_0 (H.tw 111 rfl) (H.tw 3 rfl) (H.tw 4 rfl) (by decide) (by decide) rfl fun T1 h1 b1 e1 w1 E1 A1 D1 U1 => ?_
  have lt1 : b1 < h1.size := A1.lt
  have sz1 : h.size ≤ h1.size := E1.1
  have F1_value : Fld G.Z h1 b1 "java/lang/String" "value" "[B" .null := D1 (Or.inr (H.tw 30 rfl)) (ty := (.array .byte)) (by decide)
  have F1_coder : Fld G.Z h1 b1 "java/lang/String" "coder" "B" (.int (0 : Int32)) := D1 (Or.inr (H.tw 28 rfl)) (ty := .byte) (by decide)
  have g1 : G.n0 ≤ b1 := by have := ho.2.1; have := ho.1; omega
  refine w1.dup (q := 4) d76_3 rfl rfl ?_
  refine w1.aloadN (q := 5) d76_4 rfl rfl rfl ?_
  refine w1.callC (q := 8) d76_5 rfl (H.tw 112 rfl) (H.tw 113 rfl) (H.tw 114 rfl) (by decide) (a := b1) (argsL := [(.ref b)]) (rest := [(.ref b1)]) rfl (lenOf pd77 rfl) rfl (W := 1) (Nat.le_of_eq rfl) ((con_si1U G H b1 b ar K kc cs h1 w1.old A1 F1_value F1_coder g1 (B.ext E1) hb hex hn).pay w1 (H.tw 114 rfl) (H.tw 4 rfl) (by decide) (by decide)) (by decide) (by decide) rfl fun vm2 T2 h2 v2 w2 q2 => ?_
  obtain ⟨rfl, K2, S2⟩ := q2
  show Go _ _ _ _ (T2.setTop (mkF X.m 8 #[.val (.ref b)] [(.ref b1)]))
  have X2 : Ext h h2 := xkp E1 K2 (all1 (by omega))
  exact w2.retA d76_8 (t := (.object "java/lang/String")) rfl rfl rfl (by decide) (by decide) ⟨_, rfl, b1, rfl, X2, by omega, S2⟩
theorem d78_0 : decode jdk_78_method_2_code 0 = .ok (.aload_n 0, 1) := by decide +kernel
theorem d78_1 : decode jdk_78_method_2_code 1 = .ok (.invokespecial 1, 3) := by decide +kernel
theorem d78_4 : decode jdk_78_method_2_code 4 = .ok (.aload_n 0, 1) := by decide +kernel
theorem d78_5 : decode jdk_78_method_2_code 5 = .ok (.aload_n 0, 1) := by decide +kernel
theorem d78_6 : decode jdk_78_method_2_code 6 = .ok (.putfield 7, 3) := by decide +kernel
theorem d78_9 : decode jdk_78_method_2_code 9 = .ok (.aload_n 0, 1) := by decide +kernel
theorem d78_10 : decode jdk_78_method_2_code 10 = .ok (.getstatic 13, 3) := by decide +kernel
theorem d78_13 : decode jdk_78_method_2_code 13 = .ok (.putfield 17, 3) := by decide +kernel
theorem d78_16 : decode jdk_78_method_2_code 16 = .ok (.aload_n 0, 1) := by decide +kernel
theorem d78_17 : decode jdk_78_method_2_code 17 = .ok (.getstatic 20, 3) := by decide +kernel
theorem d78_20 : decode jdk_78_method_2_code 20 = .ok (.putfield 24, 3) := by decide +kernel
theorem d78_23 : decode jdk_78_method_2_code 23 = .ok (.aload_n 0, 1) := by decide +kernel
theorem d78_24 : decode jdk_78_method_2_code 24 = .ok (.invokevirtual 27, 3) := by decide +kernel
theorem d78_27 : decode jdk_78_method_2_code 27 = .ok (.pop, 1) := by decide +kernel
theorem d78_28 : decode jdk_78_method_2_code 28 = .ok (.aload_n 0, 1) := by decide +kernel
theorem d78_29 : decode jdk_78_method_2_code 29 = .ok (.aload_n 1, 1) := by decide +kernel
theorem d78_30 : decode jdk_78_method_2_code 30 = .ok (.putfield 31, 3) := by decide +kernel
theorem d78_33 : decode jdk_78_method_2_code 33 = .ok (.return_, 1) := by decide +kernel
set_option maxRecDepth 65536 in
set_option maxHeartbeats 40000000 in
theorem con_thi (G : Gx) (H : Hyp G) (a mg : Nat) (h : Heap) (ho : Old G.Z G.n0 h) (E : Exa G.Z h a "java/lang/IllegalArgumentException") (N : Unt h a) (F_cause : Fld G.Z h a "java/lang/Throwable" "cause" "Ljava/lang/Throwable;" .null) (F_stackTrace : Fld G.Z h a "java/lang/Throwable" "stackTrace" "[Ljava/lang/StackTraceElement;" .null) (F_suppressedExceptions : Fld G.Z h a "java/lang/Throwable" "suppressedExceptions" "Ljava/util/List;" .null) (F_backtrace : Fld G.Z h a "java/lang/Throwable" "backtrace" "Ljava/lang/Object;" .null) (F_detailMessage : Fld G.Z h a "java/lang/Throwable" "detailMessage" "Ljava/lang/String;" .null) (g : G.n0 ≤ a) :
    ConK G (⟨"java/lang/Throwable", "<init>", "(Ljava/lang/String;)V"⟩ : MethodName) jdk_78_method_2_code 2 none [] ({ frames := 3, cells := 1, slots := 2752, locals := 42 } : Room) #[.ref a, .ref mg] h (nQ fun h' => Keep h h' [a] ∧ Exa G.Z h' a "java/lang/IllegalArgumentException" ∧ Unt h' a ∧ Fld G.Z h' a "java/lang/Throwable" "detailMessage" "Ljava/lang/String;" (.ref mg) ∧ Fld G.Z h' a "java/lang/Throwable" "cause" "Ljava/lang/Throwable;" (.ref a)) := by
  refine ConK.introS H.el ho (by decide +kernel) (Ls := #[.val (.ref a), .val (.ref mg)]) (fun m => by simp [entryFrame, mkF, argsToLocals, Value.category]) ?_
  intro X T hKn fx S e0 es hZ hown hch
  obtain ⟨-, -, hst, hrf⟩ := H.mo
  obtain ⟨u, eu, ru⟩ := isR_v (Cond.before_iff.mp (hrf _ (List.mem_cons_self ..)))
  obtain ⟨u2, eu2, ru2⟩ := isR_v (Cond.before_iff.mp (hrf _ (List.mem_cons_of_mem _ (List.mem_cons_self ..))))
  have SU : Sta G.Z G.Z.heap "java/lang/Throwable" "UNASSIGNED_STACK" "[Ljava/lang/StackTraceElement;" u := Sta.start eu (Or.inr ⟨(H.tw 168 rfl), (H.tw 199 rfl)⟩)
  have SS : Sta G.Z G.Z.heap "java/lang/Throwable" "SUPPRESSED_SENTINEL" "Ljava/util/List;" u2 := Sta.start eu2 (Or.inr ⟨(H.tw 168 rfl), (H.tw 200 rfl)⟩)
  have fitR : ∀ {v : Value} {n : String}, v.isRef = true → fits (.object n) v = true ∧ narrow (.object n) v = v := fun hv => by rcases ref_cases hv with rfl | ⟨_, rfl⟩ <;> exact ⟨rfl, rfl⟩
  have fitA : ∀ {v : Value} {n : FieldType}, v.isRef = true → fits (.array n) v = true ∧ narrow (.array n) v = v := fun hv => by rcases ref_cases hv with rfl | ⟨_, rfl⟩ <;> exact ⟨rfl, rfl⟩
  have hsz : (#[.val (.ref a), .val (.ref mg)] : Array Slot).size = X.c.maxLocals := fx.2.2.1.symm
  obtain ⟨T0, S0, e0', st0⟩ := Jvm.RoadKit.initO S fx.1 hZ hown (H.tw 170 rfl) (H.tw 13 rfl) (H.tw 14 rfl) e0 (g := mkF X.m 1 #[.val (.ref a), .val (.ref mg)] [.ref a]) rfl hsz (rest := []) rfl (hb fx.2.1 d78_1) (by decide) (W := 0) (Nat.le_refl 0) (by decide)
  obtain ⟨T1, h1, S1, e1, W1, st1⟩ := Jvm.RoadKit.putF (host := "") S0 fx.1 hZ hown (Or.inl (H.tw 171 rfl)) Via.refl e0' F_cause E (Or.inl (H.tw 172 rfl)) (H.tw 36 rfl) (ty := .object "java/lang/Throwable") (by decide) rfl rfl (g := mkF X.m 6 #[.val (.ref a), .val (.ref mg)] [.ref a, .ref a]) rfl (rest := []) rfl (hb fx.2.1 d78_6)
  have E1_ := E.wr W1
  have N1_ := Unt.wr W1 N
  have old1 := ho.wr W1 g
  have G1_cause := F_cause.same W1
  have G1_stackTrace := F_stackTrace.other W1 (Or.inr (slot_ne (Or.inl (H.tw 175 rfl)) (Or.inl (H.tw 172 rfl)) (by decide) (t := (.array (.object "java/lang/StackTraceElement"))) (t' := (.object "java/lang/Throwable")) (by decide) (by decide)))
  have G1_suppressedExceptions := F_suppressedExceptions.other W1 (Or.inr (slot_ne (Or.inl (H.tw 178 rfl)) (Or.inl (H.tw 172 rfl)) (by decide) (t := (.object "java/util/List")) (t' := (.object "java/lang/Throwable")) (by decide) (by decide)))
  have G1_backtrace := F_backtrace.other W1 (Or.inr (slot_ne (Or.inl (H.tw 203 rfl)) (Or.inl (H.tw 172 rfl)) (by decide) (t := (.object "java/lang/Object")) (t' := (.object "java/lang/Throwable")) (by decide) (by decide)))
  have G1_detailMessage := F_detailMessage.other W1 (Or.inr (slot_ne (Or.inl (H.tw 202 rfl)) (Or.inl (H.tw 172 rfl)) (by decide) (t := (.object "java/lang/String")) (t' := (.object "java/lang/Throwable")) (by decide) (by decide)))
  obtain ⟨Tg2, Sg2, eg2, sg2⟩ := Jvm.RoadKit.getS (host := "") S1 fx.1 hZ hown (H.tw 173 rfl) Via.refl e1 (SU.ext old1.2) (g := mkF X.m 10 #[.val (.ref a), .val (.ref mg)] [.ref a]) rfl (hb fx.2.1 d78_10)
  obtain ⟨T2, h2, S2, e2, W2, st2⟩ := Jvm.RoadKit.putF (host := "") Sg2 fx.1 hZ hown (Or.inl (H.tw 174 rfl)) Via.refl eg2 G1_stackTrace E1_ (Or.inl (H.tw 175 rfl)) (H.tw 36 rfl) (ty := .array (.object "java/lang/StackTraceElement")) (by decide) (fitA ru).2 (fitA ru).1 (g := mkF X.m 13 #[.val (.ref a), .val (.ref mg)] [u, .ref a]) rfl (rest := []) rfl (hb fx.2.1 d78_13)
  have E2_ := E1_.wr W2
  have N2_ := Unt.wr W2 N1_
  have old2 := old1.wr W2 g
  have G2_cause := G1_cause.other W2 (Or.inr (slot_ne (Or.inl (H.tw 172 rfl)) (Or.inl (H.tw 175 rfl)) (by decide) (t := (.object "java/lang/Throwable")) (t' := (.array (.object "java/lang/StackTraceElement"))) (by decide) (by decide)))
  have G2_stackTrace := G1_stackTrace.same W2
  have G2_suppressedExceptions := G1_suppressedExceptions.other W2 (Or.inr (slot_ne (Or.inl (H.tw 178 rfl)) (Or.inl (H.tw 175 rfl)) (by decide) (t := (.object "java/util/List")) (t' := (.array (.object "java/lang/StackTraceElement"))) (by decide) (by decide)))
  have G2_backtrace := G1_backtrace.other W2 (Or.inr (slot_ne (Or.inl (H.tw 203 rfl)) (Or.inl (H.tw 175 rfl)) (by decide) (t := (.object "java/lang/Object")) (t' := (.array (.object "java/lang/StackTraceElement"))) (by decide) (by decide)))
  have G2_detailMessage := G1_detailMessage.other W2 (Or.inr (slot_ne (Or.inl (H.tw 202 rfl)) (Or.inl (H.tw 175 rfl)) (by decide) (t := (.object "java/lang/String")) (t' := (.array (.object "java/lang/StackTraceElement"))) (by decide) (by decide)))
  obtain ⟨Tg3, Sg3, eg3, sg3⟩ := Jvm.RoadKit.getS (host := "") S2 fx.1 hZ hown (H.tw 176 rfl) Via.refl e2 (SS.ext old2.2) (g := mkF X.m 17 #[.val (.ref a), .val (.ref mg)] [.ref a]) rfl (hb fx.2.1 d78_17)
  obtain ⟨T3, h3, S3, e3, W3, st3⟩ := Jvm.RoadKit.putF (host := "") Sg3 fx.1 hZ hown (Or.inl (H.tw 177 rfl)) Via.refl eg3 G2_suppressedExceptions E2_ (Or.inl (H.tw 178 rfl)) (H.tw 36 rfl) (ty := .object "java/util/List") (by decide) (fitR ru2).2 (fitR ru2).1 (g := mkF X.m 20 #[.val (.ref a), .val (.ref mg)] [u2, .ref a]) rfl (rest := []) rfl (hb fx.2.1 d78_20)
  have E3_ := E2_.wr W3
  have N3_ := Unt.wr W3 N2_
  have old3 := old2.wr W3 g
  have G3_cause := G2_cause.other W3 (Or.inr (slot_ne (Or.inl (H.tw 172 rfl)) (Or.inl (H.tw 178 rfl)) (by decide) (t := (.object "java/lang/Throwable")) (t' := (.object "java/util/List")) (by decide) (by decide)))
  have G3_stackTrace := G2_stackTrace.other W3 (Or.inr (slot_ne (Or.inl (H.tw 175 rfl)) (Or.inl (H.tw 178 rfl)) (by decide) (t := (.array (.object "java/lang/StackTraceElement"))) (t' := (.object "java/util/List")) (by decide) (by decide)))
  have G3_suppressedExceptions := G2_suppressedExceptions.same W3
  have G3_backtrace := G2_backtrace.other W3 (Or.inr (slot_ne (Or.inl (H.tw 203 rfl)) (Or.inl (H.tw 178 rfl)) (by decide) (t := (.object "java/lang/Object")) (t' := (.object "java/util/List")) (by decide) (by decide)))
  have G3_detailMessage := G2_detailMessage.other W3 (Or.inr (slot_ne (Or.inl (H.tw 202 rfl)) (Or.inl (H.tw 178 rfl)) (by decide) (t := (.object "java/lang/String")) (t' := (.object "java/util/List")) (by decide) (by decide)))
  obtain ⟨T6, n6, s1, s2, s3, cell, C6, S6, hn6, es1, es2, es3, hcell, hD6, c1, c2, c3, c4, come⟩ := fillStep H S3 fx.1 hZ hKn.2.2 hKn.1 hKn.2.1 hown e3 E3_ N3_ G3_backtrace G3_stackTrace ru (SU.ext old3.2) (g := mkF X.m 24 #[.val (.ref a), .val (.ref mg)] [.ref a]) rfl hsz rfl rfl (hb fx.2.1 d78_24) (by decide) (by decide) (by decide) (by decide)
  subst es1 es2 es3
  have bas : ∀ x ∈ ([] ++ [⟨a, Jvm.RoadKit.slotOf G.Z "java/lang/Throwable" "cause" "Ljava/lang/Throwable;"⟩] ++ [⟨a, Jvm.RoadKit.slotOf G.Z "java/lang/Throwable" "stackTrace" "[Ljava/lang/StackTraceElement;"⟩] ++ [⟨a, Jvm.RoadKit.slotOf G.Z "java/lang/Throwable" "suppressedExceptions" "Ljava/util/List;"⟩] ++ [⟨a, Jvm.RoadKit.slotOf G.Z "java/lang/Throwable" "backtrace" "Ljava/lang/Object;"⟩, ⟨a, Jvm.RoadKit.slotOf G.Z "java/lang/Throwable" "depth" "I"⟩, ⟨a, Jvm.RoadKit.slotOf G.Z "java/lang/Throwable" "stackTrace" "[Ljava/lang/StackTraceElement;"⟩] : List Loc), x.base = a := fun x hx => by simp only [List.nil_append, List.cons_append, List.mem_cons, List.not_mem_nil, or_false] at hx; rcases hx with rfl | rfl | rfl | rfl | rfl | rfl <;> rfl
  have K6 : Keep h T6.heap [a] := keep_same S6 es bas
  have D6 := fld_cell G3_detailMessage hcell hD6 c1 c2 (c4 _ (slot_ne (Or.inl (H.tw 202 rfl)) (Or.inl (H.tw 203 rfl)) (by decide) (t := (.object "java/lang/String")) (t' := (.object "java/lang/Object")) (by decide) (by decide)) (slot_ne (Or.inl (H.tw 202 rfl)) (Or.inl (H.tw 204 rfl)) (by decide) (t := (.object "java/lang/String")) (t' := .int) (by decide) (by decide)) (slot_ne (Or.inl (H.tw 202 rfl)) (Or.inl (H.tw 175 rfl)) (by decide) (t := (.object "java/lang/String")) (t' := (.array (.object "java/lang/StackTraceElement"))) (by decide) (by decide)))
  have U6 := fld_cell G3_cause hcell hD6 c1 c2 (c4 _ (slot_ne (Or.inl (H.tw 172 rfl)) (Or.inl (H.tw 203 rfl)) (by decide) (t := (.object "java/lang/Throwable")) (t' := (.object "java/lang/Object")) (by decide) (by decide)) (slot_ne (Or.inl (H.tw 172 rfl)) (Or.inl (H.tw 204 rfl)) (by decide) (t := (.object "java/lang/Throwable")) (t' := .int) (by decide) (by decide)) (slot_ne (Or.inl (H.tw 172 rfl)) (Or.inl (H.tw 175 rfl)) (by decide) (t := (.object "java/lang/Throwable")) (t' := (.array (.object "java/lang/StackTraceElement"))) (by decide) (by decide)))
  have N6 := unt_same S6 es N
  have w6 : Wk G ((⟨"java/lang/Throwable", "<init>", "(Ljava/lang/String;)V"⟩ : MethodName).cls, (⟨"java/lang/Throwable", "<init>", "(Ljava/lang/String;)V"⟩ : MethodName).name, jdk_78_method_2_code, 2, none) ({ frames := 3, cells := 1, slots := 2752, locals := 42 } : Room) X X.s.vm T6 T6.heap 1 2752 := ⟨fx, 0, _, S6.mono (by decide) (by omega), rfl, (State.WarmedH.refl X.s).since 0, Nat.zero_le _, hZ, hown, fun y hy => by rw [bas y hy]; exact g, ho.keep K6 (all1 g), fun b => by rw [es]; exact CHr.keep K6 (all1 (Safe.exa hZ.alike E (by decide) (by decide))) (hch b), fun _ => rfl⟩
  have E6 := E.keep K6
  have fin : Go G ({ frames := 3, cells := 1, slots := 2752, locals := 42 } : Room) X (nQ fun h' => Keep h h' [a] ∧ Exa G.Z h' a "java/lang/IllegalArgumentException" ∧ Unt h' a ∧ Fld G.Z h' a "java/lang/Throwable" "detailMessage" "Ljava/lang/String;" (.ref mg) ∧ Fld G.Z h' a "java/lang/Throwable" "cause" "Ljava/lang/Throwable;" (.ref a)) (T6.setTop (mkF X.m 27 #[.val (.ref a), .val (.ref mg)] [.ref a])) := by
    refine w6.pop (q := 28) d78_27 rfl rfl ?_
    refine w6.aloadN (q := 29) d78_28 rfl rfl rfl ?_
    refine w6.aloadN (q := 30) d78_29 rfl rfl rfl ?_
    refine w6.putF (q := 33) d78_30 (H.tw 206 rfl) Via.refl D6 E6 (Or.inl (H.tw 202 rfl)) (H.tw 36 rfl) (ty := .object "java/lang/String") (by decide) rfl rfl g (w6.sfE E6 (by decide) (by decide)) rfl fun T7 h7 w7 W7 sf7 => ?_
    exact w7.retV d78_33 rfl (by decide) (by decide) ⟨rfl, K6.wr W7 (Or.inl (List.mem_singleton.mpr rfl)), E6.wr W7, Unt.wr W7 N6, D6.same W7, U6.other W7 (Or.inr (slot_ne (Or.inl (H.tw 172 rfl)) (Or.inl (H.tw 202 rfl)) (by decide) (t := (.object "java/lang/Throwable")) (t' := (.object "java/lang/String")) (by decide) (by decide)))⟩
  refine Go.of (fun t r => ?_) fin
  have hx := fx.1
  refine XS.aloadN S.here hx rfl (hb fx.2.1 d78_0) rfl rfl ?_
  refine st0 _ ?_
  refine XS.aloadN S0.here hx rfl (hb fx.2.1 d78_4) rfl rfl ?_
  refine XS.aloadN S0.here hx rfl (hb fx.2.1 d78_5) rfl rfl ?_
  refine st1 _ ?_
  refine XS.aloadN S1.here hx rfl (hb fx.2.1 d78_9) rfl rfl ?_
  refine sg2 _ ?_
  refine st2 _ ?_
  refine XS.aloadN S2.here hx rfl (hb fx.2.1 d78_16) rfl rfl ?_
  refine sg3 _ ?_
  refine st3 _ ?_
  refine XS.aloadN S3.here hx rfl (hb fx.2.1 d78_23) rfl rfl ?_
  exact come.trans r
theorem d79_0 : decode jdk_59_method_2_code 0 = .ok (.aload_n 0, 1) := by decide +kernel
theorem d79_1 : decode jdk_59_method_2_code 1 = .ok (.aload_n 1, 1) := by decide +kernel
theorem d79_2 : decode jdk_59_method_2_code 2 = .ok (.invokespecial 7, 3) := by decide +kernel
theorem d79_5 : decode jdk_59_method_2_code 5 = .ok (.return_, 1) := by decide +kernel
theorem pn80 : plainName "java/lang/Exception" = true := by first | (simp [plainName, overriddenIn]; done) | decide +kernel
set_option maxRecDepth 65536 in
set_option maxHeartbeats 40000000 in
theorem con_exi (G : Gx) (H : Hyp G) (a mg : Nat) (h : Heap) (ho : Old G.Z G.n0 h) (E : Exa G.Z h a "java/lang/IllegalArgumentException") (N : Unt h a) (F_cause : Fld G.Z h a "java/lang/Throwable" "cause" "Ljava/lang/Throwable;" .null) (F_stackTrace : Fld G.Z h a "java/lang/Throwable" "stackTrace" "[Ljava/lang/StackTraceElement;" .null) (F_suppressedExceptions : Fld G.Z h a "java/lang/Throwable" "suppressedExceptions" "Ljava/util/List;" .null) (F_backtrace : Fld G.Z h a "java/lang/Throwable" "backtrace" "Ljava/lang/Object;" .null) (F_detailMessage : Fld G.Z h a "java/lang/Throwable" "detailMessage" "Ljava/lang/String;" .null) (g : G.n0 ≤ a) :
    ConK G (⟨"java/lang/Exception", "<init>", "(Ljava/lang/String;)V"⟩ : MethodName) jdk_59_method_2_code 2 none [] ({ frames := 4, cells := 1, slots := 2752, locals := 55 } : Room) #[(.ref a), (.ref mg)] h (nQ fun h' => Keep h h' [a] ∧ Exa G.Z h' a "java/lang/IllegalArgumentException" ∧ Unt h' a ∧ Fld G.Z h' a "java/lang/Throwable" "detailMessage" "Ljava/lang/String;" (.ref mg) ∧ Fld G.Z h' a "java/lang/Throwable" "cause" "Ljava/lang/Throwable;" (.ref a)) := by
  refine ConK.intro H.el ho (plainFor_of_name pn80) (Ls := #[.val (.ref a), .val (.ref mg)]) (fun m => by first | (simp [entryFrame, mkF, argsToLocals, Value.category]; done) | rfl) ?_
  intro X vm T hKn w
  refine w.aloadN (q := 1) d79_0 rfl rfl rfl ?_
  refine w.aloadN (q := 2) d79_1 rfl rfl rfl ?_
  refine w.callC (q := 5) d79_2 rfl (H.tw 164 rfl) (H.tw 165 rfl) (H.tw 169 rfl) (by decide) (a := a) (argsL := [(.ref mg)]) (rest := []) rfl (lenOf pd57 rfl) rfl (W := 0) (Nat.le_of_eq rfl) ((con_thi G H a mg h ho E N F_cause F_stackTrace F_suppressedExceptions F_backtrace F_detailMessage g).pay H.wd w hKn (H.tw 169 rfl) (H.tw 168 rfl) (by decide) (by decide)) (by decide) (by decide) rfl fun vm1 T1 h1 v1 w1 q1 => ?_
  obtain ⟨rfl, R1⟩ := q1
  show Go _ _ _ _ (T1.setTop (mkF X.m 5 #[.val (.ref a), .val (.ref mg)] []))
  exact w1.retV d79_5 rfl (by decide) (by decide) ⟨rfl, R1⟩
theorem d81_0 : decode jdk_58_method_2_code 0 = .ok (.aload_n 0, 1) := by decide +kernel
theorem d81_1 : decode jdk_58_method_2_code 1 = .ok (.aload_n 1, 1) := by decide +kernel
theorem d81_2 : decode jdk_58_method_2_code 2 = .ok (.invokespecial 7, 3) := by decide +kernel
theorem d81_5 : decode jdk_58_method_2_code 5 = .ok (.return_, 1) := by decide +kernel
theorem pn82 : plainName "java/lang/RuntimeException" = true := by first | (simp [plainName, overriddenIn]; done) | decide +kernel
set_option maxRecDepth 65536 in
set_option maxHeartbeats 40000000 in
theorem con_rti (G : Gx) (H : Hyp G) (a mg : Nat) (h : Heap) (ho : Old G.Z G.n0 h) (E : Exa G.Z h a "java/lang/IllegalArgumentException") (N : Unt h a) (F_cause : Fld G.Z h a "java/lang/Throwable" "cause" "Ljava/lang/Throwable;" .null) (F_stackTrace : Fld G.Z h a "java/lang/Throwable" "stackTrace" "[Ljava/lang/StackTraceElement;" .null) (F_suppressedExceptions : Fld G.Z h a "java/lang/Throwable" "suppressedExceptions" "Ljava/util/List;" .null) (F_backtrace : Fld G.Z h a "java/lang/Throwable" "backtrace" "Ljava/lang/Object;" .null) (F_detailMessage : Fld G.Z h a "java/lang/Throwable" "detailMessage" "Ljava/lang/String;" .null) (g : G.n0 ≤ a) :
    ConK G (⟨"java/lang/RuntimeException", "<init>", "(Ljava/lang/String;)V"⟩ : MethodName) jdk_58_method_2_code 2 none [] ({ frames := 5, cells := 1, slots := 2752, locals := 68 } : Room) #[(.ref a), (.ref mg)] h (nQ fun h' => Keep h h' [a] ∧ Exa G.Z h' a "java/lang/IllegalArgumentException" ∧ Unt h' a ∧ Fld G.Z h' a "java/lang/Throwable" "detailMessage" "Ljava/lang/String;" (.ref mg) ∧ Fld G.Z h' a "java/lang/Throwable" "cause" "Ljava/lang/Throwable;" (.ref a)) := by
  refine ConK.intro H.el ho (plainFor_of_name pn82) (Ls := #[.val (.ref a), .val (.ref mg)]) (fun m => by first | (simp [entryFrame, mkF, argsToLocals, Value.category]; done) | rfl) ?_
  intro X vm T hKn w
  refine w.aloadN (q := 1) d81_0 rfl rfl rfl ?_
  refine w.aloadN (q := 2) d81_1 rfl rfl rfl ?_
  refine w.callC (q := 5) d81_2 rfl (H.tw 158 rfl) (H.tw 159 rfl) (H.tw 163 rfl) (by decide) (a := a) (argsL := [(.ref mg)]) (rest := []) rfl (lenOf pd57 rfl) rfl (W := 0) (Nat.le_of_eq rfl) ((con_exi G H a mg h ho E N F_cause F_stackTrace F_suppressedExceptions F_backtrace F_detailMessage g).pay H.wd w hKn (H.tw 163 rfl) (H.tw 162 rfl) (by decide) (by decide)) (by decide) (by decide) rfl fun vm1 T1 h1 v1 w1 q1 => ?_
  obtain ⟨rfl, R1⟩ := q1
  show Go _ _ _ _ (T1.setTop (mkF X.m 5 #[.val (.ref a), .val (.ref mg)] []))
  exact w1.retV d81_5 rfl (by decide) (by decide) ⟨rfl, R1⟩
theorem d83_0 : decode jdk_57_method_2_code 0 = .ok (.aload_n 0, 1) := by decide +kernel
theorem d83_1 : decode jdk_57_method_2_code 1 = .ok (.aload_n 1, 1) := by decide +kernel
theorem d83_2 : decode jdk_57_method_2_code 2 = .ok (.invokespecial 7, 3) := by decide +kernel
theorem d83_5 : decode jdk_57_method_2_code 5 = .ok (.return_, 1) := by decide +kernel
theorem pn84 : plainName "java/lang/IllegalArgumentException" = true := by first | (simp [plainName, overriddenIn]; done) | decide +kernel
set_option maxRecDepth 65536 in
set_option maxHeartbeats 40000000 in
theorem con_iai (G : Gx) (H : Hyp G) (a mg : Nat) (h : Heap) (ho : Old G.Z G.n0 h) (E : Exa G.Z h a "java/lang/IllegalArgumentException") (N : Unt h a) (F_cause : Fld G.Z h a "java/lang/Throwable" "cause" "Ljava/lang/Throwable;" .null) (F_stackTrace : Fld G.Z h a "java/lang/Throwable" "stackTrace" "[Ljava/lang/StackTraceElement;" .null) (F_suppressedExceptions : Fld G.Z h a "java/lang/Throwable" "suppressedExceptions" "Ljava/util/List;" .null) (F_backtrace : Fld G.Z h a "java/lang/Throwable" "backtrace" "Ljava/lang/Object;" .null) (F_detailMessage : Fld G.Z h a "java/lang/Throwable" "detailMessage" "Ljava/lang/String;" .null) (g : G.n0 ≤ a) :
    ConK G (⟨"java/lang/IllegalArgumentException", "<init>", "(Ljava/lang/String;)V"⟩ : MethodName) jdk_57_method_2_code 2 none [] ({ frames := 6, cells := 1, slots := 2752, locals := 81 } : Room) #[(.ref a), (.ref mg)] h (nQ fun h' => Keep h h' [a] ∧ Exa G.Z h' a "java/lang/IllegalArgumentException" ∧ Unt h' a ∧ Fld G.Z h' a "java/lang/Throwable" "detailMessage" "Ljava/lang/String;" (.ref mg) ∧ Fld G.Z h' a "java/lang/Throwable" "cause" "Ljava/lang/Throwable;" (.ref a)) := by
  refine ConK.intro H.el ho (plainFor_of_name pn84) (Ls := #[.val (.ref a), .val (.ref mg)]) (fun m => by first | (simp [entryFrame, mkF, argsToLocals, Value.category]; done) | rfl) ?_
  intro X vm T hKn w
  refine w.aloadN (q := 1) d83_0 rfl rfl rfl ?_
  refine w.aloadN (q := 2) d83_1 rfl rfl rfl ?_
  refine w.callC (q := 5) d83_2 rfl (H.tw 152 rfl) (H.tw 153 rfl) (H.tw 157 rfl) (by decide) (a := a) (argsL := [(.ref mg)]) (rest := []) rfl (lenOf pd57 rfl) rfl (W := 0) (Nat.le_of_eq rfl) ((con_rti G H a mg h ho E N F_cause F_stackTrace F_suppressedExceptions F_backtrace F_detailMessage g).pay H.wd w hKn (H.tw 157 rfl) (H.tw 156 rfl) (by decide) (by decide)) (by decide) (by decide) rfl fun vm1 T1 h1 v1 w1 q1 => ?_
  obtain ⟨rfl, R1⟩ := q1
  show Go _ _ _ _ (T1.setTop (mkF X.m 5 #[.val (.ref a), .val (.ref mg)] []))
  exact w1.retV d83_5 rfl (by decide) (by decide) ⟨rfl, R1⟩
theorem d85_0 : decode prog_25_method_3_code 0 = .ok (.new 13, 3) := by decide +kernel
theorem d85_3 : decode prog_25_method_3_code 3 = .ok (.dup, 1) := by decide +kernel
theorem d85_4 : decode prog_25_method_3_code 4 = .ok (.new 15, 3) := by decide +kernel
theorem d85_7 : decode prog_25_method_3_code 7 = .ok (.dup, 1) := by decide +kernel
theorem d85_8 : decode prog_25_method_3_code 8 = .ok (.invokespecial 17, 3) := by decide +kernel
theorem d85_11 : decode prog_25_method_3_code 11 = .ok (.ldc 37, 2) := by decide +kernel
theorem d85_13 : decode prog_25_method_3_code 13 = .ok (.invokevirtual 18, 3) := by decide +kernel
theorem pd86 : parseMethodDescriptor "(Ljava/lang/String;)Ljava/lang/StringBuilder;" = some ⟨[(.object "java/lang/String")], some (.object "java/lang/StringBuilder")⟩ := by decide +kernel
theorem d85_16 : decode prog_25_method_3_code 16 = .ok (.aload_n 0, 1) := by decide +kernel
theorem d85_17 : decode prog_25_method_3_code 17 = .ok (.invokevirtual 18, 3) := by decide +kernel
theorem d85_20 : decode prog_25_method_3_code 20 = .ok (.invokevirtual 24, 3) := by decide +kernel
theorem pd87 : parseMethodDescriptor "()Ljava/lang/String;" = some ⟨[], some (.object "java/lang/String")⟩ := by decide +kernel
theorem d85_23 : decode prog_25_method_3_code 23 = .ok (.invokespecial 28, 3) := by decide +kernel
theorem d85_26 : decode prog_25_method_3_code 26 = .ok (.areturn, 1) := by decide +kernel
theorem pn88 : plainName "com/example/scodi/scodi/launcher/Options" = true := by first | (simp [plainName, overriddenIn]; done) | decide +kernel
set_option maxRecDepth 65536 in
set_option maxHeartbeats 40000000 in
theorem con_uo (G : Gx) (H : Hyp G) (s : Nat) (cd : Int32) (ds : List Int32) (h : Heap) (ho : Old G.Z G.n0 h) (S : StrAt G.Z h s cd ds) (hcd : cd = 0 ∨ cd = 1) (hd : ds.length ≤ 3) :
    ConK G (⟨"com/example/scodi/scodi/launcher/Options", "unknownOption", "(Ljava/lang/String;)Ljava/lang/IllegalArgumentException;"⟩ : MethodName) prog_25_method_3_code 1 (some (.object "java/lang/IllegalArgumentException")) [] ({ frames := 10, cells := 10, slots := 3016, locals := 145 } : Room) #[(.ref s)] h (vQ fun v h' => ∃ (r mg : Nat) (cd2 : Int32), v = .ref r ∧ Ext h h' ∧ Exa G.Z h' r "java/lang/IllegalArgumentException" ∧ Unt h' r ∧ Fld G.Z h' r "java/lang/Throwable" "detailMessage" "Ljava/lang/String;" (.ref mg) ∧ Fld G.Z h' r "java/lang/Throwable" "cause" "Ljava/lang/Throwable;" (.ref r) ∧ StrAt G.Z h' mg cd2 (UO ++ ds)) := by
  refine ConK.intro H.el ho (plainFor_of_name pn88) (Ls := #[.val (.ref s)]) (fun m => by first | (simp [entryFrame, mkF, argsToLocals, Value.category]; done) | rfl) ?_
  intro X vm T hKn w
  have no := ho.2.1
  have no2 := ho.1
  refine w.newO (q := 3) d85_0 (H.tw 35 rfl) (H.tw 36 rfl) (H.tw 37 rfl) (by decide) (by decide) rfl fun T1 h1 b1 e1 w1 E1 A1 D1 U1 => ?_
  have lt1 : b1 < h1.size := A1.lt
  have sz1 : h.size ≤ h1.size := E1.1
  have F1_cause : Fld G.Z h1 b1 "java/lang/Throwable" "cause" "Ljava/lang/Throwable;" .null := D1 (Or.inl (H.tw 172 rfl)) (ty := (.object "java/lang/Throwable")) (by decide)
  have F1_stackTrace : Fld G.Z h1 b1 "java/lang/Throwable" "stackTrace" "[Ljava/lang/StackTraceElement;" .null := D1 (Or.inl (H.tw 175 rfl)) (ty := (.array (.object "java/lang/StackTraceElement"))) (by decide)
  have F1_suppressedExceptions : Fld G.Z h1 b1 "java/lang/Throwable" "suppressedExceptions" "Ljava/util/List;" .null := D1 (Or.inl (H.tw 178 rfl)) (ty := (.object "java/util/List")) (by decide)
  have F1_backtrace : Fld G.Z h1 b1 "java/lang/Throwable" "backtrace" "Ljava/lang/Object;" .null := D1 (Or.inl (H.tw 203 rfl)) (ty := (.object "java/lang/Object")) (by decide)
  have F1_detailMessage : Fld G.Z h1 b1 "java/lang/Throwable" "detailMessage" "Ljava/lang/String;" .null := D1 (Or.inl (H.tw 202 rfl)) (ty := (.object "java/lang/String")) (by decide)
  have ge : G.n0 ≤ b1 := by omega
  refine w1.dup (q := 4) d85_3 rfl rfl ?_
  refine w1.newO (q := 7) d85_4 (H.tw 38 rfl) (H.tw 39 rfl) (H.tw 40 rfl) (by decide) (by decide) rfl fun T2 h2 b2 e2 w2 E2 A2 D2 U2 => ?_
  have lt2 : b2 < h2.size := A2.lt
  have sz2 : h1.size ≤ h2.size := E2.1
  have F2_value : Fld G.Z h2 b2 "java/lang/AbstractStringBuilder" "value" "[B" .null := D2 (Or.inl (H.tw 53 rfl)) (ty := (.array .byte)) (by decide)
  have F2_coder : Fld G.Z h2 b2 "java/lang/AbstractStringBuilder" "coder" "B" (.int (0 : Int32)) := D2 (Or.inl (H.tw 55 rfl)) (ty := .byte) (by decide)
  have F2_count : Fld G.Z h2 b2 "java/lang/AbstractStringBuilder" "count" "I" (.int (0 : Int32)) := D2 (Or.inl (H.tw 80 rfl)) (ty := .int) (by decide)
  have F2_maybeLatin1 : Fld G.Z h2 b2 "java/lang/AbstractStringBuilder" "maybeLatin1" "Z" (.int (0 : Int32)) := D2 (Or.inl (H.tw 305 rfl)) (ty := .boolean) (by decide)
  have gb : G.n0 ≤ b2 := by omega
  refine w2.dup (q := 8) d85_7 rfl rfl ?_
  refine w2.callC (q := 11) d85_8 rfl (H.tw 41 rfl) (H.tw 42 rfl) (H.tw 43 rfl) (by decide) (a := b2) (argsL := []) (rest := [(.ref b2), (.ref b1), (.ref b1)]) rfl (lenOf pd54 rfl) rfl (W := 3) (Nat.le_of_eq rfl) ((con_sb G H b2 h2 w2.old A2 F2_value F2_coder F2_count F2_maybeLatin1 gb).pay w2 (H.tw 43 rfl) (H.tw 40 rfl) (by decide) (by decide)) (by decide) (by decide) rfl fun vm3 T3 h3 v3 w3 q3 => ?_
  obtain ⟨rfl, K3, ar, kc, za, B3⟩ := q3
  show Go _ _ _ _ (T3.setTop (mkF X.m 11 #[.val (.ref s)] [(.ref b2), (.ref b1), (.ref b1)]))
  have sz3 : h2.size ≤ h3.size := K3.1
  have ga : G.n0 ≤ ar := by omega
  have xe3 : Ext h1 h3 := xkp E2 K3 (all1 (by omega))
  refine w3.ldcS (q := 13) (sz := 60) (vs := [(.int (117 : Int32)), (.int (110 : Int32)), (.int (107 : Int32)), (.int (110 : Int32)), (.int (111 : Int32)), (.int (119 : Int32)), (.int (110 : Int32)), (.int (32 : Int32)), (.int (111 : Int32)), (.int (112 : Int32)), (.int (116 : Int32)), (.int (105 : Int32)), (.int (111 : Int32)), (.int (110 : Int32)), (.int (32 : Int32))]) (z := 15) d85_11 H.wd (H.tw 56 rfl) H.sa (H.mem (by decide)) ⟨by decide, rfl⟩ (by decide) rfl (by decide) (by decide) (by decide) (by decide) rfl fun vm4 T4 h4 a4 bb4 kb4 w4 X4 ch4 A1_4 A2_4 A3_4 A4_4 => ?_
  have sz4 : h3.size ≤ h4.size := X4.1
  have S4 : StrAt G.Z h4 a4 0 [117, 110, 107, 110, 111, 119, 110, 32, 111, 112, 116, 105, 111, 110, 32] := StrAt.lit _ A1_4 A2_4 A3_4 A4_4 rfl rfl (by decide) (by decide)
  have xe4 := xtr xe3 X4
  refine w4.callV (q := 16) d85_13 (H.tw 59 rfl) (H.tw 60 rfl) (notFace_of_selects (C := "java/lang/StringBuilder") (args := G.a0) (H.tw 62 rfl)) (H.tw 62 rfl) (H.tw 61 rfl) (by decide) (B3.ext X4).exa (argsL := [(.ref a4)]) (rest := [(.ref b1), (.ref b1)]) rfl (lenOf pd86 rfl) rfl (W := 2) (Nat.le_of_eq rfl) ((con_sp0 G H b2 a4 ar kc [] UO h4 w4.old (B3.ext X4) S4 gb ga (by decide)).pay w4 (H.tw 63 rfl) (H.tw 40 rfl) (by decide) (by decide)) (by decide) (by decide) rfl fun vm5 T5 h5 v5 w5 q5 => ?_
  obtain ⟨_, rfl, rfl, K5, B1⟩ := q5
  show Go _ _ _ _ (T5.setTop (mkF X.m 16 #[.val (.ref s)] [(.ref b2), (.ref b1), (.ref b1)]))
  have sz5 := K5.1
  replace B1 : SBL G.Z h5 b2 ar kc 16 UO := B1
  have xe5 : Ext h1 h5 := xkp xe4 K5 (all2 (by omega) (by omega))
  have SX := S.ext (xtr E1 xe5)
  have lu : ∀ c ∈ UO, ¬ c < 0 ∧ ¬ (255 : Int32) < c := by decide
  have szj : h1.size ≤ h5.size := xe5.1
  refine w5.aloadN (q := 17) d85_16 rfl rfl rfl ?_
  rcases hcd with rfl | rfl
  ·
    obtain ⟨_, _, -, -, -, -, hL⟩ := S.open0
    by_cases c1 : ds.length ≤ 1
    ·
      refine w5.callV (q := 20) d85_17 (H.tw 59 rfl) (H.tw 60 rfl) (notFace_of_selects (C := "java/lang/StringBuilder") (args := G.a0) (H.tw 62 rfl)) (H.tw 62 rfl) (H.tw 61 rfl) (by decide) B1.exa (argsL := [(.ref s)]) (rest := [(.ref b1), (.ref b1)]) rfl (lenOf pd86 rfl) rfl (W := 2) (Nat.le_of_eq rfl) ((con_sp0 G H b2 s ar kc UO ds h5 w5.old B1 SX gb ga (by show 15 + ds.length ≤ 16; omega)).pay w5 (H.tw 63 rfl) (H.tw 40 rfl) (by decide) (by decide)) (by decide) (by decide) rfl fun vm6 T6 h6 v6 w6 q6 => ?_
      obtain ⟨_, rfl, rfl, K6, B2⟩ := q6
      show Go _ _ _ _ (T6.setTop (mkF X.m 20 #[.val (.ref s)] [(.ref b2), (.ref b1), (.ref b1)]))
      have sz6 := K6.1
      have xf6 : Ext h1 h6 := xkp xe5 K6 (all2 (by omega) (by omega))
      have ln : (UO ++ ds).length = 15 + ds.length := List.length_append
      refine w6.callV (q := 23) d85_20 (H.tw 106 rfl) (H.tw 107 rfl) (notFace_of_selects (C := "java/lang/StringBuilder") (args := G.a0) (H.tw 109 rfl)) (H.tw 109 rfl) (H.tw 108 rfl) (by decide) B2.exa (argsL := []) (rest := [(.ref b1), (.ref b1)]) rfl (lenOf pd87 rfl) rfl (W := 2) (Nat.le_of_eq rfl) ((con_btsL G H b2 ar 16 kc (UO ++ ds) h6 w6.old B2 (lat_app lu hL) (by omega)).pay w6 (H.tw 110 rfl) (H.tw 40 rfl) (by decide) (by decide)) (by decide) (by decide) rfl fun vm7 T7 h7 v7 w7 q7 => ?_
      obtain ⟨_, rfl, ⟨mg, rfl, X7, zm, Sm⟩⟩ := q7
      show Go _ _ _ _ (T7.setTop (mkF X.m 23 #[.val (.ref s)] [(.ref mg), (.ref b1), (.ref b1)]))
      have xg := xtr xf6 X7
      refine w7.callC (q := 26) d85_23 rfl (H.tw 149 rfl) (H.tw 150 rfl) (H.tw 151 rfl) (by decide) (a := b1) (argsL := [(.ref mg)]) (rest := [(.ref b1)]) rfl (lenOf pd57 rfl) rfl (W := 1) (Nat.le_of_eq rfl) ((con_iai G H b1 mg h7 w7.old (A1.ext xg) (Unt.ext xg U1) (F1_cause.ext xg) (F1_stackTrace.ext xg) (F1_suppressedExceptions.ext xg) (F1_backtrace.ext xg) (F1_detailMessage.ext xg) ge).pay H.wd w7 hKn (H.tw 151 rfl) (H.tw 37 rfl) (by decide) (by decide)) (by decide) (by decide) rfl fun vm8 T8 h8 v8 w8 q8 => ?_
      obtain ⟨rfl, K8, Ee, Ne, Fd, Fu⟩ := q8
      show Go _ _ _ _ (T8.setTop (mkF X.m 26 #[.val (.ref s)] [(.ref b1)]))
      have ltm : mg ≠ b1 := by have := sz1; have := xf6.1; omega
      have Sm2 := StrAt.keep1 Sm (A1.ext xg) K8 (H.tw 36 rfl)
      have xz : Ext h h8 := xkp (xtr E1 xg) K8 (all1 (by omega))
      exact w8.retA d85_26 (t := (.object "java/lang/IllegalArgumentException")) rfl rfl rfl (by decide) (by decide) ⟨_, rfl, _, mg, _, rfl, xz, Ee, Ne, Fd, Fu, Sm2⟩
    ·
      refine w5.callV (q := 20) d85_17 (H.tw 59 rfl) (H.tw 60 rfl) (notFace_of_selects (C := "java/lang/StringBuilder") (args := G.a0) (H.tw 62 rfl)) (H.tw 62 rfl) (H.tw 61 rfl) (by decide) B1.exa (argsL := [(.ref s)]) (rest := [(.ref b1), (.ref b1)]) rfl (lenOf pd86 rfl) rfl (W := 2) (Nat.le_of_eq rfl) ((con_spG G H b2 s ar kc UO ds h5 w5.old B1 SX gb ga rfl lu (by omega)).pay w5 (H.tw 63 rfl) (H.tw 40 rfl) (by decide) (by decide)) (by decide) (by decide) rfl fun vm9 T9 h9 v9 w9 q9 => ?_
      obtain ⟨_, rfl, rfl, ar2, kc2, za2, K9, B2⟩ := q9
      show Go _ _ _ _ (T9.setTop (mkF X.m 20 #[.val (.ref s)] [(.ref b2), (.ref b1), (.ref b1)]))
      have sz9 := K9.1
      have xf9 : Ext h1 h9 := xkp xe5 K9 (all1 (by omega))
      have ln : (UO ++ ds).length = 15 + ds.length := List.length_append
      refine w9.callV (q := 23) d85_20 (H.tw 106 rfl) (H.tw 107 rfl) (notFace_of_selects (C := "java/lang/StringBuilder") (args := G.a0) (H.tw 109 rfl)) (H.tw 109 rfl) (H.tw 108 rfl) (by decide) B2.exa (argsL := []) (rest := [(.ref b1), (.ref b1)]) rfl (lenOf pd87 rfl) rfl (W := 2) (Nat.le_of_eq rfl) ((con_btsL G H b2 ar2 34 kc2 (UO ++ ds) h9 w9.old B2 (lat_app lu hL) (by omega)).pay w9 (H.tw 110 rfl) (H.tw 40 rfl) (by decide) (by decide)) (by decide) (by decide) rfl fun vm10 T10 h10 v10 w10 q10 => ?_
      obtain ⟨_, rfl, ⟨mg, rfl, X10, zm, Sm⟩⟩ := q10
      show Go _ _ _ _ (T10.setTop (mkF X.m 23 #[.val (.ref s)] [(.ref mg), (.ref b1), (.ref b1)]))
      have xg := xtr xf9 X10
      refine w10.callC (q := 26) d85_23 rfl (H.tw 149 rfl) (H.tw 150 rfl) (H.tw 151 rfl) (by decide) (a := b1) (argsL := [(.ref mg)]) (rest := [(.ref b1)]) rfl (lenOf pd57 rfl) rfl (W := 1) (Nat.le_of_eq rfl) ((con_iai G H b1 mg h10 w10.old (A1.ext xg) (Unt.ext xg U1) (F1_cause.ext xg) (F1_stackTrace.ext xg) (F1_suppressedExceptions.ext xg) (F1_backtrace.ext xg) (F1_detailMessage.ext xg) ge).pay H.wd w10 hKn (H.tw 151 rfl) (H.tw 37 rfl) (by decide) (by decide)) (by decide) (by decide) rfl fun vm11 T11 h11 v11 w11 q11 => ?_
      obtain ⟨rfl, K11, Ee, Ne, Fd, Fu⟩ := q11
      show Go _ _ _ _ (T11.setTop (mkF X.m 26 #[.val (.ref s)] [(.ref b1)]))
      have ltm : mg ≠ b1 := by have := sz1; have := xf9.1; omega
      have Sm2 := StrAt.keep1 Sm (A1.ext xg) K11 (H.tw 36 rfl)
      have xz : Ext h h11 := xkp (xtr E1 xg) K11 (all1 (by omega))
      exact w11.retA d85_26 (t := (.object "java/lang/IllegalArgumentException")) rfl rfl rfl (by decide) (by decide) ⟨_, rfl, _, mg, _, rfl, xz, Ee, Ne, Fd, Fu, Sm2⟩
  ·
    obtain ⟨_, _, -, -, -, -, hb, hex⟩ := StrAt.open1 S
    have d1 : 1 ≤ ds.length := by obtain ⟨c, hc, -⟩ := hex; exact List.length_pos_of_mem hc
    by_cases c1 : ds.length = 1
    ·
      refine w5.callV (q := 20) d85_17 (H.tw 59 rfl) (H.tw 60 rfl) (notFace_of_selects (C := "java/lang/StringBuilder") (args := G.a0) (H.tw 62 rfl)) (H.tw 62 rfl) (H.tw 61 rfl) (by decide) B1.exa (argsL := [(.ref s)]) (rest := [(.ref b1), (.ref b1)]) rfl (lenOf pd86 rfl) rfl (W := 2) (Nat.le_of_eq rfl) ((con_spU G H b2 s ar kc UO ds h5 w5.old B1 SX gb ga rfl lu (by omega)).pay w5 (H.tw 63 rfl) (H.tw 40 rfl) (by decide) (by decide)) (by decide) (by decide) rfl fun vm12 T12 h12 v12 w12 q12 => ?_
      obtain ⟨_, rfl, rfl, ar2, kc2, za2, K12, B2⟩ := q12
      show Go _ _ _ _ (T12.setTop (mkF X.m 20 #[.val (.ref s)] [(.ref b2), (.ref b1), (.ref b1)]))
      have sz12 := K12.1
      have xf12 : Ext h1 h12 := xkp xe5 K12 (all1 (by omega))
      have ln : (UO ++ ds).length = 15 + ds.length := List.length_append
      refine w12.callV (q := 23) d85_20 (H.tw 106 rfl) (H.tw 107 rfl) (notFace_of_selects (C := "java/lang/StringBuilder") (args := G.a0) (H.tw 109 rfl)) (H.tw 109 rfl) (H.tw 108 rfl) (by decide) B2.exa (argsL := []) (rest := [(.ref b1), (.ref b1)]) rfl (lenOf pd87 rfl) rfl (W := 2) (Nat.le_of_eq rfl) ((con_btsU G H b2 ar2 16 kc2 (UO ++ ds) h12 w12.old B2 (b_app (up_ _ lu) hb) (ex_app hex) (by omega)).pay w12 (H.tw 110 rfl) (H.tw 40 rfl) (by decide) (by decide)) (by decide) (by decide) rfl fun vm13 T13 h13 v13 w13 q13 => ?_
      obtain ⟨_, rfl, ⟨mg, rfl, X13, zm, Sm⟩⟩ := q13
      show Go _ _ _ _ (T13.setTop (mkF X.m 23 #[.val (.ref s)] [(.ref mg), (.ref b1), (.ref b1)]))
      have xg := xtr xf12 X13
      refine w13.callC (q := 26) d85_23 rfl (H.tw 149 rfl) (H.tw 150 rfl) (H.tw 151 rfl) (by decide) (a := b1) (argsL := [(.ref mg)]) (rest := [(.ref b1)]) rfl (lenOf pd57 rfl) rfl (W := 1) (Nat.le_of_eq rfl) ((con_iai G H b1 mg h13 w13.old (A1.ext xg) (Unt.ext xg U1) (F1_cause.ext xg) (F1_stackTrace.ext xg) (F1_suppressedExceptions.ext xg) (F1_backtrace.ext xg) (F1_detailMessage.ext xg) ge).pay H.wd w13 hKn (H.tw 151 rfl) (H.tw 37 rfl) (by decide) (by decide)) (by decide) (by decide) rfl fun vm14 T14 h14 v14 w14 q14 => ?_
      obtain ⟨rfl, K14, Ee, Ne, Fd, Fu⟩ := q14
      show Go _ _ _ _ (T14.setTop (mkF X.m 26 #[.val (.ref s)] [(.ref b1)]))
      have ltm : mg ≠ b1 := by have := sz1; have := xf12.1; omega
      have Sm2 := StrAt.keep1 Sm (A1.ext xg) K14 (H.tw 36 rfl)
      have xz : Ext h h14 := xkp (xtr E1 xg) K14 (all1 (by omega))
      exact w14.retA d85_26 (t := (.object "java/lang/IllegalArgumentException")) rfl rfl rfl (by decide) (by decide) ⟨_, rfl, _, mg, _, rfl, xz, Ee, Ne, Fd, Fu, Sm2⟩
    ·
      refine w5.callV (q := 20) d85_17 (H.tw 59 rfl) (H.tw 60 rfl) (notFace_of_selects (C := "java/lang/StringBuilder") (args := G.a0) (H.tw 62 rfl)) (H.tw 62 rfl) (H.tw 61 rfl) (by decide) B1.exa (argsL := [(.ref s)]) (rest := [(.ref b1), (.ref b1)]) rfl (lenOf pd86 rfl) rfl (W := 2) (Nat.le_of_eq rfl) ((con_spH G H b2 s ar kc UO ds h5 w5.old B1 SX gb ga rfl lu (by omega)).pay w5 (H.tw 63 rfl) (H.tw 40 rfl) (by decide) (by decide)) (by decide) (by decide) rfl fun vm15 T15 h15 v15 w15 q15 => ?_
      obtain ⟨_, rfl, rfl, ar2, kc2, za2, K15, B2⟩ := q15
      show Go _ _ _ _ (T15.setTop (mkF X.m 20 #[.val (.ref s)] [(.ref b2), (.ref b1), (.ref b1)]))
      have sz15 := K15.1
      have xf15 : Ext h1 h15 := xkp xe5 K15 (all1 (by omega))
      have ln : (UO ++ ds).length = 15 + ds.length := List.length_append
      refine w15.callV (q := 23) d85_20 (H.tw 106 rfl) (H.tw 107 rfl) (notFace_of_selects (C := "java/lang/StringBuilder") (args := G.a0) (H.tw 109 rfl)) (H.tw 109 rfl) (H.tw 108 rfl) (by decide) B2.exa (argsL := []) (rest := [(.ref b1), (.ref b1)]) rfl (lenOf pd87 rfl) rfl (W := 2) (Nat.le_of_eq rfl) ((con_btsU G H b2 ar2 34 kc2 (UO ++ ds) h15 w15.old B2 (b_app (up_ _ lu) hb) (ex_app hex) (by omega)).pay w15 (H.tw 110 rfl) (H.tw 40 rfl) (by decide) (by decide)) (by decide) (by decide) rfl fun vm16 T16 h16 v16 w16 q16 => ?_
      obtain ⟨_, rfl, ⟨mg, rfl, X16, zm, Sm⟩⟩ := q16
      show Go _ _ _ _ (T16.setTop (mkF X.m 23 #[.val (.ref s)] [(.ref mg), (.ref b1), (.ref b1)]))
      have xg := xtr xf15 X16
      refine w16.callC (q := 26) d85_23 rfl (H.tw 149 rfl) (H.tw 150 rfl) (H.tw 151 rfl) (by decide) (a := b1) (argsL := [(.ref mg)]) (rest := [(.ref b1)]) rfl (lenOf pd57 rfl) rfl (W := 1) (Nat.le_of_eq rfl) ((con_iai G H b1 mg h16 w16.old (A1.ext xg) (Unt.ext xg U1) (F1_cause.ext xg) (F1_stackTrace.ext xg) (F1_suppressedExceptions.ext xg) (F1_backtrace.ext xg) (F1_detailMessage.ext xg) ge).pay H.wd w16 hKn (H.tw 151 rfl) (H.tw 37 rfl) (by decide) (by decide)) (by decide) (by decide) rfl fun vm17 T17 h17 v17 w17 q17 => ?_
      obtain ⟨rfl, K17, Ee, Ne, Fd, Fu⟩ := q17
      show Go _ _ _ _ (T17.setTop (mkF X.m 26 #[.val (.ref s)] [(.ref b1)]))
      have ltm : mg ≠ b1 := by have := sz1; have := xf15.1; omega
      have Sm2 := StrAt.keep1 Sm (A1.ext xg) K17 (H.tw 36 rfl)
      have xz : Ext h h17 := xkp (xtr E1 xg) K17 (all1 (by omega))
      exact w17.retA d85_26 (t := (.object "java/lang/IllegalArgumentException")) rfl rfl rfl (by decide) (by decide) ⟨_, rfl, _, mg, _, rfl, xz, Ee, Ne, Fd, Fu, Sm2⟩
theorem d89_0 : decode jdk_78_method_6_code 0 = .ok (.aload_n 0, 1) := by decide +kernel
theorem d89_1 : decode jdk_78_method_6_code 1 = .ok (.getfield 31, 3) := by decide +kernel
theorem d89_4 : decode jdk_78_method_6_code 4 = .ok (.areturn, 1) := by decide +kernel
theorem pn90 : plainName "java/lang/Throwable" = true := by first | (simp [plainName, overriddenIn]; done) | decide +kernel
set_option maxRecDepth 65536 in
set_option maxHeartbeats 40000000 in
theorem con_gm (G : Gx) (H : Hyp G) (a : Nat) (v : Value) (hv : v.isRef = true) (h : Heap) (ho : Old G.Z G.n0 h) (F : Fld G.Z h a "java/lang/Throwable" "detailMessage" "Ljava/lang/String;" v) :
    Con G (⟨"java/lang/Throwable", "getMessage", "()Ljava/lang/String;"⟩ : MethodName) jdk_78_method_6_code 1 (some (.object "java/lang/String")) [] ({ frames := 0, cells := 0, slots := 0, locals := 0 } : Room) #[(.ref a)] h (vQ fun v' h' => v' = v ∧ h = h') := by
  refine Con.intro H.el ho (plainFor_of_name pn90) (Ls := #[.val (.ref a)]) (fun m => by first | (simp [entryFrame, mkF, argsToLocals, Value.category]; done) | rfl) ?_
  intro X vm T w
  refine w.aloadN (q := 1) d89_0 rfl rfl rfl ?_
  refine w.getF (q := 4) d89_1 (H.tw 206 rfl) Via.refl F rfl fun T1 w1 => ?_
  exact w1.retA d89_4 (t := (.object "java/lang/String")) rfl rfl hv (by decide) (by decide) ⟨_, rfl, ⟨rfl, rfl⟩⟩
theorem pd91 : parseMethodDescriptor "([C)V" = some ⟨[(.array .char)], none⟩ := by decide +kernel
theorem pd92 : parseMethodDescriptor "(Ljava/lang/String;)Ljava/lang/IllegalArgumentException;" = some ⟨[(.object "java/lang/String")], some (.object "java/lang/IllegalArgumentException")⟩ := by decide +kernel
theorem pd93 : parseMethodDescriptor "(Ljava/lang/Object;)Z" = some ⟨[(.object "java/lang/Object")], some .boolean⟩ := by decide +kernel
theorem pd94 : parseMethodDescriptor "()Ljava/lang/Throwable;" = some ⟨[], some (.object "java/lang/Throwable")⟩ := by decide +kernel
theorem pn95 : plainName "com/example/scodi/scodi/launcher/OptionsUnknownOptionPinLaw" = true := by first | (simp [plainName, overriddenIn]; done) | decide +kernel
set_option maxRecDepth 65536 in
set_option maxHeartbeats 40000000 in
theorem con_law (G : Gx) (H : Hyp G) (x0 x1 x2 x3 : Int32) (h : Heap) (ho : Old G.Z G.n0 h)  :
    ConK G x code maxLocals ret tables_1 room_1 #[(.int x0), (.int x1), (.int x2), (.int x3)] h (vQ fun v _ => v = .int 1) := by
  refine ConK.intro H.el ho (plainFor_of_name pn95) (Ls := #[.val (.int x0), .val (.int x1), .val (.int x2), .val (.int x3), .unset, .unset, .unset, .unset, .unset, .unset, .unset, .unset, .unset, .unset, .unset, .unset, .unset, .unset, .unset, .unset]) (fun m => by first | (simp [entryFrame, mkF, argsToLocals, Value.category, maxLocals]; done) | rfl) ?_
  intro X vm T hKn w
  refine w.iloadN (q := 1) at_0 rfl rfl ?_
  refine w.iconst (q := 2) (3 : Int32) at_1 rfl rfl ?_
  refine w.iand (q := 3) at_2 rfl ?_
  refine w.istore (q := 5) (L2 := #[.val (.int x0), .val (.int x1), .val (.int x2), .val (.int x3), .val (.int (x3 &&& (3 : Int32))), .unset, .unset, .unset, .unset, .unset, .unset, .unset, .unset, .unset, .unset, .unset, .unset, .unset, .unset, .unset]) at_3 rfl rfl ?_
  refine w.iloadN (q := 6) at_5 rfl rfl ?_
  refine w.ldcI (q := 8) at_6 (H.tw 0 rfl) rfl ?_
  refine w.iand (q := 9) at_8 rfl ?_
  refine w.i2c (q := 10) at_9 rfl ?_
  refine w.istore (q := 12) (L2 := #[.val (.int x0), .val (.int x1), .val (.int x2), .val (.int x3), .val (.int (x3 &&& (3 : Int32))), .val (.int (x0 &&& (65535 : Int32)).toUInt32.toUInt16.toUInt32.toInt32), .unset, .unset, .unset, .unset, .unset, .unset, .unset, .unset, .unset, .unset, .unset, .unset, .unset, .unset]) at_10 rfl rfl ?_
  refine w.iloadN (q := 13) at_12 rfl rfl ?_
  refine w.ldcI (q := 15) at_13 (H.tw 0 rfl) rfl ?_
  refine w.iand (q := 16) at_15 rfl ?_
  refine w.i2c (q := 17) at_16 rfl ?_
  refine w.istore (q := 19) (L2 := #[.val (.int x0), .val (.int x1), .val (.int x2), .val (.int x3), .val (.int (x3 &&& (3 : Int32))), .val (.int (x0 &&& (65535 : Int32)).toUInt32.toUInt16.toUInt32.toInt32), .val (.int (x1 &&& (65535 : Int32)).toUInt32.toUInt16.toUInt32.toInt32), .unset, .unset, .unset, .unset, .unset, .unset, .unset, .unset, .unset, .unset, .unset, .unset, .unset]) at_17 rfl rfl ?_
  refine w.iloadN (q := 20) at_19 rfl rfl ?_
  refine w.ldcI (q := 22) at_20 (H.tw 0 rfl) rfl ?_
  refine w.iand (q := 23) at_22 rfl ?_
  refine w.i2c (q := 24) at_23 rfl ?_
  refine w.istore (q := 26) (L2 := #[.val (.int x0), .val (.int x1), .val (.int x2), .val (.int x3), .val (.int (x3 &&& (3 : Int32))), .val (.int (x0 &&& (65535 : Int32)).toUInt32.toUInt16.toUInt32.toInt32), .val (.int (x1 &&& (65535 : Int32)).toUInt32.toUInt16.toUInt32.toInt32), .val (.int (x2 &&& (65535 : Int32)).toUInt32.toUInt16.toUInt32.toInt32), .unset, .unset, .unset, .unset, .unset, .unset, .unset, .unset, .unset, .unset, .unset, .unset]) at_24 rfl rfl ?_
  refine w.iconst (q := 27) (0 : Int32) at_26 rfl rfl ?_
  obtain ⟨n4, e_n4⟩ : ∃ z, z = (x3 &&& (3 : Int32)) := ⟨_, rfl⟩
  rw [← e_n4]
  obtain ⟨c5, e_c5⟩ : ∃ z, z = (x0 &&& (65535 : Int32)).toUInt32.toUInt16.toUInt32.toInt32 := ⟨_, rfl⟩
  rw [← e_c5]
  obtain ⟨c6, e_c6⟩ : ∃ z, z = (x1 &&& (65535 : Int32)).toUInt32.toUInt16.toUInt32.toInt32 := ⟨_, rfl⟩
  rw [← e_c6]
  obtain ⟨c7, e_c7⟩ : ∃ z, z = (x2 &&& (65535 : Int32)).toUInt32.toUInt16.toUInt32.toInt32 := ⟨_, rfl⟩
  rw [← e_c7]
  have b5c : ¬ c5 < 0 ∧ ¬ (65535 : Int32) < c5 := by rw [e_c5]; exact ch16 x0
  have N5 : nar .char c5 = c5 := by rw [e_c5]; exact i2ci _
  have b6c : ¬ c6 < 0 ∧ ¬ (65535 : Int32) < c6 := by rw [e_c6]; exact ch16 x1
  have N6 : nar .char c6 = c6 := by rw [e_c6]; exact i2ci _
  have b7c : ¬ c7 < 0 ∧ ¬ (65535 : Int32) < c7 := by rw [e_c7]; exact ch16 x2
  have N7 : nar .char c7 = c7 := by rw [e_c7]; exact i2ci _
  have hn4 : n4 = 0 ∨ n4 = 1 ∨ n4 = 2 ∨ n4 = 3 := by rw [e_n4]; exact and3 x3
  refine w.newP (q := 29) 0 at_27 (H.tw 1 rfl) (by decide) (by decide) (by decide) (by decide) (by decide) rfl fun T1 h1 b1 kc1 e1 w1 E1 A1 => ?_
  replace A1 : Arv G.Z h1 b1 kc1 .char (0 : Int32) [] (.int (0 : Int32)) := A1.pad (pad_rep [] (.int (0 : Int32)) 0)
  have lt1 : b1 < h1.size := A1.lt
  have sz1 : h.size ≤ h1.size := E1.1
  have g1 : G.n0 ≤ b1 := by rw [e1]; exact w.n0le
  refine w1.astore (q := 31) (L2 := #[.val (.int x0), .val (.int x1), .val (.int x2), .val (.int x3), .val (.int n4), .val (.int c5), .val (.int c6), .val (.int c7), .val (.ref b1), .unset, .unset, .unset, .unset, .unset, .unset, .unset, .unset, .unset, .unset, .unset]) at_29 rfl rfl rfl ?_
  refine w1.iconst (q := 32) (1 : Int32) at_31 rfl rfl ?_
  refine w1.newP (q := 34) 1 at_32 (H.tw 1 rfl) (by decide) (by decide) (by decide) (by decide) (by decide) rfl fun T2 h2 b2 kc2 e2 w2 E2 A2 => ?_
  replace A2 : Arv G.Z h2 b2 kc2 .char (1 : Int32) [(.int (0 : Int32))] (.int (0 : Int32)) := A2.pad (pad_rep [] (.int (0 : Int32)) 1)
  have lt2 : b2 < h2.size := A2.lt
  have sz2 : h1.size ≤ h2.size := E2.1
  have g2 : G.n0 ≤ b2 := by rw [e2]; exact w1.n0le
  refine w2.dup (q := 35) at_34 rfl rfl ?_
  refine w2.iconst (q := 36) (0 : Int32) at_35 rfl rfl ?_
  refine w2.iload (q := 38) at_36 rfl rfl ?_
  refine w2.castore (q := 39) 0 at_38 A2 g2 ⟨by decide, by decide⟩ rfl (Nat.le_of_ble_eq_true rfl) rfl fun T3 h3 w3 K3 A3 => ?_
  have sz3 : h2.size ≤ h3.size := K3.1
  replace A3 : Arv G.Z h3 b2 kc2 .char (1 : Int32) [.int c5] (.int (0 : Int32)) := by rw [N5] at A3; exact A3
  have xb3 : Ext h1 h3 := xkp E2 K3 (all1 (Nat.le_of_eq e2.symm))
  refine w3.astore (q := 41) (L2 := #[.val (.int x0), .val (.int x1), .val (.int x2), .val (.int x3), .val (.int n4), .val (.int c5), .val (.int c6), .val (.int c7), .val (.ref b1), .val (.ref b2), .unset, .unset, .unset, .unset, .unset, .unset, .unset, .unset, .unset, .unset]) at_39 rfl rfl rfl ?_
  refine w3.iconst (q := 42) (2 : Int32) at_41 rfl rfl ?_
  refine w3.newP (q := 44) 2 at_42 (H.tw 1 rfl) (by decide) (by decide) (by decide) (by decide) (by decide) rfl fun T4 h4 b4 kc4 e4 w4 E4 A4 => ?_
  replace A4 : Arv G.Z h4 b4 kc4 .char (2 : Int32) [(.int (0 : Int32)), (.int (0 : Int32))] (.int (0 : Int32)) := A4.pad (pad_rep [] (.int (0 : Int32)) 2)
  have lt4 : b4 < h4.size := A4.lt
  have sz4 : h3.size ≤ h4.size := E4.1
  have g4 : G.n0 ≤ b4 := by rw [e4]; exact w3.n0le
  refine w4.dup (q := 45) at_44 rfl rfl ?_
  refine w4.iconst (q := 46) (0 : Int32) at_45 rfl rfl ?_
  refine w4.iload (q := 48) at_46 rfl rfl ?_
  refine w4.castore (q := 49) 0 at_48 A4 g4 ⟨by decide, by decide⟩ rfl (Nat.le_of_ble_eq_true rfl) rfl fun T5 h5 w5 K5 A5 => ?_
  have sz5 : h4.size ≤ h5.size := K5.1
  replace A5 : Arv G.Z h5 b4 kc4 .char (2 : Int32) [.int c5, .int (0 : Int32)] (.int (0 : Int32)) := by rw [N5] at A5; exact A5
  have xb5 : Ext h3 h5 := xkp E4 K5 (all1 (Nat.le_of_eq e4.symm))
  refine w5.dup (q := 50) at_49 rfl rfl ?_
  refine w5.iconst (q := 51) (1 : Int32) at_50 rfl rfl ?_
  refine w5.iload (q := 53) at_51 rfl rfl ?_
  refine w5.castore (q := 54) 1 at_53 A5 g4 ⟨by decide, by decide⟩ rfl (Nat.le_of_ble_eq_true rfl) rfl fun T6 h6 w6 K6 A6 => ?_
  have sz6 : h5.size ≤ h6.size := K6.1
  replace A6 : Arv G.Z h6 b4 kc4 .char (2 : Int32) [.int c5, .int c6] (.int (0 : Int32)) := by rw [N6] at A6; exact A6
  have xb6 : Ext h3 h6 := xkp xb5 K6 (all1 (Nat.le_of_eq e4.symm))
  refine w6.astore (q := 56) (L2 := #[.val (.int x0), .val (.int x1), .val (.int x2), .val (.int x3), .val (.int n4), .val (.int c5), .val (.int c6), .val (.int c7), .val (.ref b1), .val (.ref b2), .val (.ref b4), .unset, .unset, .unset, .unset, .unset, .unset, .unset, .unset, .unset]) at_54 rfl rfl rfl ?_
  refine w6.iconst (q := 57) (3 : Int32) at_56 rfl rfl ?_
  refine w6.newP (q := 59) 3 at_57 (H.tw 1 rfl) (by decide) (by decide) (by decide) (by decide) (by decide) rfl fun T7 h7 b7 kc7 e7 w7 E7 A7 => ?_
  replace A7 : Arv G.Z h7 b7 kc7 .char (3 : Int32) [(.int (0 : Int32)), (.int (0 : Int32)), (.int (0 : Int32))] (.int (0 : Int32)) := A7.pad (pad_rep [] (.int (0 : Int32)) 3)
  have lt7 : b7 < h7.size := A7.lt
  have sz7 : h6.size ≤ h7.size := E7.1
  have g7 : G.n0 ≤ b7 := by rw [e7]; exact w6.n0le
  refine w7.dup (q := 60) at_59 rfl rfl ?_
  refine w7.iconst (q := 61) (0 : Int32) at_60 rfl rfl ?_
  refine w7.iload (q := 63) at_61 rfl rfl ?_
  refine w7.castore (q := 64) 0 at_63 A7 g7 ⟨by decide, by decide⟩ rfl (Nat.le_of_ble_eq_true rfl) rfl fun T8 h8 w8 K8 A8 => ?_
  have sz8 : h7.size ≤ h8.size := K8.1
  replace A8 : Arv G.Z h8 b7 kc7 .char (3 : Int32) [.int c5, .int (0 : Int32), .int (0 : Int32)] (.int (0 : Int32)) := by rw [N5] at A8; exact A8
  have xb8 : Ext h6 h8 := xkp E7 K8 (all1 (Nat.le_of_eq e7.symm))
  refine w8.dup (q := 65) at_64 rfl rfl ?_
  refine w8.iconst (q := 66) (1 : Int32) at_65 rfl rfl ?_
  refine w8.iload (q := 68) at_66 rfl rfl ?_
  refine w8.castore (q := 69) 1 at_68 A8 g7 ⟨by decide, by decide⟩ rfl (Nat.le_of_ble_eq_true rfl) rfl fun T9 h9 w9 K9 A9 => ?_
  have sz9 : h8.size ≤ h9.size := K9.1
  replace A9 : Arv G.Z h9 b7 kc7 .char (3 : Int32) [.int c5, .int c6, .int (0 : Int32)] (.int (0 : Int32)) := by rw [N6] at A9; exact A9
  have xb9 : Ext h6 h9 := xkp xb8 K9 (all1 (Nat.le_of_eq e7.symm))
  refine w9.dup (q := 70) at_69 rfl rfl ?_
  refine w9.iconst (q := 71) (2 : Int32) at_70 rfl rfl ?_
  refine w9.iload (q := 73) at_71 rfl rfl ?_
  refine w9.castore (q := 74) 2 at_73 A9 g7 ⟨by decide, by decide⟩ rfl (Nat.le_of_ble_eq_true rfl) rfl fun T10 h10 w10 K10 A10 => ?_
  have sz10 : h9.size ≤ h10.size := K10.1
  replace A10 : Arv G.Z h10 b7 kc7 .char (3 : Int32) [.int c5, .int c6, .int c7] (.int (0 : Int32)) := by rw [N7] at A10; exact A10
  have xb10 : Ext h6 h10 := xkp xb9 K10 (all1 (Nat.le_of_eq e7.symm))
  refine w10.astore (q := 76) (L2 := #[.val (.int x0), .val (.int x1), .val (.int x2), .val (.int x3), .val (.int n4), .val (.int c5), .val (.int c6), .val (.int c7), .val (.ref b1), .val (.ref b2), .val (.ref b4), .val (.ref b7), .unset, .unset, .unset, .unset, .unset, .unset, .unset, .unset]) at_74 rfl rfl rfl ?_
  refine w10.bipush (q := 78) (15 : Int32) at_76 rfl rfl ?_
  refine w10.newP (q := 80) 15 at_78 (H.tw 1 rfl) (by decide) (by decide) (by decide) (by decide) (by decide) rfl fun T11 h11 b11 kc11 e11 w11 E11 A11 => ?_
  replace A11 : Arv G.Z h11 b11 kc11 .char (15 : Int32) [(.int (0 : Int32)), (.int (0 : Int32)), (.int (0 : Int32)), (.int (0 : Int32)), (.int (0 : Int32)), (.int (0 : Int32)), (.int (0 : Int32)), (.int (0 : Int32)), (.int (0 : Int32)), (.int (0 : Int32)), (.int (0 : Int32)), (.int (0 : Int32)), (.int (0 : Int32)), (.int (0 : Int32)), (.int (0 : Int32))] (.int (0 : Int32)) := A11.pad (pad_rep [] (.int (0 : Int32)) 15)
  have lt11 : b11 < h11.size := A11.lt
  have sz11 : h10.size ≤ h11.size := E11.1
  have g11 : G.n0 ≤ b11 := by rw [e11]; exact w10.n0le
  refine w11.dup (q := 81) at_80 rfl rfl ?_
  refine w11.iconst (q := 82) (0 : Int32) at_81 rfl rfl ?_
  refine w11.bipush (q := 84) (117 : Int32) at_82 rfl rfl ?_
  refine w11.castore (q := 85) 0 at_84 A11 g11 ⟨by decide, by decide⟩ rfl (Nat.le_of_ble_eq_true rfl) rfl fun T12 h12 w12 K12 A12 => ?_
  have sz12 : h11.size ≤ h12.size := K12.1
  replace A12 : Arv G.Z h12 b11 kc11 .char (15 : Int32) [.int (117 : Int32), .int (0 : Int32), .int (0 : Int32), .int (0 : Int32), .int (0 : Int32), .int (0 : Int32), .int (0 : Int32), .int (0 : Int32), .int (0 : Int32), .int (0 : Int32), .int (0 : Int32), .int (0 : Int32), .int (0 : Int32), .int (0 : Int32), .int (0 : Int32)] (.int (0 : Int32)) := by rw [show nar .char (117 : Int32) = (117 : Int32) from by decide] at A12; exact A12
  have xb12 : Ext h10 h12 := xkp E11 K12 (all1 (Nat.le_of_eq e11.symm))
  refine w12.dup (q := 86) at_85 rfl rfl ?_
  refine w12.iconst (q := 87) (1 : Int32) at_86 rfl rfl ?_
  refine w12.bipush (q := 89) (110 : Int32) at_87 rfl rfl ?_
  refine w12.castore (q := 90) 1 at_89 A12 g11 ⟨by decide, by decide⟩ rfl (Nat.le_of_ble_eq_true rfl) rfl fun T13 h13 w13 K13 A13 => ?_
  have sz13 : h12.size ≤ h13.size := K13.1
  replace A13 : Arv G.Z h13 b11 kc11 .char (15 : Int32) [.int (117 : Int32), .int (110 : Int32), .int (0 : Int32), .int (0 : Int32), .int (0 : Int32), .int (0 : Int32), .int (0 : Int32), .int (0 : Int32), .int (0 : Int32), .int (0 : Int32), .int (0 : Int32), .int (0 : Int32), .int (0 : Int32), .int (0 : Int32), .int (0 : Int32)] (.int (0 : Int32)) := by rw [show nar .char (110 : Int32) = (110 : Int32) from by decide] at A13; exact A13
  have xb13 : Ext h10 h13 := xkp xb12 K13 (all1 (Nat.le_of_eq e11.symm))
  refine w13.dup (q := 91) at_90 rfl rfl ?_
  refine w13.iconst (q := 92) (2 : Int32) at_91 rfl rfl ?_
  refine w13.bipush (q := 94) (107 : Int32) at_92 rfl rfl ?_
  refine w13.castore (q := 95) 2 at_94 A13 g11 ⟨by decide, by decide⟩ rfl (Nat.le_of_ble_eq_true rfl) rfl fun T14 h14 w14 K14 A14 => ?_
  have sz14 : h13.size ≤ h14.size := K14.1
  replace A14 : Arv G.Z h14 b11 kc11 .char (15 : Int32) [.int (117 : Int32), .int (110 : Int32), .int (107 : Int32), .int (0 : Int32), .int (0 : Int32), .int (0 : Int32), .int (0 : Int32), .int (0 : Int32), .int (0 : Int32), .int (0 : Int32), .int (0 : Int32), .int (0 : Int32), .int (0 : Int32), .int (0 : Int32), .int (0 : Int32)] (.int (0 : Int32)) := by rw [show nar .char (107 : Int32) = (107 : Int32) from by decide] at A14; exact A14
  have xb14 : Ext h10 h14 := xkp xb13 K14 (all1 (Nat.le_of_eq e11.symm))
  refine w14.dup (q := 96) at_95 rfl rfl ?_
  refine w14.iconst (q := 97) (3 : Int32) at_96 rfl rfl ?_
  refine w14.bipush (q := 99) (110 : Int32) at_97 rfl rfl ?_
  refine w14.castore (q := 100) 3 at_99 A14 g11 ⟨by decide, by decide⟩ rfl (Nat.le_of_ble_eq_true rfl) rfl fun T15 h15 w15 K15 A15 => ?_
  have sz15 : h14.size ≤ h15.size := K15.1
  replace A15 : Arv G.Z h15 b11 kc11 .char (15 : Int32) [.int (117 : Int32), .int (110 : Int32), .int (107 : Int32), .int (110 : Int32), .int (0 : Int32), .int (0 : Int32), .int (0 : Int32), .int (0 : Int32), .int (0 : Int32), .int (0 : Int32), .int (0 : Int32), .int (0 : Int32), .int (0 : Int32), .int (0 : Int32), .int (0 : Int32)] (.int (0 : Int32)) := by rw [show nar .char (110 : Int32) = (110 : Int32) from by decide] at A15; exact A15
  have xb15 : Ext h10 h15 := xkp xb14 K15 (all1 (Nat.le_of_eq e11.symm))
  refine w15.dup (q := 101) at_100 rfl rfl ?_
  refine w15.iconst (q := 102) (4 : Int32) at_101 rfl rfl ?_
  refine w15.bipush (q := 104) (111 : Int32) at_102 rfl rfl ?_
  refine w15.castore (q := 105) 4 at_104 A15 g11 ⟨by decide, by decide⟩ rfl (Nat.le_of_ble_eq_true rfl) rfl fun T16 h16 w16 K16 A16 => ?_
  have sz16 : h15.size ≤ h16.size := K16.1
  replace A16 : Arv G.Z h16 b11 kc11 .char (15 : Int32) [.int (117 : Int32), .int (110 : Int32), .int (107 : Int32), .int (110 : Int32), .int (111 : Int32), .int (0 : Int32), .int (0 : Int32), .int (0 : Int32), .int (0 : Int32), .int (0 : Int32), .int (0 : Int32), .int (0 : Int32), .int (0 : Int32), .int (0 : Int32), .int (0 : Int32)] (.int (0 : Int32)) := by rw [show nar .char (111 : Int32) = (111 : Int32) from by decide] at A16; exact A16
  have xb16 : Ext h10 h16 := xkp xb15 K16 (all1 (Nat.le_of_eq e11.symm))
  refine w16.dup (q := 106) at_105 rfl rfl ?_
  refine w16.iconst (q := 107) (5 : Int32) at_106 rfl rfl ?_
  refine w16.bipush (q := 109) (119 : Int32) at_107 rfl rfl ?_
  refine w16.castore (q := 110) 5 at_109 A16 g11 ⟨by decide, by decide⟩ rfl (Nat.le_of_ble_eq_true rfl) rfl fun T17 h17 w17 K17 A17 => ?_
  have sz17 : h16.size ≤ h17.size := K17.1
  replace A17 : Arv G.Z h17 b11 kc11 .char (15 : Int32) [.int (117 : Int32), .int (110 : Int32), .int (107 : Int32), .int (110 : Int32), .int (111 : Int32), .int (119 : Int32), .int (0 : Int32), .int (0 : Int32), .int (0 : Int32), .int (0 : Int32), .int (0 : Int32), .int (0 : Int32), .int (0 : Int32), .int (0 : Int32), .int (0 : Int32)] (.int (0 : Int32)) := by rw [show nar .char (119 : Int32) = (119 : Int32) from by decide] at A17; exact A17
  have xb17 : Ext h10 h17 := xkp xb16 K17 (all1 (Nat.le_of_eq e11.symm))
  refine w17.dup (q := 111) at_110 rfl rfl ?_
  refine w17.bipush (q := 113) (6 : Int32) at_111 rfl rfl ?_
  refine w17.bipush (q := 115) (110 : Int32) at_113 rfl rfl ?_
  refine w17.castore (q := 116) 6 at_115 A17 g11 ⟨by decide, by decide⟩ rfl (Nat.le_of_ble_eq_true rfl) rfl fun T18 h18 w18 K18 A18 => ?_
  have sz18 : h17.size ≤ h18.size := K18.1
  replace A18 : Arv G.Z h18 b11 kc11 .char (15 : Int32) [.int (117 : Int32), .int (110 : Int32), .int (107 : Int32), .int (110 : Int32), .int (111 : Int32), .int (119 : Int32), .int (110 : Int32), .int (0 : Int32), .int (0 : Int32), .int (0 : Int32), .int (0 : Int32), .int (0 : Int32), .int (0 : Int32), .int (0 : Int32), .int (0 : Int32)] (.int (0 : Int32)) := by rw [show nar .char (110 : Int32) = (110 : Int32) from by decide] at A18; exact A18
  have xb18 : Ext h10 h18 := xkp xb17 K18 (all1 (Nat.le_of_eq e11.symm))
  refine w18.dup (q := 117) at_116 rfl rfl ?_
  refine w18.bipush (q := 119) (7 : Int32) at_117 rfl rfl ?_
  refine w18.bipush (q := 121) (32 : Int32) at_119 rfl rfl ?_
  refine w18.castore (q := 122) 7 at_121 A18 g11 ⟨by decide, by decide⟩ rfl (Nat.le_of_ble_eq_true rfl) rfl fun T19 h19 w19 K19 A19 => ?_
  have sz19 : h18.size ≤ h19.size := K19.1
  replace A19 : Arv G.Z h19 b11 kc11 .char (15 : Int32) [.int (117 : Int32), .int (110 : Int32), .int (107 : Int32), .int (110 : Int32), .int (111 : Int32), .int (119 : Int32), .int (110 : Int32), .int (32 : Int32), .int (0 : Int32), .int (0 : Int32), .int (0 : Int32), .int (0 : Int32), .int (0 : Int32), .int (0 : Int32), .int (0 : Int32)] (.int (0 : Int32)) := by rw [show nar .char (32 : Int32) = (32 : Int32) from by decide] at A19; exact A19
  have xb19 : Ext h10 h19 := xkp xb18 K19 (all1 (Nat.le_of_eq e11.symm))
  refine w19.dup (q := 123) at_122 rfl rfl ?_
  refine w19.bipush (q := 125) (8 : Int32) at_123 rfl rfl ?_
  refine w19.bipush (q := 127) (111 : Int32) at_125 rfl rfl ?_
  refine w19.castore (q := 128) 8 at_127 A19 g11 ⟨by decide, by decide⟩ rfl (Nat.le_of_ble_eq_true rfl) rfl fun T20 h20 w20 K20 A20 => ?_
  have sz20 : h19.size ≤ h20.size := K20.1
  replace A20 : Arv G.Z h20 b11 kc11 .char (15 : Int32) [.int (117 : Int32), .int (110 : Int32), .int (107 : Int32), .int (110 : Int32), .int (111 : Int32), .int (119 : Int32), .int (110 : Int32), .int (32 : Int32), .int (111 : Int32), .int (0 : Int32), .int (0 : Int32), .int (0 : Int32), .int (0 : Int32), .int (0 : Int32), .int (0 : Int32)] (.int (0 : Int32)) := by rw [show nar .char (111 : Int32) = (111 : Int32) from by decide] at A20; exact A20
  have xb20 : Ext h10 h20 := xkp xb19 K20 (all1 (Nat.le_of_eq e11.symm))
  refine w20.dup (q := 129) at_128 rfl rfl ?_
  refine w20.bipush (q := 131) (9 : Int32) at_129 rfl rfl ?_
  refine w20.bipush (q := 133) (112 : Int32) at_131 rfl rfl ?_
  refine w20.castore (q := 134) 9 at_133 A20 g11 ⟨by decide, by decide⟩ rfl (Nat.le_of_ble_eq_true rfl) rfl fun T21 h21 w21 K21 A21 => ?_
  have sz21 : h20.size ≤ h21.size := K21.1
  replace A21 : Arv G.Z h21 b11 kc11 .char (15 : Int32) [.int (117 : Int32), .int (110 : Int32), .int (107 : Int32), .int (110 : Int32), .int (111 : Int32), .int (119 : Int32), .int (110 : Int32), .int (32 : Int32), .int (111 : Int32), .int (112 : Int32), .int (0 : Int32), .int (0 : Int32), .int (0 : Int32), .int (0 : Int32), .int (0 : Int32)] (.int (0 : Int32)) := by rw [show nar .char (112 : Int32) = (112 : Int32) from by decide] at A21; exact A21
  have xb21 : Ext h10 h21 := xkp xb20 K21 (all1 (Nat.le_of_eq e11.symm))
  refine w21.dup (q := 135) at_134 rfl rfl ?_
  refine w21.bipush (q := 137) (10 : Int32) at_135 rfl rfl ?_
  refine w21.bipush (q := 139) (116 : Int32) at_137 rfl rfl ?_
  refine w21.castore (q := 140) 10 at_139 A21 g11 ⟨by decide, by decide⟩ rfl (Nat.le_of_ble_eq_true rfl) rfl fun T22 h22 w22 K22 A22 => ?_
  have sz22 : h21.size ≤ h22.size := K22.1
  replace A22 : Arv G.Z h22 b11 kc11 .char (15 : Int32) [.int (117 : Int32), .int (110 : Int32), .int (107 : Int32), .int (110 : Int32), .int (111 : Int32), .int (119 : Int32), .int (110 : Int32), .int (32 : Int32), .int (111 : Int32), .int (112 : Int32), .int (116 : Int32), .int (0 : Int32), .int (0 : Int32), .int (0 : Int32), .int (0 : Int32)] (.int (0 : Int32)) := by rw [show nar .char (116 : Int32) = (116 : Int32) from by decide] at A22; exact A22
  have xb22 : Ext h10 h22 := xkp xb21 K22 (all1 (Nat.le_of_eq e11.symm))
  refine w22.dup (q := 141) at_140 rfl rfl ?_
  refine w22.bipush (q := 143) (11 : Int32) at_141 rfl rfl ?_
  refine w22.bipush (q := 145) (105 : Int32) at_143 rfl rfl ?_
  refine w22.castore (q := 146) 11 at_145 A22 g11 ⟨by decide, by decide⟩ rfl (Nat.le_of_ble_eq_true rfl) rfl fun T23 h23 w23 K23 A23 => ?_
  have sz23 : h22.size ≤ h23.size := K23.1
  replace A23 : Arv G.Z h23 b11 kc11 .char (15 : Int32) [.int (117 : Int32), .int (110 : Int32), .int (107 : Int32), .int (110 : Int32), .int (111 : Int32), .int (119 : Int32), .int (110 : Int32), .int (32 : Int32), .int (111 : Int32), .int (112 : Int32), .int (116 : Int32), .int (105 : Int32), .int (0 : Int32), .int (0 : Int32), .int (0 : Int32)] (.int (0 : Int32)) := by rw [show nar .char (105 : Int32) = (105 : Int32) from by decide] at A23; exact A23
  have xb23 : Ext h10 h23 := xkp xb22 K23 (all1 (Nat.le_of_eq e11.symm))
  refine w23.dup (q := 147) at_146 rfl rfl ?_
  refine w23.bipush (q := 149) (12 : Int32) at_147 rfl rfl ?_
  refine w23.bipush (q := 151) (111 : Int32) at_149 rfl rfl ?_
  refine w23.castore (q := 152) 12 at_151 A23 g11 ⟨by decide, by decide⟩ rfl (Nat.le_of_ble_eq_true rfl) rfl fun T24 h24 w24 K24 A24 => ?_
  have sz24 : h23.size ≤ h24.size := K24.1
  replace A24 : Arv G.Z h24 b11 kc11 .char (15 : Int32) [.int (117 : Int32), .int (110 : Int32), .int (107 : Int32), .int (110 : Int32), .int (111 : Int32), .int (119 : Int32), .int (110 : Int32), .int (32 : Int32), .int (111 : Int32), .int (112 : Int32), .int (116 : Int32), .int (105 : Int32), .int (111 : Int32), .int (0 : Int32), .int (0 : Int32)] (.int (0 : Int32)) := by rw [show nar .char (111 : Int32) = (111 : Int32) from by decide] at A24; exact A24
  have xb24 : Ext h10 h24 := xkp xb23 K24 (all1 (Nat.le_of_eq e11.symm))
  refine w24.dup (q := 153) at_152 rfl rfl ?_
  refine w24.bipush (q := 155) (13 : Int32) at_153 rfl rfl ?_
  refine w24.bipush (q := 157) (110 : Int32) at_155 rfl rfl ?_
  refine w24.castore (q := 158) 13 at_157 A24 g11 ⟨by decide, by decide⟩ rfl (Nat.le_of_ble_eq_true rfl) rfl fun T25 h25 w25 K25 A25 => ?_
  have sz25 : h24.size ≤ h25.size := K25.1
  replace A25 : Arv G.Z h25 b11 kc11 .char (15 : Int32) [.int (117 : Int32), .int (110 : Int32), .int (107 : Int32), .int (110 : Int32), .int (111 : Int32), .int (119 : Int32), .int (110 : Int32), .int (32 : Int32), .int (111 : Int32), .int (112 : Int32), .int (116 : Int32), .int (105 : Int32), .int (111 : Int32), .int (110 : Int32), .int (0 : Int32)] (.int (0 : Int32)) := by rw [show nar .char (110 : Int32) = (110 : Int32) from by decide] at A25; exact A25
  have xb25 : Ext h10 h25 := xkp xb24 K25 (all1 (Nat.le_of_eq e11.symm))
  refine w25.dup (q := 159) at_158 rfl rfl ?_
  refine w25.bipush (q := 161) (14 : Int32) at_159 rfl rfl ?_
  refine w25.bipush (q := 163) (32 : Int32) at_161 rfl rfl ?_
  refine w25.castore (q := 164) 14 at_163 A25 g11 ⟨by decide, by decide⟩ rfl (Nat.le_of_ble_eq_true rfl) rfl fun T26 h26 w26 K26 A26 => ?_
  have sz26 : h25.size ≤ h26.size := K26.1
  replace A26 : Arv G.Z h26 b11 kc11 .char (15 : Int32) [.int (117 : Int32), .int (110 : Int32), .int (107 : Int32), .int (110 : Int32), .int (111 : Int32), .int (119 : Int32), .int (110 : Int32), .int (32 : Int32), .int (111 : Int32), .int (112 : Int32), .int (116 : Int32), .int (105 : Int32), .int (111 : Int32), .int (110 : Int32), .int (32 : Int32)] (.int (0 : Int32)) := by rw [show nar .char (32 : Int32) = (32 : Int32) from by decide] at A26; exact A26
  have xb26 : Ext h10 h26 := xkp xb25 K26 (all1 (Nat.le_of_eq e11.symm))
  refine w26.astore (q := 166) (L2 := #[.val (.int x0), .val (.int x1), .val (.int x2), .val (.int x3), .val (.int n4), .val (.int c5), .val (.int c6), .val (.int c7), .val (.ref b1), .val (.ref b2), .val (.ref b4), .val (.ref b7), .val (.ref b11), .unset, .unset, .unset, .unset, .unset, .unset, .unset]) at_164 rfl rfl rfl ?_
  refine w26.bipush (q := 168) (16 : Int32) at_166 rfl rfl ?_
  refine w26.newP (q := 170) 16 at_168 (H.tw 1 rfl) (by decide) (by decide) (by decide) (by decide) (by decide) rfl fun T27 h27 b27 kc27 e27 w27 E27 A27 => ?_
  replace A27 : Arv G.Z h27 b27 kc27 .char (16 : Int32) [(.int (0 : Int32)), (.int (0 : Int32)), (.int (0 : Int32)), (.int (0 : Int32)), (.int (0 : Int32)), (.int (0 : Int32)), (.int (0 : Int32)), (.int (0 : Int32)), (.int (0 : Int32)), (.int (0 : Int32)), (.int (0 : Int32)), (.int (0 : Int32)), (.int (0 : Int32)), (.int (0 : Int32)), (.int (0 : Int32)), (.int (0 : Int32))] (.int (0 : Int32)) := A27.pad (pad_rep [] (.int (0 : Int32)) 16)
  have lt27 : b27 < h27.size := A27.lt
  have sz27 : h26.size ≤ h27.size := E27.1
  have g27 : G.n0 ≤ b27 := by rw [e27]; exact w26.n0le
  refine w27.dup (q := 171) at_170 rfl rfl ?_
  refine w27.iconst (q := 172) (0 : Int32) at_171 rfl rfl ?_
  refine w27.bipush (q := 174) (117 : Int32) at_172 rfl rfl ?_
  refine w27.castore (q := 175) 0 at_174 A27 g27 ⟨by decide, by decide⟩ rfl (Nat.le_of_ble_eq_true rfl) rfl fun T28 h28 w28 K28 A28 => ?_
  have sz28 : h27.size ≤ h28.size := K28.1
  replace A28 : Arv G.Z h28 b27 kc27 .char (16 : Int32) [.int (117 : Int32), .int (0 : Int32), .int (0 : Int32), .int (0 : Int32), .int (0 : Int32), .int (0 : Int32), .int (0 : Int32), .int (0 : Int32), .int (0 : Int32), .int (0 : Int32), .int (0 : Int32), .int (0 : Int32), .int (0 : Int32), .int (0 : Int32), .int (0 : Int32), .int (0 : Int32)] (.int (0 : Int32)) := by rw [show nar .char (117 : Int32) = (117 : Int32) from by decide] at A28; exact A28
  have xb28 : Ext h26 h28 := xkp E27 K28 (all1 (Nat.le_of_eq e27.symm))
  refine w28.dup (q := 176) at_175 rfl rfl ?_
  refine w28.iconst (q := 177) (1 : Int32) at_176 rfl rfl ?_
  refine w28.bipush (q := 179) (110 : Int32) at_177 rfl rfl ?_
  refine w28.castore (q := 180) 1 at_179 A28 g27 ⟨by decide, by decide⟩ rfl (Nat.le_of_ble_eq_true rfl) rfl fun T29 h29 w29 K29 A29 => ?_
  have sz29 : h28.size ≤ h29.size := K29.1
  replace A29 : Arv G.Z h29 b27 kc27 .char (16 : Int32) [.int (117 : Int32), .int (110 : Int32), .int (0 : Int32), .int (0 : Int32), .int (0 : Int32), .int (0 : Int32), .int (0 : Int32), .int (0 : Int32), .int (0 : Int32), .int (0 : Int32), .int (0 : Int32), .int (0 : Int32), .int (0 : Int32), .int (0 : Int32), .int (0 : Int32), .int (0 : Int32)] (.int (0 : Int32)) := by rw [show nar .char (110 : Int32) = (110 : Int32) from by decide] at A29; exact A29
  have xb29 : Ext h26 h29 := xkp xb28 K29 (all1 (Nat.le_of_eq e27.symm))
  refine w29.dup (q := 181) at_180 rfl rfl ?_
  refine w29.iconst (q := 182) (2 : Int32) at_181 rfl rfl ?_
  refine w29.bipush (q := 184) (107 : Int32) at_182 rfl rfl ?_
  refine w29.castore (q := 185) 2 at_184 A29 g27 ⟨by decide, by decide⟩ rfl (Nat.le_of_ble_eq_true rfl) rfl fun T30 h30 w30 K30 A30 => ?_
  have sz30 : h29.size ≤ h30.size := K30.1
  replace A30 : Arv G.Z h30 b27 kc27 .char (16 : Int32) [.int (117 : Int32), .int (110 : Int32), .int (107 : Int32), .int (0 : Int32), .int (0 : Int32), .int (0 : Int32), .int (0 : Int32), .int (0 : Int32), .int (0 : Int32), .int (0 : Int32), .int (0 : Int32), .int (0 : Int32), .int (0 : Int32), .int (0 : Int32), .int (0 : Int32), .int (0 : Int32)] (.int (0 : Int32)) := by rw [show nar .char (107 : Int32) = (107 : Int32) from by decide] at A30; exact A30
  have xb30 : Ext h26 h30 := xkp xb29 K30 (all1 (Nat.le_of_eq e27.symm))
  refine w30.dup (q := 186) at_185 rfl rfl ?_
  refine w30.iconst (q := 187) (3 : Int32) at_186 rfl rfl ?_
  refine w30.bipush (q := 189) (110 : Int32) at_187 rfl rfl ?_
  refine w30.castore (q := 190) 3 at_189 A30 g27 ⟨by decide, by decide⟩ rfl (Nat.le_of_ble_eq_true rfl) rfl fun T31 h31 w31 K31 A31 => ?_
  have sz31 : h30.size ≤ h31.size := K31.1
  replace A31 : Arv G.Z h31 b27 kc27 .char (16 : Int32) [.int (117 : Int32), .int (110 : Int32), .int (107 : Int32), .int (110 : Int32), .int (0 : Int32), .int (0 : Int32), .int (0 : Int32), .int (0 : Int32), .int (0 : Int32), .int (0 : Int32), .int (0 : Int32), .int (0 : Int32), .int (0 : Int32), .int (0 : Int32), .int (0 : Int32), .int (0 : Int32)] (.int (0 : Int32)) := by rw [show nar .char (110 : Int32) = (110 : Int32) from by decide] at A31; exact A31
  have xb31 : Ext h26 h31 := xkp xb30 K31 (all1 (Nat.le_of_eq e27.symm))
  refine w31.dup (q := 191) at_190 rfl rfl ?_
  refine w31.iconst (q := 192) (4 : Int32) at_191 rfl rfl ?_
  refine w31.bipush (q := 194) (111 : Int32) at_192 rfl rfl ?_
  refine w31.castore (q := 195) 4 at_194 A31 g27 ⟨by decide, by decide⟩ rfl (Nat.le_of_ble_eq_true rfl) rfl fun T32 h32 w32 K32 A32 => ?_
  have sz32 : h31.size ≤ h32.size := K32.1
  replace A32 : Arv G.Z h32 b27 kc27 .char (16 : Int32) [.int (117 : Int32), .int (110 : Int32), .int (107 : Int32), .int (110 : Int32), .int (111 : Int32), .int (0 : Int32), .int (0 : Int32), .int (0 : Int32), .int (0 : Int32), .int (0 : Int32), .int (0 : Int32), .int (0 : Int32), .int (0 : Int32), .int (0 : Int32), .int (0 : Int32), .int (0 : Int32)] (.int (0 : Int32)) := by rw [show nar .char (111 : Int32) = (111 : Int32) from by decide] at A32; exact A32
  have xb32 : Ext h26 h32 := xkp xb31 K32 (all1 (Nat.le_of_eq e27.symm))
  refine w32.dup (q := 196) at_195 rfl rfl ?_
  refine w32.iconst (q := 197) (5 : Int32) at_196 rfl rfl ?_
  refine w32.bipush (q := 199) (119 : Int32) at_197 rfl rfl ?_
  refine w32.castore (q := 200) 5 at_199 A32 g27 ⟨by decide, by decide⟩ rfl (Nat.le_of_ble_eq_true rfl) rfl fun T33 h33 w33 K33 A33 => ?_
  have sz33 : h32.size ≤ h33.size := K33.1
  replace A33 : Arv G.Z h33 b27 kc27 .char (16 : Int32) [.int (117 : Int32), .int (110 : Int32), .int (107 : Int32), .int (110 : Int32), .int (111 : Int32), .int (119 : Int32), .int (0 : Int32), .int (0 : Int32), .int (0 : Int32), .int (0 : Int32), .int (0 : Int32), .int (0 : Int32), .int (0 : Int32), .int (0 : Int32), .int (0 : Int32), .int (0 : Int32)] (.int (0 : Int32)) := by rw [show nar .char (119 : Int32) = (119 : Int32) from by decide] at A33; exact A33
  have xb33 : Ext h26 h33 := xkp xb32 K33 (all1 (Nat.le_of_eq e27.symm))
  refine w33.dup (q := 201) at_200 rfl rfl ?_
  refine w33.bipush (q := 203) (6 : Int32) at_201 rfl rfl ?_
  refine w33.bipush (q := 205) (110 : Int32) at_203 rfl rfl ?_
  refine w33.castore (q := 206) 6 at_205 A33 g27 ⟨by decide, by decide⟩ rfl (Nat.le_of_ble_eq_true rfl) rfl fun T34 h34 w34 K34 A34 => ?_
  have sz34 : h33.size ≤ h34.size := K34.1
  replace A34 : Arv G.Z h34 b27 kc27 .char (16 : Int32) [.int (117 : Int32), .int (110 : Int32), .int (107 : Int32), .int (110 : Int32), .int (111 : Int32), .int (119 : Int32), .int (110 : Int32), .int (0 : Int32), .int (0 : Int32), .int (0 : Int32), .int (0 : Int32), .int (0 : Int32), .int (0 : Int32), .int (0 : Int32), .int (0 : Int32), .int (0 : Int32)] (.int (0 : Int32)) := by rw [show nar .char (110 : Int32) = (110 : Int32) from by decide] at A34; exact A34
  have xb34 : Ext h26 h34 := xkp xb33 K34 (all1 (Nat.le_of_eq e27.symm))
  refine w34.dup (q := 207) at_206 rfl rfl ?_
  refine w34.bipush (q := 209) (7 : Int32) at_207 rfl rfl ?_
  refine w34.bipush (q := 211) (32 : Int32) at_209 rfl rfl ?_
  refine w34.castore (q := 212) 7 at_211 A34 g27 ⟨by decide, by decide⟩ rfl (Nat.le_of_ble_eq_true rfl) rfl fun T35 h35 w35 K35 A35 => ?_
  have sz35 : h34.size ≤ h35.size := K35.1
  replace A35 : Arv G.Z h35 b27 kc27 .char (16 : Int32) [.int (117 : Int32), .int (110 : Int32), .int (107 : Int32), .int (110 : Int32), .int (111 : Int32), .int (119 : Int32), .int (110 : Int32), .int (32 : Int32), .int (0 : Int32), .int (0 : Int32), .int (0 : Int32), .int (0 : Int32), .int (0 : Int32), .int (0 : Int32), .int (0 : Int32), .int (0 : Int32)] (.int (0 : Int32)) := by rw [show nar .char (32 : Int32) = (32 : Int32) from by decide] at A35; exact A35
  have xb35 : Ext h26 h35 := xkp xb34 K35 (all1 (Nat.le_of_eq e27.symm))
  refine w35.dup (q := 213) at_212 rfl rfl ?_
  refine w35.bipush (q := 215) (8 : Int32) at_213 rfl rfl ?_
  refine w35.bipush (q := 217) (111 : Int32) at_215 rfl rfl ?_
  refine w35.castore (q := 218) 8 at_217 A35 g27 ⟨by decide, by decide⟩ rfl (Nat.le_of_ble_eq_true rfl) rfl fun T36 h36 w36 K36 A36 => ?_
  have sz36 : h35.size ≤ h36.size := K36.1
  replace A36 : Arv G.Z h36 b27 kc27 .char (16 : Int32) [.int (117 : Int32), .int (110 : Int32), .int (107 : Int32), .int (110 : Int32), .int (111 : Int32), .int (119 : Int32), .int (110 : Int32), .int (32 : Int32), .int (111 : Int32), .int (0 : Int32), .int (0 : Int32), .int (0 : Int32), .int (0 : Int32), .int (0 : Int32), .int (0 : Int32), .int (0 : Int32)] (.int (0 : Int32)) := by rw [show nar .char (111 : Int32) = (111 : Int32) from by decide] at A36; exact A36
  have xb36 : Ext h26 h36 := xkp xb35 K36 (all1 (Nat.le_of_eq e27.symm))
  refine w36.dup (q := 219) at_218 rfl rfl ?_
  refine w36.bipush (q := 221) (9 : Int32) at_219 rfl rfl ?_
  refine w36.bipush (q := 223) (112 : Int32) at_221 rfl rfl ?_
  refine w36.castore (q := 224) 9 at_223 A36 g27 ⟨by decide, by decide⟩ rfl (Nat.le_of_ble_eq_true rfl) rfl fun T37 h37 w37 K37 A37 => ?_
  have sz37 : h36.size ≤ h37.size := K37.1
  replace A37 : Arv G.Z h37 b27 kc27 .char (16 : Int32) [.int (117 : Int32), .int (110 : Int32), .int (107 : Int32), .int (110 : Int32), .int (111 : Int32), .int (119 : Int32), .int (110 : Int32), .int (32 : Int32), .int (111 : Int32), .int (112 : Int32), .int (0 : Int32), .int (0 : Int32), .int (0 : Int32), .int (0 : Int32), .int (0 : Int32), .int (0 : Int32)] (.int (0 : Int32)) := by rw [show nar .char (112 : Int32) = (112 : Int32) from by decide] at A37; exact A37
  have xb37 : Ext h26 h37 := xkp xb36 K37 (all1 (Nat.le_of_eq e27.symm))
  refine w37.dup (q := 225) at_224 rfl rfl ?_
  refine w37.bipush (q := 227) (10 : Int32) at_225 rfl rfl ?_
  refine w37.bipush (q := 229) (116 : Int32) at_227 rfl rfl ?_
  refine w37.castore (q := 230) 10 at_229 A37 g27 ⟨by decide, by decide⟩ rfl (Nat.le_of_ble_eq_true rfl) rfl fun T38 h38 w38 K38 A38 => ?_
  have sz38 : h37.size ≤ h38.size := K38.1
  replace A38 : Arv G.Z h38 b27 kc27 .char (16 : Int32) [.int (117 : Int32), .int (110 : Int32), .int (107 : Int32), .int (110 : Int32), .int (111 : Int32), .int (119 : Int32), .int (110 : Int32), .int (32 : Int32), .int (111 : Int32), .int (112 : Int32), .int (116 : Int32), .int (0 : Int32), .int (0 : Int32), .int (0 : Int32), .int (0 : Int32), .int (0 : Int32)] (.int (0 : Int32)) := by rw [show nar .char (116 : Int32) = (116 : Int32) from by decide] at A38; exact A38
  have xb38 : Ext h26 h38 := xkp xb37 K38 (all1 (Nat.le_of_eq e27.symm))
  refine w38.dup (q := 231) at_230 rfl rfl ?_
  refine w38.bipush (q := 233) (11 : Int32) at_231 rfl rfl ?_
  refine w38.bipush (q := 235) (105 : Int32) at_233 rfl rfl ?_
  refine w38.castore (q := 236) 11 at_235 A38 g27 ⟨by decide, by decide⟩ rfl (Nat.le_of_ble_eq_true rfl) rfl fun T39 h39 w39 K39 A39 => ?_
  have sz39 : h38.size ≤ h39.size := K39.1
  replace A39 : Arv G.Z h39 b27 kc27 .char (16 : Int32) [.int (117 : Int32), .int (110 : Int32), .int (107 : Int32), .int (110 : Int32), .int (111 : Int32), .int (119 : Int32), .int (110 : Int32), .int (32 : Int32), .int (111 : Int32), .int (112 : Int32), .int (116 : Int32), .int (105 : Int32), .int (0 : Int32), .int (0 : Int32), .int (0 : Int32), .int (0 : Int32)] (.int (0 : Int32)) := by rw [show nar .char (105 : Int32) = (105 : Int32) from by decide] at A39; exact A39
  have xb39 : Ext h26 h39 := xkp xb38 K39 (all1 (Nat.le_of_eq e27.symm))
  refine w39.dup (q := 237) at_236 rfl rfl ?_
  refine w39.bipush (q := 239) (12 : Int32) at_237 rfl rfl ?_
  refine w39.bipush (q := 241) (111 : Int32) at_239 rfl rfl ?_
  refine w39.castore (q := 242) 12 at_241 A39 g27 ⟨by decide, by decide⟩ rfl (Nat.le_of_ble_eq_true rfl) rfl fun T40 h40 w40 K40 A40 => ?_
  have sz40 : h39.size ≤ h40.size := K40.1
  replace A40 : Arv G.Z h40 b27 kc27 .char (16 : Int32) [.int (117 : Int32), .int (110 : Int32), .int (107 : Int32), .int (110 : Int32), .int (111 : Int32), .int (119 : Int32), .int (110 : Int32), .int (32 : Int32), .int (111 : Int32), .int (112 : Int32), .int (116 : Int32), .int (105 : Int32), .int (111 : Int32), .int (0 : Int32), .int (0 : Int32), .int (0 : Int32)] (.int (0 : Int32)) := by rw [show nar .char (111 : Int32) = (111 : Int32) from by decide] at A40; exact A40
  have xb40 : Ext h26 h40 := xkp xb39 K40 (all1 (Nat.le_of_eq e27.symm))
  refine w40.dup (q := 243) at_242 rfl rfl ?_
  refine w40.bipush (q := 245) (13 : Int32) at_243 rfl rfl ?_
  refine w40.bipush (q := 247) (110 : Int32) at_245 rfl rfl ?_
  refine w40.castore (q := 248) 13 at_247 A40 g27 ⟨by decide, by decide⟩ rfl (Nat.le_of_ble_eq_true rfl) rfl fun T41 h41 w41 K41 A41 => ?_
  have sz41 : h40.size ≤ h41.size := K41.1
  replace A41 : Arv G.Z h41 b27 kc27 .char (16 : Int32) [.int (117 : Int32), .int (110 : Int32), .int (107 : Int32), .int (110 : Int32), .int (111 : Int32), .int (119 : Int32), .int (110 : Int32), .int (32 : Int32), .int (111 : Int32), .int (112 : Int32), .int (116 : Int32), .int (105 : Int32), .int (111 : Int32), .int (110 : Int32), .int (0 : Int32), .int (0 : Int32)] (.int (0 : Int32)) := by rw [show nar .char (110 : Int32) = (110 : Int32) from by decide] at A41; exact A41
  have xb41 : Ext h26 h41 := xkp xb40 K41 (all1 (Nat.le_of_eq e27.symm))
  refine w41.dup (q := 249) at_248 rfl rfl ?_
  refine w41.bipush (q := 251) (14 : Int32) at_249 rfl rfl ?_
  refine w41.bipush (q := 253) (32 : Int32) at_251 rfl rfl ?_
  refine w41.castore (q := 254) 14 at_253 A41 g27 ⟨by decide, by decide⟩ rfl (Nat.le_of_ble_eq_true rfl) rfl fun T42 h42 w42 K42 A42 => ?_
  have sz42 : h41.size ≤ h42.size := K42.1
  replace A42 : Arv G.Z h42 b27 kc27 .char (16 : Int32) [.int (117 : Int32), .int (110 : Int32), .int (107 : Int32), .int (110 : Int32), .int (111 : Int32), .int (119 : Int32), .int (110 : Int32), .int (32 : Int32), .int (111 : Int32), .int (112 : Int32), .int (116 : Int32), .int (105 : Int32), .int (111 : Int32), .int (110 : Int32), .int (32 : Int32), .int (0 : Int32)] (.int (0 : Int32)) := by rw [show nar .char (32 : Int32) = (32 : Int32) from by decide] at A42; exact A42
  have xb42 : Ext h26 h42 := xkp xb41 K42 (all1 (Nat.le_of_eq e27.symm))
  refine w42.dup (q := 255) at_254 rfl rfl ?_
  refine w42.bipush (q := 257) (15 : Int32) at_255 rfl rfl ?_
  refine w42.iload (q := 259) at_257 rfl rfl ?_
  refine w42.castore (q := 260) 15 at_259 A42 g27 ⟨by decide, by decide⟩ rfl (Nat.le_of_ble_eq_true rfl) rfl fun T43 h43 w43 K43 A43 => ?_
  have sz43 : h42.size ≤ h43.size := K43.1
  replace A43 : Arv G.Z h43 b27 kc27 .char (16 : Int32) [.int (117 : Int32), .int (110 : Int32), .int (107 : Int32), .int (110 : Int32), .int (111 : Int32), .int (119 : Int32), .int (110 : Int32), .int (32 : Int32), .int (111 : Int32), .int (112 : Int32), .int (116 : Int32), .int (105 : Int32), .int (111 : Int32), .int (110 : Int32), .int (32 : Int32), .int c5] (.int (0 : Int32)) := by rw [N5] at A43; exact A43
  have xb43 : Ext h26 h43 := xkp xb42 K43 (all1 (Nat.le_of_eq e27.symm))
  refine w43.astore (q := 262) (L2 := #[.val (.int x0), .val (.int x1), .val (.int x2), .val (.int x3), .val (.int n4), .val (.int c5), .val (.int c6), .val (.int c7), .val (.ref b1), .val (.ref b2), .val (.ref b4), .val (.ref b7), .val (.ref b11), .val (.ref b27), .unset, .unset, .unset, .unset, .unset, .unset]) at_260 rfl rfl rfl ?_
  refine w43.bipush (q := 264) (17 : Int32) at_262 rfl rfl ?_
  refine w43.newP (q := 266) 17 at_264 (H.tw 1 rfl) (by decide) (by decide) (by decide) (by decide) (by decide) rfl fun T44 h44 b44 kc44 e44 w44 E44 A44 => ?_
  replace A44 : Arv G.Z h44 b44 kc44 .char (17 : Int32) [(.int (0 : Int32)), (.int (0 : Int32)), (.int (0 : Int32)), (.int (0 : Int32)), (.int (0 : Int32)), (.int (0 : Int32)), (.int (0 : Int32)), (.int (0 : Int32)), (.int (0 : Int32)), (.int (0 : Int32)), (.int (0 : Int32)), (.int (0 : Int32)), (.int (0 : Int32)), (.int (0 : Int32)), (.int (0 : Int32)), (.int (0 : Int32)), (.int (0 : Int32))] (.int (0 : Int32)) := A44.pad (pad_rep [] (.int (0 : Int32)) 17)
  have lt44 : b44 < h44.size := A44.lt
  have sz44 : h43.size ≤ h44.size := E44.1
  have g44 : G.n0 ≤ b44 := by rw [e44]; exact w43.n0le
  refine w44.dup (q := 267) at_266 rfl rfl ?_
  refine w44.iconst (q := 268) (0 : Int32) at_267 rfl rfl ?_
  refine w44.bipush (q := 270) (117 : Int32) at_268 rfl rfl ?_
  refine w44.castore (q := 271) 0 at_270 A44 g44 ⟨by decide, by decide⟩ rfl (Nat.le_of_ble_eq_true rfl) rfl fun T45 h45 w45 K45 A45 => ?_
  have sz45 : h44.size ≤ h45.size := K45.1
  replace A45 : Arv G.Z h45 b44 kc44 .char (17 : Int32) [.int (117 : Int32), .int (0 : Int32), .int (0 : Int32), .int (0 : Int32), .int (0 : Int32), .int (0 : Int32), .int (0 : Int32), .int (0 : Int32), .int (0 : Int32), .int (0 : Int32), .int (0 : Int32), .int (0 : Int32), .int (0 : Int32), .int (0 : Int32), .int (0 : Int32), .int (0 : Int32), .int (0 : Int32)] (.int (0 : Int32)) := by rw [show nar .char (117 : Int32) = (117 : Int32) from by decide] at A45; exact A45
  have xb45 : Ext h43 h45 := xkp E44 K45 (all1 (Nat.le_of_eq e44.symm))
  refine w45.dup (q := 272) at_271 rfl rfl ?_
  refine w45.iconst (q := 273) (1 : Int32) at_272 rfl rfl ?_
  refine w45.bipush (q := 275) (110 : Int32) at_273 rfl rfl ?_
  refine w45.castore (q := 276) 1 at_275 A45 g44 ⟨by decide, by decide⟩ rfl (Nat.le_of_ble_eq_true rfl) rfl fun T46 h46 w46 K46 A46 => ?_
  have sz46 : h45.size ≤ h46.size := K46.1
  replace A46 : Arv G.Z h46 b44 kc44 .char (17 : Int32) [.int (117 : Int32), .int (110 : Int32), .int (0 : Int32), .int (0 : Int32), .int (0 : Int32), .int (0 : Int32), .int (0 : Int32), .int (0 : Int32), .int (0 : Int32), .int (0 : Int32), .int (0 : Int32), .int (0 : Int32), .int (0 : Int32), .int (0 : Int32), .int (0 : Int32), .int (0 : Int32), .int (0 : Int32)] (.int (0 : Int32)) := by rw [show nar .char (110 : Int32) = (110 : Int32) from by decide] at A46; exact A46
  have xb46 : Ext h43 h46 := xkp xb45 K46 (all1 (Nat.le_of_eq e44.symm))
  refine w46.dup (q := 277) at_276 rfl rfl ?_
  refine w46.iconst (q := 278) (2 : Int32) at_277 rfl rfl ?_
  refine w46.bipush (q := 280) (107 : Int32) at_278 rfl rfl ?_
  refine w46.castore (q := 281) 2 at_280 A46 g44 ⟨by decide, by decide⟩ rfl (Nat.le_of_ble_eq_true rfl) rfl fun T47 h47 w47 K47 A47 => ?_
  have sz47 : h46.size ≤ h47.size := K47.1
  replace A47 : Arv G.Z h47 b44 kc44 .char (17 : Int32) [.int (117 : Int32), .int (110 : Int32), .int (107 : Int32), .int (0 : Int32), .int (0 : Int32), .int (0 : Int32), .int (0 : Int32), .int (0 : Int32), .int (0 : Int32), .int (0 : Int32), .int (0 : Int32), .int (0 : Int32), .int (0 : Int32), .int (0 : Int32), .int (0 : Int32), .int (0 : Int32), .int (0 : Int32)] (.int (0 : Int32)) := by rw [show nar .char (107 : Int32) = (107 : Int32) from by decide] at A47; exact A47
  have xb47 : Ext h43 h47 := xkp xb46 K47 (all1 (Nat.le_of_eq e44.symm))
  refine w47.dup (q := 282) at_281 rfl rfl ?_
  refine w47.iconst (q := 283) (3 : Int32) at_282 rfl rfl ?_
  refine w47.bipush (q := 285) (110 : Int32) at_283 rfl rfl ?_
  refine w47.castore (q := 286) 3 at_285 A47 g44 ⟨by decide, by decide⟩ rfl (Nat.le_of_ble_eq_true rfl) rfl fun T48 h48 w48 K48 A48 => ?_
  have sz48 : h47.size ≤ h48.size := K48.1
  replace A48 : Arv G.Z h48 b44 kc44 .char (17 : Int32) [.int (117 : Int32), .int (110 : Int32), .int (107 : Int32), .int (110 : Int32), .int (0 : Int32), .int (0 : Int32), .int (0 : Int32), .int (0 : Int32), .int (0 : Int32), .int (0 : Int32), .int (0 : Int32), .int (0 : Int32), .int (0 : Int32), .int (0 : Int32), .int (0 : Int32), .int (0 : Int32), .int (0 : Int32)] (.int (0 : Int32)) := by rw [show nar .char (110 : Int32) = (110 : Int32) from by decide] at A48; exact A48
  have xb48 : Ext h43 h48 := xkp xb47 K48 (all1 (Nat.le_of_eq e44.symm))
  refine w48.dup (q := 287) at_286 rfl rfl ?_
  refine w48.iconst (q := 288) (4 : Int32) at_287 rfl rfl ?_
  refine w48.bipush (q := 290) (111 : Int32) at_288 rfl rfl ?_
  refine w48.castore (q := 291) 4 at_290 A48 g44 ⟨by decide, by decide⟩ rfl (Nat.le_of_ble_eq_true rfl) rfl fun T49 h49 w49 K49 A49 => ?_
  have sz49 : h48.size ≤ h49.size := K49.1
  replace A49 : Arv G.Z h49 b44 kc44 .char (17 : Int32) [.int (117 : Int32), .int (110 : Int32), .int (107 : Int32), .int (110 : Int32), .int (111 : Int32), .int (0 : Int32), .int (0 : Int32), .int (0 : Int32), .int (0 : Int32), .int (0 : Int32), .int (0 : Int32), .int (0 : Int32), .int (0 : Int32), .int (0 : Int32), .int (0 : Int32), .int (0 : Int32), .int (0 : Int32)] (.int (0 : Int32)) := by rw [show nar .char (111 : Int32) = (111 : Int32) from by decide] at A49; exact A49
  have xb49 : Ext h43 h49 := xkp xb48 K49 (all1 (Nat.le_of_eq e44.symm))
  refine w49.dup (q := 292) at_291 rfl rfl ?_
  refine w49.iconst (q := 293) (5 : Int32) at_292 rfl rfl ?_
  refine w49.bipush (q := 295) (119 : Int32) at_293 rfl rfl ?_
  refine w49.castore (q := 296) 5 at_295 A49 g44 ⟨by decide, by decide⟩ rfl (Nat.le_of_ble_eq_true rfl) rfl fun T50 h50 w50 K50 A50 => ?_
  have sz50 : h49.size ≤ h50.size := K50.1
  replace A50 : Arv G.Z h50 b44 kc44 .char (17 : Int32) [.int (117 : Int32), .int (110 : Int32), .int (107 : Int32), .int (110 : Int32), .int (111 : Int32), .int (119 : Int32), .int (0 : Int32), .int (0 : Int32), .int (0 : Int32), .int (0 : Int32), .int (0 : Int32), .int (0 : Int32), .int (0 : Int32), .int (0 : Int32), .int (0 : Int32), .int (0 : Int32), .int (0 : Int32)] (.int (0 : Int32)) := by rw [show nar .char (119 : Int32) = (119 : Int32) from by decide] at A50; exact A50
  have xb50 : Ext h43 h50 := xkp xb49 K50 (all1 (Nat.le_of_eq e44.symm))
  refine w50.dup (q := 297) at_296 rfl rfl ?_
  refine w50.bipush (q := 299) (6 : Int32) at_297 rfl rfl ?_
  refine w50.bipush (q := 301) (110 : Int32) at_299 rfl rfl ?_
  refine w50.castore (q := 302) 6 at_301 A50 g44 ⟨by decide, by decide⟩ rfl (Nat.le_of_ble_eq_true rfl) rfl fun T51 h51 w51 K51 A51 => ?_
  have sz51 : h50.size ≤ h51.size := K51.1
  replace A51 : Arv G.Z h51 b44 kc44 .char (17 : Int32) [.int (117 : Int32), .int (110 : Int32), .int (107 : Int32), .int (110 : Int32), .int (111 : Int32), .int (119 : Int32), .int (110 : Int32), .int (0 : Int32), .int (0 : Int32), .int (0 : Int32), .int (0 : Int32), .int (0 : Int32), .int (0 : Int32), .int (0 : Int32), .int (0 : Int32), .int (0 : Int32), .int (0 : Int32)] (.int (0 : Int32)) := by rw [show nar .char (110 : Int32) = (110 : Int32) from by decide] at A51; exact A51
  have xb51 : Ext h43 h51 := xkp xb50 K51 (all1 (Nat.le_of_eq e44.symm))
  refine w51.dup (q := 303) at_302 rfl rfl ?_
  refine w51.bipush (q := 305) (7 : Int32) at_303 rfl rfl ?_
  refine w51.bipush (q := 307) (32 : Int32) at_305 rfl rfl ?_
  refine w51.castore (q := 308) 7 at_307 A51 g44 ⟨by decide, by decide⟩ rfl (Nat.le_of_ble_eq_true rfl) rfl fun T52 h52 w52 K52 A52 => ?_
  have sz52 : h51.size ≤ h52.size := K52.1
  replace A52 : Arv G.Z h52 b44 kc44 .char (17 : Int32) [.int (117 : Int32), .int (110 : Int32), .int (107 : Int32), .int (110 : Int32), .int (111 : Int32), .int (119 : Int32), .int (110 : Int32), .int (32 : Int32), .int (0 : Int32), .int (0 : Int32), .int (0 : Int32), .int (0 : Int32), .int (0 : Int32), .int (0 : Int32), .int (0 : Int32), .int (0 : Int32), .int (0 : Int32)] (.int (0 : Int32)) := by rw [show nar .char (32 : Int32) = (32 : Int32) from by decide] at A52; exact A52
  have xb52 : Ext h43 h52 := xkp xb51 K52 (all1 (Nat.le_of_eq e44.symm))
  refine w52.dup (q := 309) at_308 rfl rfl ?_
  refine w52.bipush (q := 311) (8 : Int32) at_309 rfl rfl ?_
  refine w52.bipush (q := 313) (111 : Int32) at_311 rfl rfl ?_
  refine w52.castore (q := 314) 8 at_313 A52 g44 ⟨by decide, by decide⟩ rfl (Nat.le_of_ble_eq_true rfl) rfl fun T53 h53 w53 K53 A53 => ?_
  have sz53 : h52.size ≤ h53.size := K53.1
  replace A53 : Arv G.Z h53 b44 kc44 .char (17 : Int32) [.int (117 : Int32), .int (110 : Int32), .int (107 : Int32), .int (110 : Int32), .int (111 : Int32), .int (119 : Int32), .int (110 : Int32), .int (32 : Int32), .int (111 : Int32), .int (0 : Int32), .int (0 : Int32), .int (0 : Int32), .int (0 : Int32), .int (0 : Int32), .int (0 : Int32), .int (0 : Int32), .int (0 : Int32)] (.int (0 : Int32)) := by rw [show nar .char (111 : Int32) = (111 : Int32) from by decide] at A53; exact A53
  have xb53 : Ext h43 h53 := xkp xb52 K53 (all1 (Nat.le_of_eq e44.symm))
  refine w53.dup (q := 315) at_314 rfl rfl ?_
  refine w53.bipush (q := 317) (9 : Int32) at_315 rfl rfl ?_
  refine w53.bipush (q := 319) (112 : Int32) at_317 rfl rfl ?_
  refine w53.castore (q := 320) 9 at_319 A53 g44 ⟨by decide, by decide⟩ rfl (Nat.le_of_ble_eq_true rfl) rfl fun T54 h54 w54 K54 A54 => ?_
  have sz54 : h53.size ≤ h54.size := K54.1
  replace A54 : Arv G.Z h54 b44 kc44 .char (17 : Int32) [.int (117 : Int32), .int (110 : Int32), .int (107 : Int32), .int (110 : Int32), .int (111 : Int32), .int (119 : Int32), .int (110 : Int32), .int (32 : Int32), .int (111 : Int32), .int (112 : Int32), .int (0 : Int32), .int (0 : Int32), .int (0 : Int32), .int (0 : Int32), .int (0 : Int32), .int (0 : Int32), .int (0 : Int32)] (.int (0 : Int32)) := by rw [show nar .char (112 : Int32) = (112 : Int32) from by decide] at A54; exact A54
  have xb54 : Ext h43 h54 := xkp xb53 K54 (all1 (Nat.le_of_eq e44.symm))
  refine w54.dup (q := 321) at_320 rfl rfl ?_
  refine w54.bipush (q := 323) (10 : Int32) at_321 rfl rfl ?_
  refine w54.bipush (q := 325) (116 : Int32) at_323 rfl rfl ?_
  refine w54.castore (q := 326) 10 at_325 A54 g44 ⟨by decide, by decide⟩ rfl (Nat.le_of_ble_eq_true rfl) rfl fun T55 h55 w55 K55 A55 => ?_
  have sz55 : h54.size ≤ h55.size := K55.1
  replace A55 : Arv G.Z h55 b44 kc44 .char (17 : Int32) [.int (117 : Int32), .int (110 : Int32), .int (107 : Int32), .int (110 : Int32), .int (111 : Int32), .int (119 : Int32), .int (110 : Int32), .int (32 : Int32), .int (111 : Int32), .int (112 : Int32), .int (116 : Int32), .int (0 : Int32), .int (0 : Int32), .int (0 : Int32), .int (0 : Int32), .int (0 : Int32), .int (0 : Int32)] (.int (0 : Int32)) := by rw [show nar .char (116 : Int32) = (116 : Int32) from by decide] at A55; exact A55
  have xb55 : Ext h43 h55 := xkp xb54 K55 (all1 (Nat.le_of_eq e44.symm))
  refine w55.dup (q := 327) at_326 rfl rfl ?_
  refine w55.bipush (q := 329) (11 : Int32) at_327 rfl rfl ?_
  refine w55.bipush (q := 331) (105 : Int32) at_329 rfl rfl ?_
  refine w55.castore (q := 332) 11 at_331 A55 g44 ⟨by decide, by decide⟩ rfl (Nat.le_of_ble_eq_true rfl) rfl fun T56 h56 w56 K56 A56 => ?_
  have sz56 : h55.size ≤ h56.size := K56.1
  replace A56 : Arv G.Z h56 b44 kc44 .char (17 : Int32) [.int (117 : Int32), .int (110 : Int32), .int (107 : Int32), .int (110 : Int32), .int (111 : Int32), .int (119 : Int32), .int (110 : Int32), .int (32 : Int32), .int (111 : Int32), .int (112 : Int32), .int (116 : Int32), .int (105 : Int32), .int (0 : Int32), .int (0 : Int32), .int (0 : Int32), .int (0 : Int32), .int (0 : Int32)] (.int (0 : Int32)) := by rw [show nar .char (105 : Int32) = (105 : Int32) from by decide] at A56; exact A56
  have xb56 : Ext h43 h56 := xkp xb55 K56 (all1 (Nat.le_of_eq e44.symm))
  refine w56.dup (q := 333) at_332 rfl rfl ?_
  refine w56.bipush (q := 335) (12 : Int32) at_333 rfl rfl ?_
  refine w56.bipush (q := 337) (111 : Int32) at_335 rfl rfl ?_
  refine w56.castore (q := 338) 12 at_337 A56 g44 ⟨by decide, by decide⟩ rfl (Nat.le_of_ble_eq_true rfl) rfl fun T57 h57 w57 K57 A57 => ?_
  have sz57 : h56.size ≤ h57.size := K57.1
  replace A57 : Arv G.Z h57 b44 kc44 .char (17 : Int32) [.int (117 : Int32), .int (110 : Int32), .int (107 : Int32), .int (110 : Int32), .int (111 : Int32), .int (119 : Int32), .int (110 : Int32), .int (32 : Int32), .int (111 : Int32), .int (112 : Int32), .int (116 : Int32), .int (105 : Int32), .int (111 : Int32), .int (0 : Int32), .int (0 : Int32), .int (0 : Int32), .int (0 : Int32)] (.int (0 : Int32)) := by rw [show nar .char (111 : Int32) = (111 : Int32) from by decide] at A57; exact A57
  have xb57 : Ext h43 h57 := xkp xb56 K57 (all1 (Nat.le_of_eq e44.symm))
  refine w57.dup (q := 339) at_338 rfl rfl ?_
  refine w57.bipush (q := 341) (13 : Int32) at_339 rfl rfl ?_
  refine w57.bipush (q := 343) (110 : Int32) at_341 rfl rfl ?_
  refine w57.castore (q := 344) 13 at_343 A57 g44 ⟨by decide, by decide⟩ rfl (Nat.le_of_ble_eq_true rfl) rfl fun T58 h58 w58 K58 A58 => ?_
  have sz58 : h57.size ≤ h58.size := K58.1
  replace A58 : Arv G.Z h58 b44 kc44 .char (17 : Int32) [.int (117 : Int32), .int (110 : Int32), .int (107 : Int32), .int (110 : Int32), .int (111 : Int32), .int (119 : Int32), .int (110 : Int32), .int (32 : Int32), .int (111 : Int32), .int (112 : Int32), .int (116 : Int32), .int (105 : Int32), .int (111 : Int32), .int (110 : Int32), .int (0 : Int32), .int (0 : Int32), .int (0 : Int32)] (.int (0 : Int32)) := by rw [show nar .char (110 : Int32) = (110 : Int32) from by decide] at A58; exact A58
  have xb58 : Ext h43 h58 := xkp xb57 K58 (all1 (Nat.le_of_eq e44.symm))
  refine w58.dup (q := 345) at_344 rfl rfl ?_
  refine w58.bipush (q := 347) (14 : Int32) at_345 rfl rfl ?_
  refine w58.bipush (q := 349) (32 : Int32) at_347 rfl rfl ?_
  refine w58.castore (q := 350) 14 at_349 A58 g44 ⟨by decide, by decide⟩ rfl (Nat.le_of_ble_eq_true rfl) rfl fun T59 h59 w59 K59 A59 => ?_
  have sz59 : h58.size ≤ h59.size := K59.1
  replace A59 : Arv G.Z h59 b44 kc44 .char (17 : Int32) [.int (117 : Int32), .int (110 : Int32), .int (107 : Int32), .int (110 : Int32), .int (111 : Int32), .int (119 : Int32), .int (110 : Int32), .int (32 : Int32), .int (111 : Int32), .int (112 : Int32), .int (116 : Int32), .int (105 : Int32), .int (111 : Int32), .int (110 : Int32), .int (32 : Int32), .int (0 : Int32), .int (0 : Int32)] (.int (0 : Int32)) := by rw [show nar .char (32 : Int32) = (32 : Int32) from by decide] at A59; exact A59
  have xb59 : Ext h43 h59 := xkp xb58 K59 (all1 (Nat.le_of_eq e44.symm))
  refine w59.dup (q := 351) at_350 rfl rfl ?_
  refine w59.bipush (q := 353) (15 : Int32) at_351 rfl rfl ?_
  refine w59.iload (q := 355) at_353 rfl rfl ?_
  refine w59.castore (q := 356) 15 at_355 A59 g44 ⟨by decide, by decide⟩ rfl (Nat.le_of_ble_eq_true rfl) rfl fun T60 h60 w60 K60 A60 => ?_
  have sz60 : h59.size ≤ h60.size := K60.1
  replace A60 : Arv G.Z h60 b44 kc44 .char (17 : Int32) [.int (117 : Int32), .int (110 : Int32), .int (107 : Int32), .int (110 : Int32), .int (111 : Int32), .int (119 : Int32), .int (110 : Int32), .int (32 : Int32), .int (111 : Int32), .int (112 : Int32), .int (116 : Int32), .int (105 : Int32), .int (111 : Int32), .int (110 : Int32), .int (32 : Int32), .int c5, .int (0 : Int32)] (.int (0 : Int32)) := by rw [N5] at A60; exact A60
  have xb60 : Ext h43 h60 := xkp xb59 K60 (all1 (Nat.le_of_eq e44.symm))
  refine w60.dup (q := 357) at_356 rfl rfl ?_
  refine w60.bipush (q := 359) (16 : Int32) at_357 rfl rfl ?_
  refine w60.iload (q := 361) at_359 rfl rfl ?_
  refine w60.castore (q := 362) 16 at_361 A60 g44 ⟨by decide, by decide⟩ rfl (Nat.le_of_ble_eq_true rfl) rfl fun T61 h61 w61 K61 A61 => ?_
  have sz61 : h60.size ≤ h61.size := K61.1
  replace A61 : Arv G.Z h61 b44 kc44 .char (17 : Int32) [.int (117 : Int32), .int (110 : Int32), .int (107 : Int32), .int (110 : Int32), .int (111 : Int32), .int (119 : Int32), .int (110 : Int32), .int (32 : Int32), .int (111 : Int32), .int (112 : Int32), .int (116 : Int32), .int (105 : Int32), .int (111 : Int32), .int (110 : Int32), .int (32 : Int32), .int c5, .int c6] (.int (0 : Int32)) := by rw [N6] at A61; exact A61
  have xb61 : Ext h43 h61 := xkp xb60 K61 (all1 (Nat.le_of_eq e44.symm))
  refine w61.astore (q := 364) (L2 := #[.val (.int x0), .val (.int x1), .val (.int x2), .val (.int x3), .val (.int n4), .val (.int c5), .val (.int c6), .val (.int c7), .val (.ref b1), .val (.ref b2), .val (.ref b4), .val (.ref b7), .val (.ref b11), .val (.ref b27), .val (.ref b44), .unset, .unset, .unset, .unset, .unset]) at_362 rfl rfl rfl ?_
  refine w61.bipush (q := 366) (18 : Int32) at_364 rfl rfl ?_
  refine w61.newP (q := 368) 18 at_366 (H.tw 1 rfl) (by decide) (by decide) (by decide) (by decide) (by decide) rfl fun T62 h62 b62 kc62 e62 w62 E62 A62 => ?_
  replace A62 : Arv G.Z h62 b62 kc62 .char (18 : Int32) [(.int (0 : Int32)), (.int (0 : Int32)), (.int (0 : Int32)), (.int (0 : Int32)), (.int (0 : Int32)), (.int (0 : Int32)), (.int (0 : Int32)), (.int (0 : Int32)), (.int (0 : Int32)), (.int (0 : Int32)), (.int (0 : Int32)), (.int (0 : Int32)), (.int (0 : Int32)), (.int (0 : Int32)), (.int (0 : Int32)), (.int (0 : Int32)), (.int (0 : Int32)), (.int (0 : Int32))] (.int (0 : Int32)) := A62.pad (pad_rep [] (.int (0 : Int32)) 18)
  have lt62 : b62 < h62.size := A62.lt
  have sz62 : h61.size ≤ h62.size := E62.1
  have g62 : G.n0 ≤ b62 := by rw [e62]; exact w61.n0le
  refine w62.dup (q := 369) at_368 rfl rfl ?_
  refine w62.iconst (q := 370) (0 : Int32) at_369 rfl rfl ?_
  refine w62.bipush (q := 372) (117 : Int32) at_370 rfl rfl ?_
  refine w62.castore (q := 373) 0 at_372 A62 g62 ⟨by decide, by decide⟩ rfl (Nat.le_of_ble_eq_true rfl) rfl fun T63 h63 w63 K63 A63 => ?_
  have sz63 : h62.size ≤ h63.size := K63.1
  replace A63 : Arv G.Z h63 b62 kc62 .char (18 : Int32) [.int (117 : Int32), .int (0 : Int32), .int (0 : Int32), .int (0 : Int32), .int (0 : Int32), .int (0 : Int32), .int (0 : Int32), .int (0 : Int32), .int (0 : Int32), .int (0 : Int32), .int (0 : Int32), .int (0 : Int32), .int (0 : Int32), .int (0 : Int32), .int (0 : Int32), .int (0 : Int32), .int (0 : Int32), .int (0 : Int32)] (.int (0 : Int32)) := by rw [show nar .char (117 : Int32) = (117 : Int32) from by decide] at A63; exact A63
  have xb63 : Ext h61 h63 := xkp E62 K63 (all1 (Nat.le_of_eq e62.symm))
  refine w63.dup (q := 374) at_373 rfl rfl ?_
  refine w63.iconst (q := 375) (1 : Int32) at_374 rfl rfl ?_
  refine w63.bipush (q := 377) (110 : Int32) at_375 rfl rfl ?_
  refine w63.castore (q := 378) 1 at_377 A63 g62 ⟨by decide, by decide⟩ rfl (Nat.le_of_ble_eq_true rfl) rfl fun T64 h64 w64 K64 A64 => ?_
  have sz64 : h63.size ≤ h64.size := K64.1
  replace A64 : Arv G.Z h64 b62 kc62 .char (18 : Int32) [.int (117 : Int32), .int (110 : Int32), .int (0 : Int32), .int (0 : Int32), .int (0 : Int32), .int (0 : Int32), .int (0 : Int32), .int (0 : Int32), .int (0 : Int32), .int (0 : Int32), .int (0 : Int32), .int (0 : Int32), .int (0 : Int32), .int (0 : Int32), .int (0 : Int32), .int (0 : Int32), .int (0 : Int32), .int (0 : Int32)] (.int (0 : Int32)) := by rw [show nar .char (110 : Int32) = (110 : Int32) from by decide] at A64; exact A64
  have xb64 : Ext h61 h64 := xkp xb63 K64 (all1 (Nat.le_of_eq e62.symm))
  refine w64.dup (q := 379) at_378 rfl rfl ?_
  refine w64.iconst (q := 380) (2 : Int32) at_379 rfl rfl ?_
  refine w64.bipush (q := 382) (107 : Int32) at_380 rfl rfl ?_
  refine w64.castore (q := 383) 2 at_382 A64 g62 ⟨by decide, by decide⟩ rfl (Nat.le_of_ble_eq_true rfl) rfl fun T65 h65 w65 K65 A65 => ?_
  have sz65 : h64.size ≤ h65.size := K65.1
  replace A65 : Arv G.Z h65 b62 kc62 .char (18 : Int32) [.int (117 : Int32), .int (110 : Int32), .int (107 : Int32), .int (0 : Int32), .int (0 : Int32), .int (0 : Int32), .int (0 : Int32), .int (0 : Int32), .int (0 : Int32), .int (0 : Int32), .int (0 : Int32), .int (0 : Int32), .int (0 : Int32), .int (0 : Int32), .int (0 : Int32), .int (0 : Int32), .int (0 : Int32), .int (0 : Int32)] (.int (0 : Int32)) := by rw [show nar .char (107 : Int32) = (107 : Int32) from by decide] at A65; exact A65
  have xb65 : Ext h61 h65 := xkp xb64 K65 (all1 (Nat.le_of_eq e62.symm))
  refine w65.dup (q := 384) at_383 rfl rfl ?_
  refine w65.iconst (q := 385) (3 : Int32) at_384 rfl rfl ?_
  refine w65.bipush (q := 387) (110 : Int32) at_385 rfl rfl ?_
  refine w65.castore (q := 388) 3 at_387 A65 g62 ⟨by decide, by decide⟩ rfl (Nat.le_of_ble_eq_true rfl) rfl fun T66 h66 w66 K66 A66 => ?_
  have sz66 : h65.size ≤ h66.size := K66.1
  replace A66 : Arv G.Z h66 b62 kc62 .char (18 : Int32) [.int (117 : Int32), .int (110 : Int32), .int (107 : Int32), .int (110 : Int32), .int (0 : Int32), .int (0 : Int32), .int (0 : Int32), .int (0 : Int32), .int (0 : Int32), .int (0 : Int32), .int (0 : Int32), .int (0 : Int32), .int (0 : Int32), .int (0 : Int32), .int (0 : Int32), .int (0 : Int32), .int (0 : Int32), .int (0 : Int32)] (.int (0 : Int32)) := by rw [show nar .char (110 : Int32) = (110 : Int32) from by decide] at A66; exact A66
  have xb66 : Ext h61 h66 := xkp xb65 K66 (all1 (Nat.le_of_eq e62.symm))
  refine w66.dup (q := 389) at_388 rfl rfl ?_
  refine w66.iconst (q := 390) (4 : Int32) at_389 rfl rfl ?_
  refine w66.bipush (q := 392) (111 : Int32) at_390 rfl rfl ?_
  refine w66.castore (q := 393) 4 at_392 A66 g62 ⟨by decide, by decide⟩ rfl (Nat.le_of_ble_eq_true rfl) rfl fun T67 h67 w67 K67 A67 => ?_
  have sz67 : h66.size ≤ h67.size := K67.1
  replace A67 : Arv G.Z h67 b62 kc62 .char (18 : Int32) [.int (117 : Int32), .int (110 : Int32), .int (107 : Int32), .int (110 : Int32), .int (111 : Int32), .int (0 : Int32), .int (0 : Int32), .int (0 : Int32), .int (0 : Int32), .int (0 : Int32), .int (0 : Int32), .int (0 : Int32), .int (0 : Int32), .int (0 : Int32), .int (0 : Int32), .int (0 : Int32), .int (0 : Int32), .int (0 : Int32)] (.int (0 : Int32)) := by rw [show nar .char (111 : Int32) = (111 : Int32) from by decide] at A67; exact A67
  have xb67 : Ext h61 h67 := xkp xb66 K67 (all1 (Nat.le_of_eq e62.symm))
  refine w67.dup (q := 394) at_393 rfl rfl ?_
  refine w67.iconst (q := 395) (5 : Int32) at_394 rfl rfl ?_
  refine w67.bipush (q := 397) (119 : Int32) at_395 rfl rfl ?_
  refine w67.castore (q := 398) 5 at_397 A67 g62 ⟨by decide, by decide⟩ rfl (Nat.le_of_ble_eq_true rfl) rfl fun T68 h68 w68 K68 A68 => ?_
  have sz68 : h67.size ≤ h68.size := K68.1
  replace A68 : Arv G.Z h68 b62 kc62 .char (18 : Int32) [.int (117 : Int32), .int (110 : Int32), .int (107 : Int32), .int (110 : Int32), .int (111 : Int32), .int (119 : Int32), .int (0 : Int32), .int (0 : Int32), .int (0 : Int32), .int (0 : Int32), .int (0 : Int32), .int (0 : Int32), .int (0 : Int32), .int (0 : Int32), .int (0 : Int32), .int (0 : Int32), .int (0 : Int32), .int (0 : Int32)] (.int (0 : Int32)) := by rw [show nar .char (119 : Int32) = (119 : Int32) from by decide] at A68; exact A68
  have xb68 : Ext h61 h68 := xkp xb67 K68 (all1 (Nat.le_of_eq e62.symm))
  refine w68.dup (q := 399) at_398 rfl rfl ?_
  refine w68.bipush (q := 401) (6 : Int32) at_399 rfl rfl ?_
  refine w68.bipush (q := 403) (110 : Int32) at_401 rfl rfl ?_
  refine w68.castore (q := 404) 6 at_403 A68 g62 ⟨by decide, by decide⟩ rfl (Nat.le_of_ble_eq_true rfl) rfl fun T69 h69 w69 K69 A69 => ?_
  have sz69 : h68.size ≤ h69.size := K69.1
  replace A69 : Arv G.Z h69 b62 kc62 .char (18 : Int32) [.int (117 : Int32), .int (110 : Int32), .int (107 : Int32), .int (110 : Int32), .int (111 : Int32), .int (119 : Int32), .int (110 : Int32), .int (0 : Int32), .int (0 : Int32), .int (0 : Int32), .int (0 : Int32), .int (0 : Int32), .int (0 : Int32), .int (0 : Int32), .int (0 : Int32), .int (0 : Int32), .int (0 : Int32), .int (0 : Int32)] (.int (0 : Int32)) := by rw [show nar .char (110 : Int32) = (110 : Int32) from by decide] at A69; exact A69
  have xb69 : Ext h61 h69 := xkp xb68 K69 (all1 (Nat.le_of_eq e62.symm))
  refine w69.dup (q := 405) at_404 rfl rfl ?_
  refine w69.bipush (q := 407) (7 : Int32) at_405 rfl rfl ?_
  refine w69.bipush (q := 409) (32 : Int32) at_407 rfl rfl ?_
  refine w69.castore (q := 410) 7 at_409 A69 g62 ⟨by decide, by decide⟩ rfl (Nat.le_of_ble_eq_true rfl) rfl fun T70 h70 w70 K70 A70 => ?_
  have sz70 : h69.size ≤ h70.size := K70.1
  replace A70 : Arv G.Z h70 b62 kc62 .char (18 : Int32) [.int (117 : Int32), .int (110 : Int32), .int (107 : Int32), .int (110 : Int32), .int (111 : Int32), .int (119 : Int32), .int (110 : Int32), .int (32 : Int32), .int (0 : Int32), .int (0 : Int32), .int (0 : Int32), .int (0 : Int32), .int (0 : Int32), .int (0 : Int32), .int (0 : Int32), .int (0 : Int32), .int (0 : Int32), .int (0 : Int32)] (.int (0 : Int32)) := by rw [show nar .char (32 : Int32) = (32 : Int32) from by decide] at A70; exact A70
  have xb70 : Ext h61 h70 := xkp xb69 K70 (all1 (Nat.le_of_eq e62.symm))
  refine w70.dup (q := 411) at_410 rfl rfl ?_
  refine w70.bipush (q := 413) (8 : Int32) at_411 rfl rfl ?_
  refine w70.bipush (q := 415) (111 : Int32) at_413 rfl rfl ?_
  refine w70.castore (q := 416) 8 at_415 A70 g62 ⟨by decide, by decide⟩ rfl (Nat.le_of_ble_eq_true rfl) rfl fun T71 h71 w71 K71 A71 => ?_
  have sz71 : h70.size ≤ h71.size := K71.1
  replace A71 : Arv G.Z h71 b62 kc62 .char (18 : Int32) [.int (117 : Int32), .int (110 : Int32), .int (107 : Int32), .int (110 : Int32), .int (111 : Int32), .int (119 : Int32), .int (110 : Int32), .int (32 : Int32), .int (111 : Int32), .int (0 : Int32), .int (0 : Int32), .int (0 : Int32), .int (0 : Int32), .int (0 : Int32), .int (0 : Int32), .int (0 : Int32), .int (0 : Int32), .int (0 : Int32)] (.int (0 : Int32)) := by rw [show nar .char (111 : Int32) = (111 : Int32) from by decide] at A71; exact A71
  have xb71 : Ext h61 h71 := xkp xb70 K71 (all1 (Nat.le_of_eq e62.symm))
  refine w71.dup (q := 417) at_416 rfl rfl ?_
  refine w71.bipush (q := 419) (9 : Int32) at_417 rfl rfl ?_
  refine w71.bipush (q := 421) (112 : Int32) at_419 rfl rfl ?_
  refine w71.castore (q := 422) 9 at_421 A71 g62 ⟨by decide, by decide⟩ rfl (Nat.le_of_ble_eq_true rfl) rfl fun T72 h72 w72 K72 A72 => ?_
  have sz72 : h71.size ≤ h72.size := K72.1
  replace A72 : Arv G.Z h72 b62 kc62 .char (18 : Int32) [.int (117 : Int32), .int (110 : Int32), .int (107 : Int32), .int (110 : Int32), .int (111 : Int32), .int (119 : Int32), .int (110 : Int32), .int (32 : Int32), .int (111 : Int32), .int (112 : Int32), .int (0 : Int32), .int (0 : Int32), .int (0 : Int32), .int (0 : Int32), .int (0 : Int32), .int (0 : Int32), .int (0 : Int32), .int (0 : Int32)] (.int (0 : Int32)) := by rw [show nar .char (112 : Int32) = (112 : Int32) from by decide] at A72; exact A72
  have xb72 : Ext h61 h72 := xkp xb71 K72 (all1 (Nat.le_of_eq e62.symm))
  refine w72.dup (q := 423) at_422 rfl rfl ?_
  refine w72.bipush (q := 425) (10 : Int32) at_423 rfl rfl ?_
  refine w72.bipush (q := 427) (116 : Int32) at_425 rfl rfl ?_
  refine w72.castore (q := 428) 10 at_427 A72 g62 ⟨by decide, by decide⟩ rfl (Nat.le_of_ble_eq_true rfl) rfl fun T73 h73 w73 K73 A73 => ?_
  have sz73 : h72.size ≤ h73.size := K73.1
  replace A73 : Arv G.Z h73 b62 kc62 .char (18 : Int32) [.int (117 : Int32), .int (110 : Int32), .int (107 : Int32), .int (110 : Int32), .int (111 : Int32), .int (119 : Int32), .int (110 : Int32), .int (32 : Int32), .int (111 : Int32), .int (112 : Int32), .int (116 : Int32), .int (0 : Int32), .int (0 : Int32), .int (0 : Int32), .int (0 : Int32), .int (0 : Int32), .int (0 : Int32), .int (0 : Int32)] (.int (0 : Int32)) := by rw [show nar .char (116 : Int32) = (116 : Int32) from by decide] at A73; exact A73
  have xb73 : Ext h61 h73 := xkp xb72 K73 (all1 (Nat.le_of_eq e62.symm))
  refine w73.dup (q := 429) at_428 rfl rfl ?_
  refine w73.bipush (q := 431) (11 : Int32) at_429 rfl rfl ?_
  refine w73.bipush (q := 433) (105 : Int32) at_431 rfl rfl ?_
  refine w73.castore (q := 434) 11 at_433 A73 g62 ⟨by decide, by decide⟩ rfl (Nat.le_of_ble_eq_true rfl) rfl fun T74 h74 w74 K74 A74 => ?_
  have sz74 : h73.size ≤ h74.size := K74.1
  replace A74 : Arv G.Z h74 b62 kc62 .char (18 : Int32) [.int (117 : Int32), .int (110 : Int32), .int (107 : Int32), .int (110 : Int32), .int (111 : Int32), .int (119 : Int32), .int (110 : Int32), .int (32 : Int32), .int (111 : Int32), .int (112 : Int32), .int (116 : Int32), .int (105 : Int32), .int (0 : Int32), .int (0 : Int32), .int (0 : Int32), .int (0 : Int32), .int (0 : Int32), .int (0 : Int32)] (.int (0 : Int32)) := by rw [show nar .char (105 : Int32) = (105 : Int32) from by decide] at A74; exact A74
  have xb74 : Ext h61 h74 := xkp xb73 K74 (all1 (Nat.le_of_eq e62.symm))
  refine w74.dup (q := 435) at_434 rfl rfl ?_
  refine w74.bipush (q := 437) (12 : Int32) at_435 rfl rfl ?_
  refine w74.bipush (q := 439) (111 : Int32) at_437 rfl rfl ?_
  refine w74.castore (q := 440) 12 at_439 A74 g62 ⟨by decide, by decide⟩ rfl (Nat.le_of_ble_eq_true rfl) rfl fun T75 h75 w75 K75 A75 => ?_
  have sz75 : h74.size ≤ h75.size := K75.1
  replace A75 : Arv G.Z h75 b62 kc62 .char (18 : Int32) [.int (117 : Int32), .int (110 : Int32), .int (107 : Int32), .int (110 : Int32), .int (111 : Int32), .int (119 : Int32), .int (110 : Int32), .int (32 : Int32), .int (111 : Int32), .int (112 : Int32), .int (116 : Int32), .int (105 : Int32), .int (111 : Int32), .int (0 : Int32), .int (0 : Int32), .int (0 : Int32), .int (0 : Int32), .int (0 : Int32)] (.int (0 : Int32)) := by rw [show nar .char (111 : Int32) = (111 : Int32) from by decide] at A75; exact A75
  have xb75 : Ext h61 h75 := xkp xb74 K75 (all1 (Nat.le_of_eq e62.symm))
  refine w75.dup (q := 441) at_440 rfl rfl ?_
  refine w75.bipush (q := 443) (13 : Int32) at_441 rfl rfl ?_
  refine w75.bipush (q := 445) (110 : Int32) at_443 rfl rfl ?_
  refine w75.castore (q := 446) 13 at_445 A75 g62 ⟨by decide, by decide⟩ rfl (Nat.le_of_ble_eq_true rfl) rfl fun T76 h76 w76 K76 A76 => ?_
  have sz76 : h75.size ≤ h76.size := K76.1
  replace A76 : Arv G.Z h76 b62 kc62 .char (18 : Int32) [.int (117 : Int32), .int (110 : Int32), .int (107 : Int32), .int (110 : Int32), .int (111 : Int32), .int (119 : Int32), .int (110 : Int32), .int (32 : Int32), .int (111 : Int32), .int (112 : Int32), .int (116 : Int32), .int (105 : Int32), .int (111 : Int32), .int (110 : Int32), .int (0 : Int32), .int (0 : Int32), .int (0 : Int32), .int (0 : Int32)] (.int (0 : Int32)) := by rw [show nar .char (110 : Int32) = (110 : Int32) from by decide] at A76; exact A76
  have xb76 : Ext h61 h76 := xkp xb75 K76 (all1 (Nat.le_of_eq e62.symm))
  refine w76.dup (q := 447) at_446 rfl rfl ?_
  refine w76.bipush (q := 449) (14 : Int32) at_447 rfl rfl ?_
  refine w76.bipush (q := 451) (32 : Int32) at_449 rfl rfl ?_
  refine w76.castore (q := 452) 14 at_451 A76 g62 ⟨by decide, by decide⟩ rfl (Nat.le_of_ble_eq_true rfl) rfl fun T77 h77 w77 K77 A77 => ?_
  have sz77 : h76.size ≤ h77.size := K77.1
  replace A77 : Arv G.Z h77 b62 kc62 .char (18 : Int32) [.int (117 : Int32), .int (110 : Int32), .int (107 : Int32), .int (110 : Int32), .int (111 : Int32), .int (119 : Int32), .int (110 : Int32), .int (32 : Int32), .int (111 : Int32), .int (112 : Int32), .int (116 : Int32), .int (105 : Int32), .int (111 : Int32), .int (110 : Int32), .int (32 : Int32), .int (0 : Int32), .int (0 : Int32), .int (0 : Int32)] (.int (0 : Int32)) := by rw [show nar .char (32 : Int32) = (32 : Int32) from by decide] at A77; exact A77
  have xb77 : Ext h61 h77 := xkp xb76 K77 (all1 (Nat.le_of_eq e62.symm))
  refine w77.dup (q := 453) at_452 rfl rfl ?_
  refine w77.bipush (q := 455) (15 : Int32) at_453 rfl rfl ?_
  refine w77.iload (q := 457) at_455 rfl rfl ?_
  refine w77.castore (q := 458) 15 at_457 A77 g62 ⟨by decide, by decide⟩ rfl (Nat.le_of_ble_eq_true rfl) rfl fun T78 h78 w78 K78 A78 => ?_
  have sz78 : h77.size ≤ h78.size := K78.1
  replace A78 : Arv G.Z h78 b62 kc62 .char (18 : Int32) [.int (117 : Int32), .int (110 : Int32), .int (107 : Int32), .int (110 : Int32), .int (111 : Int32), .int (119 : Int32), .int (110 : Int32), .int (32 : Int32), .int (111 : Int32), .int (112 : Int32), .int (116 : Int32), .int (105 : Int32), .int (111 : Int32), .int (110 : Int32), .int (32 : Int32), .int c5, .int (0 : Int32), .int (0 : Int32)] (.int (0 : Int32)) := by rw [N5] at A78; exact A78
  have xb78 : Ext h61 h78 := xkp xb77 K78 (all1 (Nat.le_of_eq e62.symm))
  refine w78.dup (q := 459) at_458 rfl rfl ?_
  refine w78.bipush (q := 461) (16 : Int32) at_459 rfl rfl ?_
  refine w78.iload (q := 463) at_461 rfl rfl ?_
  refine w78.castore (q := 464) 16 at_463 A78 g62 ⟨by decide, by decide⟩ rfl (Nat.le_of_ble_eq_true rfl) rfl fun T79 h79 w79 K79 A79 => ?_
  have sz79 : h78.size ≤ h79.size := K79.1
  replace A79 : Arv G.Z h79 b62 kc62 .char (18 : Int32) [.int (117 : Int32), .int (110 : Int32), .int (107 : Int32), .int (110 : Int32), .int (111 : Int32), .int (119 : Int32), .int (110 : Int32), .int (32 : Int32), .int (111 : Int32), .int (112 : Int32), .int (116 : Int32), .int (105 : Int32), .int (111 : Int32), .int (110 : Int32), .int (32 : Int32), .int c5, .int c6, .int (0 : Int32)] (.int (0 : Int32)) := by rw [N6] at A79; exact A79
  have xb79 : Ext h61 h79 := xkp xb78 K79 (all1 (Nat.le_of_eq e62.symm))
  refine w79.dup (q := 465) at_464 rfl rfl ?_
  refine w79.bipush (q := 467) (17 : Int32) at_465 rfl rfl ?_
  refine w79.iload (q := 469) at_467 rfl rfl ?_
  refine w79.castore (q := 470) 17 at_469 A79 g62 ⟨by decide, by decide⟩ rfl (Nat.le_of_ble_eq_true rfl) rfl fun T80 h80 w80 K80 A80 => ?_
  have sz80 : h79.size ≤ h80.size := K80.1
  replace A80 : Arv G.Z h80 b62 kc62 .char (18 : Int32) [.int (117 : Int32), .int (110 : Int32), .int (107 : Int32), .int (110 : Int32), .int (111 : Int32), .int (119 : Int32), .int (110 : Int32), .int (32 : Int32), .int (111 : Int32), .int (112 : Int32), .int (116 : Int32), .int (105 : Int32), .int (111 : Int32), .int (110 : Int32), .int (32 : Int32), .int c5, .int c6, .int c7] (.int (0 : Int32)) := by rw [N7] at A80; exact A80
  have xb80 : Ext h61 h80 := xkp xb79 K80 (all1 (Nat.le_of_eq e62.symm))
  refine w80.astore (q := 472) (L2 := #[.val (.int x0), .val (.int x1), .val (.int x2), .val (.int x3), .val (.int n4), .val (.int c5), .val (.int c6), .val (.int c7), .val (.ref b1), .val (.ref b2), .val (.ref b4), .val (.ref b7), .val (.ref b11), .val (.ref b27), .val (.ref b44), .val (.ref b62), .unset, .unset, .unset, .unset]) at_470 rfl rfl rfl ?_
  have xt6 := xb80
  have xt5 := xtr xb61 xt6
  have xt4 := xtr xb43 xt5
  have xt3 := xtr xb26 xt4
  have xt2 := xtr xb10 xt3
  have xt1 := xtr xb6 xt2
  have xt0 := xtr xb3 xt1
  refine w80.iload (q := 474) at_472 rfl rfl ?_
  rcases hn4 with rfl | rfl | rfl | rfl
  ·
    refine w80.ifN (q := 477) at_474 ((if0 _ _).trans (teq rfl).2) rfl ?_
    refine w80.newO (q := 480) at_477 (H.tw 2 rfl) (H.tw 3 rfl) (H.tw 4 rfl) (by decide) (by decide) rfl fun T81 h81 b81 e81 w81 E81 A81 D81 U81 => ?_
    have lt81 : b81 < h81.size := A81.lt
    have sz81 : h80.size ≤ h81.size := E81.1
    have F81_value : Fld G.Z h81 b81 "java/lang/String" "value" "[B" .null := D81 (Or.inr (H.tw 30 rfl)) (ty := (.array .byte)) (by decide)
    have F81_coder : Fld G.Z h81 b81 "java/lang/String" "coder" "B" (.int (0 : Int32)) := D81 (Or.inr (H.tw 28 rfl)) (ty := .byte) (by decide)
    have g81 : G.n0 ≤ b81 := by rw [e81]; exact w80.n0le
    refine w81.dup (q := 481) at_480 rfl rfl ?_
    refine w81.aload (q := 483) at_481 rfl rfl rfl ?_
    refine w81.callC (q := 486) at_483 rfl (H.tw 5 rfl) (H.tw 6 rfl) (H.tw 7 rfl) (by decide) (a := b81) (argsL := [(.ref b1)]) (rest := [(.ref b81)]) rfl (lenOf pd91 rfl) rfl (W := 1) (Nat.le_of_eq rfl) ((con_init1e G H b81 b1 kc1 _ h81 w81.old A81 F81_value F81_coder g81 ((A1.ext xt0).ext E81)).pay w81 (H.tw 7 rfl) (H.tw 4 rfl) (by decide) (by decide)) (by decide) (by decide) rfl fun vm82 T82 h82 v82 w82 q82 => ?_
    obtain ⟨rfl, K82, S82⟩ := q82
    show Go _ _ _ _ (T82.setTop (mkF X.m 486 #[.val (.int x0), .val (.int x1), .val (.int x2), .val (.int x3), .val (.int (0 : Int32)), .val (.int c5), .val (.int c6), .val (.int c7), .val (.ref b1), .val (.ref b2), .val (.ref b4), .val (.ref b7), .val (.ref b11), .val (.ref b27), .val (.ref b44), .val (.ref b62), .unset, .unset, .unset, .unset] [(.ref b81)]))
    obtain ⟨cda, hcda, Sta⟩ : ∃ cd : Int32, (cd = 0 ∨ cd = 1) ∧ StrAt G.Z h82 b81 cd [] := ⟨0, Or.inl rfl, S82⟩
    have xsa : Ext h80 h82 := xkp E81 K82 (all1 (Nat.le_of_eq e81.symm))
    refine w82.astore (q := 488) (L2 := #[.val (.int x0), .val (.int x1), .val (.int x2), .val (.int x3), .val (.int (0 : Int32)), .val (.int c5), .val (.int c6), .val (.int c7), .val (.ref b1), .val (.ref b2), .val (.ref b4), .val (.ref b7), .val (.ref b11), .val (.ref b27), .val (.ref b44), .val (.ref b62), .val (.ref b81), .unset, .unset, .unset]) at_486 rfl rfl rfl ?_
    refine w82.newO (q := 491) at_488 (H.tw 2 rfl) (H.tw 3 rfl) (H.tw 4 rfl) (by decide) (by decide) rfl fun T83 h83 b83 e83 w83 E83 A83 D83 U83 => ?_
    have lt83 : b83 < h83.size := A83.lt
    have sz83 : h82.size ≤ h83.size := E83.1
    have F83_value : Fld G.Z h83 b83 "java/lang/String" "value" "[B" .null := D83 (Or.inr (H.tw 30 rfl)) (ty := (.array .byte)) (by decide)
    have F83_coder : Fld G.Z h83 b83 "java/lang/String" "coder" "B" (.int (0 : Int32)) := D83 (Or.inr (H.tw 28 rfl)) (ty := .byte) (by decide)
    have g83 : G.n0 ≤ b83 := by rw [e83]; exact w82.n0le
    refine w83.dup (q := 492) at_491 rfl rfl ?_
    refine w83.aload (q := 494) at_492 rfl rfl rfl ?_
    refine w83.callC (q := 497) at_494 rfl (H.tw 5 rfl) (H.tw 6 rfl) (H.tw 7 rfl) (by decide) (a := b83) (argsL := [(.ref b11)]) (rest := [(.ref b83)]) rfl (lenOf pd91 rfl) rfl (W := 1) (Nat.le_of_eq rfl) ((con_i1 G H b83 b11 kc11 (UO) _ h83 w83.old A83 F83_value F83_coder g83 (((A26.ext xt4).ext xsa).ext E83) ⟨Nat.le_of_ble_eq_true rfl, Nat.le_of_ble_eq_true rfl⟩ (up_ _ (by decide))).pay w83 (H.tw 7 rfl) (H.tw 4 rfl) (by decide) (by decide)) (by decide) (by decide) rfl fun vm84 T84 h84 v84 w84 q84 => ?_
    obtain ⟨rfl, K84, cdb, hcdb, Stb⟩ := q84
    show Go _ _ _ _ (T84.setTop (mkF X.m 497 #[.val (.int x0), .val (.int x1), .val (.int x2), .val (.int x3), .val (.int (0 : Int32)), .val (.int c5), .val (.int c6), .val (.int c7), .val (.ref b1), .val (.ref b2), .val (.ref b4), .val (.ref b7), .val (.ref b11), .val (.ref b27), .val (.ref b44), .val (.ref b62), .val (.ref b81), .unset, .unset, .unset] [(.ref b83)]))
    have xsb : Ext h82 h84 := xkp E83 K84 (all1 (Nat.le_of_eq e83.symm))
    have xeb := xtr xsa xsb
    have Sa2 := Sta.ext xsb
    refine w84.astore (q := 499) (L2 := #[.val (.int x0), .val (.int x1), .val (.int x2), .val (.int x3), .val (.int (0 : Int32)), .val (.int c5), .val (.int c6), .val (.int c7), .val (.ref b1), .val (.ref b2), .val (.ref b4), .val (.ref b7), .val (.ref b11), .val (.ref b27), .val (.ref b44), .val (.ref b62), .val (.ref b81), .val (.ref b83), .unset, .unset]) at_497 rfl rfl rfl ?_
    refine w84.goto (q := 586) at_499 (by decide) (by decide) ?_
    refine w84.aload (q := 588) at_586 rfl rfl rfl ?_
    refine w84.callS (q := 591) at_588 (H.tw 31 rfl) (H.tw 32 rfl) (H.tw 33 rfl) (H.tw 34 rfl) (by decide) (argsL := [(.ref b81)]) (rest := []) rfl (lenOf pd92 rfl) rfl (W := 0) (Nat.le_of_eq rfl) ((con_uo G H b81 cda ([]) h84 w84.old (Sta.ext xsb) hcda (Nat.le_of_ble_eq_true rfl)).pay H.wd w84 hKn (H.tw 34 rfl) (H.tw 33 rfl) (by decide) (by decide)) (by decide) (by decide) rfl fun vm85 T85 h85 v85 w85 q85 => ?_
    obtain ⟨_, rfl, ⟨r85, mg, cd2, rfl, X85, Ex, Ne, Fd, Fu, Sm⟩⟩ := q85
    show Go _ _ _ _ (T85.setTop (mkF X.m 591 #[.val (.int x0), .val (.int x1), .val (.int x2), .val (.int x3), .val (.int (0 : Int32)), .val (.int c5), .val (.int c6), .val (.int c7), .val (.ref b1), .val (.ref b2), .val (.ref b4), .val (.ref b7), .val (.ref b11), .val (.ref b27), .val (.ref b44), .val (.ref b62), .val (.ref b81), .val (.ref b83), .unset, .unset] [(.ref r85)]))
    have S2 : StrAt G.Z h85 b83 cdb (UO ++ []) := by rw [List.append_nil]; exact Stb.ext X85
    refine w85.astore (q := 593) (L2 := #[.val (.int x0), .val (.int x1), .val (.int x2), .val (.int x3), .val (.int (0 : Int32)), .val (.int c5), .val (.int c6), .val (.int c7), .val (.ref b1), .val (.ref b2), .val (.ref b4), .val (.ref b7), .val (.ref b11), .val (.ref b27), .val (.ref b44), .val (.ref b62), .val (.ref b81), .val (.ref b83), .val (.ref r85), .unset]) at_591 rfl rfl rfl ?_
    refine w85.aload (q := 595) at_593 rfl rfl rfl ?_
    refine w85.nnY (q := 600) at_595 (by decide) (by decide) ?_
    refine w85.aload (q := 602) at_600 rfl rfl rfl ?_
    refine w85.callUp (q := 605) (owner := "java/lang/Throwable") at_602 (H.tw 207 rfl) (H.tw 208 rfl) (H.tw 209 rfl) (by decide) (H.tw 211 rfl) (H.tw 210 rfl) Ex (argsL := []) (rest := []) rfl (lenOf pd87 rfl) rfl (W := 0) (Nat.le_of_eq rfl) ((con_gm G H r85 (.ref mg) rfl h85 w85.old Fd).pay w85 (H.tw 212 rfl) (H.tw 168 rfl) (by decide) (by decide)) (by decide) (by decide) rfl fun vm86 T86 h86 v86 w86 q86 => ?_
    obtain ⟨_, rfl, rfl, rfl⟩ := q86
    show Go _ _ _ _ (T86.setTop (mkF X.m 605 #[.val (.int x0), .val (.int x1), .val (.int x2), .val (.int x3), .val (.int (0 : Int32)), .val (.int c5), .val (.int c6), .val (.int c7), .val (.ref b1), .val (.ref b2), .val (.ref b4), .val (.ref b7), .val (.ref b11), .val (.ref b27), .val (.ref b44), .val (.ref b62), .val (.ref b81), .val (.ref b83), .val (.ref r85), .unset] [(.ref mg)]))
    refine w86.astore (q := 607) (L2 := #[.val (.int x0), .val (.int x1), .val (.int x2), .val (.int x3), .val (.int (0 : Int32)), .val (.int c5), .val (.int c6), .val (.int c7), .val (.ref b1), .val (.ref b2), .val (.ref b4), .val (.ref b7), .val (.ref b11), .val (.ref b27), .val (.ref b44), .val (.ref b62), .val (.ref b81), .val (.ref b83), .val (.ref r85), .val (.ref mg)]) at_605 rfl rfl rfl ?_
    refine w86.aload (q := 609) at_607 rfl rfl rfl ?_
    refine w86.nuN (q := 612) at_609 rfl ?_
    refine w86.aload (q := 614) at_612 rfl rfl rfl ?_
    refine w86.aload (q := 616) at_614 rfl rfl rfl ?_
    refine w86.callV (q := 619) at_616 (H.tw 213 rfl) (H.tw 214 rfl) (notFace_of_selects (C := "java/lang/String") (args := G.a0) (H.tw 216 rfl)) (H.tw 216 rfl) (H.tw 215 rfl) (by decide) Sm.exa (argsL := [(.ref b83)]) (rest := []) rfl (lenOf pd93 rfl) rfl (W := 0) (Nat.le_of_eq rfl) (pay_eq w86 H.wq (H.tw 3 rfl) H.cz Sm S2 (by decide) (by decide)) (by decide) (by decide) rfl fun vm87 T87 h87 v87 w87 q87 => ?_
    obtain ⟨_, rfl, rfl, rfl⟩ := q87
    show Go _ _ _ _ (T87.setTop (mkF X.m 619 #[.val (.int x0), .val (.int x1), .val (.int x2), .val (.int x3), .val (.int (0 : Int32)), .val (.int c5), .val (.int c6), .val (.int c7), .val (.ref b1), .val (.ref b2), .val (.ref b4), .val (.ref b7), .val (.ref b11), .val (.ref b27), .val (.ref b44), .val (.ref b62), .val (.ref b81), .val (.ref b83), .val (.ref r85), .val (.ref mg)] [(.int (if (UO ++ [] : List Int32) = UO ++ [] then (1 : Int32) else 0))]))
    refine w87.ifN (q := 622) at_619 ((if0 _ _).trans (feq (by rw [if_pos rfl]; decide)).1) rfl ?_
    refine w87.aload (q := 624) at_622 rfl rfl rfl ?_
    refine w87.callUp (q := 627) (owner := "java/lang/Throwable") at_624 (H.tw 223 rfl) (H.tw 224 rfl) (H.tw 225 rfl) (by decide) (H.tw 227 rfl) (H.tw 226 rfl) Ex (argsL := []) (rest := []) rfl (lenOf pd94 rfl) rfl (W := 0) (Nat.le_of_eq rfl) (pay_cause w87 (H.tw 228 rfl) (H.tw 226 rfl) (H.tw 168 rfl) (H.tw 171 rfl) Ne Fu rfl (by decide) (by decide)) (by decide) (by decide) rfl fun vm88 T88 h88 v88 w88 q88 => ?_
    obtain ⟨_, rfl, rfl, rfl⟩ := q88
    show Go _ _ _ _ (T88.setTop (mkF X.m 627 #[.val (.int x0), .val (.int x1), .val (.int x2), .val (.int x3), .val (.int (0 : Int32)), .val (.int c5), .val (.int c6), .val (.int c7), .val (.ref b1), .val (.ref b2), .val (.ref b4), .val (.ref b7), .val (.ref b11), .val (.ref b27), .val (.ref b44), .val (.ref b62), .val (.ref b81), .val (.ref b83), .val (.ref r85), .val (.ref mg)] [(Jvm.RoadKit.gcV r85 (.ref r85))]))
    rw [show Jvm.RoadKit.gcV r85 (.ref r85) = .null from if_pos rfl]
    refine w88.nnN (q := 630) at_627 rfl ?_
    refine w88.iconst (q := 631) (1 : Int32) at_630 rfl rfl ?_
    refine w88.goto (q := 635) at_631 (by decide) (by decide) ?_
    exact w88.retZ at_635 (t := .boolean) rfl (by decide) rfl (by decide) (by decide) ⟨_, rfl, rfl⟩
  ·
    refine w80.ifY (q := 502) at_474 ((if0 _ _).trans (feq (by decide)).2) (by decide) (by decide) ?_
    refine w80.iload (q := 504) at_502 rfl rfl ?_
    refine w80.iconst (q := 505) (1 : Int32) at_504 rfl rfl ?_
    refine w80.icN (q := 508) at_505 ((teq rfl).2) rfl ?_
    refine w80.newO (q := 511) at_508 (H.tw 2 rfl) (H.tw 3 rfl) (H.tw 4 rfl) (by decide) (by decide) rfl fun T89 h89 b89 e89 w89 E89 A89 D89 U89 => ?_
    have lt89 : b89 < h89.size := A89.lt
    have sz89 : h80.size ≤ h89.size := E89.1
    have F89_value : Fld G.Z h89 b89 "java/lang/String" "value" "[B" .null := D89 (Or.inr (H.tw 30 rfl)) (ty := (.array .byte)) (by decide)
    have F89_coder : Fld G.Z h89 b89 "java/lang/String" "coder" "B" (.int (0 : Int32)) := D89 (Or.inr (H.tw 28 rfl)) (ty := .byte) (by decide)
    have g89 : G.n0 ≤ b89 := by rw [e89]; exact w80.n0le
    refine w89.dup (q := 512) at_511 rfl rfl ?_
    refine w89.aload (q := 514) at_512 rfl rfl rfl ?_
    refine w89.callC (q := 517) at_514 rfl (H.tw 5 rfl) (H.tw 6 rfl) (H.tw 7 rfl) (by decide) (a := b89) (argsL := [(.ref b2)]) (rest := [(.ref b89)]) rfl (lenOf pd91 rfl) rfl (W := 1) (Nat.le_of_eq rfl) ((con_i1 G H b89 b2 kc2 ([c5]) _ h89 w89.old A89 F89_value F89_coder g89 ((A3.ext xt1).ext E89) ⟨Nat.le_of_ble_eq_true rfl, Nat.le_of_ble_eq_true rfl⟩ (fun c hc => by cases List.mem_singleton.mp hc; exact b5c)).pay w89 (H.tw 7 rfl) (H.tw 4 rfl) (by decide) (by decide)) (by decide) (by decide) rfl fun vm90 T90 h90 v90 w90 q90 => ?_
    obtain ⟨rfl, K90, cda, hcda, Sta⟩ := q90
    show Go _ _ _ _ (T90.setTop (mkF X.m 517 #[.val (.int x0), .val (.int x1), .val (.int x2), .val (.int x3), .val (.int (1 : Int32)), .val (.int c5), .val (.int c6), .val (.int c7), .val (.ref b1), .val (.ref b2), .val (.ref b4), .val (.ref b7), .val (.ref b11), .val (.ref b27), .val (.ref b44), .val (.ref b62), .unset, .unset, .unset, .unset] [(.ref b89)]))
    have xsa : Ext h80 h90 := xkp E89 K90 (all1 (Nat.le_of_eq e89.symm))
    refine w90.astore (q := 519) (L2 := #[.val (.int x0), .val (.int x1), .val (.int x2), .val (.int x3), .val (.int (1 : Int32)), .val (.int c5), .val (.int c6), .val (.int c7), .val (.ref b1), .val (.ref b2), .val (.ref b4), .val (.ref b7), .val (.ref b11), .val (.ref b27), .val (.ref b44), .val (.ref b62), .val (.ref b89), .unset, .unset, .unset]) at_517 rfl rfl rfl ?_
    refine w90.newO (q := 522) at_519 (H.tw 2 rfl) (H.tw 3 rfl) (H.tw 4 rfl) (by decide) (by decide) rfl fun T91 h91 b91 e91 w91 E91 A91 D91 U91 => ?_
    have lt91 : b91 < h91.size := A91.lt
    have sz91 : h90.size ≤ h91.size := E91.1
    have F91_value : Fld G.Z h91 b91 "java/lang/String" "value" "[B" .null := D91 (Or.inr (H.tw 30 rfl)) (ty := (.array .byte)) (by decide)
    have F91_coder : Fld G.Z h91 b91 "java/lang/String" "coder" "B" (.int (0 : Int32)) := D91 (Or.inr (H.tw 28 rfl)) (ty := .byte) (by decide)
    have g91 : G.n0 ≤ b91 := by rw [e91]; exact w90.n0le
    refine w91.dup (q := 523) at_522 rfl rfl ?_
    refine w91.aload (q := 525) at_523 rfl rfl rfl ?_
    refine w91.callC (q := 528) at_525 rfl (H.tw 5 rfl) (H.tw 6 rfl) (H.tw 7 rfl) (by decide) (a := b91) (argsL := [(.ref b27)]) (rest := [(.ref b91)]) rfl (lenOf pd91 rfl) rfl (W := 1) (Nat.le_of_eq rfl) ((con_i1 G H b91 b27 kc27 (UO ++ [c5]) _ h91 w91.old A91 F91_value F91_coder g91 (((A43.ext xt5).ext xsa).ext E91) ⟨Nat.le_of_ble_eq_true rfl, Nat.le_of_ble_eq_true rfl⟩ (b_app (up_ _ (by decide)) (fun c hc => by cases List.mem_singleton.mp hc; exact b5c))).pay w91 (H.tw 7 rfl) (H.tw 4 rfl) (by decide) (by decide)) (by decide) (by decide) rfl fun vm92 T92 h92 v92 w92 q92 => ?_
    obtain ⟨rfl, K92, cdb, hcdb, Stb⟩ := q92
    show Go _ _ _ _ (T92.setTop (mkF X.m 528 #[.val (.int x0), .val (.int x1), .val (.int x2), .val (.int x3), .val (.int (1 : Int32)), .val (.int c5), .val (.int c6), .val (.int c7), .val (.ref b1), .val (.ref b2), .val (.ref b4), .val (.ref b7), .val (.ref b11), .val (.ref b27), .val (.ref b44), .val (.ref b62), .val (.ref b89), .unset, .unset, .unset] [(.ref b91)]))
    have xsb : Ext h90 h92 := xkp E91 K92 (all1 (Nat.le_of_eq e91.symm))
    have xeb := xtr xsa xsb
    have Sa2 := Sta.ext xsb
    refine w92.astore (q := 530) (L2 := #[.val (.int x0), .val (.int x1), .val (.int x2), .val (.int x3), .val (.int (1 : Int32)), .val (.int c5), .val (.int c6), .val (.int c7), .val (.ref b1), .val (.ref b2), .val (.ref b4), .val (.ref b7), .val (.ref b11), .val (.ref b27), .val (.ref b44), .val (.ref b62), .val (.ref b89), .val (.ref b91), .unset, .unset]) at_528 rfl rfl rfl ?_
    refine w92.goto (q := 586) at_530 (by decide) (by decide) ?_
    refine w92.aload (q := 588) at_586 rfl rfl rfl ?_
    refine w92.callS (q := 591) at_588 (H.tw 31 rfl) (H.tw 32 rfl) (H.tw 33 rfl) (H.tw 34 rfl) (by decide) (argsL := [(.ref b89)]) (rest := []) rfl (lenOf pd92 rfl) rfl (W := 0) (Nat.le_of_eq rfl) ((con_uo G H b89 cda ([c5]) h92 w92.old (Sta.ext xsb) hcda (Nat.le_of_ble_eq_true rfl)).pay H.wd w92 hKn (H.tw 34 rfl) (H.tw 33 rfl) (by decide) (by decide)) (by decide) (by decide) rfl fun vm93 T93 h93 v93 w93 q93 => ?_
    obtain ⟨_, rfl, ⟨r93, mg, cd2, rfl, X93, Ex, Ne, Fd, Fu, Sm⟩⟩ := q93
    show Go _ _ _ _ (T93.setTop (mkF X.m 591 #[.val (.int x0), .val (.int x1), .val (.int x2), .val (.int x3), .val (.int (1 : Int32)), .val (.int c5), .val (.int c6), .val (.int c7), .val (.ref b1), .val (.ref b2), .val (.ref b4), .val (.ref b7), .val (.ref b11), .val (.ref b27), .val (.ref b44), .val (.ref b62), .val (.ref b89), .val (.ref b91), .unset, .unset] [(.ref r93)]))
    have S2 := Stb.ext X93
    refine w93.astore (q := 593) (L2 := #[.val (.int x0), .val (.int x1), .val (.int x2), .val (.int x3), .val (.int (1 : Int32)), .val (.int c5), .val (.int c6), .val (.int c7), .val (.ref b1), .val (.ref b2), .val (.ref b4), .val (.ref b7), .val (.ref b11), .val (.ref b27), .val (.ref b44), .val (.ref b62), .val (.ref b89), .val (.ref b91), .val (.ref r93), .unset]) at_591 rfl rfl rfl ?_
    refine w93.aload (q := 595) at_593 rfl rfl rfl ?_
    refine w93.nnY (q := 600) at_595 (by decide) (by decide) ?_
    refine w93.aload (q := 602) at_600 rfl rfl rfl ?_
    refine w93.callUp (q := 605) (owner := "java/lang/Throwable") at_602 (H.tw 207 rfl) (H.tw 208 rfl) (H.tw 209 rfl) (by decide) (H.tw 211 rfl) (H.tw 210 rfl) Ex (argsL := []) (rest := []) rfl (lenOf pd87 rfl) rfl (W := 0) (Nat.le_of_eq rfl) ((con_gm G H r93 (.ref mg) rfl h93 w93.old Fd).pay w93 (H.tw 212 rfl) (H.tw 168 rfl) (by decide) (by decide)) (by decide) (by decide) rfl fun vm94 T94 h94 v94 w94 q94 => ?_
    obtain ⟨_, rfl, rfl, rfl⟩ := q94
    show Go _ _ _ _ (T94.setTop (mkF X.m 605 #[.val (.int x0), .val (.int x1), .val (.int x2), .val (.int x3), .val (.int (1 : Int32)), .val (.int c5), .val (.int c6), .val (.int c7), .val (.ref b1), .val (.ref b2), .val (.ref b4), .val (.ref b7), .val (.ref b11), .val (.ref b27), .val (.ref b44), .val (.ref b62), .val (.ref b89), .val (.ref b91), .val (.ref r93), .unset] [(.ref mg)]))
    refine w94.astore (q := 607) (L2 := #[.val (.int x0), .val (.int x1), .val (.int x2), .val (.int x3), .val (.int (1 : Int32)), .val (.int c5), .val (.int c6), .val (.int c7), .val (.ref b1), .val (.ref b2), .val (.ref b4), .val (.ref b7), .val (.ref b11), .val (.ref b27), .val (.ref b44), .val (.ref b62), .val (.ref b89), .val (.ref b91), .val (.ref r93), .val (.ref mg)]) at_605 rfl rfl rfl ?_
    refine w94.aload (q := 609) at_607 rfl rfl rfl ?_
    refine w94.nuN (q := 612) at_609 rfl ?_
    refine w94.aload (q := 614) at_612 rfl rfl rfl ?_
    refine w94.aload (q := 616) at_614 rfl rfl rfl ?_
    refine w94.callV (q := 619) at_616 (H.tw 213 rfl) (H.tw 214 rfl) (notFace_of_selects (C := "java/lang/String") (args := G.a0) (H.tw 216 rfl)) (H.tw 216 rfl) (H.tw 215 rfl) (by decide) Sm.exa (argsL := [(.ref b91)]) (rest := []) rfl (lenOf pd93 rfl) rfl (W := 0) (Nat.le_of_eq rfl) (pay_eq w94 H.wq (H.tw 3 rfl) H.cz Sm S2 (by decide) (by decide)) (by decide) (by decide) rfl fun vm95 T95 h95 v95 w95 q95 => ?_
    obtain ⟨_, rfl, rfl, rfl⟩ := q95
    show Go _ _ _ _ (T95.setTop (mkF X.m 619 #[.val (.int x0), .val (.int x1), .val (.int x2), .val (.int x3), .val (.int (1 : Int32)), .val (.int c5), .val (.int c6), .val (.int c7), .val (.ref b1), .val (.ref b2), .val (.ref b4), .val (.ref b7), .val (.ref b11), .val (.ref b27), .val (.ref b44), .val (.ref b62), .val (.ref b89), .val (.ref b91), .val (.ref r93), .val (.ref mg)] [(.int (if (UO ++ [c5] : List Int32) = UO ++ [c5] then (1 : Int32) else 0))]))
    refine w95.ifN (q := 622) at_619 ((if0 _ _).trans (feq (by rw [if_pos rfl]; decide)).1) rfl ?_
    refine w95.aload (q := 624) at_622 rfl rfl rfl ?_
    refine w95.callUp (q := 627) (owner := "java/lang/Throwable") at_624 (H.tw 223 rfl) (H.tw 224 rfl) (H.tw 225 rfl) (by decide) (H.tw 227 rfl) (H.tw 226 rfl) Ex (argsL := []) (rest := []) rfl (lenOf pd94 rfl) rfl (W := 0) (Nat.le_of_eq rfl) (pay_cause w95 (H.tw 228 rfl) (H.tw 226 rfl) (H.tw 168 rfl) (H.tw 171 rfl) Ne Fu rfl (by decide) (by decide)) (by decide) (by decide) rfl fun vm96 T96 h96 v96 w96 q96 => ?_
    obtain ⟨_, rfl, rfl, rfl⟩ := q96
    show Go _ _ _ _ (T96.setTop (mkF X.m 627 #[.val (.int x0), .val (.int x1), .val (.int x2), .val (.int x3), .val (.int (1 : Int32)), .val (.int c5), .val (.int c6), .val (.int c7), .val (.ref b1), .val (.ref b2), .val (.ref b4), .val (.ref b7), .val (.ref b11), .val (.ref b27), .val (.ref b44), .val (.ref b62), .val (.ref b89), .val (.ref b91), .val (.ref r93), .val (.ref mg)] [(Jvm.RoadKit.gcV r93 (.ref r93))]))
    rw [show Jvm.RoadKit.gcV r93 (.ref r93) = .null from if_pos rfl]
    refine w96.nnN (q := 630) at_627 rfl ?_
    refine w96.iconst (q := 631) (1 : Int32) at_630 rfl rfl ?_
    refine w96.goto (q := 635) at_631 (by decide) (by decide) ?_
    exact w96.retZ at_635 (t := .boolean) rfl (by decide) rfl (by decide) (by decide) ⟨_, rfl, rfl⟩
  ·
    refine w80.ifY (q := 502) at_474 ((if0 _ _).trans (feq (by decide)).2) (by decide) (by decide) ?_
    refine w80.iload (q := 504) at_502 rfl rfl ?_
    refine w80.iconst (q := 505) (1 : Int32) at_504 rfl rfl ?_
    refine w80.icY (q := 533) at_505 ((feq (by decide)).2) (by decide) (by decide) ?_
    refine w80.iload (q := 535) at_533 rfl rfl ?_
    refine w80.iconst (q := 536) (2 : Int32) at_535 rfl rfl ?_
    refine w80.icN (q := 539) at_536 ((teq rfl).2) rfl ?_
    refine w80.newO (q := 542) at_539 (H.tw 2 rfl) (H.tw 3 rfl) (H.tw 4 rfl) (by decide) (by decide) rfl fun T97 h97 b97 e97 w97 E97 A97 D97 U97 => ?_
    have lt97 : b97 < h97.size := A97.lt
    have sz97 : h80.size ≤ h97.size := E97.1
    have F97_value : Fld G.Z h97 b97 "java/lang/String" "value" "[B" .null := D97 (Or.inr (H.tw 30 rfl)) (ty := (.array .byte)) (by decide)
    have F97_coder : Fld G.Z h97 b97 "java/lang/String" "coder" "B" (.int (0 : Int32)) := D97 (Or.inr (H.tw 28 rfl)) (ty := .byte) (by decide)
    have g97 : G.n0 ≤ b97 := by rw [e97]; exact w80.n0le
    refine w97.dup (q := 543) at_542 rfl rfl ?_
    refine w97.aload (q := 545) at_543 rfl rfl rfl ?_
    refine w97.callC (q := 548) at_545 rfl (H.tw 5 rfl) (H.tw 6 rfl) (H.tw 7 rfl) (by decide) (a := b97) (argsL := [(.ref b4)]) (rest := [(.ref b97)]) rfl (lenOf pd91 rfl) rfl (W := 1) (Nat.le_of_eq rfl) ((con_i1 G H b97 b4 kc4 ([c5, c6]) _ h97 w97.old A97 F97_value F97_coder g97 ((A6.ext xt2).ext E97) ⟨Nat.le_of_ble_eq_true rfl, Nat.le_of_ble_eq_true rfl⟩ (fun c hc => by simp only [List.mem_cons, List.not_mem_nil, or_false] at hc; rcases hc with rfl | rfl; exact b5c; exact b6c)).pay w97 (H.tw 7 rfl) (H.tw 4 rfl) (by decide) (by decide)) (by decide) (by decide) rfl fun vm98 T98 h98 v98 w98 q98 => ?_
    obtain ⟨rfl, K98, cda, hcda, Sta⟩ := q98
    show Go _ _ _ _ (T98.setTop (mkF X.m 548 #[.val (.int x0), .val (.int x1), .val (.int x2), .val (.int x3), .val (.int (2 : Int32)), .val (.int c5), .val (.int c6), .val (.int c7), .val (.ref b1), .val (.ref b2), .val (.ref b4), .val (.ref b7), .val (.ref b11), .val (.ref b27), .val (.ref b44), .val (.ref b62), .unset, .unset, .unset, .unset] [(.ref b97)]))
    have xsa : Ext h80 h98 := xkp E97 K98 (all1 (Nat.le_of_eq e97.symm))
    refine w98.astore (q := 550) (L2 := #[.val (.int x0), .val (.int x1), .val (.int x2), .val (.int x3), .val (.int (2 : Int32)), .val (.int c5), .val (.int c6), .val (.int c7), .val (.ref b1), .val (.ref b2), .val (.ref b4), .val (.ref b7), .val (.ref b11), .val (.ref b27), .val (.ref b44), .val (.ref b62), .val (.ref b97), .unset, .unset, .unset]) at_548 rfl rfl rfl ?_
    refine w98.newO (q := 553) at_550 (H.tw 2 rfl) (H.tw 3 rfl) (H.tw 4 rfl) (by decide) (by decide) rfl fun T99 h99 b99 e99 w99 E99 A99 D99 U99 => ?_
    have lt99 : b99 < h99.size := A99.lt
    have sz99 : h98.size ≤ h99.size := E99.1
    have F99_value : Fld G.Z h99 b99 "java/lang/String" "value" "[B" .null := D99 (Or.inr (H.tw 30 rfl)) (ty := (.array .byte)) (by decide)
    have F99_coder : Fld G.Z h99 b99 "java/lang/String" "coder" "B" (.int (0 : Int32)) := D99 (Or.inr (H.tw 28 rfl)) (ty := .byte) (by decide)
    have g99 : G.n0 ≤ b99 := by rw [e99]; exact w98.n0le
    refine w99.dup (q := 554) at_553 rfl rfl ?_
    refine w99.aload (q := 556) at_554 rfl rfl rfl ?_
    refine w99.callC (q := 559) at_556 rfl (H.tw 5 rfl) (H.tw 6 rfl) (H.tw 7 rfl) (by decide) (a := b99) (argsL := [(.ref b44)]) (rest := [(.ref b99)]) rfl (lenOf pd91 rfl) rfl (W := 1) (Nat.le_of_eq rfl) ((con_i1 G H b99 b44 kc44 (UO ++ [c5, c6]) _ h99 w99.old A99 F99_value F99_coder g99 (((A61.ext xt6).ext xsa).ext E99) ⟨Nat.le_of_ble_eq_true rfl, Nat.le_of_ble_eq_true rfl⟩ (b_app (up_ _ (by decide)) (fun c hc => by simp only [List.mem_cons, List.not_mem_nil, or_false] at hc; rcases hc with rfl | rfl; exact b5c; exact b6c))).pay w99 (H.tw 7 rfl) (H.tw 4 rfl) (by decide) (by decide)) (by decide) (by decide) rfl fun vm100 T100 h100 v100 w100 q100 => ?_
    obtain ⟨rfl, K100, cdb, hcdb, Stb⟩ := q100
    show Go _ _ _ _ (T100.setTop (mkF X.m 559 #[.val (.int x0), .val (.int x1), .val (.int x2), .val (.int x3), .val (.int (2 : Int32)), .val (.int c5), .val (.int c6), .val (.int c7), .val (.ref b1), .val (.ref b2), .val (.ref b4), .val (.ref b7), .val (.ref b11), .val (.ref b27), .val (.ref b44), .val (.ref b62), .val (.ref b97), .unset, .unset, .unset] [(.ref b99)]))
    have xsb : Ext h98 h100 := xkp E99 K100 (all1 (Nat.le_of_eq e99.symm))
    have xeb := xtr xsa xsb
    have Sa2 := Sta.ext xsb
    refine w100.astore (q := 561) (L2 := #[.val (.int x0), .val (.int x1), .val (.int x2), .val (.int x3), .val (.int (2 : Int32)), .val (.int c5), .val (.int c6), .val (.int c7), .val (.ref b1), .val (.ref b2), .val (.ref b4), .val (.ref b7), .val (.ref b11), .val (.ref b27), .val (.ref b44), .val (.ref b62), .val (.ref b97), .val (.ref b99), .unset, .unset]) at_559 rfl rfl rfl ?_
    refine w100.goto (q := 586) at_561 (by decide) (by decide) ?_
    refine w100.aload (q := 588) at_586 rfl rfl rfl ?_
    refine w100.callS (q := 591) at_588 (H.tw 31 rfl) (H.tw 32 rfl) (H.tw 33 rfl) (H.tw 34 rfl) (by decide) (argsL := [(.ref b97)]) (rest := []) rfl (lenOf pd92 rfl) rfl (W := 0) (Nat.le_of_eq rfl) ((con_uo G H b97 cda ([c5, c6]) h100 w100.old (Sta.ext xsb) hcda (Nat.le_of_ble_eq_true rfl)).pay H.wd w100 hKn (H.tw 34 rfl) (H.tw 33 rfl) (by decide) (by decide)) (by decide) (by decide) rfl fun vm101 T101 h101 v101 w101 q101 => ?_
    obtain ⟨_, rfl, ⟨r101, mg, cd2, rfl, X101, Ex, Ne, Fd, Fu, Sm⟩⟩ := q101
    show Go _ _ _ _ (T101.setTop (mkF X.m 591 #[.val (.int x0), .val (.int x1), .val (.int x2), .val (.int x3), .val (.int (2 : Int32)), .val (.int c5), .val (.int c6), .val (.int c7), .val (.ref b1), .val (.ref b2), .val (.ref b4), .val (.ref b7), .val (.ref b11), .val (.ref b27), .val (.ref b44), .val (.ref b62), .val (.ref b97), .val (.ref b99), .unset, .unset] [(.ref r101)]))
    have S2 := Stb.ext X101
    refine w101.astore (q := 593) (L2 := #[.val (.int x0), .val (.int x1), .val (.int x2), .val (.int x3), .val (.int (2 : Int32)), .val (.int c5), .val (.int c6), .val (.int c7), .val (.ref b1), .val (.ref b2), .val (.ref b4), .val (.ref b7), .val (.ref b11), .val (.ref b27), .val (.ref b44), .val (.ref b62), .val (.ref b97), .val (.ref b99), .val (.ref r101), .unset]) at_591 rfl rfl rfl ?_
    refine w101.aload (q := 595) at_593 rfl rfl rfl ?_
    refine w101.nnY (q := 600) at_595 (by decide) (by decide) ?_
    refine w101.aload (q := 602) at_600 rfl rfl rfl ?_
    refine w101.callUp (q := 605) (owner := "java/lang/Throwable") at_602 (H.tw 207 rfl) (H.tw 208 rfl) (H.tw 209 rfl) (by decide) (H.tw 211 rfl) (H.tw 210 rfl) Ex (argsL := []) (rest := []) rfl (lenOf pd87 rfl) rfl (W := 0) (Nat.le_of_eq rfl) ((con_gm G H r101 (.ref mg) rfl h101 w101.old Fd).pay w101 (H.tw 212 rfl) (H.tw 168 rfl) (by decide) (by decide)) (by decide) (by decide) rfl fun vm102 T102 h102 v102 w102 q102 => ?_
    obtain ⟨_, rfl, rfl, rfl⟩ := q102
    show Go _ _ _ _ (T102.setTop (mkF X.m 605 #[.val (.int x0), .val (.int x1), .val (.int x2), .val (.int x3), .val (.int (2 : Int32)), .val (.int c5), .val (.int c6), .val (.int c7), .val (.ref b1), .val (.ref b2), .val (.ref b4), .val (.ref b7), .val (.ref b11), .val (.ref b27), .val (.ref b44), .val (.ref b62), .val (.ref b97), .val (.ref b99), .val (.ref r101), .unset] [(.ref mg)]))
    refine w102.astore (q := 607) (L2 := #[.val (.int x0), .val (.int x1), .val (.int x2), .val (.int x3), .val (.int (2 : Int32)), .val (.int c5), .val (.int c6), .val (.int c7), .val (.ref b1), .val (.ref b2), .val (.ref b4), .val (.ref b7), .val (.ref b11), .val (.ref b27), .val (.ref b44), .val (.ref b62), .val (.ref b97), .val (.ref b99), .val (.ref r101), .val (.ref mg)]) at_605 rfl rfl rfl ?_
    refine w102.aload (q := 609) at_607 rfl rfl rfl ?_
    refine w102.nuN (q := 612) at_609 rfl ?_
    refine w102.aload (q := 614) at_612 rfl rfl rfl ?_
    refine w102.aload (q := 616) at_614 rfl rfl rfl ?_
    refine w102.callV (q := 619) at_616 (H.tw 213 rfl) (H.tw 214 rfl) (notFace_of_selects (C := "java/lang/String") (args := G.a0) (H.tw 216 rfl)) (H.tw 216 rfl) (H.tw 215 rfl) (by decide) Sm.exa (argsL := [(.ref b99)]) (rest := []) rfl (lenOf pd93 rfl) rfl (W := 0) (Nat.le_of_eq rfl) (pay_eq w102 H.wq (H.tw 3 rfl) H.cz Sm S2 (by decide) (by decide)) (by decide) (by decide) rfl fun vm103 T103 h103 v103 w103 q103 => ?_
    obtain ⟨_, rfl, rfl, rfl⟩ := q103
    show Go _ _ _ _ (T103.setTop (mkF X.m 619 #[.val (.int x0), .val (.int x1), .val (.int x2), .val (.int x3), .val (.int (2 : Int32)), .val (.int c5), .val (.int c6), .val (.int c7), .val (.ref b1), .val (.ref b2), .val (.ref b4), .val (.ref b7), .val (.ref b11), .val (.ref b27), .val (.ref b44), .val (.ref b62), .val (.ref b97), .val (.ref b99), .val (.ref r101), .val (.ref mg)] [(.int (if (UO ++ [c5, c6] : List Int32) = UO ++ [c5, c6] then (1 : Int32) else 0))]))
    refine w103.ifN (q := 622) at_619 ((if0 _ _).trans (feq (by rw [if_pos rfl]; decide)).1) rfl ?_
    refine w103.aload (q := 624) at_622 rfl rfl rfl ?_
    refine w103.callUp (q := 627) (owner := "java/lang/Throwable") at_624 (H.tw 223 rfl) (H.tw 224 rfl) (H.tw 225 rfl) (by decide) (H.tw 227 rfl) (H.tw 226 rfl) Ex (argsL := []) (rest := []) rfl (lenOf pd94 rfl) rfl (W := 0) (Nat.le_of_eq rfl) (pay_cause w103 (H.tw 228 rfl) (H.tw 226 rfl) (H.tw 168 rfl) (H.tw 171 rfl) Ne Fu rfl (by decide) (by decide)) (by decide) (by decide) rfl fun vm104 T104 h104 v104 w104 q104 => ?_
    obtain ⟨_, rfl, rfl, rfl⟩ := q104
    show Go _ _ _ _ (T104.setTop (mkF X.m 627 #[.val (.int x0), .val (.int x1), .val (.int x2), .val (.int x3), .val (.int (2 : Int32)), .val (.int c5), .val (.int c6), .val (.int c7), .val (.ref b1), .val (.ref b2), .val (.ref b4), .val (.ref b7), .val (.ref b11), .val (.ref b27), .val (.ref b44), .val (.ref b62), .val (.ref b97), .val (.ref b99), .val (.ref r101), .val (.ref mg)] [(Jvm.RoadKit.gcV r101 (.ref r101))]))
    rw [show Jvm.RoadKit.gcV r101 (.ref r101) = .null from if_pos rfl]
    refine w104.nnN (q := 630) at_627 rfl ?_
    refine w104.iconst (q := 631) (1 : Int32) at_630 rfl rfl ?_
    refine w104.goto (q := 635) at_631 (by decide) (by decide) ?_
    exact w104.retZ at_635 (t := .boolean) rfl (by decide) rfl (by decide) (by decide) ⟨_, rfl, rfl⟩
  ·
    refine w80.ifY (q := 502) at_474 ((if0 _ _).trans (feq (by decide)).2) (by decide) (by decide) ?_
    refine w80.iload (q := 504) at_502 rfl rfl ?_
    refine w80.iconst (q := 505) (1 : Int32) at_504 rfl rfl ?_
    refine w80.icY (q := 533) at_505 ((feq (by decide)).2) (by decide) (by decide) ?_
    refine w80.iload (q := 535) at_533 rfl rfl ?_
    refine w80.iconst (q := 536) (2 : Int32) at_535 rfl rfl ?_
    refine w80.icY (q := 564) at_536 ((feq (by decide)).2) (by decide) (by decide) ?_
    refine w80.newO (q := 567) at_564 (H.tw 2 rfl) (H.tw 3 rfl) (H.tw 4 rfl) (by decide) (by decide) rfl fun T105 h105 b105 e105 w105 E105 A105 D105 U105 => ?_
    have lt105 : b105 < h105.size := A105.lt
    have sz105 : h80.size ≤ h105.size := E105.1
    have F105_value : Fld G.Z h105 b105 "java/lang/String" "value" "[B" .null := D105 (Or.inr (H.tw 30 rfl)) (ty := (.array .byte)) (by decide)
    have F105_coder : Fld G.Z h105 b105 "java/lang/String" "coder" "B" (.int (0 : Int32)) := D105 (Or.inr (H.tw 28 rfl)) (ty := .byte) (by decide)
    have g105 : G.n0 ≤ b105 := by rw [e105]; exact w80.n0le
    refine w105.dup (q := 568) at_567 rfl rfl ?_
    refine w105.aload (q := 570) at_568 rfl rfl rfl ?_
    refine w105.callC (q := 573) at_570 rfl (H.tw 5 rfl) (H.tw 6 rfl) (H.tw 7 rfl) (by decide) (a := b105) (argsL := [(.ref b7)]) (rest := [(.ref b105)]) rfl (lenOf pd91 rfl) rfl (W := 1) (Nat.le_of_eq rfl) ((con_i1 G H b105 b7 kc7 ([c5, c6, c7]) _ h105 w105.old A105 F105_value F105_coder g105 ((A10.ext xt3).ext E105) ⟨Nat.le_of_ble_eq_true rfl, Nat.le_of_ble_eq_true rfl⟩ (fun c hc => by simp only [List.mem_cons, List.not_mem_nil, or_false] at hc; rcases hc with rfl | rfl | rfl; exact b5c; exact b6c; exact b7c)).pay w105 (H.tw 7 rfl) (H.tw 4 rfl) (by decide) (by decide)) (by decide) (by decide) rfl fun vm106 T106 h106 v106 w106 q106 => ?_
    obtain ⟨rfl, K106, cda, hcda, Sta⟩ := q106
    show Go _ _ _ _ (T106.setTop (mkF X.m 573 #[.val (.int x0), .val (.int x1), .val (.int x2), .val (.int x3), .val (.int (3 : Int32)), .val (.int c5), .val (.int c6), .val (.int c7), .val (.ref b1), .val (.ref b2), .val (.ref b4), .val (.ref b7), .val (.ref b11), .val (.ref b27), .val (.ref b44), .val (.ref b62), .unset, .unset, .unset, .unset] [(.ref b105)]))
    have xsa : Ext h80 h106 := xkp E105 K106 (all1 (Nat.le_of_eq e105.symm))
    refine w106.astore (q := 575) (L2 := #[.val (.int x0), .val (.int x1), .val (.int x2), .val (.int x3), .val (.int (3 : Int32)), .val (.int c5), .val (.int c6), .val (.int c7), .val (.ref b1), .val (.ref b2), .val (.ref b4), .val (.ref b7), .val (.ref b11), .val (.ref b27), .val (.ref b44), .val (.ref b62), .val (.ref b105), .unset, .unset, .unset]) at_573 rfl rfl rfl ?_
    refine w106.newO (q := 578) at_575 (H.tw 2 rfl) (H.tw 3 rfl) (H.tw 4 rfl) (by decide) (by decide) rfl fun T107 h107 b107 e107 w107 E107 A107 D107 U107 => ?_
    have lt107 : b107 < h107.size := A107.lt
    have sz107 : h106.size ≤ h107.size := E107.1
    have F107_value : Fld G.Z h107 b107 "java/lang/String" "value" "[B" .null := D107 (Or.inr (H.tw 30 rfl)) (ty := (.array .byte)) (by decide)
    have F107_coder : Fld G.Z h107 b107 "java/lang/String" "coder" "B" (.int (0 : Int32)) := D107 (Or.inr (H.tw 28 rfl)) (ty := .byte) (by decide)
    have g107 : G.n0 ≤ b107 := by rw [e107]; exact w106.n0le
    refine w107.dup (q := 579) at_578 rfl rfl ?_
    refine w107.aload (q := 581) at_579 rfl rfl rfl ?_
    refine w107.callC (q := 584) at_581 rfl (H.tw 5 rfl) (H.tw 6 rfl) (H.tw 7 rfl) (by decide) (a := b107) (argsL := [(.ref b62)]) (rest := [(.ref b107)]) rfl (lenOf pd91 rfl) rfl (W := 1) (Nat.le_of_eq rfl) ((con_i1 G H b107 b62 kc62 (UO ++ [c5, c6, c7]) _ h107 w107.old A107 F107_value F107_coder g107 (((A80).ext xsa).ext E107) ⟨Nat.le_of_ble_eq_true rfl, Nat.le_of_ble_eq_true rfl⟩ (b_app (up_ _ (by decide)) (fun c hc => by simp only [List.mem_cons, List.not_mem_nil, or_false] at hc; rcases hc with rfl | rfl | rfl; exact b5c; exact b6c; exact b7c))).pay w107 (H.tw 7 rfl) (H.tw 4 rfl) (by decide) (by decide)) (by decide) (by decide) rfl fun vm108 T108 h108 v108 w108 q108 => ?_
    obtain ⟨rfl, K108, cdb, hcdb, Stb⟩ := q108
    show Go _ _ _ _ (T108.setTop (mkF X.m 584 #[.val (.int x0), .val (.int x1), .val (.int x2), .val (.int x3), .val (.int (3 : Int32)), .val (.int c5), .val (.int c6), .val (.int c7), .val (.ref b1), .val (.ref b2), .val (.ref b4), .val (.ref b7), .val (.ref b11), .val (.ref b27), .val (.ref b44), .val (.ref b62), .val (.ref b105), .unset, .unset, .unset] [(.ref b107)]))
    have xsb : Ext h106 h108 := xkp E107 K108 (all1 (Nat.le_of_eq e107.symm))
    have xeb := xtr xsa xsb
    have Sa2 := Sta.ext xsb
    refine w108.astore (q := 586) (L2 := #[.val (.int x0), .val (.int x1), .val (.int x2), .val (.int x3), .val (.int (3 : Int32)), .val (.int c5), .val (.int c6), .val (.int c7), .val (.ref b1), .val (.ref b2), .val (.ref b4), .val (.ref b7), .val (.ref b11), .val (.ref b27), .val (.ref b44), .val (.ref b62), .val (.ref b105), .val (.ref b107), .unset, .unset]) at_584 rfl rfl rfl ?_
    refine w108.aload (q := 588) at_586 rfl rfl rfl ?_
    refine w108.callS (q := 591) at_588 (H.tw 31 rfl) (H.tw 32 rfl) (H.tw 33 rfl) (H.tw 34 rfl) (by decide) (argsL := [(.ref b105)]) (rest := []) rfl (lenOf pd92 rfl) rfl (W := 0) (Nat.le_of_eq rfl) ((con_uo G H b105 cda ([c5, c6, c7]) h108 w108.old (Sta.ext xsb) hcda (Nat.le_of_ble_eq_true rfl)).pay H.wd w108 hKn (H.tw 34 rfl) (H.tw 33 rfl) (by decide) (by decide)) (by decide) (by decide) rfl fun vm109 T109 h109 v109 w109 q109 => ?_
    obtain ⟨_, rfl, ⟨r109, mg, cd2, rfl, X109, Ex, Ne, Fd, Fu, Sm⟩⟩ := q109
    show Go _ _ _ _ (T109.setTop (mkF X.m 591 #[.val (.int x0), .val (.int x1), .val (.int x2), .val (.int x3), .val (.int (3 : Int32)), .val (.int c5), .val (.int c6), .val (.int c7), .val (.ref b1), .val (.ref b2), .val (.ref b4), .val (.ref b7), .val (.ref b11), .val (.ref b27), .val (.ref b44), .val (.ref b62), .val (.ref b105), .val (.ref b107), .unset, .unset] [(.ref r109)]))
    have S2 := Stb.ext X109
    refine w109.astore (q := 593) (L2 := #[.val (.int x0), .val (.int x1), .val (.int x2), .val (.int x3), .val (.int (3 : Int32)), .val (.int c5), .val (.int c6), .val (.int c7), .val (.ref b1), .val (.ref b2), .val (.ref b4), .val (.ref b7), .val (.ref b11), .val (.ref b27), .val (.ref b44), .val (.ref b62), .val (.ref b105), .val (.ref b107), .val (.ref r109), .unset]) at_591 rfl rfl rfl ?_
    refine w109.aload (q := 595) at_593 rfl rfl rfl ?_
    refine w109.nnY (q := 600) at_595 (by decide) (by decide) ?_
    refine w109.aload (q := 602) at_600 rfl rfl rfl ?_
    refine w109.callUp (q := 605) (owner := "java/lang/Throwable") at_602 (H.tw 207 rfl) (H.tw 208 rfl) (H.tw 209 rfl) (by decide) (H.tw 211 rfl) (H.tw 210 rfl) Ex (argsL := []) (rest := []) rfl (lenOf pd87 rfl) rfl (W := 0) (Nat.le_of_eq rfl) ((con_gm G H r109 (.ref mg) rfl h109 w109.old Fd).pay w109 (H.tw 212 rfl) (H.tw 168 rfl) (by decide) (by decide)) (by decide) (by decide) rfl fun vm110 T110 h110 v110 w110 q110 => ?_
    obtain ⟨_, rfl, rfl, rfl⟩ := q110
    show Go _ _ _ _ (T110.setTop (mkF X.m 605 #[.val (.int x0), .val (.int x1), .val (.int x2), .val (.int x3), .val (.int (3 : Int32)), .val (.int c5), .val (.int c6), .val (.int c7), .val (.ref b1), .val (.ref b2), .val (.ref b4), .val (.ref b7), .val (.ref b11), .val (.ref b27), .val (.ref b44), .val (.ref b62), .val (.ref b105), .val (.ref b107), .val (.ref r109), .unset] [(.ref mg)]))
    refine w110.astore (q := 607) (L2 := #[.val (.int x0), .val (.int x1), .val (.int x2), .val (.int x3), .val (.int (3 : Int32)), .val (.int c5), .val (.int c6), .val (.int c7), .val (.ref b1), .val (.ref b2), .val (.ref b4), .val (.ref b7), .val (.ref b11), .val (.ref b27), .val (.ref b44), .val (.ref b62), .val (.ref b105), .val (.ref b107), .val (.ref r109), .val (.ref mg)]) at_605 rfl rfl rfl ?_
    refine w110.aload (q := 609) at_607 rfl rfl rfl ?_
    refine w110.nuN (q := 612) at_609 rfl ?_
    refine w110.aload (q := 614) at_612 rfl rfl rfl ?_
    refine w110.aload (q := 616) at_614 rfl rfl rfl ?_
    refine w110.callV (q := 619) at_616 (H.tw 213 rfl) (H.tw 214 rfl) (notFace_of_selects (C := "java/lang/String") (args := G.a0) (H.tw 216 rfl)) (H.tw 216 rfl) (H.tw 215 rfl) (by decide) Sm.exa (argsL := [(.ref b107)]) (rest := []) rfl (lenOf pd93 rfl) rfl (W := 0) (Nat.le_of_eq rfl) (pay_eq w110 H.wq (H.tw 3 rfl) H.cz Sm S2 (by decide) (by decide)) (by decide) (by decide) rfl fun vm111 T111 h111 v111 w111 q111 => ?_
    obtain ⟨_, rfl, rfl, rfl⟩ := q111
    show Go _ _ _ _ (T111.setTop (mkF X.m 619 #[.val (.int x0), .val (.int x1), .val (.int x2), .val (.int x3), .val (.int (3 : Int32)), .val (.int c5), .val (.int c6), .val (.int c7), .val (.ref b1), .val (.ref b2), .val (.ref b4), .val (.ref b7), .val (.ref b11), .val (.ref b27), .val (.ref b44), .val (.ref b62), .val (.ref b105), .val (.ref b107), .val (.ref r109), .val (.ref mg)] [(.int (if (UO ++ [c5, c6, c7] : List Int32) = UO ++ [c5, c6, c7] then (1 : Int32) else 0))]))
    refine w111.ifN (q := 622) at_619 ((if0 _ _).trans (feq (by rw [if_pos rfl]; decide)).1) rfl ?_
    refine w111.aload (q := 624) at_622 rfl rfl rfl ?_
    refine w111.callUp (q := 627) (owner := "java/lang/Throwable") at_624 (H.tw 223 rfl) (H.tw 224 rfl) (H.tw 225 rfl) (by decide) (H.tw 227 rfl) (H.tw 226 rfl) Ex (argsL := []) (rest := []) rfl (lenOf pd94 rfl) rfl (W := 0) (Nat.le_of_eq rfl) (pay_cause w111 (H.tw 228 rfl) (H.tw 226 rfl) (H.tw 168 rfl) (H.tw 171 rfl) Ne Fu rfl (by decide) (by decide)) (by decide) (by decide) rfl fun vm112 T112 h112 v112 w112 q112 => ?_
    obtain ⟨_, rfl, rfl, rfl⟩ := q112
    show Go _ _ _ _ (T112.setTop (mkF X.m 627 #[.val (.int x0), .val (.int x1), .val (.int x2), .val (.int x3), .val (.int (3 : Int32)), .val (.int c5), .val (.int c6), .val (.int c7), .val (.ref b1), .val (.ref b2), .val (.ref b4), .val (.ref b7), .val (.ref b11), .val (.ref b27), .val (.ref b44), .val (.ref b62), .val (.ref b105), .val (.ref b107), .val (.ref r109), .val (.ref mg)] [(Jvm.RoadKit.gcV r109 (.ref r109))]))
    rw [show Jvm.RoadKit.gcV r109 (.ref r109) = .null from if_pos rfl]
    refine w112.nnN (q := 630) at_627 rfl ?_
    refine w112.iconst (q := 631) (1 : Int32) at_630 rfl rfl ?_
    refine w112.goto (q := 635) at_631 (by decide) (by decide) ?_
    exact w112.retZ at_635 (t := .boolean) rfl (by decide) rfl (by decide) (by decide) ⟨_, rfl, rfl⟩
set_option maxRecDepth 65536 in
set_option maxHeartbeats 40000000 in
theorem comes_1 {Post : Tables → Env → Array Value → State → Outcome → State → Prop} (hpost : ∀ tb e args s v u, (limb_1_1.after args s (.returned v) u = true ∧ limb_1_2.after args s (.returned v) u = true ∧ True) → ReturnedEndW s (.returned v) u (Jvm.fieldLocs frame_1_writes args s ++ Jvm.arrayLocs frame_1_arrays args s ++ Jvm.staticLocs frame_1_statics s) 56 8256 → Post tb e args s (.returned v) u) :
    ArmFor flags0 classFile x code maxLocals ret World_1 tables_1 room_1 Calls_1 rest_1 Pre_1 Post := by
  intro l hfl _ _ p e ha hc hk s m args below hf hA hF happ hP
  obtain ⟨hcalls, hrest, hpre⟩ := hP
  obtain ⟨-, -, -, hnamed, -, -, -, hat⟩ := (Spec.applies_iff hf).mp happ
  obtain ⟨hg, hn⟩ := and_e (Cond.before_iff.mp (show (Jvm.Cond.and given_1 narrow_1).before args s = true from hpre))
  obtain ⟨h1, g0⟩ := and_e hg
  obtain ⟨w0, w1, w2, w3, rfl⟩ : ∃ w0 w1 w2 w3 : Value, args = #[w0, w1, w2, w3] := by
    have hs : args.size = 4 := by simpa [Cond.value, given_1] using h1
    obtain ⟨L⟩ := args
    match L, hs with
    | [w0, w1, w2, w3], _ => exact ⟨w0, w1, w2, w3, rfl⟩
  have hw := fun d (hd : d ∈ tables_1) => atoms_spec (ws := Jvm.Cond.code x code maxLocals ret :: tables_1) hat d (List.mem_cons_of_mem _ hd)
  obtain ⟨hsets, hown0⟩ := atoms_of _ (rest_1_c_eq ▸ (show rest_1_c.before _ s = true from hrest))
  have hfit : Fit s := fun {y c} hc i hi => by
    obtain ⟨ha, rfl⟩ := Array.getElem?_eq_some_iff.mp hc
    have q := List.all_eq_true.mp ((Array.all_eq_true_iff_forall_mem.mp hF) _ (Array.getElem_mem ha)) i (List.mem_range.mpr hi)
    simpa [Array.getElem?_eq_getElem hi] using q
  obtain ⟨q0, g1⟩ := and_e g0
  obtain ⟨x0, e0⟩ := is_v q0
  obtain rfl : w0 = (.int x0) := Option.some.inj e0
  obtain ⟨q1, g2⟩ := and_e g1
  obtain ⟨x1, e1⟩ := is_v q1
  obtain rfl : w1 = (.int x1) := Option.some.inj e1
  obtain ⟨q2, g3⟩ := and_e g2
  obtain ⟨x2, e2⟩ := is_v q2
  obtain rfl : w2 = (.int x2) := Option.some.inj e2
  obtain ⟨x3, e3⟩ := is_v g3
  obtain rfl : w3 = (.int x3) := Option.some.inj e3
  obtain ⟨cz, ez⟩ := is_v (Cond.before_iff.mp (hsets _ (List.mem_of_getElem? (i := 1) rfl)))
  have Sz : Sta s s.heap "java/lang/String" "COMPACT_STRINGS" "Z" (.int cz) := Sta.start ez (Or.inl (hsets _ (List.mem_of_getElem? (i := 0) rfl)))
  have nz : ¬ (cz = (0 : Int32)) := gotF (Cond.eq_ints ez (Term.int_eval (0))) (not_v (Cond.before_iff.mp (hsets _ (List.mem_of_getElem? (i := 2) rfl))))
  obtain ⟨vf, ef, rf⟩ := isR_v (Cond.before_iff.mp (hsets _ (List.mem_of_getElem? (i := 8) rfl)))
  have Sf : Sta s s.heap "jdk/internal/util/Preconditions" "SIOOBE_FORMATTER" "Ljava/util/function/BiFunction;" vf := Sta.start ef (Or.inl (hsets _ (List.mem_of_getElem? (i := 7) rfl)))
  have hEL : EW s _ consts_1 := (EW.cons (hw _ (List.mem_of_getElem? (i := 56) rfl)) (by decide) (EW.cons (hw _ (List.mem_of_getElem? (i := 257) rfl)) (by decide) EW.nil))
  have hCH : CHv s consts_1 s.vm s.heap := CHv.start hEL (fun p hp => hcalls.2.2.1 p hp) (hsets _ (List.mem_of_getElem? (i := 2) rfl)) (hw _ (List.mem_of_getElem? (i := 20) rfl)) (hw _ (List.mem_of_getElem? (i := 3) rfl))
  have Sa : Sta s s.heap "java/lang/StringUTF16" "$assertionsDisabled" "Z" (.int (1 : Int32)) := Sta.start (eqv_i (Term.int_eval (1)) (Cond.before_iff.mp (hsets _ (List.mem_of_getElem? (i := 32) rfl)))) (Or.inl (hsets _ (List.mem_of_getElem? (i := 31) rfl)))
  have Sh : Sta s s.heap "java/lang/StringUTF16" "HI_BYTE_SHIFT" "I" (.int (0 : Int32)) := Sta.start (eqv_i (Term.int_eval (0)) (Cond.before_iff.mp (hsets _ (List.mem_of_getElem? (i := 35) rfl)))) (Or.inl (hsets _ (List.mem_of_getElem? (i := 34) rfl)))
  have Sl : Sta s s.heap "java/lang/StringUTF16" "LO_BYTE_SHIFT" "I" (.int (8 : Int32)) := Sta.start (eqv_i (Term.int_eval (8)) (Cond.before_iff.mp (hsets _ (List.mem_of_getElem? (i := 38) rfl)))) (Or.inl (hsets _ (List.mem_of_getElem? (i := 37) rfl)))
  have hst : l.stackTraces = true := by unfold Launch.stackTraces; rw [hfl]; decide
  have hrf : ∀ d ∈ Jvm.RoadKit.twoRefs, d.before _ s = true := fun d hd => by
    rcases List.mem_cons.mp hd with rfl | hd
    · exact (hsets _ (List.mem_of_getElem? (i := 16) rfl))
    · cases List.mem_singleton.mp hd; exact (hsets _ (List.mem_of_getElem? (i := 21) rfl))
  have hkn : s.vm.MethodsKnown ∧ s.vm.FramesKnown below := ⟨mknown hcalls.2.1, fknown hcalls.1 hf⟩
  let G : Gx := (true, l, s, #[(.int x0), (.int x1), (.int x2), (.int x3)], consts_1, s.heap.size)
  have H : Hyp G := ⟨hw, hEL, ⟨cz, nz, Sz⟩, ⟨rfl, rfl⟩, ⟨vf, rf, Sf⟩, ⟨Sa, Sh, Sl⟩, hst, hrf⟩
  obtain ⟨n, o, h1, h2, h3, _, L, rfl, ⟨⟨_, rfl, rfl⟩, N, -⟩, -, hq⟩ := con_law G H x0 x1 x2 x3 s.heap (Old.start s) p e ha hc hk s m _ below hf ((Spec.applies_iff_loose hf).mp happ).1 ⟨rfl, State.Warmed39.refl s, rfl, fun _ => hCH⟩ hkn
  refine ⟨n, _, h1, h2, h3, hpost _ _ _ _ _ _ ⟨Cond.after_iff.mpr rfl, Cond.after_iff.mpr (eq_i res_at (Term.int_eval (1)) rfl), trivial⟩ ⟨hq.1.1, hq.1.2.1, hq.1.2.2.1, (hq.1.2.2.2.sift fun y hy => Or.inr (N y hy)).mono (by decide) (by decide)⟩⟩
theorem main_1_1 : Claimed_1_1 := comes_1 fun _ _ _ _ _ _ h hF => ⟨h.1, hF⟩
theorem main_1_2 : Claimed_1_2 := comes_1 fun _ _ _ _ _ _ h hF => ⟨h.2.1, hF⟩
end Jvm.Pilot.@@N@@
namespace Jvm.Pilot.@@N@@
open Jvm Jvm.ClassFile Sem Op Lib Jvm.Free Jvm.Stand Jvm.Pilot.@@N@@.Jvm.D
/-! MADE BY PROGRAM (witnessworld.py) out of the Statement's table words and the real class files: 43 classes; the members and pool entries that the words name. The judged class is class 1, her method 1. -/
namespace start1
open Jvm.ClassFile
def u (s : String) : CpInfo := .utf8 (stringToUtf16 s)
/-- a pool by its gaps: so many unusable entries, then the entry; so many at the end -/
def gap : Nat → List CpInfo → List CpInfo
  | 0, r => r
  | n + 1, r => .unusable :: gap n r
def poolList (es : List (Nat × CpInfo)) (last : Nat) : List CpInfo := es.foldr (fun e r => gap e.1 (e.2 :: r)) (gap last [])
def pool (es : List (Nat × CpInfo)) (last : Nat) : Array CpInfo := ⟨poolList es last⟩
def fileOf (pool : Array CpInfo) (this : Nat) (attrs : Array Attribute := #[]) (ms : Array MethodInfo := #[]) (fl : Nat := 33) (sup : Nat := 0) (ifs : Array Nat := #[]) (fds : Array FieldInfo := #[]) : ClassFile where
  minorVersion := 0
  majorVersion := 65
  constantPool := pool
  accessFlags := fl
  thisClass := this
  superClass := sup
  interfaces := ifs
  fields := fds
  methods := ms
  attributes := attrs
def plain (name : String) (sup : Option ClassId) : Class where
  name := name
  kind := .ordinary
  loader := none
  accessFlags := 33
  super := sup
  interfaces := #[]
  cf := none
  fields := #[]
  methods := #[]
  instanceTypes := #[]
  staticTypes := #[]
  resolved := #[]
  callSites := []
  init := .initialized
  statics := none
  mirror := none

def pool0 : Array CpInfo := pool [(5, u "<init>"), (0, u "()V"), (1, .class_ 10), (1, u "java/lang/Object"), (85, u "clone"), (0, u "()Ljava/lang/Object;")] 26

def k0c0 : Code := { maxStack := 0, maxLocals := 1, code := object_method_1_code, exceptionTable := #[], attributes := #[] }
def k0m0 : Method := { name := "<init>", desc := "()V", sig := { parameters := [], returnType := none }, accessFlags := 1, code := some k0c0 }
def k0m1 : Method := { name := "clone", desc := "()Ljava/lang/Object;", sig := { parameters := [], returnType := some (.object "java/lang/Object") }, accessFlags := 260, code := none }
/-- java/lang/Object -/
def k0 : Class := { plain "java/lang/Object" none with
  accessFlags := 33
  interfaces := #[]
  cf := some (fileOf pool0 8 #[] #[{ accessFlags := 1, nameIndex := 5, descriptorIndex := 6, attributes := #[] }, { accessFlags := 260, nameIndex := 96, descriptorIndex := 97, attributes := #[] }] 33 0 #[] #[])
  fields := #[]
  methods := #[k0m0, k0m1]
  instanceTypes := #[]
  staticTypes := #[]
  resolved := Array.replicate 124 none
  statics := none }

def pool1 : Array CpInfo := pool [(2, .class_ 4), (1, u "java/lang/Object"), (0, u "<init>"), (0, u "()V"), (0, .integer 65535), (0, .class_ 9), (0, u "java/lang/String"), (0, .methodref 8 11), (0, .nameAndType 5 12), (0, u "([C)V"), (0, .methodref 14 15), (0, .class_ 16), (0, .nameAndType 17 18), (0, u "com/example/scodi/scodi/launcher/Options"), (0, u "unknownOption"), (0, u "(Ljava/lang/String;)Ljava/lang/IllegalArgumentException;"), (0, .methodref 20 21), (0, .class_ 22), (0, .nameAndType 23 24), (0, u "java/lang/IllegalArgumentException"), (0, u "getMessage"), (0, u "()Ljava/lang/String;"), (0, .methodref 8 26), (0, .nameAndType 27 28), (0, u "equals"), (0, u "(Ljava/lang/Object;)Z"), (0, .methodref 20 30), (0, .nameAndType 31 32), (0, u "getCause"), (0, u "()Ljava/lang/Throwable;"), (0, .class_ 34), (0, u "com/example/scodi/scodi/launcher/OptionsUnknownOptionPinLaw"), (2, u "law"), (0, u "(IIII)Z")] 5

def k1m0 : Method := { name := "<init>", desc := "()V", sig := { parameters := [], returnType := none }, accessFlags := 1, code := none }
def k1c1 : Code := { maxStack := 4, maxLocals := 20, code := code, exceptionTable := #[], attributes := #[] }
def k1m1 : Method := { name := "law", desc := "(IIII)Z", sig := { parameters := [.int, .int, .int, .int], returnType := some .boolean }, accessFlags := 9, code := some k1c1 }
/-- com/example/scodi/scodi/launcher/OptionsUnknownOptionPinLaw -/
def k1 : Class := { plain "com/example/scodi/scodi/launcher/OptionsUnknownOptionPinLaw" (some 0) with
  accessFlags := 49
  interfaces := #[]
  cf := some (fileOf pool1 33 #[] #[{ accessFlags := 1, nameIndex := 5, descriptorIndex := 6, attributes := #[] }, { accessFlags := 9, nameIndex := 37, descriptorIndex := 38, attributes := #[] }] 49 2 #[] #[])
  fields := #[]
  methods := #[k1m0, k1m1]
  instanceTypes := #[]
  staticTypes := #[]
  resolved := Array.replicate 44 none
  statics := none }

def pool2 : Array CpInfo := pool [(1, .class_ 2), (0, u "java/io/Serializable"), (0, .class_ 4), (0, u "java/lang/Object")] 2

/-- java/io/Serializable -/
def k2 : Class := { plain "java/io/Serializable" (some 0) with
  accessFlags := 1537
  interfaces := #[]
  cf := some (fileOf pool2 1 #[] #[] 1537 3 #[] #[])
  fields := #[]
  methods := #[]
  instanceTypes := #[]
  staticTypes := #[]
  resolved := Array.replicate 7 none
  statics := none }

def pool3 : Array CpInfo := pool [(1, .class_ 2), (0, u "java/lang/Comparable"), (0, .class_ 4), (0, u "java/lang/Object")] 7

/-- java/lang/Comparable -/
def k3 : Class := { plain "java/lang/Comparable" (some 0) with
  accessFlags := 1537
  interfaces := #[]
  cf := some (fileOf pool3 1 #[] #[] 1537 3 #[] #[])
  fields := #[]
  methods := #[]
  instanceTypes := #[]
  staticTypes := #[]
  resolved := Array.replicate 12 none
  statics := none }

def pool4 : Array CpInfo := pool [(2, .class_ 4), (1, u "java/lang/CharSequence"), (42, .class_ 48), (0, u "java/lang/CharSequence$1CodePointIterator"), (10, .class_ 60), (0, u "java/lang/CharSequence$1CharIterator"), (5, .class_ 67), (0, u "java/lang/Object")] 63

/-- java/lang/CharSequence -/
def k4 : Class := { plain "java/lang/CharSequence" (some 0) with
  accessFlags := 1537
  interfaces := #[]
  cf := some (fileOf pool4 2 #[.nestMembers #[47, 59]] #[] 1537 66 #[] #[])
  fields := #[]
  methods := #[]
  instanceTypes := #[]
  staticTypes := #[]
  resolved := Array.replicate 131 none
  statics := none }

def pool5 : Array CpInfo := pool [(1, .class_ 2), (0, u "java/lang/constant/Constable"), (0, .class_ 4), (0, u "java/lang/Object")] 6

/-- java/lang/constant/Constable -/
def k5 : Class := { plain "java/lang/constant/Constable" (some 0) with
  accessFlags := 1537
  interfaces := #[]
  cf := some (fileOf pool5 1 #[] #[] 1537 3 #[] #[])
  fields := #[]
  methods := #[]
  instanceTypes := #[]
  staticTypes := #[]
  resolved := Array.replicate 11 none
  statics := none }

def pool6 : Array CpInfo := pool [(1, .class_ 2), (0, u "java/lang/constant/ConstantDesc"), (0, .class_ 4), (0, u "java/lang/Object")] 32

/-- java/lang/constant/ConstantDesc -/
def k6 : Class := { plain "java/lang/constant/ConstantDesc" (some 0) with
  accessFlags := 1537
  interfaces := #[]
  cf := some (fileOf pool6 1 #[] #[] 1537 3 #[] #[])
  fields := #[]
  methods := #[]
  instanceTypes := #[]
  staticTypes := #[]
  resolved := Array.replicate 37 none
  statics := none }

def pool7 : Array CpInfo := pool [(1, .methodref 2 3), (0, .class_ 4), (0, .nameAndType 5 6), (0, u "java/lang/Object"), (0, u "<init>"), (0, u "()V"), (0, .string 8), (0, u ""), (0, .fieldref 10 11), (0, .class_ 12), (0, .nameAndType 13 14), (0, u "java/lang/String"), (0, u "value"), (0, u "[B"), (0, .fieldref 10 16), (0, .nameAndType 17 18), (0, u "coder"), (0, u "B"), (2, u "hash"), (0, u "I"), (2, u "hashIsZero"), (0, u "Z"), (0, .methodref 10 28), (0, .nameAndType 5 29), (0, u "([CIILjava/lang/Void;)V"), (6, u "checkBoundsOffCount"), (0, u "(III)I"), (0, .fieldref 10 39), (0, .nameAndType 40 26), (0, u "COMPACT_STRINGS"), (1, .class_ 44), (1, u "java/lang/StringUTF16"), (0, u "compress"), (1, .methodref 42 48), (0, .nameAndType 49 50), (0, u "coderFromArrayLen"), (0, u "([BI)B"), (3, .methodref 55 56), (0, .class_ 57), (0, .nameAndType 58 59), (0, u "java/util/Arrays"), (0, u "copyOfRange"), (0, u "([BII)[B"), (47, .class_ 109), (1, u "java/lang/StringLatin1"), (32, u "()Z"), (34, .methodref 42 178), (0, .nameAndType 45 179), (0, u "([CII)[B"), (13, .class_ 195), (1, u "java/lang/System"), (16, .methodref 193 213), (0, .nameAndType 214 215), (0, u "arraycopy"), (0, u "(Ljava/lang/Object;ILjava/lang/Object;II)V"), (118, u "()I"), (0, .methodref 10 336), (0, .nameAndType 17 337), (0, u "()B"), (2, u "()[B"), (148, .methodref 10 490), (0, .nameAndType 5 491), (0, u "(Ljava/lang/AbstractStringBuilder;Ljava/lang/Void;)V"), (1, .nameAndType 494 142), (0, u "isLatin1"), (11, .nameAndType 507 334), (0, u "length"), (24, u "getBytes"), (8, .methodref 107 542), (0, .nameAndType 543 544), (0, u "equals"), (0, u "([B[B)Z"), (4, .methodref 550 506), (0, .class_ 551), (0, u "java/lang/AbstractStringBuilder"), (0, .methodref 550 553), (0, .nameAndType 554 340), (0, u "getValue"), (18, u "(Ljava/lang/Object;)Z"), (1, .class_ 576), (0, u "java/lang/CharSequence"), (22, u "CASE_INSENSITIVE_ORDER"), (0, u "Ljava/util/Comparator;"), (220, u "([BIB)V"), (188, u "([C)V"), (36, .methodref 550 493), (0, .fieldref 550 1049), (0, .nameAndType 1050 26), (0, u "maybeLatin1"), (2, .fieldref 1054 1055), (0, .class_ 1056), (0, .nameAndType 1057 1058), (0, u "jdk/internal/util/Preconditions"), (0, u "SIOOBE_FORMATTER"), (0, u "Ljava/util/function/BiFunction;"), (5, u "(IIILjava/util/function/BiFunction;)I"), (0, .methodref 1054 1066), (0, .nameAndType 1067 1064), (0, u "checkFromIndexSize"), (33, u "serialPersistentFields"), (0, u "[Ljava/io/ObjectStreamField;"), (0, .class_ 1104), (0, u "java/lang/String$CaseInsensitiveComparator"), (1, .class_ 1107), (0, u "java/io/Serializable"), (0, .class_ 1109), (0, u "java/lang/Comparable"), (0, .class_ 1111), (0, u "java/lang/constant/Constable"), (0, .class_ 1113), (0, u "java/lang/constant/ConstantDesc"), (2, u "serialVersionUID"), (0, u "J"), (3, u "REPL"), (0, u "C"), (2, u "LATIN1"), (1, u "UTF16"), (105, u "(Ljava/lang/StringBuilder;)V")] 217

def k7m0 : Method := { name := "<init>", desc := "()V", sig := { parameters := [], returnType := none }, accessFlags := 1, code := none }
def k7c1 : Code := { maxStack := 5, maxLocals := 2, code := jdk_42_method_3_code, exceptionTable := #[], attributes := #[] }
def k7m1 : Method := { name := "<init>", desc := "([C)V", sig := { parameters := [(.array .char)], returnType := none }, accessFlags := 1, code := some k7c1 }
def k7c2 : Code := { maxStack := 3, maxLocals := 2, code := jdk_42_method_53_code, exceptionTable := #[], attributes := #[] }
def k7m2 : Method := { name := "<init>", desc := "(Ljava/lang/StringBuilder;)V", sig := { parameters := [(.object "java/lang/StringBuilder")], returnType := none }, accessFlags := 1, code := some k7c2 }
def k7c3 : Code := { maxStack := 2, maxLocals := 1, code := jdk_42_method_54_code, exceptionTable := #[], attributes := #[] }
def k7m3 : Method := { name := "length", desc := "()I", sig := { parameters := [], returnType := some .int }, accessFlags := 1, code := some k7c3 }
def k7c4 : Code := { maxStack := 2, maxLocals := 3, code := jdk_42_method_66_code, exceptionTable := #[], attributes := #[] }
def k7m4 : Method := { name := "equals", desc := "(Ljava/lang/Object;)Z", sig := { parameters := [(.object "java/lang/Object")], returnType := some .boolean }, accessFlags := 1, code := some k7c4 }
def k7c5 : Code := { maxStack := 5, maxLocals := 4, code := jdk_42_method_147_code, exceptionTable := #[], attributes := #[] }
def k7m5 : Method := { name := "getBytes", desc := "([BIB)V", sig := { parameters := [(.array .byte), .int, .byte], returnType := none }, accessFlags := 0, code := some k7c5 }
def k7c6 : Code := { maxStack := 4, maxLocals := 6, code := jdk_42_method_149_code, exceptionTable := #[], attributes := #[] }
def k7m6 : Method := { name := "<init>", desc := "([CIILjava/lang/Void;)V", sig := { parameters := [(.array .char), .int, .int, (.object "java/lang/Void")], returnType := none }, accessFlags := 2, code := some k7c6 }
def k7c7 : Code := { maxStack := 5, maxLocals := 5, code := jdk_42_method_150_code, exceptionTable := #[], attributes := #[] }
def k7m7 : Method := { name := "<init>", desc := "(Ljava/lang/AbstractStringBuilder;Ljava/lang/Void;)V", sig := { parameters := [(.object "java/lang/AbstractStringBuilder"), (.object "java/lang/Void")], returnType := none }, accessFlags := 0, code := some k7c7 }
def k7c8 : Code := { maxStack := 1, maxLocals := 1, code := jdk_42_method_152_code, exceptionTable := #[], attributes := #[] }
def k7m8 : Method := { name := "coder", desc := "()B", sig := { parameters := [], returnType := some .byte }, accessFlags := 0, code := some k7c8 }
def k7c9 : Code := { maxStack := 4, maxLocals := 3, code := jdk_42_method_157_code, exceptionTable := #[], attributes := #[] }
def k7m9 : Method := { name := "checkBoundsOffCount", desc := "(III)I", sig := { parameters := [.int, .int, .int], returnType := some .int }, accessFlags := 8, code := some k7c9 }
/-- java/lang/String -/
def k7 : Class := { plain "java/lang/String" (some 0) with
  accessFlags := 49
  interfaces := #[2, 3, 4, 5, 6]
  cf := some (fileOf pool7 10 #[.nestMembers #[1103]] #[{ accessFlags := 1, nameIndex := 5, descriptorIndex := 6, attributes := #[] }, { accessFlags := 1, nameIndex := 5, descriptorIndex := 1010, attributes := #[] }, { accessFlags := 1, nameIndex := 5, descriptorIndex := 1233, attributes := #[] }, { accessFlags := 1, nameIndex := 507, descriptorIndex := 334, attributes := #[] }, { accessFlags := 1, nameIndex := 543, descriptorIndex := 573, attributes := #[] }, { accessFlags := 0, nameIndex := 532, descriptorIndex := 821, attributes := #[] }, { accessFlags := 2, nameIndex := 5, descriptorIndex := 29, attributes := #[] }, { accessFlags := 0, nameIndex := 5, descriptorIndex := 491, attributes := #[] }, { accessFlags := 0, nameIndex := 17, descriptorIndex := 337, attributes := #[] }, { accessFlags := 8, nameIndex := 36, descriptorIndex := 37, attributes := #[] }] 49 2 #[1106, 1108, 575, 1110, 1112] #[{ accessFlags := 18, nameIndex := 13, descriptorIndex := 14, attributes := #[] }, { accessFlags := 18, nameIndex := 17, descriptorIndex := 18, attributes := #[] }, { accessFlags := 2, nameIndex := 21, descriptorIndex := 22, attributes := #[] }, { accessFlags := 2, nameIndex := 25, descriptorIndex := 26, attributes := #[] }, { accessFlags := 26, nameIndex := 1116, descriptorIndex := 1117, attributes := #[] }, { accessFlags := 24, nameIndex := 40, descriptorIndex := 26, attributes := #[] }, { accessFlags := 26, nameIndex := 1101, descriptorIndex := 1102, attributes := #[] }, { accessFlags := 26, nameIndex := 1121, descriptorIndex := 1122, attributes := #[] }, { accessFlags := 25, nameIndex := 599, descriptorIndex := 600, attributes := #[] }, { accessFlags := 24, nameIndex := 1125, descriptorIndex := 18, attributes := #[] }, { accessFlags := 24, nameIndex := 1127, descriptorIndex := 18, attributes := #[] }])
  fields := #[{ name := "value", type := (.array .byte), accessFlags := 18, slot := 0, constantValue := 0 }, { name := "coder", type := .byte, accessFlags := 18, slot := 1, constantValue := 0 }, { name := "hash", type := .int, accessFlags := 2, slot := 2, constantValue := 0 }, { name := "hashIsZero", type := .boolean, accessFlags := 2, slot := 3, constantValue := 0 }, { name := "serialVersionUID", type := .long, accessFlags := 26, slot := 0, constantValue := 0 }, { name := "COMPACT_STRINGS", type := .boolean, accessFlags := 24, slot := 1, constantValue := 0 }, { name := "serialPersistentFields", type := (.array (.object "java/io/ObjectStreamField")), accessFlags := 26, slot := 2, constantValue := 0 }, { name := "REPL", type := .char, accessFlags := 26, slot := 3, constantValue := 0 }, { name := "CASE_INSENSITIVE_ORDER", type := (.object "java/util/Comparator"), accessFlags := 25, slot := 4, constantValue := 0 }, { name := "LATIN1", type := .byte, accessFlags := 24, slot := 5, constantValue := 0 }, { name := "UTF16", type := .byte, accessFlags := 24, slot := 6, constantValue := 0 }]
  methods := #[k7m0, k7m1, k7m2, k7m3, k7m4, k7m5, k7m6, k7m7, k7m8, k7m9]
  instanceTypes := #[(.array .byte), .byte, .int, .boolean]
  staticTypes := #[.long, .boolean, (.array (.object "java/io/ObjectStreamField")), .char, (.object "java/util/Comparator"), .byte, .byte]
  resolved := Array.replicate 1451 none
  statics := some 0 }

def pool8 : Array CpInfo := pool [(3, .class_ 4), (0, u "java/lang/String"), (1, .class_ 8), (1, u "java/lang/Object"), (0, u "<init>"), (0, u "()V"), (0, .methodref 12 13), (0, .class_ 14), (0, .nameAndType 15 16), (0, u "java/lang/StringUTF16"), (0, u "newBytesLength"), (0, u "(I)I"), (3, .integer 1073741823), (23, .fieldref 12 45), (0, .nameAndType 46 47), (0, u "$assertionsDisabled"), (0, u "Z"), (0, .methodref 12 49), (0, .nameAndType 50 51), (0, u "length"), (0, u "([B)I"), (7, .fieldref 12 60), (0, .nameAndType 61 62), (0, u "HI_BYTE_SHIFT"), (0, u "I"), (0, .fieldref 12 64), (0, .nameAndType 65 62), (0, u "LO_BYTE_SHIFT"), (5, .methodref 12 72), (0, .nameAndType 73 74), (0, u "getChar"), (0, u "([BI)C"), (24, u "(II[B)V"), (7, .methodref 12 108), (0, .nameAndType 109 110), (0, u "newBytesFor"), (0, u "(I)[B"), (0, .methodref 12 112), (0, .nameAndType 113 114), (0, u "putChar"), (0, u "([BII)V"), (0, .methodref 12 116), (0, .nameAndType 117 118), (0, u "compress"), (0, u "([CI[BII)I"), (0, .methodref 12 120), (0, .nameAndType 121 122), (0, u "toBytes"), (0, u "([CII)[B"), (17, u "inflate"), (0, u "([BI[BII)V"), (31, .methodref 12 174), (0, .nameAndType 175 99), (0, u "checkBoundsOffCount"), (85, u "coderFromArrayLen"), (0, u "([BI)B"), (18, u "(III)I"), (87, .class_ 371), (1, u "java/lang/StringUTF16$LinesSpliterator"), (47, .methodref 3 420), (0, .nameAndType 175 281), (9, u "MAX_LENGTH"), (196, .class_ 628), (0, u "java/lang/StringUTF16$CodePointsSpliterator"), (0, .class_ 630), (0, u "java/lang/StringUTF16$CharsSpliterator")] 4

def k8m0 : Method := { name := "<init>", desc := "()V", sig := { parameters := [], returnType := none }, accessFlags := 0, code := none }
def k8c1 : Code := { maxStack := 1, maxLocals := 1, code := jdk_52_method_2_code, exceptionTable := #[], attributes := #[] }
def k8m1 : Method := { name := "newBytesFor", desc := "(I)[B", sig := { parameters := [.int], returnType := some (.array .byte) }, accessFlags := 9, code := some k8c1 }
def k8c2 : Code := { maxStack := 4, maxLocals := 1, code := jdk_52_method_3_code, exceptionTable := #[], attributes := #[] }
def k8m2 : Method := { name := "newBytesLength", desc := "(I)I", sig := { parameters := [.int], returnType := some .int }, accessFlags := 9, code := some k8c2 }
def k8c3 : Code := { maxStack := 4, maxLocals := 3, code := jdk_52_method_4_code, exceptionTable := #[], attributes := #[] }
def k8m3 : Method := { name := "putChar", desc := "([BII)V", sig := { parameters := [(.array .byte), .int, .int], returnType := none }, accessFlags := 8, code := some k8c3 }
def k8c4 : Code := { maxStack := 3, maxLocals := 2, code := jdk_52_method_5_code, exceptionTable := #[], attributes := #[] }
def k8m4 : Method := { name := "getChar", desc := "([BI)C", sig := { parameters := [(.array .byte), .int], returnType := some .char }, accessFlags := 8, code := some k8c4 }
def k8c5 : Code := { maxStack := 2, maxLocals := 1, code := jdk_52_method_6_code, exceptionTable := #[], attributes := #[] }
def k8m5 : Method := { name := "length", desc := "([B)I", sig := { parameters := [(.array .byte)], returnType := some .int }, accessFlags := 9, code := some k8c5 }
def k8c6 : Code := { maxStack := 4, maxLocals := 5, code := jdk_52_method_14_code, exceptionTable := #[], attributes := #[] }
def k8m6 : Method := { name := "toBytes", desc := "([CII)[B", sig := { parameters := [(.array .char), .int, .int], returnType := some (.array .byte) }, accessFlags := 9, code := some k8c6 }
def k8c7 : Code := { maxStack := 2, maxLocals := 2, code := jdk_52_method_15_code, exceptionTable := #[], attributes := #[] }
def k8m7 : Method := { name := "coderFromArrayLen", desc := "([BI)B", sig := { parameters := [(.array .byte), .int], returnType := some .byte }, accessFlags := 8, code := some k8c7 }
def k8c8 : Code := { maxStack := 5, maxLocals := 6, code := jdk_52_method_16_code, exceptionTable := #[], attributes := #[] }
def k8m8 : Method := { name := "compress", desc := "([CII)[B", sig := { parameters := [(.array .char), .int, .int], returnType := some (.array .byte) }, accessFlags := 9, code := some k8c8 }
def k8c9 : Code := { maxStack := 3, maxLocals := 7, code := jdk_52_method_21_code, exceptionTable := #[], attributes := #[] }
def k8m9 : Method := { name := "compress", desc := "([CI[BII)I", sig := { parameters := [(.array .char), .int, (.array .byte), .int, .int], returnType := some .int }, accessFlags := 9, code := some k8c9 }
def k8c10 : Code := { maxStack := 4, maxLocals := 6, code := jdk_52_method_86_code, exceptionTable := #[], attributes := #[] }
def k8m10 : Method := { name := "inflate", desc := "([BI[BII)V", sig := { parameters := [(.array .byte), .int, (.array .byte), .int, .int], returnType := none }, accessFlags := 9, code := some k8c10 }
def k8c11 : Code := { maxStack := 3, maxLocals := 3, code := jdk_52_method_94_code, exceptionTable := #[], attributes := #[] }
def k8m11 : Method := { name := "checkBoundsOffCount", desc := "(II[B)V", sig := { parameters := [.int, .int, (.array .byte)], returnType := none }, accessFlags := 9, code := some k8c11 }
/-- java/lang/StringUTF16 -/
def k8 : Class := { plain "java/lang/StringUTF16" (some 0) with
  accessFlags := 48
  interfaces := #[]
  cf := some (fileOf pool8 12 #[.nestMembers #[627, 629, 369]] #[{ accessFlags := 0, nameIndex := 9, descriptorIndex := 10, attributes := #[] }, { accessFlags := 9, nameIndex := 109, descriptorIndex := 110, attributes := #[] }, { accessFlags := 9, nameIndex := 15, descriptorIndex := 16, attributes := #[] }, { accessFlags := 8, nameIndex := 113, descriptorIndex := 114, attributes := #[] }, { accessFlags := 8, nameIndex := 73, descriptorIndex := 74, attributes := #[] }, { accessFlags := 9, nameIndex := 50, descriptorIndex := 51, attributes := #[] }, { accessFlags := 9, nameIndex := 121, descriptorIndex := 122, attributes := #[] }, { accessFlags := 8, nameIndex := 261, descriptorIndex := 262, attributes := #[] }, { accessFlags := 9, nameIndex := 117, descriptorIndex := 122, attributes := #[] }, { accessFlags := 9, nameIndex := 117, descriptorIndex := 118, attributes := #[] }, { accessFlags := 9, nameIndex := 140, descriptorIndex := 141, attributes := #[] }, { accessFlags := 9, nameIndex := 175, descriptorIndex := 99, attributes := #[] }] 48 6 #[] #[{ accessFlags := 26, nameIndex := 61, descriptorIndex := 62, attributes := #[] }, { accessFlags := 26, nameIndex := 65, descriptorIndex := 62, attributes := #[] }, { accessFlags := 24, nameIndex := 430, descriptorIndex := 62, attributes := #[] }, { accessFlags := 4120, nameIndex := 46, descriptorIndex := 47, attributes := #[] }])
  fields := #[{ name := "HI_BYTE_SHIFT", type := .int, accessFlags := 26, slot := 0, constantValue := 0 }, { name := "LO_BYTE_SHIFT", type := .int, accessFlags := 26, slot := 1, constantValue := 0 }, { name := "MAX_LENGTH", type := .int, accessFlags := 24, slot := 2, constantValue := 0 }, { name := "$assertionsDisabled", type := .boolean, accessFlags := 4120, slot := 3, constantValue := 0 }]
  methods := #[k8m0, k8m1, k8m2, k8m3, k8m4, k8m5, k8m6, k8m7, k8m8, k8m9, k8m10, k8m11]
  instanceTypes := #[]
  staticTypes := #[.int, .int, .int, .boolean]
  resolved := Array.replicate 635 none
  statics := some 1 }

def pool9 : Array CpInfo := pool [(2, .class_ 4), (0, .nameAndType 5 6), (0, u "java/lang/Object"), (0, u "<init>"), (0, u "()V"), (6, .class_ 14), (0, u "java/lang/IllegalArgumentException"), (0, .class_ 16), (0, u "java/lang/StringBuilder"), (0, .methodref 15 3), (0, .methodref 15 19), (0, .nameAndType 20 21), (0, u "append"), (0, u "(Ljava/lang/String;)Ljava/lang/StringBuilder;"), (2, .methodref 15 25), (0, .nameAndType 26 27), (0, u "toString"), (0, u "()Ljava/lang/String;"), (0, .methodref 13 29), (0, .nameAndType 5 30), (0, u "(Ljava/lang/String;)V"), (6, .string 38), (0, u "unknown option "), (13, .class_ 53), (0, u "com/example/scodi/scodi/launcher/Options"), (7, u "unknownOption"), (0, u "(Ljava/lang/String;)Ljava/lang/IllegalArgumentException;")] 4

def k9m0 : Method := { name := "<init>", desc := "()V", sig := { parameters := [], returnType := none }, accessFlags := 2, code := none }
def k9c1 : Code := { maxStack := 4, maxLocals := 1, code := prog_25_method_3_code, exceptionTable := #[], attributes := #[] }
def k9m1 : Method := { name := "unknownOption", desc := "(Ljava/lang/String;)Ljava/lang/IllegalArgumentException;", sig := { parameters := [(.object "java/lang/String")], returnType := some (.object "java/lang/IllegalArgumentException") }, accessFlags := 8, code := some k9c1 }
/-- com/example/scodi/scodi/launcher/Options -/
def k9 : Class := { plain "com/example/scodi/scodi/launcher/Options" (some 0) with
  accessFlags := 32
  interfaces := #[]
  cf := some (fileOf pool9 52 #[] #[{ accessFlags := 2, nameIndex := 5, descriptorIndex := 6, attributes := #[] }, { accessFlags := 8, nameIndex := 61, descriptorIndex := 62, attributes := #[] }] 32 2 #[] #[])
  fields := #[]
  methods := #[k9m0, k9m1]
  instanceTypes := #[]
  staticTypes := #[]
  resolved := Array.replicate 67 none
  statics := none }

def pool10 : Array CpInfo := pool [(1, .methodref 2 3), (0, .class_ 4), (0, .nameAndType 5 6), (0, u "java/lang/Object"), (0, u "<init>"), (0, u "()V"), (0, .fieldref 8 9), (0, .class_ 10), (0, .nameAndType 11 12), (0, u "java/lang/Throwable"), (0, u "cause"), (0, u "Ljava/lang/Throwable;"), (0, .fieldref 8 14), (0, .nameAndType 15 16), (0, u "UNASSIGNED_STACK"), (0, u "[Ljava/lang/StackTraceElement;"), (0, .fieldref 8 18), (0, .nameAndType 19 16), (0, u "stackTrace"), (0, .fieldref 8 21), (0, .nameAndType 22 23), (0, u "SUPPRESSED_SENTINEL"), (0, u "Ljava/util/List;"), (0, .fieldref 8 25), (0, .nameAndType 26 23), (0, u "suppressedExceptions"), (0, .methodref 8 28), (0, .nameAndType 29 30), (0, u "fillInStackTrace"), (0, u "()Ljava/lang/Throwable;"), (0, .fieldref 8 32), (0, .nameAndType 33 34), (0, u "detailMessage"), (0, u "Ljava/lang/String;"), (3, u "()Ljava/lang/String;"), (2, u "getMessage"), (51, .class_ 94), (0, u "java/lang/Throwable$WrappedPrintStream"), (6, .class_ 103), (1, u "java/lang/Throwable$PrintStreamOrWriter"), (54, u "getCause"), (6, u "$assertionsDisabled"), (0, u "Z"), (26, .class_ 194), (0, u "java/lang/Throwable$WrappedPrintWriter"), (3, .fieldref 8 199), (0, .nameAndType 200 201), (0, u "backtrace"), (0, u "Ljava/lang/Object;"), (0, .methodref 8 203), (0, .nameAndType 29 204), (0, u "(I)Ljava/lang/Throwable;"), (6, u "depth"), (0, u "I"), (10, u "(Ljava/lang/String;)V"), (45, .class_ 271), (1, u "java/lang/Throwable$SentinelHolder"), (32, u "EMPTY_THROWABLE_ARRAY"), (0, u "[Ljava/lang/Throwable;"), (12, .class_ 319), (0, u "java/io/Serializable"), (0, u "serialVersionUID"), (0, u "J"), (5, u "NULL_CAUSE_MESSAGE"), (0, u "SELF_SUPPRESSION_MESSAGE"), (0, u "CAUSE_CAPTION"), (0, u "SUPPRESSED_CAPTION")] 73

def k10c0 : Code := { maxStack := 2, maxLocals := 1, code := jdk_78_method_1_code, exceptionTable := #[], attributes := #[] }
def k10m0 : Method := { name := "<init>", desc := "()V", sig := { parameters := [], returnType := none }, accessFlags := 1, code := some k10c0 }
def k10c1 : Code := { maxStack := 2, maxLocals := 2, code := jdk_78_method_2_code, exceptionTable := #[], attributes := #[] }
def k10m1 : Method := { name := "<init>", desc := "(Ljava/lang/String;)V", sig := { parameters := [(.object "java/lang/String")], returnType := none }, accessFlags := 1, code := some k10c1 }
def k10c2 : Code := { maxStack := 1, maxLocals := 1, code := jdk_78_method_6_code, exceptionTable := #[], attributes := #[] }
def k10m2 : Method := { name := "getMessage", desc := "()Ljava/lang/String;", sig := { parameters := [], returnType := some (.object "java/lang/String") }, accessFlags := 1, code := some k10c2 }
def k10c3 : Code := { maxStack := 2, maxLocals := 1, code := ⟨#[0x2a, 0xb4, 0x00, 0x07, 0x2a, 0xa6, 0x00, 0x07, 0x01, 0xa7, 0x00, 0x07, 0x2a, 0xb4, 0x00, 0x07, 0xb0]⟩, exceptionTable := #[], attributes := #[] }
def k10m3 : Method := { name := "getCause", desc := "()Ljava/lang/Throwable;", sig := { parameters := [], returnType := some (.object "java/lang/Throwable") }, accessFlags := 33, code := some k10c3 }
def k10c4 : Code := { maxStack := 2, maxLocals := 1, code := ⟨#[0x2a, 0xb4, 0x00, 0x11, 0xc7, 0x00, 0x0a, 0x2a, 0xb4, 0x00, 0xc6, 0xc6, 0x00, 0x10, 0x2a, 0x03, 0xb6, 0x00, 0xca, 0x57, 0x2a, 0xb2, 0x00, 0x0d, 0xb5, 0x00, 0x11, 0x2a, 0xb0]⟩, exceptionTable := #[], attributes := #[] }
def k10m4 : Method := { name := "fillInStackTrace", desc := "()Ljava/lang/Throwable;", sig := { parameters := [], returnType := some (.object "java/lang/Throwable") }, accessFlags := 33, code := some k10c4 }
def k10m5 : Method := { name := "fillInStackTrace", desc := "(I)Ljava/lang/Throwable;", sig := { parameters := [.int], returnType := some (.object "java/lang/Throwable") }, accessFlags := 258, code := none }
/-- java/lang/Throwable -/
def k10 : Class := { plain "java/lang/Throwable" (some 0) with
  accessFlags := 33
  interfaces := #[2]
  cf := some (fileOf pool10 8 #[.nestMembers #[193, 93, 101, 269]] #[{ accessFlags := 1, nameIndex := 5, descriptorIndex := 6, attributes := #[] }, { accessFlags := 1, nameIndex := 5, descriptorIndex := 223, attributes := #[] }, { accessFlags := 1, nameIndex := 41, descriptorIndex := 38, attributes := #[] }, { accessFlags := 33, nameIndex := 158, descriptorIndex := 30, attributes := #[] }, { accessFlags := 33, nameIndex := 29, descriptorIndex := 30, attributes := #[] }, { accessFlags := 258, nameIndex := 29, descriptorIndex := 204, attributes := #[] }] 33 2 #[318] #[{ accessFlags := 26, nameIndex := 320, descriptorIndex := 321, attributes := #[] }, { accessFlags := 130, nameIndex := 200, descriptorIndex := 201, attributes := #[] }, { accessFlags := 2, nameIndex := 33, descriptorIndex := 34, attributes := #[] }, { accessFlags := 26, nameIndex := 15, descriptorIndex := 16, attributes := #[] }, { accessFlags := 2, nameIndex := 11, descriptorIndex := 12, attributes := #[] }, { accessFlags := 2, nameIndex := 19, descriptorIndex := 16, attributes := #[] }, { accessFlags := 130, nameIndex := 211, descriptorIndex := 212, attributes := #[] }, { accessFlags := 26, nameIndex := 22, descriptorIndex := 23, attributes := #[] }, { accessFlags := 2, nameIndex := 26, descriptorIndex := 23, attributes := #[] }, { accessFlags := 26, nameIndex := 327, descriptorIndex := 34, attributes := #[] }, { accessFlags := 26, nameIndex := 328, descriptorIndex := 34, attributes := #[] }, { accessFlags := 26, nameIndex := 329, descriptorIndex := 34, attributes := #[] }, { accessFlags := 26, nameIndex := 330, descriptorIndex := 34, attributes := #[] }, { accessFlags := 26, nameIndex := 304, descriptorIndex := 305, attributes := #[] }, { accessFlags := 4120, nameIndex := 165, descriptorIndex := 166, attributes := #[] }])
  fields := #[{ name := "serialVersionUID", type := .long, accessFlags := 26, slot := 0, constantValue := 0 }, { name := "backtrace", type := (.object "java/lang/Object"), accessFlags := 130, slot := 0, constantValue := 0 }, { name := "detailMessage", type := (.object "java/lang/String"), accessFlags := 2, slot := 1, constantValue := 0 }, { name := "UNASSIGNED_STACK", type := (.array (.object "java/lang/StackTraceElement")), accessFlags := 26, slot := 1, constantValue := 0 }, { name := "cause", type := (.object "java/lang/Throwable"), accessFlags := 2, slot := 2, constantValue := 0 }, { name := "stackTrace", type := (.array (.object "java/lang/StackTraceElement")), accessFlags := 2, slot := 3, constantValue := 0 }, { name := "depth", type := .int, accessFlags := 130, slot := 4, constantValue := 0 }, { name := "SUPPRESSED_SENTINEL", type := (.object "java/util/List"), accessFlags := 26, slot := 2, constantValue := 0 }, { name := "suppressedExceptions", type := (.object "java/util/List"), accessFlags := 2, slot := 5, constantValue := 0 }, { name := "NULL_CAUSE_MESSAGE", type := (.object "java/lang/String"), accessFlags := 26, slot := 3, constantValue := 0 }, { name := "SELF_SUPPRESSION_MESSAGE", type := (.object "java/lang/String"), accessFlags := 26, slot := 4, constantValue := 0 }, { name := "CAUSE_CAPTION", type := (.object "java/lang/String"), accessFlags := 26, slot := 5, constantValue := 0 }, { name := "SUPPRESSED_CAPTION", type := (.object "java/lang/String"), accessFlags := 26, slot := 6, constantValue := 0 }, { name := "EMPTY_THROWABLE_ARRAY", type := (.array (.object "java/lang/Throwable")), accessFlags := 26, slot := 7, constantValue := 0 }, { name := "$assertionsDisabled", type := .boolean, accessFlags := 4120, slot := 8, constantValue := 0 }]
  methods := #[k10m0, k10m1, k10m2, k10m3, k10m4, k10m5]
  instanceTypes := #[(.object "java/lang/Object"), (.object "java/lang/String"), (.object "java/lang/Throwable"), (.array (.object "java/lang/StackTraceElement")), .int, (.object "java/util/List")]
  staticTypes := #[.long, (.array (.object "java/lang/StackTraceElement")), (.object "java/util/List"), (.object "java/lang/String"), (.object "java/lang/String"), (.object "java/lang/String"), (.object "java/lang/String"), (.array (.object "java/lang/Throwable")), .boolean]
  resolved := Array.replicate 404 none
  statics := some 2 }

def pool11 : Array CpInfo := pool [(2, .class_ 4), (1, u "java/lang/Throwable"), (0, u "<init>"), (0, u "()V"), (0, .methodref 2 8), (0, .nameAndType 5 9), (0, u "(Ljava/lang/String;)V"), (9, .class_ 20), (0, u "java/lang/Exception"), (0, u "serialVersionUID"), (0, u "J")] 17

def k11m0 : Method := { name := "<init>", desc := "()V", sig := { parameters := [], returnType := none }, accessFlags := 1, code := none }
def k11c1 : Code := { maxStack := 2, maxLocals := 2, code := jdk_59_method_2_code, exceptionTable := #[], attributes := #[] }
def k11m1 : Method := { name := "<init>", desc := "(Ljava/lang/String;)V", sig := { parameters := [(.object "java/lang/String")], returnType := none }, accessFlags := 1, code := some k11c1 }
/-- java/lang/Exception -/
def k11 : Class := { plain "java/lang/Exception" (some 10) with
  accessFlags := 33
  interfaces := #[]
  cf := some (fileOf pool11 19 #[] #[{ accessFlags := 1, nameIndex := 5, descriptorIndex := 6, attributes := #[] }, { accessFlags := 1, nameIndex := 5, descriptorIndex := 9, attributes := #[] }] 33 2 #[] #[{ accessFlags := 24, nameIndex := 21, descriptorIndex := 22, attributes := #[] }])
  fields := #[{ name := "serialVersionUID", type := .long, accessFlags := 24, slot := 0, constantValue := 0 }]
  methods := #[k11m0, k11m1]
  instanceTypes := #[(.object "java/lang/Object"), (.object "java/lang/String"), (.object "java/lang/Throwable"), (.array (.object "java/lang/StackTraceElement")), .int, (.object "java/util/List")]
  staticTypes := #[.long]
  resolved := Array.replicate 40 none
  statics := none }

def pool12 : Array CpInfo := pool [(2, .class_ 4), (1, u "java/lang/Exception"), (0, u "<init>"), (0, u "()V"), (0, .methodref 2 8), (0, .nameAndType 5 9), (0, u "(Ljava/lang/String;)V"), (9, .class_ 20), (0, u "java/lang/RuntimeException"), (0, u "serialVersionUID"), (0, u "J")] 17

def k12m0 : Method := { name := "<init>", desc := "()V", sig := { parameters := [], returnType := none }, accessFlags := 1, code := none }
def k12c1 : Code := { maxStack := 2, maxLocals := 2, code := jdk_58_method_2_code, exceptionTable := #[], attributes := #[] }
def k12m1 : Method := { name := "<init>", desc := "(Ljava/lang/String;)V", sig := { parameters := [(.object "java/lang/String")], returnType := none }, accessFlags := 1, code := some k12c1 }
/-- java/lang/RuntimeException -/
def k12 : Class := { plain "java/lang/RuntimeException" (some 11) with
  accessFlags := 33
  interfaces := #[]
  cf := some (fileOf pool12 19 #[] #[{ accessFlags := 1, nameIndex := 5, descriptorIndex := 6, attributes := #[] }, { accessFlags := 1, nameIndex := 5, descriptorIndex := 9, attributes := #[] }] 33 2 #[] #[{ accessFlags := 24, nameIndex := 21, descriptorIndex := 22, attributes := #[] }])
  fields := #[{ name := "serialVersionUID", type := .long, accessFlags := 24, slot := 0, constantValue := 0 }]
  methods := #[k12m0, k12m1]
  instanceTypes := #[(.object "java/lang/Object"), (.object "java/lang/String"), (.object "java/lang/Throwable"), (.array (.object "java/lang/StackTraceElement")), .int, (.object "java/util/List")]
  staticTypes := #[.long]
  resolved := Array.replicate 40 none
  statics := none }

def pool13 : Array CpInfo := pool [(2, .class_ 4), (1, u "java/lang/RuntimeException"), (0, u "<init>"), (0, u "()V"), (0, .methodref 2 8), (0, .nameAndType 5 9), (0, u "(Ljava/lang/String;)V"), (6, .class_ 17), (0, u "java/lang/IllegalArgumentException"), (0, u "serialVersionUID"), (0, u "J")] 15

def k13m0 : Method := { name := "<init>", desc := "()V", sig := { parameters := [], returnType := none }, accessFlags := 1, code := none }
def k13c1 : Code := { maxStack := 2, maxLocals := 2, code := jdk_57_method_2_code, exceptionTable := #[], attributes := #[] }
def k13m1 : Method := { name := "<init>", desc := "(Ljava/lang/String;)V", sig := { parameters := [(.object "java/lang/String")], returnType := none }, accessFlags := 1, code := some k13c1 }
/-- java/lang/IllegalArgumentException -/
def k13 : Class := { plain "java/lang/IllegalArgumentException" (some 12) with
  accessFlags := 33
  interfaces := #[]
  cf := some (fileOf pool13 16 #[] #[{ accessFlags := 1, nameIndex := 5, descriptorIndex := 6, attributes := #[] }, { accessFlags := 1, nameIndex := 5, descriptorIndex := 9, attributes := #[] }] 33 2 #[] #[{ accessFlags := 26, nameIndex := 18, descriptorIndex := 19, attributes := #[] }])
  fields := #[{ name := "serialVersionUID", type := .long, accessFlags := 26, slot := 0, constantValue := 0 }]
  methods := #[k13m0, k13m1]
  instanceTypes := #[(.object "java/lang/Object"), (.object "java/lang/String"), (.object "java/lang/Throwable"), (.array (.object "java/lang/StackTraceElement")), .int, (.object "java/util/List")]
  staticTypes := #[.long]
  resolved := Array.replicate 35 none
  statics := none }

def pool14 : Array CpInfo := pool [(1, .class_ 2), (0, u "java/lang/Appendable"), (0, .class_ 4), (0, u "java/lang/Object")] 9

/-- java/lang/Appendable -/
def k14 : Class := { plain "java/lang/Appendable" (some 0) with
  accessFlags := 1537
  interfaces := #[]
  cf := some (fileOf pool14 1 #[] #[] 1537 3 #[] #[])
  fields := #[]
  methods := #[]
  instanceTypes := #[]
  staticTypes := #[]
  resolved := Array.replicate 14 none
  statics := none }

def pool15 : Array CpInfo := pool [(1, .class_ 2), (0, u "java/lang/String"), (0, .methodref 4 5), (0, .class_ 6), (0, .nameAndType 7 8), (0, u "java/lang/Object"), (0, u "<init>"), (0, u "()V"), (1, .class_ 12), (1, u "java/lang/AbstractStringBuilder"), (0, u "EMPTYVALUE"), (0, u "[B"), (0, .fieldref 10 16), (0, .nameAndType 17 14), (0, u "value"), (0, .fieldref 1 19), (0, .nameAndType 20 21), (0, u "COMPACT_STRINGS"), (0, u "Z"), (0, .fieldref 10 23), (0, .nameAndType 24 25), (0, u "coder"), (0, u "B"), (0, .methodref 27 28), (0, .class_ 29), (0, .nameAndType 30 31), (0, u "java/lang/StringUTF16"), (0, u "newBytesFor"), (0, u "(I)[B"), (0, .methodref 1 33), (0, .nameAndType 34 35), (0, u "length"), (0, u "()I"), (3, .integer 2147483647), (0, .methodref 1 41), (0, .nameAndType 24 42), (0, u "()B"), (2, u "append"), (0, u "(Ljava/lang/String;)Ljava/lang/AbstractStringBuilder;"), (1, .class_ 49), (0, u "java/lang/CharSequence"), (19, u "(Ljava/lang/String;)V"), (5, u "maybeLatin1"), (3, .fieldref 10 80), (0, .nameAndType 81 82), (0, u "count"), (0, u "I"), (0, .methodref 10 84), (0, .nameAndType 85 86), (0, u "isLatin1"), (0, u "()Z"), (1, .class_ 90), (1, u "java/lang/StringLatin1"), (9, .methodref 10 101), (0, .nameAndType 102 103), (0, u "ensureCapacityInternal"), (0, u "(I)V"), (0, .methodref 10 105), (0, .nameAndType 106 107), (0, u "newCapacity"), (0, u "(I)I"), (0, .methodref 109 110), (0, .class_ 111), (0, .nameAndType 112 113), (0, u "java/util/Arrays"), (0, u "copyOf"), (0, u "([BI)[B"), (0, .methodref 115 116), (0, .class_ 117), (0, .nameAndType 118 119), (0, u "jdk/internal/util/ArraysSupport"), (0, u "newLength"), (0, u "(III)I"), (5, .methodref 88 126), (0, .nameAndType 127 128), (0, u "inflate"), (0, u "([BI[BII)V"), (66, .methodref 10 196), (0, .nameAndType 127 8), (11, .methodref 10 209), (0, .nameAndType 210 211), (0, u "putStringAt"), (0, u "(ILjava/lang/String;)V"), (5, u "inflateIfNeededFor"), (2, .nameAndType 221 222), (0, u "getBytes"), (0, u "([BIB)V"), (174, .methodref 10 398), (0, .nameAndType 217 69), (0, .methodref 1 220), (3, u "()[B"), (40, .class_ 445), (0, u "java/lang/Appendable"), (106, u "getValue")] 56

def k15m0 : Method := { name := "<init>", desc := "()V", sig := { parameters := [], returnType := none }, accessFlags := 0, code := none }
def k15c1 : Code := { maxStack := 2, maxLocals := 2, code := jdk_68_method_2_code, exceptionTable := #[], attributes := #[] }
def k15m1 : Method := { name := "<init>", desc := "(I)V", sig := { parameters := [.int], returnType := none }, accessFlags := 0, code := some k15c1 }
def k15c2 : Code := { maxStack := 1, maxLocals := 1, code := jdk_68_method_6_code, exceptionTable := #[], attributes := #[] }
def k15m2 : Method := { name := "length", desc := "()I", sig := { parameters := [], returnType := some .int }, accessFlags := 1, code := some k15c2 }
def k15c3 : Code := { maxStack := 4, maxLocals := 3, code := jdk_68_method_9_code, exceptionTable := #[], attributes := #[] }
def k15m3 : Method := { name := "ensureCapacityInternal", desc := "(I)V", sig := { parameters := [.int], returnType := none }, accessFlags := 2, code := some k15c3 }
def k15c4 : Code := { maxStack := 5, maxLocals := 6, code := jdk_68_method_10_code, exceptionTable := #[], attributes := #[] }
def k15m4 : Method := { name := "newCapacity", desc := "(I)I", sig := { parameters := [.int], returnType := some .int }, accessFlags := 2, code := some k15c4 }
def k15c5 : Code := { maxStack := 5, maxLocals := 2, code := jdk_68_method_11_code, exceptionTable := #[], attributes := #[] }
def k15m5 : Method := { name := "inflate", desc := "()V", sig := { parameters := [], returnType := none }, accessFlags := 2, code := some k15c5 }
def k15c6 : Code := { maxStack := 3, maxLocals := 3, code := jdk_68_method_22_code, exceptionTable := #[], attributes := #[] }
def k15m6 : Method := { name := "append", desc := "(Ljava/lang/String;)Ljava/lang/AbstractStringBuilder;", sig := { parameters := [(.object "java/lang/String")], returnType := some (.object "java/lang/AbstractStringBuilder") }, accessFlags := 1, code := some k15c6 }
def k15c7 : Code := { maxStack := 1, maxLocals := 1, code := jdk_68_method_64_code, exceptionTable := #[], attributes := #[] }
def k15m7 : Method := { name := "getValue", desc := "()[B", sig := { parameters := [], returnType := some (.array .byte) }, accessFlags := 16, code := some k15c7 }
def k15c8 : Code := { maxStack := 1, maxLocals := 1, code := jdk_68_method_68_code, exceptionTable := #[], attributes := #[] }
def k15m8 : Method := { name := "isLatin1", desc := "()Z", sig := { parameters := [], returnType := some .boolean }, accessFlags := 16, code := some k15c8 }
def k15c9 : Code := { maxStack := 2, maxLocals := 2, code := jdk_68_method_71_code, exceptionTable := #[], attributes := #[] }
def k15m9 : Method := { name := "inflateIfNeededFor", desc := "(Ljava/lang/String;)V", sig := { parameters := [(.object "java/lang/String")], returnType := none }, accessFlags := 2, code := some k15c9 }
def k15c10 : Code := { maxStack := 4, maxLocals := 3, code := jdk_68_method_73_code, exceptionTable := #[], attributes := #[] }
def k15m10 : Method := { name := "putStringAt", desc := "(ILjava/lang/String;)V", sig := { parameters := [.int, (.object "java/lang/String")], returnType := none }, accessFlags := 2, code := some k15c10 }
/-- java/lang/AbstractStringBuilder -/
def k15 : Class := { plain "java/lang/AbstractStringBuilder" (some 0) with
  accessFlags := 1056
  interfaces := #[14, 4]
  cf := some (fileOf pool15 10 #[] #[{ accessFlags := 0, nameIndex := 7, descriptorIndex := 8, attributes := #[] }, { accessFlags := 0, nameIndex := 7, descriptorIndex := 103, attributes := #[] }, { accessFlags := 1, nameIndex := 34, descriptorIndex := 35, attributes := #[] }, { accessFlags := 2, nameIndex := 102, descriptorIndex := 103, attributes := #[] }, { accessFlags := 2, nameIndex := 106, descriptorIndex := 107, attributes := #[] }, { accessFlags := 2, nameIndex := 127, descriptorIndex := 8, attributes := #[] }, { accessFlags := 1, nameIndex := 45, descriptorIndex := 46, attributes := #[] }, { accessFlags := 16, nameIndex := 552, descriptorIndex := 403, attributes := #[] }, { accessFlags := 16, nameIndex := 85, descriptorIndex := 86, attributes := #[] }, { accessFlags := 2, nameIndex := 217, descriptorIndex := 69, attributes := #[] }, { accessFlags := 2, nameIndex := 210, descriptorIndex := 211, attributes := #[] }] 1056 4 #[444, 48] #[{ accessFlags := 0, nameIndex := 17, descriptorIndex := 14, attributes := #[] }, { accessFlags := 0, nameIndex := 24, descriptorIndex := 25, attributes := #[] }, { accessFlags := 0, nameIndex := 75, descriptorIndex := 21, attributes := #[] }, { accessFlags := 0, nameIndex := 81, descriptorIndex := 82, attributes := #[] }, { accessFlags := 26, nameIndex := 13, descriptorIndex := 14, attributes := #[] }])
  fields := #[{ name := "value", type := (.array .byte), accessFlags := 0, slot := 0, constantValue := 0 }, { name := "coder", type := .byte, accessFlags := 0, slot := 1, constantValue := 0 }, { name := "maybeLatin1", type := .boolean, accessFlags := 0, slot := 2, constantValue := 0 }, { name := "count", type := .int, accessFlags := 0, slot := 3, constantValue := 0 }, { name := "EMPTYVALUE", type := (.array .byte), accessFlags := 26, slot := 0, constantValue := 0 }]
  methods := #[k15m0, k15m1, k15m2, k15m3, k15m4, k15m5, k15m6, k15m7, k15m8, k15m9, k15m10]
  instanceTypes := #[(.array .byte), .byte, .boolean, .int]
  staticTypes := #[(.array .byte)]
  resolved := Array.replicate 609 none
  statics := none }

def pool16 : Array CpInfo := pool [(1, .methodref 2 3), (0, .class_ 4), (0, .nameAndType 5 6), (0, u "java/lang/AbstractStringBuilder"), (0, u "<init>"), (0, u "(I)V"), (11, .class_ 20), (1, u "java/lang/String"), (3, .class_ 26), (1, u "java/lang/StringBuilder"), (0, u "append"), (0, u "(Ljava/lang/String;)Ljava/lang/StringBuilder;"), (0, .methodref 2 30), (0, .nameAndType 27 31), (0, u "(Ljava/lang/String;)Ljava/lang/AbstractStringBuilder;"), (105, .methodref 18 138), (0, .nameAndType 5 139), (0, u "(Ljava/lang/StringBuilder;)V"), (5, u "()V"), (10, u "()I"), (186, .methodref 2 344), (0, .nameAndType 345 156), (0, u "length"), (3, .class_ 350), (0, u "java/lang/Appendable"), (0, .class_ 352), (0, u "java/io/Serializable"), (0, .class_ 354), (0, u "java/lang/Comparable"), (0, .class_ 356), (0, u "java/lang/CharSequence"), (0, u "serialVersionUID"), (0, u "J"), (40, u "toString"), (0, u "()Ljava/lang/String;")] 21

def k16c0 : Code := { maxStack := 2, maxLocals := 1, code := jdk_67_method_1_code, exceptionTable := #[], attributes := #[] }
def k16m0 : Method := { name := "<init>", desc := "()V", sig := { parameters := [], returnType := none }, accessFlags := 1, code := some k16c0 }
def k16c1 : Code := { maxStack := 2, maxLocals := 2, code := jdk_67_method_7_code, exceptionTable := #[], attributes := #[] }
def k16m1 : Method := { name := "append", desc := "(Ljava/lang/String;)Ljava/lang/StringBuilder;", sig := { parameters := [(.object "java/lang/String")], returnType := some (.object "java/lang/StringBuilder") }, accessFlags := 1, code := some k16c1 }
def k16c2 : Code := { maxStack := 3, maxLocals := 1, code := jdk_67_method_42_code, exceptionTable := #[], attributes := #[] }
def k16m2 : Method := { name := "toString", desc := "()Ljava/lang/String;", sig := { parameters := [], returnType := some (.object "java/lang/String") }, accessFlags := 1, code := some k16c2 }
def k16c3 : Code := { maxStack := 1, maxLocals := 1, code := jdk_67_method_93_code, exceptionTable := #[], attributes := #[] }
def k16m3 : Method := { name := "length", desc := "()I", sig := { parameters := [], returnType := some .int }, accessFlags := 4161, code := some k16c3 }
/-- java/lang/StringBuilder -/
def k16 : Class := { plain "java/lang/StringBuilder" (some 15) with
  accessFlags := 49
  interfaces := #[14, 2, 3, 4]
  cf := some (fileOf pool16 24 #[] #[{ accessFlags := 1, nameIndex := 5, descriptorIndex := 145, attributes := #[] }, { accessFlags := 1, nameIndex := 27, descriptorIndex := 28, attributes := #[] }, { accessFlags := 1, nameIndex := 399, descriptorIndex := 400, attributes := #[] }, { accessFlags := 4161, nameIndex := 345, descriptorIndex := 156, attributes := #[] }] 49 2 #[349, 351, 353, 355] #[{ accessFlags := 24, nameIndex := 357, descriptorIndex := 358, attributes := #[] }])
  fields := #[{ name := "serialVersionUID", type := .long, accessFlags := 24, slot := 0, constantValue := 0 }]
  methods := #[k16m0, k16m1, k16m2, k16m3]
  instanceTypes := #[(.array .byte), .byte, .boolean, .int]
  staticTypes := #[.long]
  resolved := Array.replicate 422 none
  statics := none }

def pool17 : Array CpInfo := pool [(2, .class_ 4), (1, u "java/lang/Object"), (0, u "<init>"), (0, u "()V"), (1, .class_ 10), (1, u "java/lang/System"), (0, u "allowSecurityManager"), (0, u "I"), (16, u "cons"), (0, u "Ljava/io/Console;"), (77, .class_ 110), (1, u "java/lang/System$CallersHolder"), (43, u "initialErrStream"), (0, u "Ljava/io/PrintStream;"), (19, u "security"), (0, u "Ljava/lang/SecurityManager;"), (31, .class_ 209), (0, u "java/lang/System$1"), (7, u "props"), (0, u "Ljava/util/Properties;"), (2, u "lineSeparator"), (0, u "Ljava/lang/String;"), (96, .class_ 321), (1, u "java/lang/System$LoggerFinder"), (5, .class_ 328), (0, u "java/lang/System$Logger"), (67, u "err"), (2, u "out"), (91, u "notSupportedJnuEncoding"), (15, u "in"), (17, u "initialIn"), (0, u "Ljava/io/InputStream;"), (35, u "bootLayer"), (0, u "Ljava/lang/ModuleLayer;"), (99, .class_ 664), (0, u "java/lang/System$2"), (9, u "NEVER"), (2, u "MAYBE"), (49, u "arraycopy"), (0, u "(Ljava/lang/Object;ILjava/lang/Object;II)V"), (72, .class_ 802), (0, u "java/lang/System$Logger$Level")] 31

def k17m0 : Method := { name := "<init>", desc := "()V", sig := { parameters := [], returnType := none }, accessFlags := 2, code := none }
def k17m1 : Method := { name := "arraycopy", desc := "(Ljava/lang/Object;ILjava/lang/Object;II)V", sig := { parameters := [(.object "java/lang/Object"), .int, (.object "java/lang/Object"), .int, .int], returnType := none }, accessFlags := 265, code := none }
/-- java/lang/System -/
def k17 : Class := { plain "java/lang/System" (some 0) with
  accessFlags := 49
  interfaces := #[]
  cf := some (fileOf pool17 8 #[.nestMembers #[319, 327, 801, 108, 663, 208]] #[{ accessFlags := 2, nameIndex := 5, descriptorIndex := 6, attributes := #[] }, { accessFlags := 265, nameIndex := 727, descriptorIndex := 728, attributes := #[] }] 49 2 #[] #[{ accessFlags := 25, nameIndex := 507, descriptorIndex := 526, attributes := #[] }, { accessFlags := 25, nameIndex := 399, descriptorIndex := 155, attributes := #[] }, { accessFlags := 25, nameIndex := 396, descriptorIndex := 155, attributes := #[] }, { accessFlags := 10, nameIndex := 525, descriptorIndex := 526, attributes := #[] }, { accessFlags := 26, nameIndex := 674, descriptorIndex := 12, attributes := #[] }, { accessFlags := 26, nameIndex := 677, descriptorIndex := 12, attributes := #[] }, { accessFlags := 10, nameIndex := 11, descriptorIndex := 12, attributes := #[] }, { accessFlags := 74, nameIndex := 175, descriptorIndex := 176, attributes := #[] }, { accessFlags := 10, nameIndex := 491, descriptorIndex := 222, attributes := #[] }, { accessFlags := 74, nameIndex := 29, descriptorIndex := 30, attributes := #[] }, { accessFlags := 74, nameIndex := 154, descriptorIndex := 155, attributes := #[] }, { accessFlags := 10, nameIndex := 217, descriptorIndex := 218, attributes := #[] }, { accessFlags := 10, nameIndex := 221, descriptorIndex := 222, attributes := #[] }, { accessFlags := 8, nameIndex := 562, descriptorIndex := 563, attributes := #[] }])
  fields := #[{ name := "in", type := (.object "java/io/InputStream"), accessFlags := 25, slot := 0, constantValue := 0 }, { name := "out", type := (.object "java/io/PrintStream"), accessFlags := 25, slot := 1, constantValue := 0 }, { name := "err", type := (.object "java/io/PrintStream"), accessFlags := 25, slot := 2, constantValue := 0 }, { name := "initialIn", type := (.object "java/io/InputStream"), accessFlags := 10, slot := 3, constantValue := 0 }, { name := "NEVER", type := .int, accessFlags := 26, slot := 4, constantValue := 0 }, { name := "MAYBE", type := .int, accessFlags := 26, slot := 5, constantValue := 0 }, { name := "allowSecurityManager", type := .int, accessFlags := 10, slot := 6, constantValue := 0 }, { name := "security", type := (.object "java/lang/SecurityManager"), accessFlags := 74, slot := 7, constantValue := 0 }, { name := "notSupportedJnuEncoding", type := (.object "java/lang/String"), accessFlags := 10, slot := 8, constantValue := 0 }, { name := "cons", type := (.object "java/io/Console"), accessFlags := 74, slot := 9, constantValue := 0 }, { name := "initialErrStream", type := (.object "java/io/PrintStream"), accessFlags := 74, slot := 10, constantValue := 0 }, { name := "props", type := (.object "java/util/Properties"), accessFlags := 10, slot := 11, constantValue := 0 }, { name := "lineSeparator", type := (.object "java/lang/String"), accessFlags := 10, slot := 12, constantValue := 0 }, { name := "bootLayer", type := (.object "java/lang/ModuleLayer"), accessFlags := 8, slot := 13, constantValue := 0 }]
  methods := #[k17m0, k17m1]
  instanceTypes := #[]
  staticTypes := #[(.object "java/io/InputStream"), (.object "java/io/PrintStream"), (.object "java/io/PrintStream"), (.object "java/io/InputStream"), .int, .int, .int, (.object "java/lang/SecurityManager"), (.object "java/lang/String"), (.object "java/io/Console"), (.object "java/io/PrintStream"), (.object "java/util/Properties"), (.object "java/lang/String"), (.object "java/lang/ModuleLayer")]
  resolved := Array.replicate 834 none
  statics := none }

def pool18 : Array CpInfo := pool [(2, .class_ 4), (1, u "java/lang/Object"), (0, u "<init>"), (0, u "()V"), (7, .class_ 16), (1, u "java/util/Arrays"), (57, .class_ 76), (1, u "java/util/Arrays$NaturalOrder"), (32, u "()Ljava/lang/Object;"), (3, .class_ 115), (1, u "java/util/Arrays$LegacyMergeSort"), (1, u "Z"), (10, .nameAndType 129 109), (0, u "clone"), (9, u "copyOfRange"), (10, .methodref 151 152), (0, .class_ 153), (0, .nameAndType 154 155), (0, u "java/lang/System"), (0, u "arraycopy"), (0, u "(Ljava/lang/Object;ILjava/lang/Object;II)V"), (146, u "copyOf"), (1, .methodref 305 306), (0, .class_ 307), (0, .nameAndType 308 309), (0, u "java/lang/Math"), (0, u "min"), (0, u "(II)I"), (0, .methodref 311 128), (0, .class_ 312), (0, u "[B"), (26, .methodref 14 340), (0, .nameAndType 341 342), (0, u "copyOfRangeByte"), (0, u "([BII)[B"), (0, .methodref 14 344), (0, .nameAndType 345 346), (0, u "checkLength"), (0, u "(II)V"), (28, .class_ 376), (0, u "java/util/Arrays$ArrayList"), (68, u "$assertionsDisabled"), (269, u "MIN_ARRAY_SORT_GRAN"), (0, u "I"), (2, u "INSERTIONSORT_THRESHOLD"), (149, u "([BI)[B"), (105, .class_ 976), (0, u "java/util/Arrays$ArrayItr")] 52

def k18m0 : Method := { name := "<init>", desc := "()V", sig := { parameters := [], returnType := none }, accessFlags := 2, code := none }
def k18c1 : Code := { maxStack := 6, maxLocals := 3, code := jdk_65_method_121_code, exceptionTable := #[], attributes := #[] }
def k18m1 : Method := { name := "copyOf", desc := "([BI)[B", sig := { parameters := [(.array .byte), .int], returnType := some (.array .byte) }, accessFlags := 9, code := some k18c1 }
def k18c2 : Code := { maxStack := 4, maxLocals := 2, code := jdk_65_method_131_code, exceptionTable := #[], attributes := #[] }
def k18m2 : Method := { name := "checkLength", desc := "(II)V", sig := { parameters := [.int, .int], returnType := none }, accessFlags := 10, code := some k18c2 }
def k18c3 : Code := { maxStack := 3, maxLocals := 3, code := jdk_65_method_132_code, exceptionTable := #[], attributes := #[] }
def k18m3 : Method := { name := "copyOfRange", desc := "([BII)[B", sig := { parameters := [(.array .byte), .int, .int], returnType := some (.array .byte) }, accessFlags := 9, code := some k18c3 }
def k18c4 : Code := { maxStack := 6, maxLocals := 5, code := jdk_65_method_133_code, exceptionTable := #[], attributes := #[] }
def k18m4 : Method := { name := "copyOfRangeByte", desc := "([BII)[B", sig := { parameters := [(.array .byte), .int, .int], returnType := some (.array .byte) }, accessFlags := 10, code := some k18c4 }
/-- java/util/Arrays -/
def k18 : Class := { plain "java/util/Arrays" (some 0) with
  accessFlags := 49
  interfaces := #[]
  cf := some (fileOf pool18 14 #[.nestMembers #[975, 375, 113, 74]] #[{ accessFlags := 2, nameIndex := 5, descriptorIndex := 6, attributes := #[] }, { accessFlags := 9, nameIndex := 302, descriptorIndex := 869, attributes := #[] }, { accessFlags := 10, nameIndex := 345, descriptorIndex := 346, attributes := #[] }, { accessFlags := 9, nameIndex := 139, descriptorIndex := 342, attributes := #[] }, { accessFlags := 10, nameIndex := 341, descriptorIndex := 342, attributes := #[] }] 49 2 #[] #[{ accessFlags := 26, nameIndex := 715, descriptorIndex := 716, attributes := #[] }, { accessFlags := 26, nameIndex := 719, descriptorIndex := 716, attributes := #[] }, { accessFlags := 4120, nameIndex := 445, descriptorIndex := 117, attributes := #[] }])
  fields := #[{ name := "MIN_ARRAY_SORT_GRAN", type := .int, accessFlags := 26, slot := 0, constantValue := 0 }, { name := "INSERTIONSORT_THRESHOLD", type := .int, accessFlags := 26, slot := 1, constantValue := 0 }, { name := "$assertionsDisabled", type := .boolean, accessFlags := 4120, slot := 2, constantValue := 0 }]
  methods := #[k18m0, k18m1, k18m2, k18m3, k18m4]
  instanceTypes := #[]
  staticTypes := #[.int, .int, .boolean]
  resolved := Array.replicate 1029 none
  statics := none }

def pool19 : Array CpInfo := pool [(1, .class_ 2), (0, u "java/lang/Cloneable"), (0, .class_ 4), (0, u "java/lang/Object")] 2

/-- java/lang/Cloneable -/
def k19 : Class := { plain "java/lang/Cloneable" (some 0) with
  accessFlags := 1537
  interfaces := #[]
  cf := some (fileOf pool19 1 #[] #[] 1537 3 #[] #[])
  fields := #[]
  methods := #[]
  instanceTypes := #[]
  staticTypes := #[]
  resolved := Array.replicate 7 none
  statics := none }

def pool20 : Array CpInfo := pool [(4, .class_ 6), (1, u "java/lang/Object"), (0, u "<init>"), (0, u "()V"), (5, .class_ 16), (1, u "java/lang/StringLatin1"), (0, u "inflate"), (2, .class_ 22), (1, u "java/lang/StringUTF16"), (3, .nameAndType 17 27), (0, u "([BI[BII)V"), (93, u "$assertionsDisabled"), (0, u "Z"), (98, .class_ 223), (1, u "java/lang/StringLatin1$LinesSpliterator"), (16, .methodref 20 26), (40, u "equals"), (0, u "([B[B)Z"), (107, .class_ 391), (0, u "java/lang/StringLatin1$CharsSpliterator")] 3

def k20m0 : Method := { name := "<init>", desc := "()V", sig := { parameters := [], returnType := none }, accessFlags := 0, code := none }
def k20c1 : Code := { maxStack := 3, maxLocals := 3, code := jdk_43_method_13_code, exceptionTable := #[], attributes := #[] }
def k20m1 : Method := { name := "equals", desc := "([B[B)Z", sig := { parameters := [(.array .byte), (.array .byte)], returnType := some .boolean }, accessFlags := 9, code := some k20c1 }
def k20c2 : Code := { maxStack := 5, maxLocals := 5, code := jdk_43_method_50_code, exceptionTable := #[], attributes := #[] }
def k20m2 : Method := { name := "inflate", desc := "([BI[BII)V", sig := { parameters := [(.array .byte), .int, (.array .byte), .int, .int], returnType := none }, accessFlags := 9, code := some k20c2 }
/-- java/lang/StringLatin1 -/
def k20 : Class := { plain "java/lang/StringLatin1" (some 0) with
  accessFlags := 48
  interfaces := #[]
  cf := some (fileOf pool20 14 #[.nestMembers #[390, 221]] #[{ accessFlags := 0, nameIndex := 7, descriptorIndex := 8, attributes := #[] }, { accessFlags := 9, nameIndex := 281, descriptorIndex := 282, attributes := #[] }, { accessFlags := 9, nameIndex := 17, descriptorIndex := 27, attributes := #[] }] 48 4 #[] #[{ accessFlags := 4120, nameIndex := 121, descriptorIndex := 122, attributes := #[] }])
  fields := #[{ name := "$assertionsDisabled", type := .boolean, accessFlags := 4120, slot := 0, constantValue := 0 }]
  methods := #[k20m0, k20m1, k20m2]
  instanceTypes := #[]
  staticTypes := #[.boolean]
  resolved := Array.replicate 395 none
  statics := none }

def pool21 : Array CpInfo := pool [(9, u "<init>"), (6, .class_ 18), (1, u "java/lang/Object"), (0, u "()V"), (1, .class_ 23), (1, u "jdk/internal/util/ArraysSupport"), (0, u "LOG2_ARRAY_LONG_INDEX_SCALE"), (0, u "I"), (2, u "U"), (0, u "Ljdk/internal/misc/Unsafe;"), (8, u "BIG_ENDIAN"), (0, u "Z"), (8, u "LOG2_BYTE_BIT_SIZE"), (4, u "LOG2_ARRAY_INT_INDEX_SCALE"), (54, u "JLA"), (0, u "Ljdk/internal/access/JavaLangAccess;"), (11, u "LOG2_ARRAY_BOOLEAN_INDEX_SCALE"), (9, u "LOG2_ARRAY_BYTE_INDEX_SCALE"), (5, u "LOG2_ARRAY_CHAR_INDEX_SCALE"), (5, u "LOG2_ARRAY_SHORT_INDEX_SCALE"), (18, u "LOG2_ARRAY_FLOAT_INDEX_SCALE"), (24, u "LOG2_ARRAY_DOUBLE_INDEX_SCALE"), (6, .methodref 195 196), (0, .class_ 197), (0, .nameAndType 198 199), (0, u "java/lang/Math"), (0, u "max"), (0, u "(II)I"), (0, .integer 2147483639), (76, u "T_BOOLEAN"), (2, u "T_CHAR"), (1, u "T_FLOAT"), (1, u "T_DOUBLE"), (1, u "T_BYTE"), (1, u "T_SHORT"), (1, u "T_INT"), (1, u "T_LONG"), (1, u "SOFT_MAX_ARRAY_LENGTH"), (56, u "newLength"), (0, u "(III)I")] 25

def k21m0 : Method := { name := "<init>", desc := "()V", sig := { parameters := [], returnType := none }, accessFlags := 2, code := none }
def k21c1 : Code := { maxStack := 3, maxLocals := 4, code := jdk_48_method_27_code, exceptionTable := #[], attributes := #[] }
def k21m1 : Method := { name := "newLength", desc := "(III)I", sig := { parameters := [.int, .int, .int], returnType := some .int }, accessFlags := 9, code := some k21c1 }
/-- jdk/internal/util/ArraysSupport -/
def k21 : Class := { plain "jdk/internal/util/ArraysSupport" (some 0) with
  accessFlags := 33
  interfaces := #[]
  cf := some (fileOf pool21 21 #[] #[{ accessFlags := 2, nameIndex := 9, descriptorIndex := 19, attributes := #[] }, { accessFlags := 9, nameIndex := 351, descriptorIndex := 352, attributes := #[] }] 33 16 #[] #[{ accessFlags := 24, nameIndex := 28, descriptorIndex := 29, attributes := #[] }, { accessFlags := 26, nameIndex := 38, descriptorIndex := 39, attributes := #[] }, { accessFlags := 25, nameIndex := 121, descriptorIndex := 25, attributes := #[] }, { accessFlags := 25, nameIndex := 131, descriptorIndex := 25, attributes := #[] }, { accessFlags := 25, nameIndex := 137, descriptorIndex := 25, attributes := #[] }, { accessFlags := 25, nameIndex := 143, descriptorIndex := 25, attributes := #[] }, { accessFlags := 25, nameIndex := 53, descriptorIndex := 25, attributes := #[] }, { accessFlags := 25, nameIndex := 24, descriptorIndex := 25, attributes := #[] }, { accessFlags := 25, nameIndex := 162, descriptorIndex := 25, attributes := #[] }, { accessFlags := 25, nameIndex := 187, descriptorIndex := 25, attributes := #[] }, { accessFlags := 26, nameIndex := 48, descriptorIndex := 25, attributes := #[] }, { accessFlags := 25, nameIndex := 277, descriptorIndex := 25, attributes := #[] }, { accessFlags := 25, nameIndex := 280, descriptorIndex := 25, attributes := #[] }, { accessFlags := 25, nameIndex := 282, descriptorIndex := 25, attributes := #[] }, { accessFlags := 25, nameIndex := 284, descriptorIndex := 25, attributes := #[] }, { accessFlags := 25, nameIndex := 286, descriptorIndex := 25, attributes := #[] }, { accessFlags := 25, nameIndex := 288, descriptorIndex := 25, attributes := #[] }, { accessFlags := 25, nameIndex := 290, descriptorIndex := 25, attributes := #[] }, { accessFlags := 25, nameIndex := 292, descriptorIndex := 25, attributes := #[] }, { accessFlags := 26, nameIndex := 108, descriptorIndex := 109, attributes := #[] }, { accessFlags := 25, nameIndex := 294, descriptorIndex := 25, attributes := #[] }])
  fields := #[{ name := "U", type := (.object "jdk/internal/misc/Unsafe"), accessFlags := 24, slot := 0, constantValue := 0 }, { name := "BIG_ENDIAN", type := .boolean, accessFlags := 26, slot := 1, constantValue := 0 }, { name := "LOG2_ARRAY_BOOLEAN_INDEX_SCALE", type := .int, accessFlags := 25, slot := 2, constantValue := 0 }, { name := "LOG2_ARRAY_BYTE_INDEX_SCALE", type := .int, accessFlags := 25, slot := 3, constantValue := 0 }, { name := "LOG2_ARRAY_CHAR_INDEX_SCALE", type := .int, accessFlags := 25, slot := 4, constantValue := 0 }, { name := "LOG2_ARRAY_SHORT_INDEX_SCALE", type := .int, accessFlags := 25, slot := 5, constantValue := 0 }, { name := "LOG2_ARRAY_INT_INDEX_SCALE", type := .int, accessFlags := 25, slot := 6, constantValue := 0 }, { name := "LOG2_ARRAY_LONG_INDEX_SCALE", type := .int, accessFlags := 25, slot := 7, constantValue := 0 }, { name := "LOG2_ARRAY_FLOAT_INDEX_SCALE", type := .int, accessFlags := 25, slot := 8, constantValue := 0 }, { name := "LOG2_ARRAY_DOUBLE_INDEX_SCALE", type := .int, accessFlags := 25, slot := 9, constantValue := 0 }, { name := "LOG2_BYTE_BIT_SIZE", type := .int, accessFlags := 26, slot := 10, constantValue := 0 }, { name := "T_BOOLEAN", type := .int, accessFlags := 25, slot := 11, constantValue := 0 }, { name := "T_CHAR", type := .int, accessFlags := 25, slot := 12, constantValue := 0 }, { name := "T_FLOAT", type := .int, accessFlags := 25, slot := 13, constantValue := 0 }, { name := "T_DOUBLE", type := .int, accessFlags := 25, slot := 14, constantValue := 0 }, { name := "T_BYTE", type := .int, accessFlags := 25, slot := 15, constantValue := 0 }, { name := "T_SHORT", type := .int, accessFlags := 25, slot := 16, constantValue := 0 }, { name := "T_INT", type := .int, accessFlags := 25, slot := 17, constantValue := 0 }, { name := "T_LONG", type := .int, accessFlags := 25, slot := 18, constantValue := 0 }, { name := "JLA", type := (.object "jdk/internal/access/JavaLangAccess"), accessFlags := 26, slot := 19, constantValue := 0 }, { name := "SOFT_MAX_ARRAY_LENGTH", type := .int, accessFlags := 25, slot := 20, constantValue := 0 }]
  methods := #[k21m0, k21m1]
  instanceTypes := #[]
  staticTypes := #[(.object "jdk/internal/misc/Unsafe"), .boolean, .int, .int, .int, .int, .int, .int, .int, .int, .int, .int, .int, .int, .int, .int, .int, .int, .int, (.object "jdk/internal/access/JavaLangAccess"), .int]
  resolved := Array.replicate 378 none
  statics := none }

def pool22 : Array CpInfo := pool [(1, .class_ 2), (0, u "java/lang/Math"), (1, .class_ 6), (1, u "java/lang/Object"), (0, u "<init>"), (0, u "()V"), (89, .class_ 100), (1, u "java/lang/Math$RandomNumberGeneratorHolder"), (71, u "negativeZeroFloatBits"), (0, u "J"), (2, u "negativeZeroDoubleBits"), (21, u "max"), (2, u "min"), (43, u "$assertionsDisabled"), (0, u "Z"), (88, u "(II)I"), (2, u "twoToTheDoubleScaleDown"), (0, u "D"), (4, u "twoToTheDoubleScaleUp"), (9, u "E"), (3, u "PI"), (2, u "TAU"), (2, u "DEGREES_TO_RADIANS"), (0, u "RADIANS_TO_DEGREES")] 94

def k22m0 : Method := { name := "<init>", desc := "()V", sig := { parameters := [], returnType := none }, accessFlags := 2, code := none }
def k22c1 : Code := { maxStack := 2, maxLocals := 2, code := jdk_29_method_65_code, exceptionTable := #[], attributes := #[] }
def k22m1 : Method := { name := "max", desc := "(II)I", sig := { parameters := [.int, .int], returnType := some .int }, accessFlags := 9, code := some k22c1 }
def k22c2 : Code := { maxStack := 2, maxLocals := 2, code := jdk_29_method_69_code, exceptionTable := #[], attributes := #[] }
def k22m2 : Method := { name := "min", desc := "(II)I", sig := { parameters := [.int, .int], returnType := some .int }, accessFlags := 9, code := some k22c2 }
/-- java/lang/Math -/
def k22 : Class := { plain "java/lang/Math" (some 0) with
  accessFlags := 49
  interfaces := #[]
  cf := some (fileOf pool22 1 #[.nestMembers #[98]] #[{ accessFlags := 2, nameIndex := 7, descriptorIndex := 8, attributes := #[] }, { accessFlags := 9, nameIndex := 198, descriptorIndex := 335, attributes := #[] }, { accessFlags := 9, nameIndex := 201, descriptorIndex := 335, attributes := #[] }] 49 4 #[] #[{ accessFlags := 25, nameIndex := 354, descriptorIndex := 339, attributes := #[] }, { accessFlags := 25, nameIndex := 358, descriptorIndex := 339, attributes := #[] }, { accessFlags := 25, nameIndex := 361, descriptorIndex := 339, attributes := #[] }, { accessFlags := 26, nameIndex := 364, descriptorIndex := 339, attributes := #[] }, { accessFlags := 26, nameIndex := 365, descriptorIndex := 339, attributes := #[] }, { accessFlags := 26, nameIndex := 172, descriptorIndex := 173, attributes := #[] }, { accessFlags := 26, nameIndex := 176, descriptorIndex := 173, attributes := #[] }, { accessFlags := 8, nameIndex := 344, descriptorIndex := 339, attributes := #[] }, { accessFlags := 8, nameIndex := 338, descriptorIndex := 339, attributes := #[] }, { accessFlags := 4120, nameIndex := 245, descriptorIndex := 246, attributes := #[] }])
  fields := #[{ name := "E", type := .double, accessFlags := 25, slot := 0, constantValue := 0 }, { name := "PI", type := .double, accessFlags := 25, slot := 1, constantValue := 0 }, { name := "TAU", type := .double, accessFlags := 25, slot := 2, constantValue := 0 }, { name := "DEGREES_TO_RADIANS", type := .double, accessFlags := 26, slot := 3, constantValue := 0 }, { name := "RADIANS_TO_DEGREES", type := .double, accessFlags := 26, slot := 4, constantValue := 0 }, { name := "negativeZeroFloatBits", type := .long, accessFlags := 26, slot := 5, constantValue := 0 }, { name := "negativeZeroDoubleBits", type := .long, accessFlags := 26, slot := 6, constantValue := 0 }, { name := "twoToTheDoubleScaleUp", type := .double, accessFlags := 8, slot := 7, constantValue := 0 }, { name := "twoToTheDoubleScaleDown", type := .double, accessFlags := 8, slot := 8, constantValue := 0 }, { name := "$assertionsDisabled", type := .boolean, accessFlags := 4120, slot := 9, constantValue := 0 }]
  methods := #[k22m0, k22m1, k22m2]
  instanceTypes := #[]
  staticTypes := #[.double, .double, .double, .double, .double, .long, .long, .double, .double, .boolean]
  resolved := Array.replicate 460 none
  statics := none }

def pool23 : Array CpInfo := pool [(2, .class_ 4), (1, u "java/lang/Object"), (0, u "<init>"), (0, u "()V"), (17, .class_ 26), (1, u "jdk/internal/util/Preconditions"), (22, u "checkFromIndexSize"), (5, .class_ 56), (0, u "jdk/internal/util/Preconditions$4"), (57, .class_ 115), (0, u "jdk/internal/util/Preconditions$1"), (7, u "SIOOBE_FORMATTER"), (0, u "Ljava/util/function/BiFunction;"), (0, .class_ 126), (0, u "jdk/internal/util/Preconditions$2"), (3, u "AIOOBE_FORMATTER"), (0, .class_ 132), (0, u "jdk/internal/util/Preconditions$3"), (3, u "IOOBE_FORMATTER"), (46, u "(IIILjava/util/function/BiFunction;)I")] 10

def k23m0 : Method := { name := "<init>", desc := "()V", sig := { parameters := [], returnType := none }, accessFlags := 1, code := none }
def k23c1 : Code := { maxStack := 4, maxLocals := 4, code := jdk_41_method_13_code, exceptionTable := #[], attributes := #[] }
def k23m1 : Method := { name := "checkFromIndexSize", desc := "(IIILjava/util/function/BiFunction;)I", sig := { parameters := [.int, .int, .int, (.object "java/util/function/BiFunction")], returnType := some .int }, accessFlags := 9, code := some k23c1 }
/-- jdk/internal/util/Preconditions -/
def k23 : Class := { plain "jdk/internal/util/Preconditions" (some 0) with
  accessFlags := 33
  interfaces := #[]
  cf := some (fileOf pool23 24 #[.nestMembers #[55, 131, 125, 114]] #[{ accessFlags := 1, nameIndex := 5, descriptorIndex := 6, attributes := #[] }, { accessFlags := 9, nameIndex := 49, descriptorIndex := 183, attributes := #[] }] 33 2 #[] #[{ accessFlags := 25, nameIndex := 123, descriptorIndex := 124, attributes := #[] }, { accessFlags := 25, nameIndex := 130, descriptorIndex := 124, attributes := #[] }, { accessFlags := 25, nameIndex := 136, descriptorIndex := 124, attributes := #[] }])
  fields := #[{ name := "SIOOBE_FORMATTER", type := (.object "java/util/function/BiFunction"), accessFlags := 25, slot := 0, constantValue := 0 }, { name := "AIOOBE_FORMATTER", type := (.object "java/util/function/BiFunction"), accessFlags := 25, slot := 1, constantValue := 0 }, { name := "IOOBE_FORMATTER", type := (.object "java/util/function/BiFunction"), accessFlags := 25, slot := 2, constantValue := 0 }]
  methods := #[k23m0, k23m1]
  instanceTypes := #[]
  staticTypes := #[(.object "java/util/function/BiFunction"), (.object "java/util/function/BiFunction"), (.object "java/util/function/BiFunction")]
  resolved := Array.replicate 194 none
  statics := some 3 }

def pool24 : Array CpInfo := pool [(2, .class_ 4), (1, u "java/lang/Object"), (0, u "<init>"), (0, u "()V"), (12, .class_ 20), (0, u "java/util/Collections"), (63, u "r"), (0, u "Ljava/util/Random;"), (80, .class_ 167), (0, u "java/util/Collections$UnmodifiableCollection"), (6, .class_ 175), (0, u "java/util/Collections$UnmodifiableSequencedCollection"), (6, .class_ 183), (0, u "java/util/Collections$UnmodifiableSet"), (6, .class_ 191), (0, u "java/util/Collections$UnmodifiableSequencedSet"), (6, .class_ 199), (0, u "java/util/Collections$UnmodifiableSortedSet"), (6, .class_ 207), (0, u "java/util/Collections$UnmodifiableNavigableSet"), (4, .class_ 213), (0, u "java/util/Collections$UnmodifiableList"), (1, .class_ 216), (0, u "java/util/Collections$UnmodifiableRandomAccessList"), (6, .class_ 224), (0, u "java/util/Collections$UnmodifiableMap"), (6, .class_ 232), (0, u "java/util/Collections$UnmodifiableSequencedMap"), (4, .class_ 238), (0, u "java/util/Collections$UnmodifiableSortedMap"), (6, .class_ 246), (0, u "java/util/Collections$UnmodifiableNavigableMap"), (3, .class_ 251), (0, u "java/util/Collections$SynchronizedCollection"), (4, .class_ 257), (0, u "java/util/Collections$SynchronizedSet"), (4, .class_ 263), (0, u "java/util/Collections$SynchronizedSortedSet"), (1, .class_ 266), (0, u "java/util/Collections$SynchronizedNavigableSet"), (1, .class_ 269), (0, u "java/util/Collections$SynchronizedRandomAccessList"), (1, .class_ 272), (0, u "java/util/Collections$SynchronizedList"), (5, .class_ 279), (0, u "java/util/Collections$SynchronizedMap"), (1, .class_ 282), (0, u "java/util/Collections$SynchronizedSortedMap"), (1, .class_ 285), (0, u "java/util/Collections$SynchronizedNavigableMap"), (1, .class_ 288), (0, u "java/util/Collections$CheckedCollection"), (11, .class_ 301), (0, u "java/util/Collections$CheckedQueue"), (3, .class_ 306), (0, u "java/util/Collections$CheckedSet"), (3, .class_ 311), (0, u "java/util/Collections$CheckedSortedSet"), (3, .class_ 316), (0, u "java/util/Collections$CheckedNavigableSet"), (3, .class_ 321), (0, u "java/util/Collections$CheckedRandomAccessList"), (3, .class_ 326), (0, u "java/util/Collections$CheckedList"), (1, .class_ 329), (0, u "java/util/Collections$CheckedMap"), (3, .class_ 334), (0, u "java/util/Collections$CheckedSortedMap"), (3, .class_ 339), (0, u "java/util/Collections$CheckedNavigableMap"), (4, .class_ 346), (1, u "java/util/Collections$EmptyIterator"), (3, .class_ 352), (1, u "java/util/Collections$EmptyListIterator"), (2, .class_ 357), (1, u "java/util/Collections$EmptyEnumeration"), (4, u "EMPTY_SET"), (0, u "Ljava/util/Set;"), (6, u "EMPTY_LIST"), (0, u "Ljava/util/List;"), (2, u "EMPTY_MAP"), (0, u "Ljava/util/Map;"), (4, .class_ 381), (0, u "java/util/Collections$SingletonSet"), (2, .class_ 385), (0, u "java/util/Collections$1"), (1, .class_ 388), (0, u "java/util/Collections$2"), (1, .class_ 391), (0, u "java/util/Collections$SingletonList"), (1, .class_ 394), (0, u "java/util/Collections$SingletonMap"), (22, .class_ 418), (0, u "java/util/Collections$CopiesList"), (4, .class_ 425), (1, u "java/util/Collections$ReverseComparator"), (8, .class_ 435), (0, u "java/util/Collections$ReverseComparator2"), (6, .class_ 443), (0, u "java/util/Collections$3"), (25, .class_ 470), (0, u "java/util/Collections$SetFromMap"), (2, .class_ 474), (0, u "java/util/Collections$SequencedSetFromMap"), (3, .class_ 479), (0, u "java/util/Collections$AsLIFOQueue"), (11, .class_ 492), (0, u "java/util/Collections$EmptySet"), (1, .class_ 495), (0, u "java/util/Collections$EmptyList"), (1, .class_ 498), (0, u "java/util/Collections$EmptyMap"), (1, u "BINARYSEARCH_THRESHOLD"), (0, u "I"), (2, u "REVERSE_THRESHOLD"), (1, u "SHUFFLE_THRESHOLD"), (1, u "FILL_THRESHOLD"), (1, u "ROTATE_THRESHOLD"), (1, u "COPY_THRESHOLD"), (1, u "REPLACEALL_THRESHOLD"), (1, u "INDEXOFSUBLIST_THRESHOLD"), (333, .class_ 851), (0, u "java/util/Collections$CheckedMap$CheckedEntrySet"), (0, .class_ 853), (0, u "java/util/Collections$CheckedMap$CheckedEntrySet$CheckedEntry"), (0, .class_ 855), (0, u "java/util/Collections$CheckedMap$CheckedEntrySet$1"), (0, .class_ 857), (0, u "java/util/Collections$CheckedList$1"), (0, .class_ 859), (0, u "java/util/Collections$CheckedCollection$1"), (0, .class_ 861), (0, u "java/util/Collections$UnmodifiableNavigableMap$EmptyNavigableMap"), (0, .class_ 863), (0, u "java/util/Collections$UnmodifiableMap$UnmodifiableEntrySet"), (0, .class_ 865), (0, u "java/util/Collections$UnmodifiableMap$UnmodifiableEntrySet$UnmodifiableEntry"), (0, .class_ 867), (0, u "java/util/Collections$UnmodifiableMap$UnmodifiableEntrySet$UnmodifiableEntrySetSpliterator"), (0, .class_ 869), (0, u "java/util/Collections$UnmodifiableMap$UnmodifiableEntrySet$1"), (0, .class_ 871), (0, u "java/util/Collections$UnmodifiableList$1"), (0, .class_ 873), (0, u "java/util/Collections$UnmodifiableNavigableSet$EmptyNavigableSet"), (0, .class_ 875), (0, u "java/util/Collections$UnmodifiableCollection$1")] 57

def k24m0 : Method := { name := "<init>", desc := "()V", sig := { parameters := [], returnType := none }, accessFlags := 2, code := none }
/-- java/util/Collections -/
def k24 : Class := { plain "java/util/Collections" (some 0) with
  accessFlags := 33
  interfaces := #[]
  cf := some (fileOf pool24 19 #[.nestMembers #[478, 473, 469, 434, 423, 417, 393, 390, 380, 497, 494, 491, 355, 350, 344, 338, 333, 328, 850, 852, 854, 320, 325, 856, 315, 310, 305, 300, 287, 858, 284, 281, 278, 268, 271, 265, 262, 256, 250, 245, 860, 237, 231, 223, 862, 864, 866, 868, 215, 212, 870, 206, 872, 198, 190, 182, 174, 166, 874, 442, 387, 384]] #[{ accessFlags := 2, nameIndex := 5, descriptorIndex := 6, attributes := #[] }] 33 2 #[] #[{ accessFlags := 26, nameIndex := 500, descriptorIndex := 501, attributes := #[] }, { accessFlags := 26, nameIndex := 504, descriptorIndex := 501, attributes := #[] }, { accessFlags := 26, nameIndex := 506, descriptorIndex := 501, attributes := #[] }, { accessFlags := 26, nameIndex := 508, descriptorIndex := 501, attributes := #[] }, { accessFlags := 26, nameIndex := 510, descriptorIndex := 501, attributes := #[] }, { accessFlags := 26, nameIndex := 512, descriptorIndex := 501, attributes := #[] }, { accessFlags := 26, nameIndex := 514, descriptorIndex := 501, attributes := #[] }, { accessFlags := 26, nameIndex := 516, descriptorIndex := 501, attributes := #[] }, { accessFlags := 10, nameIndex := 84, descriptorIndex := 85, attributes := #[] }, { accessFlags := 25, nameIndex := 362, descriptorIndex := 363, attributes := #[] }, { accessFlags := 25, nameIndex := 370, descriptorIndex := 371, attributes := #[] }, { accessFlags := 25, nameIndex := 374, descriptorIndex := 375, attributes := #[] }])
  fields := #[{ name := "BINARYSEARCH_THRESHOLD", type := .int, accessFlags := 26, slot := 0, constantValue := 0 }, { name := "REVERSE_THRESHOLD", type := .int, accessFlags := 26, slot := 1, constantValue := 0 }, { name := "SHUFFLE_THRESHOLD", type := .int, accessFlags := 26, slot := 2, constantValue := 0 }, { name := "FILL_THRESHOLD", type := .int, accessFlags := 26, slot := 3, constantValue := 0 }, { name := "ROTATE_THRESHOLD", type := .int, accessFlags := 26, slot := 4, constantValue := 0 }, { name := "COPY_THRESHOLD", type := .int, accessFlags := 26, slot := 5, constantValue := 0 }, { name := "REPLACEALL_THRESHOLD", type := .int, accessFlags := 26, slot := 6, constantValue := 0 }, { name := "INDEXOFSUBLIST_THRESHOLD", type := .int, accessFlags := 26, slot := 7, constantValue := 0 }, { name := "r", type := (.object "java/util/Random"), accessFlags := 10, slot := 8, constantValue := 0 }, { name := "EMPTY_SET", type := (.object "java/util/Set"), accessFlags := 25, slot := 9, constantValue := 0 }, { name := "EMPTY_LIST", type := (.object "java/util/List"), accessFlags := 25, slot := 10, constantValue := 0 }, { name := "EMPTY_MAP", type := (.object "java/util/Map"), accessFlags := 25, slot := 11, constantValue := 0 }]
  methods := #[k24m0]
  instanceTypes := #[]
  staticTypes := #[.int, .int, .int, .int, .int, .int, .int, .int, (.object "java/util/Random"), (.object "java/util/Set"), (.object "java/util/List"), (.object "java/util/Map")]
  resolved := Array.replicate 933 none
  statics := some 4 }

def pool25 : Array CpInfo := pool [(8, .class_ 10), (1, u "java/lang/Iterable"), (24, .class_ 36), (0, u "java/lang/Object")] 25

/-- java/lang/Iterable -/
def k25 : Class := { plain "java/lang/Iterable" (some 0) with
  accessFlags := 1537
  interfaces := #[]
  cf := some (fileOf pool25 8 #[] #[] 1537 35 #[] #[])
  fields := #[]
  methods := #[]
  instanceTypes := #[]
  staticTypes := #[]
  resolved := Array.replicate 62 none
  statics := none }

def pool26 : Array CpInfo := pool [(10, .class_ 12), (1, u "java/util/Collection"), (47, .class_ 61), (0, u "java/lang/Object"), (0, .class_ 63), (0, u "java/lang/Iterable")] 51

/-- java/util/Collection -/
def k26 : Class := { plain "java/util/Collection" (some 0) with
  accessFlags := 1537
  interfaces := #[25]
  cf := some (fileOf pool26 10 #[] #[] 1537 60 #[62] #[])
  fields := #[]
  methods := #[]
  instanceTypes := #[]
  staticTypes := #[]
  resolved := Array.replicate 115 none
  statics := none }

def pool27 : Array CpInfo := pool [(2, .class_ 4), (1, u "java/lang/Object"), (0, u "<init>"), (0, u "()V"), (1, .class_ 10), (1, u "java/util/AbstractCollection"), (66, .class_ 78), (0, u "java/util/Collection")] 81

def k27m0 : Method := { name := "<init>", desc := "()V", sig := { parameters := [], returnType := none }, accessFlags := 4, code := none }
/-- java/util/AbstractCollection -/
def k27 : Class := { plain "java/util/AbstractCollection" (some 0) with
  accessFlags := 1057
  interfaces := #[26]
  cf := some (fileOf pool27 8 #[] #[{ accessFlags := 4, nameIndex := 5, descriptorIndex := 6, attributes := #[] }] 1057 2 #[77] #[])
  fields := #[]
  methods := #[k27m0]
  instanceTypes := #[]
  staticTypes := #[]
  resolved := Array.replicate 160 none
  statics := none }

def pool28 : Array CpInfo := pool [(8, .class_ 10), (1, u "java/util/SequencedCollection"), (15, .class_ 27), (0, u "java/lang/Object"), (0, .class_ 29), (0, u "java/util/Collection")] 27

/-- java/util/SequencedCollection -/
def k28 : Class := { plain "java/util/SequencedCollection" (some 0) with
  accessFlags := 1537
  interfaces := #[26]
  cf := some (fileOf pool28 8 #[] #[] 1537 26 #[28] #[])
  fields := #[]
  methods := #[]
  instanceTypes := #[]
  staticTypes := #[]
  resolved := Array.replicate 57 none
  statics := none }

def pool29 : Array CpInfo := pool [(8, .class_ 10), (1, u "java/util/List"), (92, .class_ 104), (0, u "java/lang/Object"), (15, .class_ 121), (0, u "java/util/SequencedCollection")] 129

/-- java/util/List -/
def k29 : Class := { plain "java/util/List" (some 0) with
  accessFlags := 1537
  interfaces := #[28]
  cf := some (fileOf pool29 8 #[] #[] 1537 103 #[120] #[])
  fields := #[]
  methods := #[]
  instanceTypes := #[]
  staticTypes := #[]
  resolved := Array.replicate 251 none
  statics := none }

def pool30 : Array CpInfo := pool [(2, .class_ 4), (1, u "java/util/AbstractCollection"), (0, u "<init>"), (0, u "()V"), (1, .class_ 10), (1, u "java/util/AbstractList"), (0, u "modCount"), (0, u "I"), (64, .class_ 78), (0, u "java/util/AbstractList$Itr"), (3, .class_ 83), (0, u "java/util/AbstractList$ListItr"), (9, .class_ 94), (0, u "java/util/AbstractList$RandomAccessSubList"), (3, .class_ 99), (0, u "java/util/AbstractList$SubList"), (33, .class_ 134), (0, u "java/util/List"), (73, .class_ 209), (0, u "java/util/AbstractList$SubList$1"), (0, .class_ 211), (0, u "java/util/AbstractList$RandomAccessSpliterator")] 6

def k30m0 : Method := { name := "<init>", desc := "()V", sig := { parameters := [], returnType := none }, accessFlags := 4, code := none }
/-- java/util/AbstractList -/
def k30 : Class := { plain "java/util/AbstractList" (some 27) with
  accessFlags := 1057
  interfaces := #[29]
  cf := some (fileOf pool30 8 #[.nestMembers #[93, 98, 208, 210, 82, 77]] #[{ accessFlags := 4, nameIndex := 5, descriptorIndex := 6, attributes := #[] }] 1057 2 #[133] #[{ accessFlags := 132, nameIndex := 11, descriptorIndex := 12, attributes := #[] }])
  fields := #[{ name := "modCount", type := .int, accessFlags := 132, slot := 0, constantValue := 0 }]
  methods := #[k30m0]
  instanceTypes := #[.int]
  staticTypes := #[]
  resolved := Array.replicate 218 none
  statics := none }

def pool31 : Array CpInfo := pool [(1, .class_ 2), (0, u "java/util/RandomAccess"), (0, .class_ 4), (0, u "java/lang/Object")] 2

/-- java/util/RandomAccess -/
def k31 : Class := { plain "java/util/RandomAccess" (some 0) with
  accessFlags := 1537
  interfaces := #[]
  cf := some (fileOf pool31 1 #[] #[] 1537 3 #[] #[])
  fields := #[]
  methods := #[]
  instanceTypes := #[]
  staticTypes := #[]
  resolved := Array.replicate 7 none
  statics := none }

def pool32 : Array CpInfo := pool [(2, .class_ 4), (1, u "java/util/AbstractList"), (0, u "<init>"), (0, u "()V"), (1, .class_ 10), (1, u "java/util/Collections"), (54, .class_ 66), (0, u "java/util/Collections$EmptyList"), (0, .class_ 68), (0, u "java/util/RandomAccess"), (0, .class_ 70), (0, u "java/io/Serializable"), (0, u "serialVersionUID"), (0, u "J")] 77

def k32m0 : Method := { name := "<init>", desc := "()V", sig := { parameters := [], returnType := none }, accessFlags := 2, code := none }
/-- java/util/Collections$EmptyList -/
def k32 : Class := { plain "java/util/Collections$EmptyList" (some 30) with
  accessFlags := 32
  interfaces := #[31, 2]
  cf := some (fileOf pool32 65 #[.nestHost 8] #[{ accessFlags := 2, nameIndex := 5, descriptorIndex := 6, attributes := #[] }] 32 2 #[67, 69] #[{ accessFlags := 26, nameIndex := 71, descriptorIndex := 72, attributes := #[] }])
  fields := #[{ name := "serialVersionUID", type := .long, accessFlags := 26, slot := 0, constantValue := 0 }]
  methods := #[k32m0]
  instanceTypes := #[.int]
  staticTypes := #[.long]
  resolved := Array.replicate 150 none
  statics := none }

def pool33 : Array CpInfo := pool [(2, .class_ 4), (1, u "java/lang/StackTraceElement"), (0, u "<init>"), (2, .class_ 10), (1, u "java/lang/Object"), (0, u "()V"), (2, u "format"), (0, u "B"), (2, u "classLoaderName"), (0, u "Ljava/lang/String;"), (2, u "moduleName"), (2, u "moduleVersion"), (12, u "declaringClass"), (4, u "methodName"), (2, u "fileName"), (2, u "lineNumber"), (0, u "I"), (65, u "declaringClassObject"), (0, u "Ljava/lang/Class;"), (33, .class_ 153), (1, u "java/lang/StackTraceElement$HashedModules"), (17, .class_ 172), (0, u "java/io/Serializable"), (0, u "NATIVE_METHOD"), (1, u "UNKNOWN_SOURCE"), (2, u "BUILTIN_CLASS_LOADER"), (1, u "JDK_NON_UPGRADEABLE_MODULE"), (1, u "serialVersionUID"), (0, u "J")] 51

def k33m0 : Method := { name := "<init>", desc := "()V", sig := { parameters := [], returnType := none }, accessFlags := 2, code := none }
/-- java/lang/StackTraceElement -/
def k33 : Class := { plain "java/lang/StackTraceElement" (some 0) with
  accessFlags := 49
  interfaces := #[2]
  cf := some (fileOf pool33 2 #[.nestMembers #[151]] #[{ accessFlags := 2, nameIndex := 5, descriptorIndex := 11, attributes := #[] }] 49 8 #[171] #[{ accessFlags := 26, nameIndex := 173, descriptorIndex := 19, attributes := #[] }, { accessFlags := 26, nameIndex := 175, descriptorIndex := 19, attributes := #[] }, { accessFlags := 130, nameIndex := 116, descriptorIndex := 117, attributes := #[] }, { accessFlags := 2, nameIndex := 18, descriptorIndex := 19, attributes := #[] }, { accessFlags := 2, nameIndex := 22, descriptorIndex := 19, attributes := #[] }, { accessFlags := 2, nameIndex := 25, descriptorIndex := 19, attributes := #[] }, { accessFlags := 2, nameIndex := 38, descriptorIndex := 19, attributes := #[] }, { accessFlags := 2, nameIndex := 43, descriptorIndex := 19, attributes := #[] }, { accessFlags := 2, nameIndex := 46, descriptorIndex := 19, attributes := #[] }, { accessFlags := 2, nameIndex := 49, descriptorIndex := 50, attributes := #[] }, { accessFlags := 2, nameIndex := 14, descriptorIndex := 15, attributes := #[] }, { accessFlags := 26, nameIndex := 178, descriptorIndex := 15, attributes := #[] }, { accessFlags := 26, nameIndex := 180, descriptorIndex := 15, attributes := #[] }, { accessFlags := 26, nameIndex := 182, descriptorIndex := 183, attributes := #[] }])
  fields := #[{ name := "NATIVE_METHOD", type := (.object "java/lang/String"), accessFlags := 26, slot := 0, constantValue := 0 }, { name := "UNKNOWN_SOURCE", type := (.object "java/lang/String"), accessFlags := 26, slot := 1, constantValue := 0 }, { name := "declaringClassObject", type := (.object "java/lang/Class"), accessFlags := 130, slot := 0, constantValue := 0 }, { name := "classLoaderName", type := (.object "java/lang/String"), accessFlags := 2, slot := 1, constantValue := 0 }, { name := "moduleName", type := (.object "java/lang/String"), accessFlags := 2, slot := 2, constantValue := 0 }, { name := "moduleVersion", type := (.object "java/lang/String"), accessFlags := 2, slot := 3, constantValue := 0 }, { name := "declaringClass", type := (.object "java/lang/String"), accessFlags := 2, slot := 4, constantValue := 0 }, { name := "methodName", type := (.object "java/lang/String"), accessFlags := 2, slot := 5, constantValue := 0 }, { name := "fileName", type := (.object "java/lang/String"), accessFlags := 2, slot := 6, constantValue := 0 }, { name := "lineNumber", type := .int, accessFlags := 2, slot := 7, constantValue := 0 }, { name := "format", type := .byte, accessFlags := 2, slot := 8, constantValue := 0 }, { name := "BUILTIN_CLASS_LOADER", type := .byte, accessFlags := 26, slot := 2, constantValue := 0 }, { name := "JDK_NON_UPGRADEABLE_MODULE", type := .byte, accessFlags := 26, slot := 3, constantValue := 0 }, { name := "serialVersionUID", type := .long, accessFlags := 26, slot := 4, constantValue := 0 }]
  methods := #[k33m0]
  instanceTypes := #[(.object "java/lang/Class"), (.object "java/lang/String"), (.object "java/lang/String"), (.object "java/lang/String"), (.object "java/lang/String"), (.object "java/lang/String"), (.object "java/lang/String"), .int, .byte]
  staticTypes := #[(.object "java/lang/String"), (.object "java/lang/String"), .byte, .byte, .long]
  resolved := Array.replicate 235 none
  statics := none }

/-- the primitive byte -/
def k34 : Class := { plain "byte" none with kind := .primitive 'B', accessFlags := 0x411 }
/-- [B -/
def k35 : Class := { plain "[B" (some 0) with kind := .array 34 .byte, interfaces := #[19, 2], accessFlags := 1041 }

/-- the primitive char -/
def k36 : Class := { plain "char" none with kind := .primitive 'C', accessFlags := 0x411 }
/-- [C -/
def k37 : Class := { plain "[C" (some 0) with kind := .array 36 .char, interfaces := #[19, 2], accessFlags := 1041 }

/-- the primitive int -/
def k38 : Class := { plain "int" none with kind := .primitive 'I', accessFlags := 0x411 }
/-- [I -/
def k39 : Class := { plain "[I" (some 0) with kind := .array 38 .int, interfaces := #[19, 2], accessFlags := 1041 }

/-- [Ljava/lang/Object; -/
def k40 : Class := { plain "[Ljava/lang/Object;" (some 0) with kind := .array 0 (.object "java/lang/Object"), interfaces := #[19, 2], accessFlags := 1041 }

/-- [Ljava/lang/StackTraceElement; -/
def k41 : Class := { plain "[Ljava/lang/StackTraceElement;" (some 0) with kind := .array 33 (.object "java/lang/StackTraceElement"), interfaces := #[19, 2], accessFlags := 1041 }

/-- [Ljava/lang/Throwable; -/
def k42 : Class := { plain "[Ljava/lang/Throwable;" (some 0) with kind := .array 10 (.object "java/lang/Throwable"), interfaces := #[19, 2], accessFlags := 1041 }

def heap : Heap := #[{ cls := 7, slots := #[.long 0, .int 1, .null, .int 0, .null, .int 0, .int 0], vm := .statics 7 },
  { cls := 8, slots := #[.int 0, .int 8, .int 0, .int 1], vm := .statics 8 },
  { cls := 10, slots := #[.long 0, .ref 5, .ref 7, .null, .null, .null, .null, .ref 6, .int 1], vm := .statics 10 },
  { cls := 23, slots := #[.null, .null, .null], vm := .statics 23 },
  { cls := 24, slots := #[.int 0, .int 0, .int 0, .int 0, .int 0, .int 0, .int 0, .int 0, .null, .null, .ref 7, .null], vm := .statics 24 },
  { cls := 41, slots := #[], vm := .none },
  { cls := 42, slots := #[], vm := .none },
  { cls := 32, slots := #[.int 0], vm := .none }]
def classes : Array Class := #[k0, k1, k2, k3, k4, k5, k6, k7, k8, k9, k10, k11, k12, k13, k14, k15, k16, k17, k18, k19, k20, k21, k22, k23, k24, k25, k26, k27, k28, k29, k30, k31, k32, k33, k34, k35, k36, k37, k38, k39, k40, k41, k42]
def interned : List (Array UInt16 × Addr) := []
def slotsUsed : Nat := 36
def theMethod : MethodId := ⟨1, 1⟩
def args0 : Array Value := #[.int 5, .int 6, .int 7, .int 8]
def aboutOver (below : List Frame) : State where
  vm := { classes := classes, interned := interned.toArray }
  heap := heap
  slotsUsed := slotsUsed
  threads := #[{ frames := .invoking theMethod args0 :: below }]
def below0 : List Frame := [.native { method := ⟨0, 0⟩, args := #[] }]
def about1 : State := aboutOver below0
def p0 : Program := .bare "" "" ""
def e0 : Env := launch0.env 0 0 0
theorem w_frames : about1.frames = Frame.invoking theMethod args0 :: below0 := rfl
set_option maxRecDepth 65536 in
theorem w_args : argsFit about1.vm theMethod args0 = true := by decide +kernel
set_option maxRecDepth 65536 in
theorem w_heap : heapFits about1 = true := by decide +kernel
set_option maxRecDepth 65536 in
theorem w_runnable : about1.curStatus? = some .runnable := by decide +kernel
set_option maxRecDepth 65536 in
theorem w_alone : about1.alone = true := by decide +kernel
set_option maxRecDepth 65536 in
theorem w_named : about1.methodNamed? x = some theMethod := by decide +kernel
set_option maxRecDepth 65536 in
theorem w_hears : about1.hears theMethod below0 = true := by decide +kernel
set_option maxRecDepth 65536 in
theorem w_ripe : about1.ripe theMethod args0 below0 = true := by decide +kernel
theorem w_running : about1.status = .running := rfl
set_option maxRecDepth 65536 in
theorem w_room : about1.hasRoom e0.platform room_1 = true :=
  launch0.hasRoom_least _ room_1 (by decide +kernel) (by decide +kernel) (by decide +kernel) (by decide +kernel) (by decide +kernel) (by decide +kernel)
theorem allAtoms_all (ts : List Jvm.Cond) (a : Array Jvm.Value) (st : Jvm.State) : (allAtoms ts).before a st = ts.all (fun c => c.before a st) := by
  induction ts with
  | nil => rfl
  | cons c t ih =>
    show (Jvm.Cond.and c (allAtoms t)).before a st = _
    rw [Jvm.Cond.before_and, ih, List.all_cons]
def words1 : List Jvm.Cond := Jvm.Cond.code x code maxLocals ret :: tables_1
/-- a 'code' word, met by the world's own term for the bytes: nothing is compared byte by byte -/
theorem code_word {y : MethodName} {bytes : ByteArray} {mx : Nat} {rt : Option FieldType} {a : Array Value} {s : State} {m : MethodId} {meth : Method} {c : Code} (h1 : s.methodNamed? y = some m) (h2 : s.vm.method? m = some meth) (h3 : meth.code = some c) (h4 : c.code = bytes)
    (h5 : (c.maxLocals == mx && c.exceptionTable.isEmpty && decide (c.maxStack ≤ mostOperands) && decide (meth.sig.returnType = rt) && !meth.locks && decide (parseMethodDescriptor y.desc = some meth.sig)) = true) : (Jvm.Cond.code y bytes mx rt).before a s = true := by
  simp only [Bool.and_eq_true, beq_iff_eq, Bool.not_eq_true', decide_eq_true_eq] at h5
  obtain ⟨⟨⟨⟨⟨g1, g2⟩, g3⟩, g4⟩, g5⟩, g6⟩ := h5
  simp [Cond.before, Cond.holds, Cond.value, h1, h2, h3, h4, g1, g2, g3, g4, g5, g6]
def isCode : Jvm.Cond → Bool
  | .code _ _ _ _ => true
  | _ => false
theorem all_split {L : List Jvm.Cond} {P : Jvm.Cond → Bool} (h1 : L.all (fun c => isCode c || P c) = true) (h2 : ∀ c ∈ L.filter isCode, P c = true) : L.all P = true := by
  refine List.all_eq_true.mpr fun c hc => ?_
  have h := List.all_eq_true.mp h1 c hc
  rcases Bool.eq_false_or_eq_true (isCode c) with hi | hi
  · exact h2 c (List.mem_filter.mpr ⟨hc, hi⟩)
  · simpa [hi] using h
set_option maxRecDepth 65536 in
theorem w_c0 : (Jvm.Cond.code x code maxLocals ret).before args0 about1 = true := code_word (m := ⟨1, 1⟩) (meth := k1m1) (c := k1c1) (by decide +kernel) rfl rfl rfl (by decide +kernel)
set_option maxRecDepth 65536 in
theorem w_c1 : (Jvm.Cond.code ({ cls := "java/lang/String", name := "<init>", desc := "([C)V" } : Jvm.MethodName) jdk_42_method_3_code (2 : Nat) (Option.none : Option Jvm.ClassFile.FieldType)).before args0 about1 = true := code_word (m := ⟨7, 1⟩) (meth := k7m1) (c := k7c1) (by decide +kernel) rfl rfl rfl (by decide +kernel)
set_option maxRecDepth 65536 in
theorem w_c2 : (Jvm.Cond.code ({ cls := "java/lang/String", name := "<init>", desc := "([CIILjava/lang/Void;)V" } : Jvm.MethodName) jdk_42_method_149_code (6 : Nat) (Option.none : Option Jvm.ClassFile.FieldType)).before args0 about1 = true := code_word (m := ⟨7, 6⟩) (meth := k7m6) (c := k7c6) (by decide +kernel) rfl rfl rfl (by decide +kernel)
set_option maxRecDepth 65536 in
theorem w_c3 : (Jvm.Cond.code ({ cls := "java/lang/Object", name := "<init>", desc := "()V" } : Jvm.MethodName) object_method_1_code (1 : Nat) (Option.none : Option Jvm.ClassFile.FieldType)).before args0 about1 = true := code_word (m := ⟨0, 0⟩) (meth := k0m0) (c := k0c0) (by decide +kernel) rfl rfl rfl (by decide +kernel)
set_option maxRecDepth 65536 in
theorem w_c4 : (Jvm.Cond.code ({ cls := "java/lang/StringUTF16", name := "compress", desc := "([CII)[B" } : Jvm.MethodName) jdk_52_method_16_code (6 : Nat) (Option.some (Jvm.ClassFile.FieldType.array Jvm.ClassFile.FieldType.byte))).before args0 about1 = true := code_word (m := ⟨8, 8⟩) (meth := k8m8) (c := k8c8) (by decide +kernel) rfl rfl rfl (by decide +kernel)
set_option maxRecDepth 65536 in
theorem w_c5 : (Jvm.Cond.code ({ cls := "java/lang/StringUTF16", name := "compress", desc := "([CI[BII)I" } : Jvm.MethodName) jdk_52_method_21_code (7 : Nat) (Option.some Jvm.ClassFile.FieldType.int)).before args0 about1 = true := code_word (m := ⟨8, 9⟩) (meth := k8m9) (c := k8c9) (by decide +kernel) rfl rfl rfl (by decide +kernel)
set_option maxRecDepth 65536 in
theorem w_c6 : (Jvm.Cond.code ({ cls := "java/lang/StringUTF16", name := "coderFromArrayLen", desc := "([BI)B" } : Jvm.MethodName) jdk_52_method_15_code (2 : Nat) (Option.some Jvm.ClassFile.FieldType.byte)).before args0 about1 = true := code_word (m := ⟨8, 7⟩) (meth := k8m7) (c := k8c7) (by decide +kernel) rfl rfl rfl (by decide +kernel)
set_option maxRecDepth 65536 in
theorem w_c7 : (Jvm.Cond.code ({ cls := "com/example/scodi/scodi/launcher/Options", name := "unknownOption", desc := "(Ljava/lang/String;)Ljava/lang/IllegalArgumentException;" } : Jvm.MethodName) prog_25_method_3_code (1 : Nat) (Option.some (Jvm.ClassFile.FieldType.object "java/lang/IllegalArgumentException"))).before args0 about1 = true := code_word (m := ⟨9, 1⟩) (meth := k9m1) (c := k9c1) (by decide +kernel) rfl rfl rfl (by decide +kernel)
set_option maxRecDepth 65536 in
theorem w_c8 : (Jvm.Cond.code ({ cls := "java/lang/StringBuilder", name := "<init>", desc := "()V" } : Jvm.MethodName) jdk_67_method_1_code (1 : Nat) (Option.none : Option Jvm.ClassFile.FieldType)).before args0 about1 = true := code_word (m := ⟨16, 0⟩) (meth := k16m0) (c := k16c0) (by decide +kernel) rfl rfl rfl (by decide +kernel)
set_option maxRecDepth 65536 in
theorem w_c9 : (Jvm.Cond.code ({ cls := "java/lang/AbstractStringBuilder", name := "<init>", desc := "(I)V" } : Jvm.MethodName) jdk_68_method_2_code (2 : Nat) (Option.none : Option Jvm.ClassFile.FieldType)).before args0 about1 = true := code_word (m := ⟨15, 1⟩) (meth := k15m1) (c := k15c1) (by decide +kernel) rfl rfl rfl (by decide +kernel)
set_option maxRecDepth 65536 in
theorem w_c10 : (Jvm.Cond.code ({ cls := "java/lang/StringBuilder", name := "append", desc := "(Ljava/lang/String;)Ljava/lang/StringBuilder;" } : Jvm.MethodName) jdk_67_method_7_code (2 : Nat) (Option.some (Jvm.ClassFile.FieldType.object "java/lang/StringBuilder"))).before args0 about1 = true := code_word (m := ⟨16, 1⟩) (meth := k16m1) (c := k16c1) (by decide +kernel) rfl rfl rfl (by decide +kernel)
set_option maxRecDepth 65536 in
theorem w_c11 : (Jvm.Cond.code ({ cls := "java/lang/AbstractStringBuilder", name := "append", desc := "(Ljava/lang/String;)Ljava/lang/AbstractStringBuilder;" } : Jvm.MethodName) jdk_68_method_22_code (3 : Nat) (Option.some (Jvm.ClassFile.FieldType.object "java/lang/AbstractStringBuilder"))).before args0 about1 = true := code_word (m := ⟨15, 6⟩) (meth := k15m6) (c := k15c6) (by decide +kernel) rfl rfl rfl (by decide +kernel)
set_option maxRecDepth 65536 in
theorem w_c12 : (Jvm.Cond.code ({ cls := "java/lang/String", name := "length", desc := "()I" } : Jvm.MethodName) jdk_42_method_54_code (1 : Nat) (Option.some Jvm.ClassFile.FieldType.int)).before args0 about1 = true := code_word (m := ⟨7, 3⟩) (meth := k7m3) (c := k7c3) (by decide +kernel) rfl rfl rfl (by decide +kernel)
set_option maxRecDepth 65536 in
theorem w_c13 : (Jvm.Cond.code ({ cls := "java/lang/String", name := "coder", desc := "()B" } : Jvm.MethodName) jdk_42_method_152_code (1 : Nat) (Option.some Jvm.ClassFile.FieldType.byte)).before args0 about1 = true := code_word (m := ⟨7, 8⟩) (meth := k7m8) (c := k7c8) (by decide +kernel) rfl rfl rfl (by decide +kernel)
set_option maxRecDepth 65536 in
theorem w_c14 : (Jvm.Cond.code ({ cls := "java/lang/AbstractStringBuilder", name := "ensureCapacityInternal", desc := "(I)V" } : Jvm.MethodName) jdk_68_method_9_code (3 : Nat) (Option.none : Option Jvm.ClassFile.FieldType)).before args0 about1 = true := code_word (m := ⟨15, 3⟩) (meth := k15m3) (c := k15c3) (by decide +kernel) rfl rfl rfl (by decide +kernel)
set_option maxRecDepth 65536 in
theorem w_c15 : (Jvm.Cond.code ({ cls := "java/lang/AbstractStringBuilder", name := "putStringAt", desc := "(ILjava/lang/String;)V" } : Jvm.MethodName) jdk_68_method_73_code (3 : Nat) (Option.none : Option Jvm.ClassFile.FieldType)).before args0 about1 = true := code_word (m := ⟨15, 10⟩) (meth := k15m10) (c := k15c10) (by decide +kernel) rfl rfl rfl (by decide +kernel)
set_option maxRecDepth 65536 in
theorem w_c16 : (Jvm.Cond.code ({ cls := "java/lang/AbstractStringBuilder", name := "inflateIfNeededFor", desc := "(Ljava/lang/String;)V" } : Jvm.MethodName) jdk_68_method_71_code (2 : Nat) (Option.none : Option Jvm.ClassFile.FieldType)).before args0 about1 = true := code_word (m := ⟨15, 9⟩) (meth := k15m9) (c := k15c9) (by decide +kernel) rfl rfl rfl (by decide +kernel)
set_option maxRecDepth 65536 in
theorem w_c17 : (Jvm.Cond.code ({ cls := "java/lang/String", name := "getBytes", desc := "([BIB)V" } : Jvm.MethodName) jdk_42_method_147_code (4 : Nat) (Option.none : Option Jvm.ClassFile.FieldType)).before args0 about1 = true := code_word (m := ⟨7, 5⟩) (meth := k7m5) (c := k7c5) (by decide +kernel) rfl rfl rfl (by decide +kernel)
set_option maxRecDepth 65536 in
theorem w_c18 : (Jvm.Cond.code ({ cls := "java/lang/StringBuilder", name := "toString", desc := "()Ljava/lang/String;" } : Jvm.MethodName) jdk_67_method_42_code (1 : Nat) (Option.some (Jvm.ClassFile.FieldType.object "java/lang/String"))).before args0 about1 = true := code_word (m := ⟨16, 2⟩) (meth := k16m2) (c := k16c2) (by decide +kernel) rfl rfl rfl (by decide +kernel)
set_option maxRecDepth 65536 in
theorem w_c19 : (Jvm.Cond.code ({ cls := "java/lang/String", name := "<init>", desc := "(Ljava/lang/StringBuilder;)V" } : Jvm.MethodName) jdk_42_method_53_code (2 : Nat) (Option.none : Option Jvm.ClassFile.FieldType)).before args0 about1 = true := code_word (m := ⟨7, 2⟩) (meth := k7m2) (c := k7c2) (by decide +kernel) rfl rfl rfl (by decide +kernel)
set_option maxRecDepth 65536 in
theorem w_c20 : (Jvm.Cond.code ({ cls := "java/lang/String", name := "<init>", desc := "(Ljava/lang/AbstractStringBuilder;Ljava/lang/Void;)V" } : Jvm.MethodName) jdk_42_method_150_code (5 : Nat) (Option.none : Option Jvm.ClassFile.FieldType)).before args0 about1 = true := code_word (m := ⟨7, 7⟩) (meth := k7m7) (c := k7c7) (by decide +kernel) rfl rfl rfl (by decide +kernel)
set_option maxRecDepth 65536 in
theorem w_c21 : (Jvm.Cond.code ({ cls := "java/lang/AbstractStringBuilder", name := "getValue", desc := "()[B" } : Jvm.MethodName) jdk_68_method_64_code (1 : Nat) (Option.some (Jvm.ClassFile.FieldType.array Jvm.ClassFile.FieldType.byte))).before args0 about1 = true := code_word (m := ⟨15, 7⟩) (meth := k15m7) (c := k15c7) (by decide +kernel) rfl rfl rfl (by decide +kernel)
set_option maxRecDepth 65536 in
theorem w_c22 : (Jvm.Cond.code ({ cls := "java/lang/StringBuilder", name := "length", desc := "()I" } : Jvm.MethodName) jdk_67_method_93_code (1 : Nat) (Option.some Jvm.ClassFile.FieldType.int)).before args0 about1 = true := code_word (m := ⟨16, 3⟩) (meth := k16m3) (c := k16c3) (by decide +kernel) rfl rfl rfl (by decide +kernel)
set_option maxRecDepth 65536 in
theorem w_c23 : (Jvm.Cond.code ({ cls := "java/lang/AbstractStringBuilder", name := "length", desc := "()I" } : Jvm.MethodName) jdk_68_method_6_code (1 : Nat) (Option.some Jvm.ClassFile.FieldType.int)).before args0 about1 = true := code_word (m := ⟨15, 2⟩) (meth := k15m2) (c := k15c2) (by decide +kernel) rfl rfl rfl (by decide +kernel)
set_option maxRecDepth 65536 in
theorem w_c24 : (Jvm.Cond.code ({ cls := "java/lang/AbstractStringBuilder", name := "isLatin1", desc := "()Z" } : Jvm.MethodName) jdk_68_method_68_code (1 : Nat) (Option.some Jvm.ClassFile.FieldType.boolean)).before args0 about1 = true := code_word (m := ⟨15, 8⟩) (meth := k15m8) (c := k15c8) (by decide +kernel) rfl rfl rfl (by decide +kernel)
set_option maxRecDepth 65536 in
theorem w_c25 : (Jvm.Cond.code ({ cls := "java/util/Arrays", name := "copyOfRange", desc := "([BII)[B" } : Jvm.MethodName) jdk_65_method_132_code (3 : Nat) (Option.some (Jvm.ClassFile.FieldType.array Jvm.ClassFile.FieldType.byte))).before args0 about1 = true := code_word (m := ⟨18, 3⟩) (meth := k18m3) (c := k18c3) (by decide +kernel) rfl rfl rfl (by decide +kernel)
set_option maxRecDepth 65536 in
theorem w_c26 : (Jvm.Cond.code ({ cls := "java/lang/IllegalArgumentException", name := "<init>", desc := "(Ljava/lang/String;)V" } : Jvm.MethodName) jdk_57_method_2_code (2 : Nat) (Option.none : Option Jvm.ClassFile.FieldType)).before args0 about1 = true := code_word (m := ⟨13, 1⟩) (meth := k13m1) (c := k13c1) (by decide +kernel) rfl rfl rfl (by decide +kernel)
set_option maxRecDepth 65536 in
theorem w_c27 : (Jvm.Cond.code ({ cls := "java/lang/RuntimeException", name := "<init>", desc := "(Ljava/lang/String;)V" } : Jvm.MethodName) jdk_58_method_2_code (2 : Nat) (Option.none : Option Jvm.ClassFile.FieldType)).before args0 about1 = true := code_word (m := ⟨12, 1⟩) (meth := k12m1) (c := k12c1) (by decide +kernel) rfl rfl rfl (by decide +kernel)
set_option maxRecDepth 65536 in
theorem w_c28 : (Jvm.Cond.code ({ cls := "java/lang/Exception", name := "<init>", desc := "(Ljava/lang/String;)V" } : Jvm.MethodName) jdk_59_method_2_code (2 : Nat) (Option.none : Option Jvm.ClassFile.FieldType)).before args0 about1 = true := code_word (m := ⟨11, 1⟩) (meth := k11m1) (c := k11c1) (by decide +kernel) rfl rfl rfl (by decide +kernel)
set_option maxRecDepth 65536 in
theorem w_c29 : (Jvm.Cond.code ({ cls := "java/lang/Throwable", name := "<init>", desc := "(Ljava/lang/String;)V" } : Jvm.MethodName) jdk_78_method_2_code (2 : Nat) (Option.none : Option Jvm.ClassFile.FieldType)).before args0 about1 = true := code_word (m := ⟨10, 1⟩) (meth := k10m1) (c := k10c1) (by decide +kernel) rfl rfl rfl (by decide +kernel)
set_option maxRecDepth 65536 in
theorem w_c30 : (Jvm.Cond.code ({ cls := "java/lang/Throwable", name := "<init>", desc := "()V" } : Jvm.MethodName) jdk_78_method_1_code (1 : Nat) (Option.none : Option Jvm.ClassFile.FieldType)).before args0 about1 = true := code_word (m := ⟨10, 0⟩) (meth := k10m0) (c := k10c0) (by decide +kernel) rfl rfl rfl (by decide +kernel)
set_option maxRecDepth 65536 in
theorem w_c31 : (Jvm.Cond.code ({ cls := "java/lang/Throwable", name := "getMessage", desc := "()Ljava/lang/String;" } : Jvm.MethodName) jdk_78_method_6_code (1 : Nat) (Option.some (Jvm.ClassFile.FieldType.object "java/lang/String"))).before args0 about1 = true := code_word (m := ⟨10, 2⟩) (meth := k10m2) (c := k10c2) (by decide +kernel) rfl rfl rfl (by decide +kernel)
set_option maxRecDepth 65536 in
theorem w_c32 : (Jvm.Cond.code ({ cls := "java/lang/String", name := "equals", desc := "(Ljava/lang/Object;)Z" } : Jvm.MethodName) jdk_42_method_66_code (3 : Nat) (Option.some Jvm.ClassFile.FieldType.boolean)).before args0 about1 = true := code_word (m := ⟨7, 4⟩) (meth := k7m4) (c := k7c4) (by decide +kernel) rfl rfl rfl (by decide +kernel)
set_option maxRecDepth 65536 in
theorem w_c33 : (Jvm.Cond.code ({ cls := "java/lang/StringLatin1", name := "equals", desc := "([B[B)Z" } : Jvm.MethodName) jdk_43_method_13_code (3 : Nat) (Option.some Jvm.ClassFile.FieldType.boolean)).before args0 about1 = true := code_word (m := ⟨20, 1⟩) (meth := k20m1) (c := k20c1) (by decide +kernel) rfl rfl rfl (by decide +kernel)
set_option maxRecDepth 65536 in
theorem w_c34 : (Jvm.Cond.code ({ cls := "java/lang/AbstractStringBuilder", name := "newCapacity", desc := "(I)I" } : Jvm.MethodName) jdk_68_method_10_code (6 : Nat) (Option.some Jvm.ClassFile.FieldType.int)).before args0 about1 = true := code_word (m := ⟨15, 4⟩) (meth := k15m4) (c := k15c4) (by decide +kernel) rfl rfl rfl (by decide +kernel)
set_option maxRecDepth 65536 in
theorem w_c35 : (Jvm.Cond.code ({ cls := "jdk/internal/util/ArraysSupport", name := "newLength", desc := "(III)I" } : Jvm.MethodName) jdk_48_method_27_code (4 : Nat) (Option.some Jvm.ClassFile.FieldType.int)).before args0 about1 = true := code_word (m := ⟨21, 1⟩) (meth := k21m1) (c := k21c1) (by decide +kernel) rfl rfl rfl (by decide +kernel)
set_option maxRecDepth 65536 in
theorem w_c36 : (Jvm.Cond.code ({ cls := "java/lang/Math", name := "max", desc := "(II)I" } : Jvm.MethodName) jdk_29_method_65_code (2 : Nat) (Option.some Jvm.ClassFile.FieldType.int)).before args0 about1 = true := code_word (m := ⟨22, 1⟩) (meth := k22m1) (c := k22c1) (by decide +kernel) rfl rfl rfl (by decide +kernel)
set_option maxRecDepth 65536 in
theorem w_c37 : (Jvm.Cond.code ({ cls := "java/util/Arrays", name := "copyOf", desc := "([BI)[B" } : Jvm.MethodName) jdk_65_method_121_code (3 : Nat) (Option.some (Jvm.ClassFile.FieldType.array Jvm.ClassFile.FieldType.byte))).before args0 about1 = true := code_word (m := ⟨18, 1⟩) (meth := k18m1) (c := k18c1) (by decide +kernel) rfl rfl rfl (by decide +kernel)
set_option maxRecDepth 65536 in
theorem w_c38 : (Jvm.Cond.code ({ cls := "java/lang/Math", name := "min", desc := "(II)I" } : Jvm.MethodName) jdk_29_method_69_code (2 : Nat) (Option.some Jvm.ClassFile.FieldType.int)).before args0 about1 = true := code_word (m := ⟨22, 2⟩) (meth := k22m2) (c := k22c2) (by decide +kernel) rfl rfl rfl (by decide +kernel)
set_option maxRecDepth 65536 in
theorem w_c39 : (Jvm.Cond.code ({ cls := "java/util/Arrays", name := "copyOfRangeByte", desc := "([BII)[B" } : Jvm.MethodName) jdk_65_method_133_code (5 : Nat) (Option.some (Jvm.ClassFile.FieldType.array Jvm.ClassFile.FieldType.byte))).before args0 about1 = true := code_word (m := ⟨18, 4⟩) (meth := k18m4) (c := k18c4) (by decide +kernel) rfl rfl rfl (by decide +kernel)
set_option maxRecDepth 65536 in
theorem w_c40 : (Jvm.Cond.code ({ cls := "java/util/Arrays", name := "checkLength", desc := "(II)V" } : Jvm.MethodName) jdk_65_method_131_code (2 : Nat) (Option.none : Option Jvm.ClassFile.FieldType)).before args0 about1 = true := code_word (m := ⟨18, 2⟩) (meth := k18m2) (c := k18c2) (by decide +kernel) rfl rfl rfl (by decide +kernel)
set_option maxRecDepth 65536 in
theorem w_c41 : (Jvm.Cond.code ({ cls := "java/lang/StringUTF16", name := "toBytes", desc := "([CII)[B" } : Jvm.MethodName) jdk_52_method_14_code (5 : Nat) (Option.some (Jvm.ClassFile.FieldType.array Jvm.ClassFile.FieldType.byte))).before args0 about1 = true := code_word (m := ⟨8, 6⟩) (meth := k8m6) (c := k8c6) (by decide +kernel) rfl rfl rfl (by decide +kernel)
set_option maxRecDepth 65536 in
theorem w_c42 : (Jvm.Cond.code ({ cls := "java/lang/StringUTF16", name := "newBytesFor", desc := "(I)[B" } : Jvm.MethodName) jdk_52_method_2_code (1 : Nat) (Option.some (Jvm.ClassFile.FieldType.array Jvm.ClassFile.FieldType.byte))).before args0 about1 = true := code_word (m := ⟨8, 1⟩) (meth := k8m1) (c := k8c1) (by decide +kernel) rfl rfl rfl (by decide +kernel)
set_option maxRecDepth 65536 in
theorem w_c43 : (Jvm.Cond.code ({ cls := "java/lang/StringUTF16", name := "newBytesLength", desc := "(I)I" } : Jvm.MethodName) jdk_52_method_3_code (1 : Nat) (Option.some Jvm.ClassFile.FieldType.int)).before args0 about1 = true := code_word (m := ⟨8, 2⟩) (meth := k8m2) (c := k8c2) (by decide +kernel) rfl rfl rfl (by decide +kernel)
set_option maxRecDepth 65536 in
theorem w_c44 : (Jvm.Cond.code ({ cls := "java/lang/StringUTF16", name := "putChar", desc := "([BII)V" } : Jvm.MethodName) jdk_52_method_4_code (3 : Nat) (Option.none : Option Jvm.ClassFile.FieldType)).before args0 about1 = true := code_word (m := ⟨8, 3⟩) (meth := k8m3) (c := k8c3) (by decide +kernel) rfl rfl rfl (by decide +kernel)
set_option maxRecDepth 65536 in
theorem w_c45 : (Jvm.Cond.code ({ cls := "java/lang/StringUTF16", name := "getChar", desc := "([BI)C" } : Jvm.MethodName) jdk_52_method_5_code (2 : Nat) (Option.some Jvm.ClassFile.FieldType.char)).before args0 about1 = true := code_word (m := ⟨8, 4⟩) (meth := k8m4) (c := k8c4) (by decide +kernel) rfl rfl rfl (by decide +kernel)
set_option maxRecDepth 65536 in
theorem w_c46 : (Jvm.Cond.code ({ cls := "java/lang/AbstractStringBuilder", name := "inflate", desc := "()V" } : Jvm.MethodName) jdk_68_method_11_code (2 : Nat) (Option.none : Option Jvm.ClassFile.FieldType)).before args0 about1 = true := code_word (m := ⟨15, 5⟩) (meth := k15m5) (c := k15c5) (by decide +kernel) rfl rfl rfl (by decide +kernel)
set_option maxRecDepth 65536 in
theorem w_c47 : (Jvm.Cond.code ({ cls := "java/lang/StringLatin1", name := "inflate", desc := "([BI[BII)V" } : Jvm.MethodName) jdk_43_method_50_code (5 : Nat) (Option.none : Option Jvm.ClassFile.FieldType)).before args0 about1 = true := code_word (m := ⟨20, 2⟩) (meth := k20m2) (c := k20c2) (by decide +kernel) rfl rfl rfl (by decide +kernel)
set_option maxRecDepth 65536 in
theorem w_c48 : (Jvm.Cond.code ({ cls := "java/lang/StringUTF16", name := "inflate", desc := "([BI[BII)V" } : Jvm.MethodName) jdk_52_method_86_code (6 : Nat) (Option.none : Option Jvm.ClassFile.FieldType)).before args0 about1 = true := code_word (m := ⟨8, 10⟩) (meth := k8m10) (c := k8c10) (by decide +kernel) rfl rfl rfl (by decide +kernel)
set_option maxRecDepth 65536 in
theorem w_c49 : (Jvm.Cond.code ({ cls := "java/lang/StringUTF16", name := "checkBoundsOffCount", desc := "(II[B)V" } : Jvm.MethodName) jdk_52_method_94_code (3 : Nat) (Option.none : Option Jvm.ClassFile.FieldType)).before args0 about1 = true := code_word (m := ⟨8, 11⟩) (meth := k8m11) (c := k8c11) (by decide +kernel) rfl rfl rfl (by decide +kernel)
set_option maxRecDepth 65536 in
theorem w_c50 : (Jvm.Cond.code ({ cls := "java/lang/StringUTF16", name := "length", desc := "([B)I" } : Jvm.MethodName) jdk_52_method_6_code (1 : Nat) (Option.some Jvm.ClassFile.FieldType.int)).before args0 about1 = true := code_word (m := ⟨8, 5⟩) (meth := k8m5) (c := k8c5) (by decide +kernel) rfl rfl rfl (by decide +kernel)
set_option maxRecDepth 65536 in
theorem w_c51 : (Jvm.Cond.code ({ cls := "java/lang/String", name := "checkBoundsOffCount", desc := "(III)I" } : Jvm.MethodName) jdk_42_method_157_code (3 : Nat) (Option.some Jvm.ClassFile.FieldType.int)).before args0 about1 = true := code_word (m := ⟨7, 9⟩) (meth := k7m9) (c := k7c9) (by decide +kernel) rfl rfl rfl (by decide +kernel)
set_option maxRecDepth 65536 in
theorem w_c52 : (Jvm.Cond.code ({ cls := "jdk/internal/util/Preconditions", name := "checkFromIndexSize", desc := "(IIILjava/util/function/BiFunction;)I" } : Jvm.MethodName) jdk_41_method_13_code (4 : Nat) (Option.some Jvm.ClassFile.FieldType.int)).before args0 about1 = true := code_word (m := ⟨23, 1⟩) (meth := k23m1) (c := k23c1) (by decide +kernel) rfl rfl rfl (by decide +kernel)
def codes1 : List Jvm.Cond := [Jvm.Cond.code x code maxLocals ret, Jvm.Cond.code ({ cls := "java/lang/String", name := "<init>", desc := "([C)V" } : Jvm.MethodName) jdk_42_method_3_code (2 : Nat) (Option.none : Option Jvm.ClassFile.FieldType), Jvm.Cond.code ({ cls := "java/lang/String", name := "<init>", desc := "([CIILjava/lang/Void;)V" } : Jvm.MethodName) jdk_42_method_149_code (6 : Nat) (Option.none : Option Jvm.ClassFile.FieldType), Jvm.Cond.code ({ cls := "java/lang/Object", name := "<init>", desc := "()V" } : Jvm.MethodName) object_method_1_code (1 : Nat) (Option.none : Option Jvm.ClassFile.FieldType), Jvm.Cond.code ({ cls := "java/lang/StringUTF16", name := "compress", desc := "([CII)[B" } : Jvm.MethodName) jdk_52_method_16_code (6 : Nat) (Option.some (Jvm.ClassFile.FieldType.array Jvm.ClassFile.FieldType.byte)), Jvm.Cond.code ({ cls := "java/lang/StringUTF16", name := "compress", desc := "([CI[BII)I" } : Jvm.MethodName) jdk_52_method_21_code (7 : Nat) (Option.some Jvm.ClassFile.FieldType.int), Jvm.Cond.code ({ cls := "java/lang/StringUTF16", name := "coderFromArrayLen", desc := "([BI)B" } : Jvm.MethodName) jdk_52_method_15_code (2 : Nat) (Option.some Jvm.ClassFile.FieldType.byte), Jvm.Cond.code ({ cls := "com/example/scodi/scodi/launcher/Options", name := "unknownOption", desc := "(Ljava/lang/String;)Ljava/lang/IllegalArgumentException;" } : Jvm.MethodName) prog_25_method_3_code (1 : Nat) (Option.some (Jvm.ClassFile.FieldType.object "java/lang/IllegalArgumentException")), Jvm.Cond.code ({ cls := "java/lang/StringBuilder", name := "<init>", desc := "()V" } : Jvm.MethodName) jdk_67_method_1_code (1 : Nat) (Option.none : Option Jvm.ClassFile.FieldType), Jvm.Cond.code ({ cls := "java/lang/AbstractStringBuilder", name := "<init>", desc := "(I)V" } : Jvm.MethodName) jdk_68_method_2_code (2 : Nat) (Option.none : Option Jvm.ClassFile.FieldType), Jvm.Cond.code ({ cls := "java/lang/StringBuilder", name := "append", desc := "(Ljava/lang/String;)Ljava/lang/StringBuilder;" } : Jvm.MethodName) jdk_67_method_7_code (2 : Nat) (Option.some (Jvm.ClassFile.FieldType.object "java/lang/StringBuilder")), Jvm.Cond.code ({ cls := "java/lang/AbstractStringBuilder", name := "append", desc := "(Ljava/lang/String;)Ljava/lang/AbstractStringBuilder;" } : Jvm.MethodName) jdk_68_method_22_code (3 : Nat) (Option.some (Jvm.ClassFile.FieldType.object "java/lang/AbstractStringBuilder")), Jvm.Cond.code ({ cls := "java/lang/String", name := "length", desc := "()I" } : Jvm.MethodName) jdk_42_method_54_code (1 : Nat) (Option.some Jvm.ClassFile.FieldType.int), Jvm.Cond.code ({ cls := "java/lang/String", name := "coder", desc := "()B" } : Jvm.MethodName) jdk_42_method_152_code (1 : Nat) (Option.some Jvm.ClassFile.FieldType.byte), Jvm.Cond.code ({ cls := "java/lang/AbstractStringBuilder", name := "ensureCapacityInternal", desc := "(I)V" } : Jvm.MethodName) jdk_68_method_9_code (3 : Nat) (Option.none : Option Jvm.ClassFile.FieldType), Jvm.Cond.code ({ cls := "java/lang/AbstractStringBuilder", name := "putStringAt", desc := "(ILjava/lang/String;)V" } : Jvm.MethodName) jdk_68_method_73_code (3 : Nat) (Option.none : Option Jvm.ClassFile.FieldType), Jvm.Cond.code ({ cls := "java/lang/AbstractStringBuilder", name := "inflateIfNeededFor", desc := "(Ljava/lang/String;)V" } : Jvm.MethodName) jdk_68_method_71_code (2 : Nat) (Option.none : Option Jvm.ClassFile.FieldType), Jvm.Cond.code ({ cls := "java/lang/String", name := "getBytes", desc := "([BIB)V" } : Jvm.MethodName) jdk_42_method_147_code (4 : Nat) (Option.none : Option Jvm.ClassFile.FieldType), Jvm.Cond.code ({ cls := "java/lang/StringBuilder", name := "toString", desc := "()Ljava/lang/String;" } : Jvm.MethodName) jdk_67_method_42_code (1 : Nat) (Option.some (Jvm.ClassFile.FieldType.object "java/lang/String")), Jvm.Cond.code ({ cls := "java/lang/String", name := "<init>", desc := "(Ljava/lang/StringBuilder;)V" } : Jvm.MethodName) jdk_42_method_53_code (2 : Nat) (Option.none : Option Jvm.ClassFile.FieldType), Jvm.Cond.code ({ cls := "java/lang/String", name := "<init>", desc := "(Ljava/lang/AbstractStringBuilder;Ljava/lang/Void;)V" } : Jvm.MethodName) jdk_42_method_150_code (5 : Nat) (Option.none : Option Jvm.ClassFile.FieldType), Jvm.Cond.code ({ cls := "java/lang/AbstractStringBuilder", name := "getValue", desc := "()[B" } : Jvm.MethodName) jdk_68_method_64_code (1 : Nat) (Option.some (Jvm.ClassFile.FieldType.array Jvm.ClassFile.FieldType.byte)), Jvm.Cond.code ({ cls := "java/lang/StringBuilder", name := "length", desc := "()I" } : Jvm.MethodName) jdk_67_method_93_code (1 : Nat) (Option.some Jvm.ClassFile.FieldType.int), Jvm.Cond.code ({ cls := "java/lang/AbstractStringBuilder", name := "length", desc := "()I" } : Jvm.MethodName) jdk_68_method_6_code (1 : Nat) (Option.some Jvm.ClassFile.FieldType.int), Jvm.Cond.code ({ cls := "java/lang/AbstractStringBuilder", name := "isLatin1", desc := "()Z" } : Jvm.MethodName) jdk_68_method_68_code (1 : Nat) (Option.some Jvm.ClassFile.FieldType.boolean), Jvm.Cond.code ({ cls := "java/util/Arrays", name := "copyOfRange", desc := "([BII)[B" } : Jvm.MethodName) jdk_65_method_132_code (3 : Nat) (Option.some (Jvm.ClassFile.FieldType.array Jvm.ClassFile.FieldType.byte)), Jvm.Cond.code ({ cls := "java/lang/IllegalArgumentException", name := "<init>", desc := "(Ljava/lang/String;)V" } : Jvm.MethodName) jdk_57_method_2_code (2 : Nat) (Option.none : Option Jvm.ClassFile.FieldType), Jvm.Cond.code ({ cls := "java/lang/RuntimeException", name := "<init>", desc := "(Ljava/lang/String;)V" } : Jvm.MethodName) jdk_58_method_2_code (2 : Nat) (Option.none : Option Jvm.ClassFile.FieldType), Jvm.Cond.code ({ cls := "java/lang/Exception", name := "<init>", desc := "(Ljava/lang/String;)V" } : Jvm.MethodName) jdk_59_method_2_code (2 : Nat) (Option.none : Option Jvm.ClassFile.FieldType), Jvm.Cond.code ({ cls := "java/lang/Throwable", name := "<init>", desc := "(Ljava/lang/String;)V" } : Jvm.MethodName) jdk_78_method_2_code (2 : Nat) (Option.none : Option Jvm.ClassFile.FieldType), Jvm.Cond.code ({ cls := "java/lang/Throwable", name := "<init>", desc := "()V" } : Jvm.MethodName) jdk_78_method_1_code (1 : Nat) (Option.none : Option Jvm.ClassFile.FieldType), Jvm.Cond.code ({ cls := "java/lang/Throwable", name := "getMessage", desc := "()Ljava/lang/String;" } : Jvm.MethodName) jdk_78_method_6_code (1 : Nat) (Option.some (Jvm.ClassFile.FieldType.object "java/lang/String")), Jvm.Cond.code ({ cls := "java/lang/String", name := "equals", desc := "(Ljava/lang/Object;)Z" } : Jvm.MethodName) jdk_42_method_66_code (3 : Nat) (Option.some Jvm.ClassFile.FieldType.boolean), Jvm.Cond.code ({ cls := "java/lang/StringLatin1", name := "equals", desc := "([B[B)Z" } : Jvm.MethodName) jdk_43_method_13_code (3 : Nat) (Option.some Jvm.ClassFile.FieldType.boolean), Jvm.Cond.code ({ cls := "java/lang/AbstractStringBuilder", name := "newCapacity", desc := "(I)I" } : Jvm.MethodName) jdk_68_method_10_code (6 : Nat) (Option.some Jvm.ClassFile.FieldType.int), Jvm.Cond.code ({ cls := "jdk/internal/util/ArraysSupport", name := "newLength", desc := "(III)I" } : Jvm.MethodName) jdk_48_method_27_code (4 : Nat) (Option.some Jvm.ClassFile.FieldType.int), Jvm.Cond.code ({ cls := "java/lang/Math", name := "max", desc := "(II)I" } : Jvm.MethodName) jdk_29_method_65_code (2 : Nat) (Option.some Jvm.ClassFile.FieldType.int), Jvm.Cond.code ({ cls := "java/util/Arrays", name := "copyOf", desc := "([BI)[B" } : Jvm.MethodName) jdk_65_method_121_code (3 : Nat) (Option.some (Jvm.ClassFile.FieldType.array Jvm.ClassFile.FieldType.byte)), Jvm.Cond.code ({ cls := "java/lang/Math", name := "min", desc := "(II)I" } : Jvm.MethodName) jdk_29_method_69_code (2 : Nat) (Option.some Jvm.ClassFile.FieldType.int), Jvm.Cond.code ({ cls := "java/util/Arrays", name := "copyOfRangeByte", desc := "([BII)[B" } : Jvm.MethodName) jdk_65_method_133_code (5 : Nat) (Option.some (Jvm.ClassFile.FieldType.array Jvm.ClassFile.FieldType.byte)), Jvm.Cond.code ({ cls := "java/util/Arrays", name := "checkLength", desc := "(II)V" } : Jvm.MethodName) jdk_65_method_131_code (2 : Nat) (Option.none : Option Jvm.ClassFile.FieldType), Jvm.Cond.code ({ cls := "java/lang/StringUTF16", name := "toBytes", desc := "([CII)[B" } : Jvm.MethodName) jdk_52_method_14_code (5 : Nat) (Option.some (Jvm.ClassFile.FieldType.array Jvm.ClassFile.FieldType.byte)), Jvm.Cond.code ({ cls := "java/lang/StringUTF16", name := "newBytesFor", desc := "(I)[B" } : Jvm.MethodName) jdk_52_method_2_code (1 : Nat) (Option.some (Jvm.ClassFile.FieldType.array Jvm.ClassFile.FieldType.byte)), Jvm.Cond.code ({ cls := "java/lang/StringUTF16", name := "newBytesLength", desc := "(I)I" } : Jvm.MethodName) jdk_52_method_3_code (1 : Nat) (Option.some Jvm.ClassFile.FieldType.int), Jvm.Cond.code ({ cls := "java/lang/StringUTF16", name := "putChar", desc := "([BII)V" } : Jvm.MethodName) jdk_52_method_4_code (3 : Nat) (Option.none : Option Jvm.ClassFile.FieldType), Jvm.Cond.code ({ cls := "java/lang/StringUTF16", name := "getChar", desc := "([BI)C" } : Jvm.MethodName) jdk_52_method_5_code (2 : Nat) (Option.some Jvm.ClassFile.FieldType.char), Jvm.Cond.code ({ cls := "java/lang/AbstractStringBuilder", name := "inflate", desc := "()V" } : Jvm.MethodName) jdk_68_method_11_code (2 : Nat) (Option.none : Option Jvm.ClassFile.FieldType), Jvm.Cond.code ({ cls := "java/lang/StringLatin1", name := "inflate", desc := "([BI[BII)V" } : Jvm.MethodName) jdk_43_method_50_code (5 : Nat) (Option.none : Option Jvm.ClassFile.FieldType), Jvm.Cond.code ({ cls := "java/lang/StringUTF16", name := "inflate", desc := "([BI[BII)V" } : Jvm.MethodName) jdk_52_method_86_code (6 : Nat) (Option.none : Option Jvm.ClassFile.FieldType), Jvm.Cond.code ({ cls := "java/lang/StringUTF16", name := "checkBoundsOffCount", desc := "(II[B)V" } : Jvm.MethodName) jdk_52_method_94_code (3 : Nat) (Option.none : Option Jvm.ClassFile.FieldType), Jvm.Cond.code ({ cls := "java/lang/StringUTF16", name := "length", desc := "([B)I" } : Jvm.MethodName) jdk_52_method_6_code (1 : Nat) (Option.some Jvm.ClassFile.FieldType.int), Jvm.Cond.code ({ cls := "java/lang/String", name := "checkBoundsOffCount", desc := "(III)I" } : Jvm.MethodName) jdk_42_method_157_code (3 : Nat) (Option.some Jvm.ClassFile.FieldType.int), Jvm.Cond.code ({ cls := "jdk/internal/util/Preconditions", name := "checkFromIndexSize", desc := "(IIILjava/util/function/BiFunction;)I" } : Jvm.MethodName) jdk_41_method_13_code (4 : Nat) (Option.some Jvm.ClassFile.FieldType.int)]
set_option maxRecDepth 65536 in
theorem codes_eq : words1.filter isCode = codes1 := rfl
theorem w_codes : ∀ c ∈ words1.filter isCode, c.before args0 about1 = true := by
  rw [codes_eq]
  intro c hc
  simp only [codes1, List.mem_cons, List.not_mem_nil, or_false] at hc
  rcases hc with rfl | rfl | rfl | rfl | rfl | rfl | rfl | rfl | rfl | rfl | rfl | rfl | rfl | rfl | rfl | rfl | rfl | rfl | rfl | rfl | rfl | rfl | rfl | rfl | rfl | rfl | rfl | rfl | rfl | rfl | rfl | rfl | rfl | rfl | rfl | rfl | rfl | rfl | rfl | rfl | rfl | rfl | rfl | rfl | rfl | rfl | rfl | rfl | rfl | rfl | rfl | rfl | rfl
  · exact w_c0
  · exact w_c1
  · exact w_c2
  · exact w_c3
  · exact w_c4
  · exact w_c5
  · exact w_c6
  · exact w_c7
  · exact w_c8
  · exact w_c9
  · exact w_c10
  · exact w_c11
  · exact w_c12
  · exact w_c13
  · exact w_c14
  · exact w_c15
  · exact w_c16
  · exact w_c17
  · exact w_c18
  · exact w_c19
  · exact w_c20
  · exact w_c21
  · exact w_c22
  · exact w_c23
  · exact w_c24
  · exact w_c25
  · exact w_c26
  · exact w_c27
  · exact w_c28
  · exact w_c29
  · exact w_c30
  · exact w_c31
  · exact w_c32
  · exact w_c33
  · exact w_c34
  · exact w_c35
  · exact w_c36
  · exact w_c37
  · exact w_c38
  · exact w_c39
  · exact w_c40
  · exact w_c41
  · exact w_c42
  · exact w_c43
  · exact w_c44
  · exact w_c45
  · exact w_c46
  · exact w_c47
  · exact w_c48
  · exact w_c49
  · exact w_c50
  · exact w_c51
  · exact w_c52
set_option maxRecDepth 65536 in
theorem w_t1 : (words1.take 24).all (fun c => isCode c || c.before args0 about1) = true := by decide +kernel
set_option maxRecDepth 65536 in
theorem w_t2 : ((words1.drop 24).take 24).all (fun c => isCode c || c.before args0 about1) = true := by decide +kernel
set_option maxRecDepth 65536 in
theorem w_t3 : (((words1.drop 24).drop 24).take 24).all (fun c => isCode c || c.before args0 about1) = true := by decide +kernel
set_option maxRecDepth 65536 in
theorem w_t4 : ((((words1.drop 24).drop 24).drop 24).take 24).all (fun c => isCode c || c.before args0 about1) = true := by decide +kernel
set_option maxRecDepth 65536 in
theorem w_t5 : (((((words1.drop 24).drop 24).drop 24).drop 24).take 24).all (fun c => isCode c || c.before args0 about1) = true := by decide +kernel
set_option maxRecDepth 65536 in
theorem w_t6 : ((((((words1.drop 24).drop 24).drop 24).drop 24).drop 24).take 24).all (fun c => isCode c || c.before args0 about1) = true := by decide +kernel
set_option maxRecDepth 65536 in
theorem w_t7 : (((((((words1.drop 24).drop 24).drop 24).drop 24).drop 24).drop 24).take 24).all (fun c => isCode c || c.before args0 about1) = true := by decide +kernel
set_option maxRecDepth 65536 in
theorem w_t8 : ((((((((words1.drop 24).drop 24).drop 24).drop 24).drop 24).drop 24).drop 24).take 24).all (fun c => isCode c || c.before args0 about1) = true := by decide +kernel
set_option maxRecDepth 65536 in
theorem w_t9 : (((((((((words1.drop 24).drop 24).drop 24).drop 24).drop 24).drop 24).drop 24).drop 24).take 24).all (fun c => isCode c || c.before args0 about1) = true := by decide +kernel
set_option maxRecDepth 65536 in
theorem w_t10 : ((((((((((words1.drop 24).drop 24).drop 24).drop 24).drop 24).drop 24).drop 24).drop 24).drop 24).take 24).all (fun c => isCode c || c.before args0 about1) = true := by decide +kernel
set_option maxRecDepth 65536 in
theorem w_t11 : (((((((((((words1.drop 24).drop 24).drop 24).drop 24).drop 24).drop 24).drop 24).drop 24).drop 24).drop 24).take 24).all (fun c => isCode c || c.before args0 about1) = true := by decide +kernel
set_option maxRecDepth 65536 in
theorem w_t12 : ((((((((((((words1.drop 24).drop 24).drop 24).drop 24).drop 24).drop 24).drop 24).drop 24).drop 24).drop 24).drop 24).take 24).all (fun c => isCode c || c.before args0 about1) = true := by decide +kernel
set_option maxRecDepth 65536 in
theorem w_t13 : ((((((((((((words1.drop 24).drop 24).drop 24).drop 24).drop 24).drop 24).drop 24).drop 24).drop 24).drop 24).drop 24).drop 24).all (fun c => isCode c || c.before args0 about1) = true := by decide +kernel
theorem w_tables : (allAtoms (Jvm.Cond.code x code maxLocals ret :: tables_1)).before args0 about1 = true := by
  rw [allAtoms_all]
  show words1.all (fun c => c.before args0 about1) = true
  refine all_split ?_ w_codes
  rw [← List.take_append_drop 24 words1, List.all_append, w_t1, ← List.take_append_drop 24 (words1.drop 24), List.all_append, w_t2, ← List.take_append_drop 24 ((words1.drop 24).drop 24), List.all_append, w_t3, ← List.take_append_drop 24 (((words1.drop 24).drop 24).drop 24), List.all_append, w_t4, ← List.take_append_drop 24 ((((words1.drop 24).drop 24).drop 24).drop 24), List.all_append, w_t5, ← List.take_append_drop 24 (((((words1.drop 24).drop 24).drop 24).drop 24).drop 24), List.all_append, w_t6, ← List.take_append_drop 24 ((((((words1.drop 24).drop 24).drop 24).drop 24).drop 24).drop 24), List.all_append, w_t7, ← List.take_append_drop 24 (((((((words1.drop 24).drop 24).drop 24).drop 24).drop 24).drop 24).drop 24), List.all_append, w_t8, ← List.take_append_drop 24 ((((((((words1.drop 24).drop 24).drop 24).drop 24).drop 24).drop 24).drop 24).drop 24), List.all_append, w_t9, ← List.take_append_drop 24 (((((((((words1.drop 24).drop 24).drop 24).drop 24).drop 24).drop 24).drop 24).drop 24).drop 24), List.all_append, w_t10, ← List.take_append_drop 24 ((((((((((words1.drop 24).drop 24).drop 24).drop 24).drop 24).drop 24).drop 24).drop 24).drop 24).drop 24), List.all_append, w_t11, ← List.take_append_drop 24 (((((((((((words1.drop 24).drop 24).drop 24).drop 24).drop 24).drop 24).drop 24).drop 24).drop 24).drop 24).drop 24), List.all_append, w_t12, w_t13]
  rfl
set_option maxRecDepth 65536 in
theorem w_rest : rest_1_c.before args0 about1 = true := by decide +kernel
set_option maxRecDepth 65536 in
theorem w_case : (Jvm.Cond.and given_1 narrow_1).before args0 about1 = true := by decide +kernel
set_option maxRecDepth 65536 in
theorem w_consts : constsHeld consts_1 about1 := Jvm.Lit.constsHeldB_iff.mp (by decide +kernel)
theorem w_applies : (headSpec (Jvm.Cond.code x code maxLocals ret :: tables_1) room_1).applies x e0.platform about1 = true :=
  (Spec.applies_iff w_frames).mpr ⟨w_running, w_runnable, w_alone, w_named, w_hears, w_ripe, w_room, w_tables⟩
theorem atStart : AtStart classFile x code maxLocals ret World_1 tables_1 room_1 Calls_1 rest_1 Pre_1 launch0 p0 e0 about1 theMethod args0 below0 :=
  ⟨lists_1, trivial, launch0.admits_env _ _ _, launch0.least_env, fairChoices_fair.cas, fairChoices_fair.clock, w_frames, w_args, w_heap, w_applies, ⟨(by decide +kernel : framesKnown about1 = true), ⟨(by decide +kernel : tablesKnown about1 = true), ⟨w_consts, trivial⟩⟩⟩, w_rest, w_case⟩
end start1
theorem witness_1 : WitnessClaimed_1 := ⟨start1.p0, start1.e0, start1.about1, start1.theMethod, start1.args0, start1.below0, start1.atStart⟩
end Jvm.Pilot.@@N@@
