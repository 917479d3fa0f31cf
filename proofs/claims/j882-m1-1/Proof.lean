import JvmDerived
import JvmDerived.Pilot.@@N@@Statement
import JvmDerived.Pilot.@@N@@Code
set_option linter.unusedVariables false
set_option linter.unusedSimpArgs false
/- laws to paste: Road.backV, Road.codOf, Road.lenW, Road.chN, Road.eqW, Road.empW (cut by pick.py; bodies as the Statement names them) -/
namespace Jvm.Pilot.@@N@@
namespace StrChars
open Jvm Sem ClassFile Op Lib Jvm.Stand Jvm.Free.XT Jvm.Free.ALB Jvm.Free.JM Jvm.Free
open Jvm.Lib.Cold (StaticIs)
/-- a char array whose places are chars -/
def Ch (a : Addr) (A : Cell) (U : State) : Prop := Arr .char a A U ∧ Typed .char A
theorem Ch.mv {a : Addr} {A : Cell} {U U' : State} (h : Ch a A U) (hal : U.vm.Alike U'.vm) (hh : U'.heap = U.heap) : Ch a A U' := ⟨h.1.mv hal hh, h.2⟩
theorem Ch.keep {a : Addr} {A : Cell} {U U' : State} (h : Ch a A U) (hal : U.vm.Alike U'.vm) (hk : U'.heap[a]? = some A) : Ch a A U' := ⟨h.1.keep hal hk, h.2⟩
/-- what place i of a char[]'s cell holds -/
def cv (A : Cell) (i : Nat) : Int32 := match A.slots[i]? with | some (.int x) => x | _ => 0
theorem Ch.get {a : Addr} {A : Cell} {U : State} (h : Ch a A U) {i : Nat} (hi : i < A.slots.size) : A.slots[i]? = some (.int (cv A i)) := by
  have e := Array.getElem?_eq_getElem hi
  have f := h.2 i _ e
  unfold cv; rw [e]
  generalize A.slots[i] = v at f
  cases v <;> simp [fits] at f ⊢
/-- the byte that i2b leaves of a char -/
def lo8 (x : Int32) : Int32 := x.toInt8.toInt32
theorem fits_lo8 (y : Int32) : fits .byte (.int (lo8 y)) = true := by
  have h1 := y.toInt8.le_toInt
  have h2 := y.toInt8.toInt_lt
  simp only [lo8, fits, Bool.and_eq_true, decide_eq_true_eq, Int32.le_iff_toInt_le, Int8.toInt_toInt32, show (-128 : Int32).toInt = -128 from by decide, show (127 : Int32).toInt = 127 from by decide]
  omega
/-- A' is A but that each place j of lo .. hi - 1 holds f j -/
def Laid (A A' : Cell) (lo hi : Nat) (f : Nat → Value) : Prop := A'.cls = A.cls ∧ A'.vm = A.vm ∧ A'.slots.size = A.slots.size ∧ ∀ i, A'.slots[i]? = if lo ≤ i ∧ i < hi then some (f i) else A.slots[i]?
theorem Laid.zero (A : Cell) (lo : Nat) (f : Nat → Value) : Laid A A lo (lo + 0) f := ⟨rfl, rfl, rfl, fun i => by rw [if_neg (by omega)]⟩
theorem Laid.step {A Ak : Cell} {lo k : Nat} {f : Nat → Value} {v : Value} (h : Laid A Ak lo k f) (hlo : lo ≤ k) (hk : k < Ak.slots.size) (hv : v = f k) : Laid A (Ak.setSlot k v) lo (k + 1) f := by
  refine ⟨h.1, h.2.1, by simpa [Cell.setSlot] using h.2.2.1, fun i => ?_⟩
  by_cases e : k = i
  · subst e; rw [Cell.slots_setSlot_self v hk, if_pos (by omega), hv]
  · rw [Cell.slots_setSlot_ne v e, h.2.2.2 i]
    by_cases q : lo ≤ i ∧ i < k
    · rw [if_pos q, if_pos (by omega)]
    · rw [if_neg q, if_neg (by omega)]
def U16 : String := "java/lang/StringUTF16"
namespace Cmp5
def yN : MethodName := ⟨"java/lang/StringUTF16", "compress", "([CI[BII)I"⟩
abbrev yB : ByteArray := jdk_52_method_21_code
theorem d0 : decode yB 0 = .ok (.iconst 0, 1) := by decide +kernel
theorem d1 : decode yB 1 = .ok (.istore 5, 2) := by decide +kernel
theorem d3 : decode yB 3 = .ok (.iload 5, 2) := by decide +kernel
theorem d5 : decode yB 5 = .ok (.iload 4, 2) := by decide +kernel
theorem d7 : decode yB 7 = .ok (.if_icmp (.ge) 37, 3) := by decide +kernel
theorem d10 : decode yB 10 = .ok (.aload_n 0, 1) := by decide +kernel
theorem d11 : decode yB 11 = .ok (.iload_n 1, 1) := by decide +kernel
theorem d12 : decode yB 12 = .ok (.caload, 1) := by decide +kernel
theorem d13 : decode yB 13 = .ok (.istore 6, 2) := by decide +kernel
theorem d15 : decode yB 15 = .ok (.iload 6, 2) := by decide +kernel
theorem d17 : decode yB 17 = .ok (.sipush 255, 3) := by decide +kernel
theorem d20 : decode yB 20 = .ok (.if_icmp (.le) 6, 3) := by decide +kernel
theorem d26 : decode yB 26 = .ok (.aload_n 2, 1) := by decide +kernel
theorem d27 : decode yB 27 = .ok (.iload_n 3, 1) := by decide +kernel
theorem d28 : decode yB 28 = .ok (.iload 6, 2) := by decide +kernel
theorem d30 : decode yB 30 = .ok (.i2b, 1) := by decide +kernel
theorem d31 : decode yB 31 = .ok (.bastore, 1) := by decide +kernel
theorem d32 : decode yB 32 = .ok (.iinc 1 1, 3) := by decide +kernel
theorem d35 : decode yB 35 = .ok (.iinc 3 1, 3) := by decide +kernel
theorem d38 : decode yB 38 = .ok (.iinc 5 1, 3) := by decide +kernel
theorem d41 : decode yB 41 = .ok (.goto (-38), 3) := by decide +kernel
theorem d44 : decode yB 44 = .ok (.iload 4, 2) := by decide +kernel
theorem d46 : decode yB 46 = .ok (.ireturn, 1) := by decide +kernel
def site : List Cond := []
def tab : Cond := tabOf yN yB 7 (some .int) site
def P (b : Addr) (A : Cell) (d : Addr) (B : Cell) (o q len : Nat) (args : Array Value) (s : State) : Prop := args = #[.ref b, .int (Int32.ofNat o), .ref d, .int (Int32.ofNat q), .int (Int32.ofNat len)] ∧ Ch b A s ∧ Arr .byte d B s ∧ b ≠ d ∧ o + len ≤ A.slots.size ∧ q + len ≤ B.slots.size ∧ ∀ i, i < len → ¬ 255 < cv A (o + i)
def E (b : Addr) (A : Cell) (d : Addr) (B : Cell) (o q len : Nat) (r : Option Value) (s u : State) : Prop := r = some (.int (Int32.ofNat len)) ∧ ∃ B', Put d B' s u ∧ Laid B B' q (q + len) (fun j => Value.int (lo8 (cv A (o + (j - q)))))
/-- no char of the range above 255: len; the places written hold each char's low byte -/
theorem law (l : Launch) (b : Addr) (A : Cell) (d : Addr) (B : Cell) (o q len : Nat) : Law l yN 5 5 0 0 yB 7 (some .int) site (P b A d B o q len) (E b A d B o q len) (copyLocs d q len) 0 0 := by
  refine Law.of_walk (plainFor_of_name (by decide +kernel)) (by decide +kernel) (by decide +kernel) (by decide) (fun _ _ h => by rw [h.1]; rfl) (fun _ U U' hal hh h => ⟨h.1, h.2.1.mv hal hh, h.2.2.1.mv hal hh, h.2.2.2⟩) (fun r U U' V V' h1 hal h2 h => ⟨h.1, h.2.elim fun B' q => ⟨B', q.1.mv h1 h2, q.2⟩⟩) ?_
  intro p e s m args below meth c s₁ X0 hexec hbytes hml hret hlk hnm hown hh0 W hP
  obtain ⟨rfl, hA, hB, hne, l1, l2, hp⟩ := hP
  have c1 : Steps p.tables e below (s₁.setTop (entryFrame m #[.ref b, .int (Int32.ofNat o), .ref d, .int (Int32.ofNat q), .int (Int32.ofNat len)] 7)) (s₁.setTop (mkF m 0 #[.val (.ref b), .val (.int (Int32.ofNat o)), .val (.ref d), .val (.int (Int32.ofNat q)), .val (.int (Int32.ofNat len)), .unset, .unset] [])) := entry rfl
  have hA0 := hA.1.mv X0.warmed.alike hh0
  have hB0 := hB.mv X0.warmed.alike hh0
  have a31 := hA.1.2.2.2
  have c2 : Steps p.tables e below (s₁.setTop (entryFrame m #[.ref b, .int (Int32.ofNat o), .ref d, .int (Int32.ofNat q), .int (Int32.ofNat len)] 7)) (s₁.setTop (mkF m 3 #[.val (.ref b), .val (.int (Int32.ofNat o)), .val (.ref d), .val (.int (Int32.ofNat q)), .val (.int (Int32.ofNat len)), .val (.int 0), .unset] [])) := c1.trans (by
    refine iconstV X0.here hexec rfl 0 (hb hbytes d0) (by decide) ?_
    refine XS.istore X0.here hexec rfl (hb hbytes d1) rfl rfl ?_
    exact Steps.refl _)
  have loop : ∀ (r i : Nat), i + r = len → ∀ (z : Slot), (z = .unset ∨ ∃ w, z = .val w ∧ w.category = 1) → ∀ (Tl : State) (Bk : Cell), Stand p l e { frames := 0, locals := 0, cells := 0, slots := 0 } s m #[.ref b, .int (Int32.ofNat o), .ref d, .int (Int32.ofNat q), .int (Int32.ofNat len)] below meth c Tl ([] ++ copyLocs d q i) 0 0 → Put d Bk s₁ Tl → Laid B Bk q (q + i) (fun j => Value.int (lo8 (cv A (o + (j - q))))) →
      Steps p.tables e below (s₁.setTop (entryFrame m #[.ref b, .int (Int32.ofNat o), .ref d, .int (Int32.ofNat q), .int (Int32.ofNat len)] 7)) (Tl.setTop (mkF m 3 #[.val (.ref b), .val (.int (Int32.ofNat (o + i))), .val (.ref d), .val (.int (Int32.ofNat (q + i))), .val (.int (Int32.ofNat len)), .val (.int (Int32.ofNat i)), z] [])) → ∃ (T' : State) (B' : Cell) (z' : Slot), Stand p l e { frames := 0, locals := 0, cells := 0, slots := 0 } s m #[.ref b, .int (Int32.ofNat o), .ref d, .int (Int32.ofNat q), .int (Int32.ofNat len)] below meth c T' ([] ++ copyLocs d q len) 0 0 ∧ Put d B' s₁ T' ∧ Laid B B' q (q + len) (fun j => Value.int (lo8 (cv A (o + (j - q))))) ∧
      Steps p.tables e below (s₁.setTop (entryFrame m #[.ref b, .int (Int32.ofNat o), .ref d, .int (Int32.ofNat q), .int (Int32.ofNat len)] 7)) (T'.setTop (mkF m 3 #[.val (.ref b), .val (.int (Int32.ofNat (o + len))), .val (.ref d), .val (.int (Int32.ofNat (q + len))), .val (.int (Int32.ofNat len)), .val (.int (Int32.ofNat len)), z'] [])) := by
    intro r
    induction r with
    | zero =>
      intro i hi z hz Tl Bk Xl pl fl cl
      have hil : i = len := by omega
      rw [hil] at Xl fl cl
      exact ⟨Tl, Bk, z, Xl, pl, fl, cl⟩
    | succ r ih =>
      intro i hi z hz Tl Bk Xl pl fl cl
      have all := X0.warmed.alike.symm.trans Xl.warmed.alike
      have hAl := hA0.keep all (pl.other hne hA0.1)
      have hBk := hB0.like all pl.1 fl.1 fl.2.1 fl.2.2.1
      have hlt : q + i < Bk.slots.size := by rw [fl.2.2.1]; omega
      have c3 : Steps p.tables e below (s₁.setTop (entryFrame m #[.ref b, .int (Int32.ofNat o), .ref d, .int (Int32.ofNat q), .int (Int32.ofNat len)] 7)) (Tl.setTop (mkF m 12 #[.val (.ref b), .val (.int (Int32.ofNat (o + i))), .val (.ref d), .val (.int (Int32.ofNat (q + i))), .val (.int (Int32.ofNat len)), .val (.int (Int32.ofNat i)), z] [.int (Int32.ofNat (o + i)), .ref b])) := cl.trans (by
        refine XS.iload Xl.here hexec rfl (hb hbytes d3) rfl ?_
        refine XS.iload Xl.here hexec rfl (hb hbytes d5) rfl ?_
        refine XS.icmpNo Xl.here hexec rfl (hb hbytes d7) rfl (ii_ge_f (lt32 (by omega) (by omega))) ?_
        refine XS.aloadN Xl.here hexec rfl (hb hbytes d10) rfl rfl ?_
        refine XS.iloadN Xl.here hexec rfl (hb hbytes d11) rfl ?_
        exact Steps.refl _)
      have c4 : Steps p.tables e below (s₁.setTop (entryFrame m #[.ref b, .int (Int32.ofNat o), .ref d, .int (Int32.ofNat q), .int (Int32.ofNat len)] 7)) (Tl.setTop (mkF m 13 #[.val (.ref b), .val (.int (Int32.ofNat (o + i))), .val (.ref d), .val (.int (Int32.ofNat (q + i))), .val (.int (Int32.ofNat len)), .val (.int (Int32.ofNat i)), z] [.int (cv A (o + i))])) := c3.trans (by
        refine Xl.aget hexec hAl rfl (hA.get (i := o + i) (by omega)) rfl rfl (hb hbytes d12) ?_
        exact Steps.refl _)
      have c5 : Steps p.tables e below (s₁.setTop (entryFrame m #[.ref b, .int (Int32.ofNat o), .ref d, .int (Int32.ofNat q), .int (Int32.ofNat len)] 7)) (Tl.setTop (mkF m 15 #[.val (.ref b), .val (.int (Int32.ofNat (o + i))), .val (.ref d), .val (.int (Int32.ofNat (q + i))), .val (.int (Int32.ofNat len)), .val (.int (Int32.ofNat i)), .val (.int (cv A (o + i)))] [])) := c4.trans (by
        refine XS.istoreS Xl.here hexec rfl (hb hbytes d13) rfl rfl hz ?_
        exact Steps.refl _)
      have c6 : Steps p.tables e below (s₁.setTop (entryFrame m #[.ref b, .int (Int32.ofNat o), .ref d, .int (Int32.ofNat q), .int (Int32.ofNat len)] 7)) (Tl.setTop (mkF m 31 #[.val (.ref b), .val (.int (Int32.ofNat (o + i))), .val (.ref d), .val (.int (Int32.ofNat (q + i))), .val (.int (Int32.ofNat len)), .val (.int (Int32.ofNat i)), .val (.int (cv A (o + i)))] [.int (lo8 (cv A (o + i))), .int (Int32.ofNat (q + i)), .ref d])) := c5.trans (by
        refine XS.iload Xl.here hexec rfl (hb hbytes d15) rfl ?_
        refine sipushV Xl.here hexec rfl 255 (hb hbytes d17) (by decide) ?_
        refine XS.icmpYes Xl.here hexec rfl (pc0 := 20) rfl (hb hbytes d20) rfl (ii_le_t (hp i (by omega))) (by decide) rfl ?_
        refine XS.aloadN Xl.here hexec rfl (hb hbytes d26) rfl rfl ?_
        refine XS.iloadN Xl.here hexec rfl (hb hbytes d27) rfl ?_
        refine XS.iload Xl.here hexec rfl (hb hbytes d28) rfl ?_
        refine i2b Xl.here hexec rfl (hb hbytes d30) rfl ?_
        exact Steps.refl _)
      obtain ⟨T7, X7, p7, st7⟩ := Xl.aput hexec hBk rfl hlt rfl (fits_lo8 (cv A (o + i))) (g := (mkF m 31 #[.val (.ref b), .val (.int (Int32.ofNat (o + i))), .val (.ref d), .val (.int (Int32.ofNat (q + i))), .val (.int (Int32.ofNat len)), .val (.int (Int32.ofNat i)), .val (.int (cv A (o + i)))] [.int (lo8 (cv A (o + i))), .int (Int32.ofNat (q + i)), .ref d])) rfl (rest := []) rfl (hb hbytes d31)
      have c8 : Steps p.tables e below (s₁.setTop (entryFrame m #[.ref b, .int (Int32.ofNat o), .ref d, .int (Int32.ofNat q), .int (Int32.ofNat len)] 7)) (T7.setTop (mkF m 32 #[.val (.ref b), .val (.int (Int32.ofNat (o + i))), .val (.ref d), .val (.int (Int32.ofNat (q + i))), .val (.int (Int32.ofNat len)), .val (.int (Int32.ofNat i)), .val (.int (cv A (o + i)))] [])) := c6.trans (st7 _ (Steps.refl _))
      have c9 : Steps p.tables e below (s₁.setTop (entryFrame m #[.ref b, .int (Int32.ofNat o), .ref d, .int (Int32.ofNat q), .int (Int32.ofNat len)] 7)) (T7.setTop (mkF m 3 #[.val (.ref b), .val (.int (Int32.ofNat (o + i) + 1)), .val (.ref d), .val (.int (Int32.ofNat (q + i) + 1)), .val (.int (Int32.ofNat len)), .val (.int (Int32.ofNat i + 1)), .val (.int (cv A (o + i)))] [])) := c8.trans (by
        refine iincV X7.here hexec rfl 1 (hb hbytes d32) (by decide) rfl rfl ?_
        refine iincV X7.here hexec rfl 1 (hb hbytes d35) (by decide) rfl rfl ?_
        refine iincV X7.here hexec rfl 1 (hb hbytes d38) (by decide) rfl rfl ?_
        refine XS.goto X7.here hexec rfl (pc0 := 41) rfl (hb hbytes d41) (by decide) rfl ?_
        exact Steps.refl _)
      have c10 : Steps p.tables e below (s₁.setTop (entryFrame m #[.ref b, .int (Int32.ofNat o), .ref d, .int (Int32.ofNat q), .int (Int32.ofNat len)] 7)) (T7.setTop (mkF m 3 #[.val (.ref b), .val (.int (Int32.ofNat (o + (i + 1)))), .val (.ref d), .val (.int (Int32.ofNat (q + (i + 1)))), .val (.int (Int32.ofNat len)), .val (.int (Int32.ofNat (i + 1))), .val (.int (cv A (o + i)))] [])) := by
        have := c9
        rw [succ32, succ32, succ32] at this
        exact this
      exact ih (i + 1) (by omega) _ (Or.inr ⟨_, rfl, rfl⟩) T7 _ (by rw [copyLocs_step, ← List.append_assoc]; exact X7) (pl.trans p7) (fl.step (by omega) hlt (by simp)) c10
  obtain ⟨T9, B9, z9, X9, p9, f9, g9⟩ := loop len 0 (by omega) .unset (Or.inl rfl) s₁ B (by simpa [copyLocs] using X0) ⟨hB0.1, fun _ _ => rfl, rfl⟩ (Laid.zero _ _ _) c2
  have c11 : Steps p.tables e below (s₁.setTop (entryFrame m #[.ref b, .int (Int32.ofNat o), .ref d, .int (Int32.ofNat q), .int (Int32.ofNat len)] 7)) (T9.setTop (mkF m 46 #[.val (.ref b), .val (.int (Int32.ofNat (o + len))), .val (.ref d), .val (.int (Int32.ofNat (q + len))), .val (.int (Int32.ofNat len)), .val (.int (Int32.ofNat len)), z9] [.int (Int32.ofNat len)])) := g9.trans (by
    refine XS.iload X9.here hexec rfl (hb hbytes d3) rfl ?_
    refine XS.iload X9.here hexec rfl (hb hbytes d5) rfl ?_
    refine XS.icmpYes X9.here hexec rfl (pc0 := 7) rfl (hb hbytes d7) rfl (ii_ge_t (nlt32 (by omega) (Nat.le_refl _))) (by decide) rfl ?_
    refine XS.iload X9.here hexec rfl (hb hbytes d44) rfl ?_
    exact Steps.refl _)
  exact ⟨T9, some (.int (Int32.ofNat len)), _, _, _, X9, by simp, rfl, rfl, (fun h => by cases h), ⟨rfl, B9, p9.from hh0, f9⟩, fun fs hl => c11.trans (X9.ireturnOut hexec hret rfl (Or.inl rfl) (hb hbytes d46) hl)⟩
end Cmp5
namespace Cmp3
def yN : MethodName := ⟨"java/lang/StringUTF16", "compress", "([CII)[B"⟩
abbrev yB : ByteArray := jdk_52_method_16_code
theorem d0 : decode yB 0 = .ok (.iload_n 2, 1) := by decide +kernel
theorem d1 : decode yB 1 = .ok (.newarray .byte, 2) := by decide +kernel
theorem d3 : decode yB 3 = .ok (.astore_n 3, 1) := by decide +kernel
theorem d4 : decode yB 4 = .ok (.aload_n 0, 1) := by decide +kernel
theorem d5 : decode yB 5 = .ok (.iload_n 1, 1) := by decide +kernel
theorem d6 : decode yB 6 = .ok (.aload_n 3, 1) := by decide +kernel
theorem d7 : decode yB 7 = .ok (.iconst 0, 1) := by decide +kernel
theorem d8 : decode yB 8 = .ok (.iload_n 2, 1) := by decide +kernel
theorem d9 : decode yB 9 = .ok (.invokestatic 115, 3) := by decide +kernel
theorem d12 : decode yB 12 = .ok (.istore 4, 2) := by decide +kernel
theorem d14 : decode yB 14 = .ok (.iload 4, 2) := by decide +kernel
theorem d16 : decode yB 16 = .ok (.iload_n 2, 1) := by decide +kernel
theorem d17 : decode yB 17 = .ok (.if_icmp (.eq) 40, 3) := by decide +kernel
theorem d57 : decode yB 57 = .ok (.aload_n 3, 1) := by decide +kernel
theorem d58 : decode yB 58 = .ok (.areturn, 1) := by decide +kernel
def site : List Cond := [.arrayClass .byte, Cmp5.tab] ++ staticW U16 115 Cmp5.yN
def tab : Cond := tabOf yN yB 6 (some (.array .byte)) site
def P (b : Addr) (A : Cell) (o len : Nat) (args : Array Value) (s : State) : Prop := args = #[.ref b, .int (Int32.ofNat o), .int (Int32.ofNat len)] ∧ Ch b A s ∧ o + len ≤ A.slots.size ∧ len ≤ 536870912 ∧ ∀ i, i < len → ¬ 255 < cv A (o + i)
def E (b : Addr) (A : Cell) (o len : Nat) (r : Option Value) (s u : State) : Prop := NewArr .byte "[B" len (fun j => .int (lo8 (cv A (o + j)))) r s u ∧ u.heap.size = s.heap.size + 1
/-- no char of the range above 255: a new byte[] of their low bytes -/
theorem law (l : Launch) (b : Addr) (A : Cell) (o len : Nat) : Law l yN 3 3 1 18 yB 6 (some (.array .byte)) site (P b A o len) (E b A o len) [] 1 len := by
  refine Law.of_walk (plainFor_of_name (by decide +kernel)) (by decide +kernel) (by decide +kernel) (by decide) (fun _ _ h => by rw [h.1]; rfl) (fun _ U U' hal hh h => ⟨h.1, h.2.1.mv hal hh, h.2.2⟩) (fun r U U' V V' h1 hal h2 h => ⟨NewArr.mv r U U' V V' h1 hal h2 h.1, by rw [h1, h2]; exact h.2⟩) ?_
  intro p e s m args below meth c s₁ X0 hexec hbytes hml hret hlk hnm hown hh0 W hP
  obtain ⟨rfl, hA, l1, l2, hp⟩ := hP
  have a31 := hA.1.2.2.2
  have c1 : Steps p.tables e below (s₁.setTop (entryFrame m #[.ref b, .int (Int32.ofNat o), .int (Int32.ofNat len)] 6)) (s₁.setTop (mkF m 0 #[.val (.ref b), .val (.int (Int32.ofNat o)), .val (.int (Int32.ofNat len)), .unset, .unset, .unset] [])) := entry rfl
  have c2 : Steps p.tables e below (s₁.setTop (entryFrame m #[.ref b, .int (Int32.ofNat o), .int (Int32.ofNat len)] 6)) (s₁.setTop (mkF m 1 #[.val (.ref b), .val (.int (Int32.ofNat o)), .val (.int (Int32.ofNat len)), .unset, .unset, .unset] [.int (Int32.ofNat len)])) := c1.trans (by
    refine XS.iloadN X0.here hexec rfl (hb hbytes d0) rfl ?_
    exact Steps.refl _)
  obtain ⟨T3, B3, X3, ba3, bs3, bv3, bh3, bf3, st3⟩ := X0.anew hexec (atype := .byte) (wk W (.arrayClass .byte)) rfl (by show len * 1 ≤ _; omega) (by omega) (g := (mkF m 1 #[.val (.ref b), .val (.int (Int32.ofNat o)), .val (.int (Int32.ofNat len)), .unset, .unset, .unset] [.int (Int32.ofNat len)])) rfl (hb hbytes d1) (rest := []) rfl (Nat.le_refl _) (by show 0 + len ≤ len; omega)
  rw [hh0] at ba3 st3
  have kp3 : XT.Kept s T3 := (XT.Kept.of_eq hh0).push bh3
  have hA3 := hA.keep X3.warmed.alike (kp3 _ _ hA.1.1)
  have hne : b ≠ s.heap.size := hA.1.ne
  have c4 : Steps p.tables e below (s₁.setTop (entryFrame m #[.ref b, .int (Int32.ofNat o), .int (Int32.ofNat len)] 6)) (T3.setTop (mkF m 3 #[.val (.ref b), .val (.int (Int32.ofNat o)), .val (.int (Int32.ofNat len)), .unset, .unset, .unset] [.ref s.heap.size])) := c2.trans (st3 _ (Steps.refl _))
  have c5 : Steps p.tables e below (s₁.setTop (entryFrame m #[.ref b, .int (Int32.ofNat o), .int (Int32.ofNat len)] 6)) (T3.setTop (mkF m 9 #[.val (.ref b), .val (.int (Int32.ofNat o)), .val (.int (Int32.ofNat len)), .val (.ref s.heap.size), .unset, .unset] [.int (Int32.ofNat len), .int 0, .ref s.heap.size, .int (Int32.ofNat o), .ref b])) := c4.trans (by
    refine XS.astoreN X3.here hexec rfl (hb hbytes d3) rfl rfl rfl ?_
    refine XS.aloadN X3.here hexec rfl (hb hbytes d4) rfl rfl ?_
    refine XS.iloadN X3.here hexec rfl (hb hbytes d5) rfl ?_
    refine XS.aloadN X3.here hexec rfl (hb hbytes d6) rfl rfl ?_
    refine iconstV X3.here hexec rfl 0 (hb hbytes d7) (by decide) ?_
    refine XS.iloadN X3.here hexec rfl (hb hbytes d8) rfl ?_
    exact Steps.refl _)
  obtain ⟨v6, T6, X6, E6, g6⟩ := X3.callS hexec (Cmp5.law l b A s.heap.size B3 o 0 len) hown (wks W (staticW U16 115 Cmp5.yN)) (wk W Cmp5.tab) (W := 0) (Nat.le_of_ble_eq_true rfl) (Nat.le_of_ble_eq_true rfl) (Nat.le_refl _) (by show 0 + len + 0 ≤ len; omega) (g := (mkF m 9 #[.val (.ref b), .val (.int (Int32.ofNat o)), .val (.int (Int32.ofNat len)), .val (.ref s.heap.size), .unset, .unset] [.int (Int32.ofNat len), .int (Int32.ofNat 0), .ref s.heap.size, .int (Int32.ofNat o), .ref b])) rfl (by rw [hml]; rfl) c5 (argsL := [.ref b, .int (Int32.ofNat o), .ref s.heap.size, .int (Int32.ofNat 0), .int (Int32.ofNat len)]) (rest := []) rfl rfl (by show 2 * 0 + 0 ≤ _; decide) (hb hbytes d9) (⟨rfl, hA3, ba3, hne, l1, by rw [bs3]; simp, hp⟩)
  obtain ⟨rfl, B6, p6, f6⟩ := E6
  have c7 : Steps p.tables e below (s₁.setTop (entryFrame m #[.ref b, .int (Int32.ofNat o), .int (Int32.ofNat len)] 6)) (T6.setTop (mkF m 12 #[.val (.ref b), .val (.int (Int32.ofNat o)), .val (.int (Int32.ofNat len)), .val (.ref s.heap.size), .unset, .unset] [.int (Int32.ofNat len)])) := g6
  have c8 : Steps p.tables e below (s₁.setTop (entryFrame m #[.ref b, .int (Int32.ofNat o), .int (Int32.ofNat len)] 6)) (T6.setTop (mkF m 58 #[.val (.ref b), .val (.int (Int32.ofNat o)), .val (.int (Int32.ofNat len)), .val (.ref s.heap.size), .val (.int (Int32.ofNat len)), .unset] [.ref s.heap.size])) := c7.trans (by
    refine XS.istore X6.here hexec rfl (hb hbytes d12) rfl rfl ?_
    refine XS.iload X6.here hexec rfl (hb hbytes d14) rfl ?_
    refine XS.iloadN X6.here hexec rfl (hb hbytes d16) rfl ?_
    refine XS.icmpYes X6.here hexec rfl (pc0 := 17) rfl (hb hbytes d17) rfl (ii_eq_t rfl) (by decide) rfl ?_
    refine XS.aloadN X6.here hexec rfl (hb hbytes d57) rfl rfl ?_
    exact Steps.refl _)
  have X8 := X6.wide (L' := []) (cells' := 1) (slots' := len) (fun x hx hlt => by
    simp only [List.nil_append, copyLocs, List.mem_map, List.mem_range] at hx
    obtain ⟨i, -, rfl⟩ := hx
    exact absurd hlt (Nat.lt_irrefl _)) (Nat.le_refl _) (by omega)
  exact ⟨T6, some (.ref s.heap.size), _, _, _, X8, rfl, rfl, rfl, (fun h => by cases h), ⟨⟨rfl, B6, ba3.like (X3.warmed.alike.symm.trans X6.warmed.alike) p6.1 f6.1 f6.2.1 f6.2.2.1, f6.2.1.trans bv3, by rw [X6.warmed.alike.findClass, f6.1]; exact bf3, by rw [f6.2.2.1, bs3]; simp, fun j hj => by rw [f6.2.2.2 j, if_pos (by omega)]; rfl, kp3.put p6 (Nat.le_refl _)⟩, by rw [p6.2.2, bh3, hh0]; simp⟩, fun fs hl => c8.trans (X8.areturnOut hexec rfl hret rfl (hb hbytes d58) hl)⟩
end Cmp3
namespace CodL
def yN : MethodName := ⟨"java/lang/StringUTF16", "coderFromArrayLen", "([BI)B"⟩
abbrev yB : ByteArray := jdk_52_method_15_code
theorem d0 : decode yB 0 = .ok (.iload_n 1, 1) := by decide +kernel
theorem d1 : decode yB 1 = .ok (.aload_n 0, 1) := by decide +kernel
theorem d2 : decode yB 2 = .ok (.arraylength, 1) := by decide +kernel
theorem d3 : decode yB 3 = .ok (.isub, 1) := by decide +kernel
theorem d4 : decode yB 4 = .ok (.bipush 31, 2) := by decide +kernel
theorem d6 : decode yB 6 = .ok (.iushr, 1) := by decide +kernel
theorem d7 : decode yB 7 = .ok (.i2b, 1) := by decide +kernel
theorem d8 : decode yB 8 = .ok (.ireturn, 1) := by decide +kernel
def site : List Cond := []
def tab : Cond := tabOf yN yB 2 (some .byte) site
def P (d : Addr) (B : Cell) (args : Array Value) (s : State) : Prop := args = #[.ref d, .int (Int32.ofNat B.slots.size)] ∧ Arr .byte d B s
def E (r : Option Value) (s u : State) : Prop := XT.PureE (some (.int 0)) r s u
/-- an array as long as the number of chars: LATIN1 -/
theorem law (l : Launch) (d : Addr) (B : Cell) : Law l yN 2 2 0 0 yB 2 (some .byte) site (P d B) E [] 0 0 := by
  refine Law.of_walk (plainFor_of_name (by decide +kernel)) (by decide +kernel) (by decide +kernel) (by decide) (fun _ _ h => by rw [h.1]; rfl) (fun _ U U' hal hh h => ⟨h.1, h.2.mv hal hh⟩) (fun r U U' V V' h1 hal h2 h => XT.PureE.mv r U U' V V' h1 hal h2 h) ?_
  intro p e s m args below meth c s₁ X0 hexec hbytes hml hret hlk hnm hown hh0 W hP
  obtain ⟨rfl, hB⟩ := hP
  have hB0 := hB.mv X0.warmed.alike hh0
  have c1 : Steps p.tables e below (s₁.setTop (entryFrame m #[.ref d, .int (Int32.ofNat B.slots.size)] 2)) (s₁.setTop (mkF m 0 #[.val (.ref d), .val (.int (Int32.ofNat B.slots.size))] [])) := entry rfl
  have c2 : Steps p.tables e below (s₁.setTop (entryFrame m #[.ref d, .int (Int32.ofNat B.slots.size)] 2)) (s₁.setTop (mkF m 2 #[.val (.ref d), .val (.int (Int32.ofNat B.slots.size))] [.ref d, .int (Int32.ofNat B.slots.size)])) := c1.trans (by
    refine XS.iloadN X0.here hexec rfl (hb hbytes d0) rfl ?_
    refine XS.aloadN X0.here hexec rfl (hb hbytes d1) rfl rfl ?_
    exact Steps.refl _)
  have c3 : Steps p.tables e below (s₁.setTop (entryFrame m #[.ref d, .int (Int32.ofNat B.slots.size)] 2)) (s₁.setTop (mkF m 8 #[.val (.ref d), .val (.int (Int32.ofNat B.slots.size))] [.int (lo8 (ushr (Int32.ofNat B.slots.size - Int32.ofNat B.slots.size) 31))])) := c2.trans (by
    refine X0.alen hexec hB0 rfl rfl (hb hbytes d2) ?_
    refine XS.isub X0.here hexec rfl (hb hbytes d3) rfl ?_
    refine bipushV X0.here hexec rfl 31 (hb hbytes d4) (by decide) ?_
    refine iushr X0.here hexec rfl (hb hbytes d6) rfl ?_
    refine i2b X0.here hexec rfl (hb hbytes d7) rfl ?_
    exact Steps.refl _)
  have e0 : lo8 (ushr (Int32.ofNat B.slots.size - Int32.ofNat B.slots.size) 31) = 0 := by rw [Int32.sub_self]; decide
  rw [e0] at c3
  exact ⟨s₁, some (.int 0), _, _, _, X0, rfl, rfl, rfl, (fun h => by cases h), ⟨rfl, hh0⟩, fun fs hl => c3.trans (X0.ireturnOut hexec hret rfl (Or.inr (Or.inr (Or.inl rfl))) (hb hbytes d8) hl)⟩
end CodL
/-- the String at a is Latin-1 over a new byte[] (the heap's one new cell): the low bytes of the len chars of A from o on; every cell but a is kept -/
def Got (a : Addr) (D : Cell) (fV fC : Field) (A : Cell) (o len : Nat) (r : Option Value) (s u : State) : Prop := r = none ∧ ∃ D' V : Cell, Blank "java/lang/String" a D' u ∧ Same D D' [fV.slot, fC.slot] ∧ D'.slots[fV.slot]? = some (.ref s.heap.size) ∧ D'.slots[fC.slot]? = some (.int 0) ∧ Arr .byte s.heap.size V u ∧ V.vm = .none ∧ u.vm.findClass "[B" = some V.cls ∧ V.slots.size = len ∧ (∀ j, j < len → V.slots[j]? = some (.int (lo8 (cv A (o + j))))) ∧ (∀ (y : Addr) (c : Cell), y ≠ a → s.heap[y]? = some c → u.heap[y]? = some c) ∧ u.heap.size = s.heap.size + 1
theorem Got.mv {a : Addr} {D A : Cell} {fV fC : Field} {o len : Nat} : ∀ r (U U' V V' : State), U'.heap = U.heap → V.vm.Alike V'.vm → V'.heap = V.heap → Got a D fV fC A o len r U V → Got a D fV fC A o len r U' V' :=
  fun r U U' V V' h1 hal h2 ⟨e0, D', X, a1, a2, a3, a4, a5, a6, a7, a8, a9, a10, a11⟩ => ⟨e0, D', X, a1.mv hal h2, a2, by rw [h1]; exact a3, a4, by rw [h1]; exact a5.mv hal h2, a6, by rw [hal.findClass]; exact a7, a8, a9, by rw [h1, h2]; exact a10, by rw [h1, h2]; exact a11⟩
namespace New4
def yN : MethodName := ⟨"java/lang/String", "<init>", "([CIILjava/lang/Void;)V"⟩
abbrev yB : ByteArray := jdk_42_method_149_code
theorem d0 : decode yB 0 = .ok (.aload_n 0, 1) := by decide +kernel
theorem d1 : decode yB 1 = .ok (.invokespecial 1, 3) := by decide +kernel
theorem d4 : decode yB 4 = .ok (.iload_n 3, 1) := by decide +kernel
theorem d5 : decode yB 5 = .ok (.ifCond (.ne) 22, 3) := by decide +kernel
theorem d27 : decode yB 27 = .ok (.getstatic 38, 3) := by decide +kernel
theorem d30 : decode yB 30 = .ok (.ifCond (.eq) 28, 3) := by decide +kernel
theorem d33 : decode yB 33 = .ok (.aload_n 1, 1) := by decide +kernel
theorem d34 : decode yB 34 = .ok (.iload_n 2, 1) := by decide +kernel
theorem d35 : decode yB 35 = .ok (.iload_n 3, 1) := by decide +kernel
theorem d36 : decode yB 36 = .ok (.invokestatic 177, 3) := by decide +kernel
theorem d39 : decode yB 39 = .ok (.astore 5, 2) := by decide +kernel
theorem d41 : decode yB 41 = .ok (.aload_n 0, 1) := by decide +kernel
theorem d42 : decode yB 42 = .ok (.aload 5, 2) := by decide +kernel
theorem d44 : decode yB 44 = .ok (.iload_n 3, 1) := by decide +kernel
theorem d45 : decode yB 45 = .ok (.invokestatic 47, 3) := by decide +kernel
theorem d48 : decode yB 48 = .ok (.putfield 15, 3) := by decide +kernel
theorem d51 : decode yB 51 = .ok (.aload_n 0, 1) := by decide +kernel
theorem d52 : decode yB 52 = .ok (.aload 5, 2) := by decide +kernel
theorem d54 : decode yB 54 = .ok (.putfield 9, 3) := by decide +kernel
theorem d57 : decode yB 57 = .ok (.return_, 1) := by decide +kernel
def site : List Cond := [.fieldLink "java/lang/String" 38 "java/lang/String" "COMPACT_STRINGS" "Z", Cmp3.tab, CodL.tab, .laysFinal "java/lang/String" "java/lang/String" "value" "[B", .fieldLink "java/lang/String" 9 "java/lang/String" "value" "[B", .laysFinal "java/lang/String" "java/lang/String" "coder" "B", .fieldLink "java/lang/String" 15 "java/lang/String" "coder" "B"] ++ objW "java/lang/String" 1 ++ staticW "java/lang/String" 177 Cmp3.yN ++ staticW "java/lang/String" 47 CodL.yN
def tab : Cond := tabOf yN yB 6 none site
def P (a : Addr) (D : Cell) (fV fC : Field) (b : Addr) (A : Cell) (z : Int32) (o len : Nat) (args : Array Value) (s : State) : Prop := args = #[.ref a, .ref b, .int (Int32.ofNat o), .int (Int32.ofNat len), .null] ∧ Blank "java/lang/String" a D s ∧ Found "java/lang/String" "value" "[B" fV s ∧ Found "java/lang/String" "coder" "B" fC s ∧ Ch b A s ∧ StaticIs s "java/lang/String" "COMPACT_STRINGS" "Z" (.int z) ∧ ¬ z = 0 ∧ 0 < len ∧ o + len ≤ A.slots.size ∧ len ≤ 536870912 ∧ ∀ i, i < len → ¬ 255 < cv A (o + i)
def E (a : Addr) (D : Cell) (fV fC : Field) (A : Cell) (o len : Nat) (r : Option Value) (s u : State) : Prop := Got a D fV fC A o len r s u
/-- len > 0, no char of the range above 255: a Latin-1 String of their low bytes -/
theorem law (l : Launch) (a : Addr) (D : Cell) (fV fC : Field) (b : Addr) (A : Cell) (z : Int32) (o len : Nat) : Law l yN 5 4 2 35 yB 6 none site (P a D fV fC b A z o len) (E a D fV fC A o len) [⟨a, fC.slot⟩, ⟨a, fV.slot⟩] 1 len := by
  refine Law.of_walk (plainFor_of_name (by decide +kernel)) (by decide +kernel) (by decide +kernel) (by decide) (fun _ _ h => by rw [h.1]; rfl) (fun _ U U' hal hh h => ⟨h.1, h.2.1.mv hal hh, h.2.2.1.al hal, h.2.2.2.1.al hal, h.2.2.2.2.1.mv hal hh, h.2.2.2.2.2.1.there hal hh, h.2.2.2.2.2.2⟩) (fun r U U' V V' h1 hal h2 h => Got.mv r U U' V V' h1 hal h2 h) ?_
  intro p e s m args below meth c s₁ X0 hexec hbytes hml hret hlk hnm hown hh0 W hP
  obtain ⟨rfl, hB, f1, f2, hA, s1, hz, l0, l1, l2, hp⟩ := hP
  have a31 := hA.1.2.2.2
  have c1 : Steps p.tables e below (s₁.setTop (entryFrame m #[.ref a, .ref b, .int (Int32.ofNat o), .int (Int32.ofNat len), .null] 6)) (s₁.setTop (mkF m 0 #[.val (.ref a), .val (.ref b), .val (.int (Int32.ofNat o)), .val (.int (Int32.ofNat len)), .val .null, .unset] [])) := entry rfl
  have c2 : Steps p.tables e below (s₁.setTop (entryFrame m #[.ref a, .ref b, .int (Int32.ofNat o), .int (Int32.ofNat len), .null] 6)) (s₁.setTop (mkF m 1 #[.val (.ref a), .val (.ref b), .val (.int (Int32.ofNat o)), .val (.int (Int32.ofNat len)), .val .null, .unset] [.ref a])) := c1.trans (by
    refine XS.aloadN X0.here hexec rfl (hb hbytes d0) rfl rfl ?_
    exact Steps.refl _)
  obtain ⟨T3, X3, q3, st3⟩ := X0.oinit hexec hown (wks W (objW "java/lang/String" 1)) (g := (mkF m 1 #[.val (.ref a), .val (.ref b), .val (.int (Int32.ofNat o)), .val (.int (Int32.ofNat len)), .val .null, .unset] [.ref a])) rfl (by rw [hml]; rfl) (rest := []) rfl (hb hbytes d1) (W := 0) (by show 2 * 0 + 0 ≤ _; decide) (Nat.le_of_ble_eq_true rfl) (Nat.le_of_ble_eq_true rfl)
  have hh3 := q3.trans hh0
  have c4 : Steps p.tables e below (s₁.setTop (entryFrame m #[.ref a, .ref b, .int (Int32.ofNat o), .int (Int32.ofNat len), .null] 6)) (T3.setTop (mkF m 27 #[.val (.ref a), .val (.ref b), .val (.int (Int32.ofNat o)), .val (.int (Int32.ofNat len)), .val .null, .unset] [])) := (c2.trans (st3 _ (Steps.refl _))).trans (by
    refine XS.iloadN X3.here hexec rfl (hb hbytes d4) rfl ?_
    refine XS.ifYes X3.here hexec rfl (pc0 := 5) rfl (hb hbytes d5) rfl (i0_ne_t (nz32 (by omega) l0)) (by decide) rfl ?_
    exact Steps.refl _)
  obtain ⟨T5, X5, q5, st5⟩ := X3.sget hexec hown (wk W (.fieldLink "java/lang/String" 38 "java/lang/String" "COMPACT_STRINGS" "Z")) s1 (fun _ _ h => by rw [hh3]; exact h) (g := (mkF m 27 #[.val (.ref a), .val (.ref b), .val (.int (Int32.ofNat o)), .val (.int (Int32.ofNat len)), .val .null, .unset] [])) rfl (hb hbytes d27)
  have hh5 := q5.trans hh3
  have c6 : Steps p.tables e below (s₁.setTop (entryFrame m #[.ref a, .ref b, .int (Int32.ofNat o), .int (Int32.ofNat len), .null] 6)) (T5.setTop (mkF m 30 #[.val (.ref a), .val (.ref b), .val (.int (Int32.ofNat o)), .val (.int (Int32.ofNat len)), .val .null, .unset] [.int z])) := c4.trans (st5 _ (Steps.refl _))
  have c7 : Steps p.tables e below (s₁.setTop (entryFrame m #[.ref a, .ref b, .int (Int32.ofNat o), .int (Int32.ofNat len), .null] 6)) (T5.setTop (mkF m 36 #[.val (.ref a), .val (.ref b), .val (.int (Int32.ofNat o)), .val (.int (Int32.ofNat len)), .val .null, .unset] [.int (Int32.ofNat len), .int (Int32.ofNat o), .ref b])) := c6.trans (by
    refine XS.ifNo X5.here hexec rfl (hb hbytes d30) rfl (i0_eq_f hz) ?_
    refine XS.aloadN X5.here hexec rfl (hb hbytes d33) rfl rfl ?_
    refine XS.iloadN X5.here hexec rfl (hb hbytes d34) rfl ?_
    refine XS.iloadN X5.here hexec rfl (hb hbytes d35) rfl ?_
    exact Steps.refl _)
  obtain ⟨v8, T8, X8, E8, g8⟩ := X5.callS hexec (Cmp3.law l b A o len) hown (wks W (staticW "java/lang/String" 177 Cmp3.yN)) (wk W Cmp3.tab) (W := 0) (Nat.le_of_ble_eq_true rfl) (Nat.le_of_ble_eq_true rfl) (Nat.le_refl _) (by show 0 + len ≤ len; omega) (g := (mkF m 36 #[.val (.ref a), .val (.ref b), .val (.int (Int32.ofNat o)), .val (.int (Int32.ofNat len)), .val .null, .unset] [.int (Int32.ofNat len), .int (Int32.ofNat o), .ref b])) rfl (by rw [hml]; rfl) c7 (argsL := [.ref b, .int (Int32.ofNat o), .int (Int32.ofNat len)]) (rest := []) rfl rfl (by show 2 * 0 + 0 ≤ _; decide) (hb hbytes d36) (⟨rfl, hA.mv X5.warmed.alike hh5, l1, l2, hp⟩)
  obtain ⟨e8, z8⟩ := E8
  obtain ⟨rfl, N, n1, n2, n3, n4, n5, n6⟩ := NewArr.mv _ T5 s _ _ hh5.symm (Vm.Alike.refl _) rfl e8
  rw [hh5] at z8
  have hB1 := hB.keep X8.warmed.alike (n6 _ _ hB.1)
  have hne : s.heap.size ≠ a := (Nat.ne_of_lt (Array.getElem?_eq_some_iff.mp hB.1).1).symm
  have c9 : Steps p.tables e below (s₁.setTop (entryFrame m #[.ref a, .ref b, .int (Int32.ofNat o), .int (Int32.ofNat len), .null] 6)) (T8.setTop (mkF m 39 #[.val (.ref a), .val (.ref b), .val (.int (Int32.ofNat o)), .val (.int (Int32.ofNat len)), .val .null, .unset] [.ref s.heap.size])) := g8
  have c10 : Steps p.tables e below (s₁.setTop (entryFrame m #[.ref a, .ref b, .int (Int32.ofNat o), .int (Int32.ofNat len), .null] 6)) (T8.setTop (mkF m 45 #[.val (.ref a), .val (.ref b), .val (.int (Int32.ofNat o)), .val (.int (Int32.ofNat len)), .val .null, .val (.ref s.heap.size)] [.int (Int32.ofNat N.slots.size), .ref s.heap.size, .ref a])) := by
    have hc : Steps p.tables e below (s₁.setTop (entryFrame m #[.ref a, .ref b, .int (Int32.ofNat o), .int (Int32.ofNat len), .null] 6)) (T8.setTop (mkF m 45 #[.val (.ref a), .val (.ref b), .val (.int (Int32.ofNat o)), .val (.int (Int32.ofNat len)), .val .null, .val (.ref s.heap.size)] [.int (Int32.ofNat len), .ref s.heap.size, .ref a])) := c9.trans (by
      refine XS.astore X8.here hexec rfl (hb hbytes d39) rfl rfl rfl ?_
      refine XS.aloadN X8.here hexec rfl (hb hbytes d41) rfl rfl ?_
      refine XS.aload X8.here hexec rfl (hb hbytes d42) rfl rfl ?_
      refine XS.iloadN X8.here hexec rfl (hb hbytes d44) rfl ?_
      exact Steps.refl _)
    rw [n4]; exact hc
  obtain ⟨v11, T11, X11, E11, g11⟩ := X8.callS hexec (CodL.law l s.heap.size N) hown (wks W (staticW "java/lang/String" 47 CodL.yN)) (wk W CodL.tab) (W := 1) (Nat.le_of_ble_eq_true rfl) (Nat.le_of_ble_eq_true rfl) (Nat.le_refl _) (by show 0 + len + 0 ≤ len; omega) (g := (mkF m 45 #[.val (.ref a), .val (.ref b), .val (.int (Int32.ofNat o)), .val (.int (Int32.ofNat len)), .val .null, .val (.ref s.heap.size)] [.int (Int32.ofNat N.slots.size), .ref s.heap.size, .ref a])) rfl (by rw [hml]; rfl) c10 (argsL := [.ref s.heap.size, .int (Int32.ofNat N.slots.size)]) (rest := [.ref a]) rfl rfl (by show 2 * 0 + (1 + 0) ≤ _; decide) (hb hbytes d45) (⟨rfl, n1⟩)
  obtain ⟨rfl, q11⟩ := E11
  have hB11 := hB1.mv (X8.warmed.alike.symm.trans X11.warmed.alike) q11
  have c12 : Steps p.tables e below (s₁.setTop (entryFrame m #[.ref a, .ref b, .int (Int32.ofNat o), .int (Int32.ofNat len), .null] 6)) (T11.setTop (mkF m 48 #[.val (.ref a), .val (.ref b), .val (.int (Int32.ofNat o)), .val (.int (Int32.ofNat len)), .val .null, .val (.ref s.heap.size)] [.int 0, .ref a])) := g11
  obtain ⟨T13, X13, p13, bl13, sl13, st13⟩ := X11.finit hexec hown (wk W (.fieldLink "java/lang/String" 15 "java/lang/String" "coder" "B")) (Or.inr ⟨_, (wk W (.laysFinal "java/lang/String" "java/lang/String" "coder" "B"))⟩) (Or.inl ⟨rfl, hnm⟩) f2 (Or.inl rfl) hB11 (t := .byte) (by decide +kernel) rfl (g := (mkF m 48 #[.val (.ref a), .val (.ref b), .val (.int (Int32.ofNat o)), .val (.int (Int32.ofNat len)), .val .null, .val (.ref s.heap.size)] [.int 0, .ref a])) rfl (rest := []) rfl (hb hbytes d48)
  have c14 : Steps p.tables e below (s₁.setTop (entryFrame m #[.ref a, .ref b, .int (Int32.ofNat o), .int (Int32.ofNat len), .null] 6)) (T13.setTop (mkF m 54 #[.val (.ref a), .val (.ref b), .val (.int (Int32.ofNat o)), .val (.int (Int32.ofNat len)), .val .null, .val (.ref s.heap.size)] [.ref s.heap.size, .ref a])) := (c12.trans (st13 _ (Steps.refl _))).trans (by
    refine XS.aloadN X13.here hexec rfl (hb hbytes d51) rfl rfl ?_
    refine XS.aload X13.here hexec rfl (hb hbytes d52) rfl rfl ?_
    exact Steps.refl _)
  obtain ⟨T15, X15, p15, bl15, sl15, st15⟩ := X13.finit hexec hown (wk W (.fieldLink "java/lang/String" 9 "java/lang/String" "value" "[B")) (Or.inr ⟨_, (wk W (.laysFinal "java/lang/String" "java/lang/String" "value" "[B"))⟩) (Or.inl ⟨rfl, hnm⟩) f1 (Or.inl rfl) bl13 (t := (.array .byte)) (by decide +kernel) rfl (g := (mkF m 54 #[.val (.ref a), .val (.ref b), .val (.int (Int32.ofNat o)), .val (.int (Int32.ofNat len)), .val .null, .val (.ref s.heap.size)] [.ref s.heap.size, .ref a])) rfl (rest := []) rfl (hb hbytes d54)
  have c16 : Steps p.tables e below (s₁.setTop (entryFrame m #[.ref a, .ref b, .int (Int32.ofNat o), .int (Int32.ofNat len), .null] 6)) (T15.setTop (mkF m 57 #[.val (.ref a), .val (.ref b), .val (.int (Int32.ofNat o)), .val (.int (Int32.ofNat len)), .val .null, .val (.ref s.heap.size)] [])) := c14.trans (st15 _ (Steps.refl _))
  have ap := apart (Or.inr ⟨_, (wk W (.laysFinal "java/lang/String" "java/lang/String" "value" "[B"))⟩) (Or.inr ⟨_, (wk W (.laysFinal "java/lang/String" "java/lang/String" "coder" "B"))⟩) f1 f2 (t₁ := .array .byte) (t₂ := .byte) (by decide +kernel) (by decide +kernel) (by decide)
  have al := X8.warmed.alike.symm.trans X15.warmed.alike
  have n7 : T11.heap[s.heap.size]? = some N := by rw [q11]; exact n1.1
  exact ⟨T15, none, _, _, _, X15, by simp, rfl, by omega, (fun _ => rfl), ⟨rfl, _, N, bl15, ((Same.refl D _).set _ (by simp)).set _ (by simp), sl15, (Cell.slots_setSlot_ne _ ap).trans sl13, n1.keep al (p15.other hne (p13.other hne n7)), n2, by rw [al.findClass]; exact n3, n4, n5, fun y c h1 h2 => p15.other h1 (p13.other h1 (by rw [q11]; exact n6 y c h2)), by rw [p15.2.2, p13.2.2, q11]; exact z8⟩, fun fs hl => c16.trans (X15.returnOut hexec hret (hb hbytes d57) hl)⟩
end New4
namespace New1
def yN : MethodName := ⟨"java/lang/String", "<init>", "([C)V"⟩
abbrev yB : ByteArray := jdk_42_method_3_code
theorem d0 : decode yB 0 = .ok (.aload_n 0, 1) := by decide +kernel
theorem d1 : decode yB 1 = .ok (.aload_n 1, 1) := by decide +kernel
theorem d2 : decode yB 2 = .ok (.iconst 0, 1) := by decide +kernel
theorem d3 : decode yB 3 = .ok (.aload_n 1, 1) := by decide +kernel
theorem d4 : decode yB 4 = .ok (.arraylength, 1) := by decide +kernel
theorem d5 : decode yB 5 = .ok (.aconst_null, 1) := by decide +kernel
theorem d6 : decode yB 6 = .ok (.invokespecial 27, 3) := by decide +kernel
theorem d9 : decode yB 9 = .ok (.return_, 1) := by decide +kernel
def site : List Cond := [New4.tab] ++ initW "java/lang/String" 27 New4.yN
def tab : Cond := tabOf yN yB 2 none site
def P (a : Addr) (D : Cell) (fV fC : Field) (b : Addr) (A : Cell) (z : Int32) (args : Array Value) (s : State) : Prop := args = #[.ref a, .ref b] ∧ Blank "java/lang/String" a D s ∧ Found "java/lang/String" "value" "[B" fV s ∧ Found "java/lang/String" "coder" "B" fC s ∧ Ch b A s ∧ StaticIs s "java/lang/String" "COMPACT_STRINGS" "Z" (.int z) ∧ ¬ z = 0 ∧ 0 < A.slots.size ∧ A.slots.size ≤ 536870912 ∧ ∀ i, i < A.slots.size → ¬ 255 < cv A i
def E (a : Addr) (D : Cell) (fV fC : Field) (A : Cell) (r : Option Value) (s u : State) : Prop := Got a D fV fC A 0 A.slots.size r s u
/-- new String(chars), not empty, no char above 255: a Latin-1 String of their low bytes -/
theorem law (l : Launch) (a : Addr) (D : Cell) (fV fC : Field) (b : Addr) (A : Cell) (z : Int32) : Law l yN 2 1 3 52 yB 2 none site (P a D fV fC b A z) (E a D fV fC A) [⟨a, fC.slot⟩, ⟨a, fV.slot⟩] 1 A.slots.size := by
  refine Law.of_walk (plainFor_of_name (by decide +kernel)) (by decide +kernel) (by decide +kernel) (by decide) (fun _ _ h => by rw [h.1]; rfl) (fun _ U U' hal hh h => ⟨h.1, h.2.1.mv hal hh, h.2.2.1.al hal, h.2.2.2.1.al hal, h.2.2.2.2.1.mv hal hh, h.2.2.2.2.2.1.there hal hh, h.2.2.2.2.2.2⟩) (fun r U U' V V' h1 hal h2 h => Got.mv r U U' V V' h1 hal h2 h) ?_
  intro p e s m args below meth c s₁ X0 hexec hbytes hml hret hlk hnm hown hh0 W hP
  obtain ⟨rfl, hB, f1, f2, hA, s1, hz, l0, l2, hp⟩ := hP
  have c1 : Steps p.tables e below (s₁.setTop (entryFrame m #[.ref a, .ref b] 2)) (s₁.setTop (mkF m 0 #[.val (.ref a), .val (.ref b)] [])) := entry rfl
  have c2 : Steps p.tables e below (s₁.setTop (entryFrame m #[.ref a, .ref b] 2)) (s₁.setTop (mkF m 6 #[.val (.ref a), .val (.ref b)] [.null, .int (Int32.ofNat A.slots.size), .int 0, .ref b, .ref a])) := c1.trans (by
    refine XS.aloadN X0.here hexec rfl (hb hbytes d0) rfl rfl ?_
    refine XS.aloadN X0.here hexec rfl (hb hbytes d1) rfl rfl ?_
    refine iconstV X0.here hexec rfl 0 (hb hbytes d2) (by decide) ?_
    refine XS.aloadN X0.here hexec rfl (hb hbytes d3) rfl rfl ?_
    refine X0.alen hexec (hA.1.mv X0.warmed.alike hh0) rfl rfl (hb hbytes d4) ?_
    refine XS.aconstNull X0.here hexec rfl (hb hbytes d5) ?_
    exact Steps.refl _)
  obtain ⟨v3, T3, X3, E3, g3⟩ := X0.callN hexec (New4.law l a D fV fC b A z 0 A.slots.size) rfl hown (wks W (initW "java/lang/String" 27 New4.yN)) (W New4.tab (by simp only [site, List.mem_cons, List.mem_append, true_or, or_true])) (W := 0) (Nat.le_of_ble_eq_true rfl) (Nat.le_of_ble_eq_true rfl) (Nat.le_refl _) (by show 0 + A.slots.size ≤ A.slots.size; omega) (g := (mkF m 6 #[.val (.ref a), .val (.ref b)] [.null, .int (Int32.ofNat A.slots.size), .int (Int32.ofNat 0), .ref b, .ref a])) rfl (by rw [hml]; rfl) c2 (argsL := [.ref b, .int (Int32.ofNat 0), .int (Int32.ofNat A.slots.size), .null]) (rest := []) rfl rfl (by show 2 * 0 + 0 ≤ _; decide) (hb hbytes d6) (⟨rfl, hB.mv X0.warmed.alike hh0, f1.al X0.warmed.alike, f2.al X0.warmed.alike, hA.mv X0.warmed.alike hh0, s1.there X0.warmed.alike hh0, hz, l0, by omega, l2, fun i hi => by rw [Nat.zero_add]; exact hp i hi⟩)
  have e0 := Got.mv _ s₁ s _ _ hh0.symm (Vm.Alike.refl _) rfl E3
  obtain rfl := e0.1
  have c4 : Steps p.tables e below (s₁.setTop (entryFrame m #[.ref a, .ref b] 2)) (T3.setTop (mkF m 9 #[.val (.ref a), .val (.ref b)] [])) := g3
  exact ⟨T3, none, _, _, _, X3, by simp, rfl, by omega, (fun _ => rfl), e0, fun fs hl => c4.trans (X3.returnOut hexec hret (hb hbytes d9) hl)⟩
theorem pays {l : Launch} {R : Room} {p : Program} {e : Env} {below : List Frame} {s : State} {sargs : Array Value} {len W : Nat} (a : Addr) (D : Cell) (fV fC : Field) (b : Addr) (A : Cell) (z : Int32) (htab : tab.before sargs s = true) (hfr : 4 ≤ R.frames) (hlo : W + 65 ≤ R.locals) :
    Back l R p e below s sargs yN len W (fun A₁ a₁ => A₁.cells + 1 ≤ R.cells ∧ A₁.slots + A.slots.size ≤ R.slots ∧ P a D fV fC b A z a₁ A₁.U) (fun A₁ _ v₁ B₁ => E a D fV fC A v₁ A₁.U B₁.U ∧ B₁.locs = A₁.locs ++ [⟨a, fC.slot⟩, ⟨a, fV.slot⟩] ∧ B₁.cells = A₁.cells + 1 ∧ B₁.slots = A₁.slots + A.slots.size) :=
  (law l a D fV fC b A z).pays htab hfr (by omega)
end New1
/-- the byte, read back as charAt reads it, is the char -/
theorem lo8_mask {x : Int32} (h0 : ¬ x < 0) (h1 : ¬ 255 < x) : lo8 x &&& 255 = x := by
  have t : ∀ k : Fin 256, lo8 (Int32.ofNat k.val) &&& 255 = Int32.ofNat k.val := by decide +kernel
  rw [Int32.lt_iff_toInt_lt] at h0 h1
  have e0 : (0 : Int32).toInt = 0 := rfl
  have e1 : (255 : Int32).toInt = 255 := rfl
  obtain ⟨k, hk⟩ : ∃ k : Nat, x.toInt = k := ⟨x.toInt.toNat, by omega⟩
  have hx : x = Int32.ofNat k := Int32.toInt_inj.mp (by rw [hk, Int32.toInt_ofNat_small (by omega)])
  rw [hx]
  exact t ⟨k, by omega⟩
end StrChars
namespace StrChars.Road
open Jvm Sem ClassFile Op Lib Jvm.Stand Jvm.Free Jvm.Free.XT
open Jvm.Lib.Cold (StaticIs)
abbrev ST : String := "java/lang/String"
/-- every table word that New1's law asks, flat -/
abbrev words : List Jvm.Cond := [.code New1.yN New1.yB 2 none, .initialized ST, .methodLink ST 27 New4.yN, .instanceMethod New4.yN,
  .code New4.yN New4.yB 6 none, .fieldLink ST 38 ST "COMPACT_STRINGS" "Z", .laysFinal ST ST "value" "[B", .fieldLink ST 9 ST "value" "[B", .laysFinal ST ST "coder" "B", .fieldLink ST 15 ST "coder" "B",
  .methodLink ST 1 Lib.objectInit, .instanceMethod Lib.objectInit, .code Lib.objectInit ⟨#[0xb1]⟩ 1 none, .methodLink ST 177 Cmp3.yN, .static Cmp3.yN, .methodLink ST 47 CodL.yN, .static CodL.yN,
  .code Cmp3.yN Cmp3.yB 6 (some (.array .byte)), .initialized U16, .arrayClass .byte, .methodLink U16 115 Cmp5.yN, .static Cmp5.yN, .code Cmp5.yN Cmp5.yB 7 (some .int), .code CodL.yN CodL.yB 2 (some .byte)]
theorem tab_of {a : Array Value} {s : State} (h : ∀ w ∈ words, w.before a s = true) : New1.tab.before a s = true := by
  have h5 : Cmp5.tab.before a s = true := unparts (wk h (.code Cmp5.yN Cmp5.yB 7 (some .int))) (wks h (.initialized Cmp5.yN.cls :: Cmp5.site))
  have hc : CodL.tab.before a s = true := unparts (wk h (.code CodL.yN CodL.yB 2 (some .byte))) (wks h (.initialized CodL.yN.cls :: CodL.site))
  have q5 : ∀ w ∈ Cmp5.tab :: words, w.before a s = true := fun w hw => (List.mem_cons.mp hw).elim (fun e => e ▸ h5) (h w)
  have h3 : Cmp3.tab.before a s = true := unparts (wk q5 (.code Cmp3.yN Cmp3.yB 6 (some (.array .byte)))) (wks q5 (.initialized Cmp3.yN.cls :: Cmp3.site))
  have q3 : ∀ w ∈ Cmp3.tab :: CodL.tab :: words, w.before a s = true := fun w hw => (List.mem_cons.mp hw).elim (fun e => e ▸ h3) fun hw => (List.mem_cons.mp hw).elim (fun e => e ▸ hc) (h w)
  have h4 : New4.tab.before a s = true := unparts (wk q3 (.code New4.yN New4.yB 6 none)) (wks q3 (.initialized New4.yN.cls :: New4.site))
  have q4 : ∀ w ∈ New4.tab :: words, w.before a s = true := fun w hw => (List.mem_cons.mp hw).elim (fun e => e ▸ h4) (h w)
  exact unparts (wk q4 (.code New1.yN New1.yB 2 none)) (wks q4 (.initialized New1.yN.cls :: New1.site))
/-- the words ride from the start Z to the walk's own state -/
theorem moved {Z s : State} {a0 args : Array Value} (hZ : Z.Warmed39 s.vm) (hw : ∀ d ∈ words, d.before a0 Z = true) : ∀ d ∈ words, d.before args s = true := fun d hd => by
  have q := hw d hd
  have t : ∀ d ∈ words, d = .arrayClass .byte ∨ (d.onTables && d.keepsFace) = true := by decide +kernel
  rcases t d hd with rfl | t
  · exact RoadKit.mvA hZ q
  · exact RoadKit.mv hZ q t
/-- WHAT COMES BACK, over the tables of the start Z: h the heap at the call, h' behind it -/
def Q (Z : State) (x : Addr) (A : Cell) (h : Heap) (v : Option Value) (h' : Heap) (L : List Loc) : Prop := v = none ∧ (∀ y ∈ L, y.base = x) ∧ RoadKit.Keep h h' [x] ∧ h'.size = h.size + 1 ∧ RoadKit.Exa Z h' x ST ∧ RoadKit.Fld Z h' x ST "value" "[B" (.ref h.size) ∧ RoadKit.Fld Z h' x ST "coder" "B" (.int 0) ∧
  (∃ V : Cell, RoadKit.Arr Z h' h.size V .byte ∧ V.vm = .none ∧ Z.vm.findClass "[B" = some V.cls ∧ V.slots.size = A.slots.size ∧ ∀ j, j < A.slots.size → V.slots[j]? = some (.int (lo8 (cv A j)))) ∧
  ∀ (O n d : String) (w : Value), RoadKit.Fld Z h x O n d w → RoadKit.slotOf Z O n d ≠ RoadKit.slotOf Z ST "value" "[B" → RoadKit.slotOf Z O n d ≠ RoadKit.slotOf Z ST "coder" "B" → RoadKit.Fld Z h' x O n d w
/-- **new String(chars) AT A CALL, IN THE ROAD'S FORM**: for specialBack behind newO: x the fresh String, b the char[] with the cell A -/
theorem back {p : Program} {l : Launch} {e : Env} {R : Room} {s : State} {args : Array Value} {below : List Frame} {len W : Nat} {Z : State} {a0 : Array Value} {h : Heap} (hZ : Z.Warmed39 s.vm) (hw : ∀ d ∈ words, d.before a0 Z = true) {kI : Nat} (wi : (Jvm.Cond.instantiable ST kI).before a0 Z = true)
    {x b : Addr} {A : Cell} {z : Int32} {v0 c0 : Value} (E : RoadKit.Exa Z h x ST) (V : RoadKit.Fld Z h x ST "value" "[B" v0) (C : RoadKit.Fld Z h x ST "coder" "B" c0) (K : RoadKit.Arr Z h b A .char) (hty : Typed .char A) (S : RoadKit.Sta Z h ST "COMPACT_STRINGS" "Z" (.int z)) (hz : ¬ z = 0)
    (l0 : 0 < A.slots.size) (l2 : A.slots.size ≤ 536870912) (hp : ∀ i, i < A.slots.size → ¬ 255 < cv A i) (hfr : 4 ≤ R.frames) (hlo : W + 65 ≤ R.locals) :
    Back l R p e below s args New1.yN len W (fun P a => a = #[.ref x, .ref b] ∧ P.U.heap = h ∧ P.cells + 1 ≤ R.cells ∧ P.slots + A.slots.size ≤ R.slots)
      (fun P _ v B => ∃ L, Q Z x A h v B.U.heap L ∧ B.locs = P.locs ++ L ∧ B.cells = P.cells + 1 ∧ B.slots = P.slots + A.slots.size) := by
  intro m meth c P g ig mk a X hg hsize hdg hW hn hp'
  obtain ⟨rfl, rfl, r1, r2⟩ := hp'
  have al : Z.vm.Alike P.U.vm := hZ.alike.trans X.warmed.alike
  obtain ⟨D, cfV, kV, iV, fV, hD, gV, stV, knV, obV, asV, slV⟩ := id V
  obtain ⟨D', cfC, kC, iC, fC, hD', gC, stC, -, -, asC, slC⟩ := id C
  cases hD.symm.trans hD'
  obtain ⟨D2, kD, e1, e2, e3, e4, e5⟩ := id E
  cases hD.symm.trans e1
  obtain ⟨c2, k2, i1, i2, i3, -⟩ := Cond.instantiable_spec wi
  cases e2.symm.trans i1
  cases e3.symm.trans i2
  obtain ⟨kU, u1, u2⟩ := al.2.2 _ _ e3
  have hB : Blank ST x D P.U := ⟨hD, ⟨knV, fun q hq => by rw [hq] at obV; cases obV⟩, by rw [al.findClass]; exact e2, kU, u1, by rw [u2]; exact i3, by rw [u2]; exact e5 i3⟩
  have F1 : Found ST "value" "[B" fV P.U := ⟨SBG.found_only al ⟨cfV, kV, iV, gV⟩, stV⟩
  have F2 : Found ST "coder" "B" fC P.U := ⟨SBG.found_only al ⟨cfC, kC, iC, gC⟩, stC⟩
  have hA : Ch b A P.U := ⟨⟨K.1, State.isArrayOf_alike al K.2.1, K.2.2, by omega⟩, hty⟩
  have hS : StaticIs P.U ST "COMPACT_STRINGS" "Z" (.int z) := by
    obtain ⟨cfS, iS, kS, fS, st, cS, t1, t2, t3, t4, t5, t6, t7⟩ := S
    exact StaticIs.there (s := { Z with heap := P.U.heap }) ⟨cfS, iS, kS, fS, st, cS, t1, t2, t3, t4, t5, (fun q => by rw [q] at t6; cases t6), t7⟩ al rfl
  obtain ⟨v, B, X', ⟨⟨hv, E', V', q1, q2, q3, q4, q5, q6, q7, q8, q9, q10, q11⟩, hl, hc, hs⟩, st⟩ := New1.pays x D fV fC b A z (tab_of (moved hZ hw)) hfr hlo m meth c P g ig mk _ X hg hsize hdg hW hn ⟨r1, r2, rfl, hB, F1, F2, hA, hS, hz, l0, l2, hp⟩
  have al' : Z.vm.Alike B.U.vm := hZ.alike.trans X'.warmed.alike
  have hsz : E'.slots.size = D.slots.size := by
    obtain ⟨-, -, -, kB, w1, w2, w3⟩ := q1
    obtain ⟨kB', y1, y2⟩ := al'.2.2 _ _ e3
    rw [q2.2.1] at w1
    cases w1.symm.trans y1
    rw [w3, e5 i3, y2]
  refine ⟨v, B, X', ⟨_, ⟨hv, ?_, ⟨by omega, fun y cy hy hn' => q10 y cy (by simpa using hn') hy, fun y cy hy => ?_⟩, q11, ⟨E', _, q1.1, by rw [q2.2.1]; exact e2, by rw [q2.2.1]; exact e3, by rw [q2.1]; exact obV, fun _ => by rw [hsz]; exact e5 i3⟩,
    ⟨E', cfV, kV, iV, fV, q1.1, gV, stV, by rw [q2.1]; exact knV, by rw [q2.1]; exact obV, by rw [q2.2.1]; exact asV, q3⟩, ⟨E', cfC, kC, iC, fC, q1.1, gC, stC, by rw [q2.1]; exact knV, by rw [q2.1]; exact obV, by rw [q2.2.1]; exact asC, q4⟩,
    ⟨V', ⟨q5.1, State.isArrayOf_alike al'.symm q5.2.1, q5.2.2.1⟩, q6, by rw [← al'.findClass]; exact q7, q8, fun j hj => by have := q9 j hj; rwa [Nat.zero_add] at this⟩, fun O n d w F n1 n2 => ?_⟩, hl, hc, hs⟩, st⟩
  · intro y hy
    simp only [List.mem_cons, List.not_mem_nil, or_false] at hy
    rcases hy with rfl | rfl <;> rfl
  · by_cases q : y = x
    · subst q
      cases hD.symm.trans hy
      exact ⟨E', q1.1, q2.2.1, q2.1, hsz⟩
    · exact ⟨cy, q10 y cy q hy, rfl, rfl, rfl⟩
  · obtain ⟨D3, cf, k, i, f, g1, g2, g3, g4, g5, g6, g7⟩ := F
    cases hD.symm.trans g1
    simp only [RoadKit.slotOf, g2, gV, gC, Option.map_some, Option.getD_some] at n1 n2
    exact ⟨E', cf, k, i, f, q1.1, g2, g3, by rw [q2.1]; exact g4, by rw [q2.1]; exact g5, by rw [q2.2.1]; exact g6, by rw [q2.2.2 f.slot (by simp [n1, n2])]; exact g7⟩
end StrChars.Road
namespace StrChars.Road
open Jvm Sem ClassFile Op Lib Jvm.Stand Jvm.Free Jvm.Free.XT
/-- WHAT COMES BACK, the byte[] as a list of values -/
def QA (Z : State) (x : Addr) (zn : Int32) (cs : List Int32) (h : Heap) (v : Option Value) (h' : Heap) (L : List Loc) : Prop := v = none ∧ (∀ y ∈ L, y.base = x) ∧ RoadKit.Keep h h' [x] ∧ h'.size = h.size + 1 ∧ RoadKit.Exa Z h' x ST ∧ RoadKit.Fld Z h' x ST "value" "[B" (.ref h.size) ∧ RoadKit.Fld Z h' x ST "coder" "B" (.int 0) ∧
  (∃ kb, Z.vm.findClass "[B" = some kb ∧ RoadKit.Arv Z h' h.size kb .byte zn (cs.map fun c => .int (lo8 c)) (.int 0)) ∧
  ∀ (O n d : String) (w : Value), RoadKit.Fld Z h x O n d w → RoadKit.slotOf Z O n d ≠ RoadKit.slotOf Z ST "value" "[B" → RoadKit.slotOf Z O n d ≠ RoadKit.slotOf Z ST "coder" "B" → RoadKit.Fld Z h' x O n d w
/-- **new String(chars) AT A CALL, THE ARRAYS AS LISTS**: the char[] at b holds cs, not empty, no char above 255 -/
theorem backArv {p : Program} {l : Launch} {e : Env} {R : Room} {s : State} {args : Array Value} {below : List Frame} {len W : Nat} {Z : State} {a0 : Array Value} {h : Heap} (hZ : Z.Warmed39 s.vm) (hw : ∀ d ∈ words, d.before a0 Z = true) {kI : Nat} (wi : (Jvm.Cond.instantiable ST kI).before a0 Z = true)
    {x b : Addr} {k : ClassId} {zn z : Int32} {cs : List Int32} {dv v0 c0 : Value} (E : RoadKit.Exa Z h x ST) (V : RoadKit.Fld Z h x ST "value" "[B" v0) (C : RoadKit.Fld Z h x ST "coder" "B" c0) (K : RoadKit.Arv Z h b k .char zn (cs.map Value.int) dv) (S : RoadKit.Sta Z h ST "COMPACT_STRINGS" "Z" (.int z)) (hz : ¬ z = 0)
    (hlen : zn.toNatClampNeg = cs.length) (h0 : 0 < cs.length) (hbig : cs.length ≤ 536870912) (hall : ∀ c ∈ cs, ¬ 255 < c) (hfr : 4 ≤ R.frames) (hlo : W + 65 ≤ R.locals) :
    Back l R p e below s args New1.yN len W (fun P a => a = #[.ref x, .ref b] ∧ P.U.heap = h ∧ P.cells + 1 ≤ R.cells ∧ P.slots + cs.length ≤ R.slots)
      (fun P _ v B => ∃ L, QA Z x zn cs h v B.U.heap L ∧ B.locs = P.locs ++ L ∧ B.cells = P.cells + 1 ∧ B.slots = P.slots + cs.length) := by
  obtain ⟨A, K1, K2, K3, K4, K5, K6⟩ := K
  have e : A.slots.size = cs.length := K3.trans hlen
  have hat : ∀ (i : Nat) (hi : i < cs.length), A.slots[i]? = some (.int cs[i]) := fun i hi => by rw [K5 i (by omega)]; simp [List.getD_eq_getElem?_getD, hi]
  have hcv : ∀ (i : Nat) (hi : i < cs.length), cv A i = cs[i] := fun i hi => by unfold cv; rw [hat i hi]
  have hty : Typed .char A := fun i v hv => by
    have hi : i < A.slots.size := (Array.getElem?_eq_some_iff.mp hv).1
    have q := K5 i hi
    rw [hv] at q
    rw [Option.some.inj q]
    exact K6 i hi
  refine Back.mono (back hZ hw wi E V C K1 hty S hz (by omega) (by omega) (fun i hi => by rw [hcv i (by omega)]; exact hall _ (List.getElem_mem _)) hfr hlo) (fun P a hp => ⟨hp.1, hp.2.1, hp.2.2.1, by rw [e]; exact hp.2.2.2⟩) (fun P a v B hp hq => ?_)
  obtain ⟨L, ⟨q1, q2, q3, q4, q5, q6, q7, ⟨V', v1, v2, v3, v4, v5⟩, q9⟩, hl, hc, hs⟩ := hq
  refine ⟨L, ⟨q1, q2, q3, q4, q5, q6, q7, ⟨V'.cls, v3, V', v1, rfl, by rw [v4, e, hlen], K4, fun i hi => ?_, fun i hi => ?_⟩, q9⟩, hl, hc, by rw [hs, e]⟩
  · have hi' : i < cs.length := by omega
    rw [v5 i (by omega), hcv i hi']; simp [List.getD_eq_getElem?_getD, hi']
  · have hi' : i < cs.length := by omega
    simp only [List.getD_eq_getElem?_getD, List.getElem?_map, List.getElem?_eq_getElem hi', Option.map_some, Option.getD_some]
    exact fits_lo8 _
end StrChars.Road
namespace StrChars.Road
open Jvm Sem ClassFile Op Lib Jvm.Stand Jvm.Free Jvm.Free.XT
/-- WHAT COMES BACK, in the writer's own shape -/
def QV (Z : State) (x : Addr) (N : Int32) (bs : List Int32) (h : Heap) (n0 : Nat) (v : Option Value) (h' : Heap) (L : List Loc) : Prop := v = none ∧ RoadKit.Fr n0 L ∧ RoadKit.Keep h h' [x] ∧ RoadKit.Exa Z h' x ST ∧ RoadKit.Fld Z h' x ST "coder" "B" (.int 0) ∧
  ∃ (t : Addr) (kb : ClassId), n0 ≤ t ∧ h.size ≤ t ∧ ¬ t = x ∧ RoadKit.Fld Z h' x ST "value" "[B" (.ref t) ∧ RoadKit.Arv Z h' t kb .byte N (bs.map Value.int) (.int 0)
/-- **new String(chars) AT A CALL, FOR THE WRITER**: a char[] of n known ints, each 0 to 255 -/
theorem backV {p : Program} {l : Launch} {e : Env} {R : Room} {s : State} {args : Array Value} {below : List Frame} {len W : Nat} {Z : State} {a0 : Array Value} {h : Heap} (hZ : Z.Warmed39 s.vm) (hw : ∀ d ∈ words, d.before a0 Z = true) {kI : Nat} (wi : (Jvm.Cond.instantiable ST kI).before a0 Z = true)
    {x b : Addr} {kC : ClassId} {cs bs : List Int32} {d v0 c0 : Value} {z N : Int32} {n n0 : Nat} (hx0 : n0 ≤ x) (hh0 : n0 ≤ h.size) (E : RoadKit.Exa Z h x ST) (V : RoadKit.Fld Z h x ST "value" "[B" v0) (C : RoadKit.Fld Z h x ST "coder" "B" c0) (K : RoadKit.Arv Z h b kC .char N (cs.map Value.int) d) (S : RoadKit.Sta Z h ST "COMPACT_STRINGS" "Z" (.int z)) (hz : ¬ z = 0)
    (hn : cs.length = n) (hN : N = Int32.ofNat n) (l0 : 0 < n) (l2 : n ≤ 4000) (hp : ∀ c ∈ cs, ¬ c < 0 ∧ ¬ (255 : Int32) < c) (hb : bs = cs.map (fun c => c.toInt8.toInt32)) (hfr : 4 ≤ R.frames) (hlo : W + 65 ≤ R.locals) :
    Back l R p e below s args (⟨"java/lang/String", "<init>", "([C)V"⟩ : MethodName) len W (fun P a => a = #[.ref x, .ref b] ∧ P.U.heap = h ∧ P.cells + 1 ≤ R.cells ∧ P.slots + n ≤ R.slots)
      (fun P _ v B => ∃ L, QV Z x N bs h n0 v B.U.heap L ∧ B.locs = P.locs ++ L ∧ B.cells = P.cells + 1 ∧ B.slots = P.slots + n) := by
  subst hn hN hb
  refine Back.mono (backArv hZ hw wi E V C K S hz (n32 (by omega)) l0 (by omega) (fun c hc => (hp c hc).2) hfr hlo) (fun P a hp => hp) (fun P a v B hp hq => ?_)
  obtain ⟨L, ⟨q1, q2, q3, q4, q5, q6, q7, ⟨kb, v1, v2⟩, q9⟩, hl, hc, hs⟩ := hq
  exact ⟨L, ⟨q1, fun y hy => by rw [q2 y hy]; exact hx0, q3, q5, q7, h.size, kb, hh0, Nat.le_refl _, Nat.ne_of_gt E.lt, q6, by rw [List.map_map]; exact v2⟩, hl, hc, hs⟩
end StrChars.Road
namespace StrChars
open Jvm Sem ClassFile Op Lib Jvm.Stand Jvm.Free.XT Jvm.Free.ALB Jvm.Free.JM Jvm.Free
open Jvm.Lib.Cold (StaticIs)
def hi8 (x : Int32) : Int32 := lo8 (x >>> ((8 : Int32) &&& 31))
/-- what StringUTF16.getChar makes of two bytes -/
def pairCh (u v : Int32) : Int32 := (((u &&& 255) <<< ((0 : Int32) &&& 31)) ||| ((v &&& 255) <<< ((8 : Int32) &&& 31))).toUInt32.toUInt16.toUInt32.toInt32
theorem shr0 (c : Int32) : c >>> ((0 : Int32) &&& 31) = c := by
  have e : ((0 : Int32) &&& 31) = 0 := by decide
  rw [e]
  apply Int32.toBitVec_inj.mp
  rw [Int32.toBitVec_shiftRight]
  have e1 : ((0 : Int32).toBitVec.smod 32) = 0#32 := by decide
  rw [e1, BitVec.sshiftRight_eq']
  exact BitVec.sshiftRight_zero
theorem lo8_and (x : Int32) : (lo8 x &&& 255).toBitVec.toNat = x.toBitVec.toNat % 256 := by
  have h : (lo8 x).toBitVec = (x.toBitVec.signExtend 8).signExtend 32 := by rw [lo8, Int8.toBitVec_toInt32, Int32.toBitVec_toInt8]
  rw [Int32.toBitVec_and, BitVec.toNat_and, h]
  have e : ((x.toBitVec.signExtend 8).signExtend 32).toNat % 256 = x.toBitVec.toNat % 256 := by
    rw [BitVec.toNat_signExtend]
    have hlt := x.toBitVec.isLt
    simp only [BitVec.toNat_setWidth, BitVec.toNat_signExtend]
    split <;> split <;> omega
  rw [← e]
  exact Nat.and_two_pow_sub_one_eq_mod _ 8
theorem pair_says {c : Int32} (h0 : ¬ c < 0) (h1 : ¬ 65535 < c) : pairCh (lo8 c) (hi8 c) = c := by
  rw [Int32.lt_iff_toInt_lt] at h0 h1
  have e0 : (0 : Int32).toInt = 0 := rfl
  have e1 : (65535 : Int32).toInt = 65535 := rfl
  have hc : c.toInt = c.toBitVec.toNat := by
    have := c.toBitVec.isLt
    have e : c.toInt = c.toBitVec.toInt := rfl
    rw [e] at h0 h1
    rw [e]
    rw [BitVec.toInt_eq_toNat_cond] at h0 h1 ⊢
    split at h0 <;> split <;> omega
  have hn : c.toBitVec.toNat < 65536 := by omega
  have a1 := lo8_and c
  have a2 : (hi8 c &&& 255).toBitVec.toNat = c.toBitVec.toNat / 256 := by
    rw [hi8, lo8_and]
    have e : ((8 : Int32) &&& 31) = 8 := by decide
    rw [e, Int32.toBitVec_shiftRight]
    have e2 : ((8 : Int32).toBitVec.smod 32) = 8#32 := by decide
    rw [e2, BitVec.sshiftRight_eq', BitVec.toNat_sshiftRight_of_msb_false (by rw [BitVec.msb_eq_false_iff_two_mul_lt]; omega)]
    show c.toBitVec.toNat >>> 8 % 256 = _
    rw [Nat.shiftRight_eq_div_pow]
    omega
  unfold pairCh
  apply Int32.toBitVec_inj.mp
  apply BitVec.eq_of_toNat_eq
  have f0 : ((0 : Int32) &&& 31) = 0 := by decide
  have f8 : ((8 : Int32) &&& 31) = 8 := by decide
  rw [f0, f8]
  have g : (((lo8 c &&& 255) <<< (0 : Int32)) ||| ((hi8 c &&& 255) <<< (8 : Int32))).toBitVec.toNat = c.toBitVec.toNat := by
    rw [Int32.toBitVec_or, Int32.toBitVec_shiftLeft, Int32.toBitVec_shiftLeft]
    have s0 : ((0 : Int32).toBitVec.smod 32) = 0#32 := by decide
    have s8 : ((8 : Int32).toBitVec.smod 32) = 8#32 := by decide
    rw [s0, s8, BitVec.toNat_or]
    simp only [BitVec.shiftLeft_eq', BitVec.toNat_shiftLeft, a1, a2]
    show (c.toBitVec.toNat % 256) <<< 0 % 2 ^ 32 ||| (c.toBitVec.toNat / 256) <<< 8 % 2 ^ 32 = _
    rw [Nat.shiftLeft_zero, Nat.mod_eq_of_lt (show c.toBitVec.toNat % 256 < 2 ^ 32 by omega), Nat.mod_eq_of_lt (show (c.toBitVec.toNat / 256) <<< 8 < 2 ^ 32 by rw [Nat.shiftLeft_eq]; omega), Nat.or_comm, ← Nat.shiftLeft_add_eq_or_of_lt (by omega), Nat.shiftLeft_eq]
    omega
  show BitVec.toNat (((((lo8 c &&& 255) <<< (0 : Int32)) ||| ((hi8 c &&& 255) <<< (8 : Int32))).toBitVec.setWidth 16).setWidth 32) = _
  rw [BitVec.toNat_setWidth, BitVec.toNat_setWidth, g]
  omega
end StrChars
namespace StrChars
open Jvm Sem ClassFile Op Lib Jvm.Stand Jvm.Free.XT Jvm.Free.ALB Jvm.Free.JM Jvm.Free
open Jvm.Lib.Cold (StaticIs)
theorem shr1 {n : Nat} (h : 2 * n < 2 ^ 31) : Int32.ofNat (2 * n) >>> ((1 : Int32) &&& 31) = Int32.ofNat n := by
  have e : ((1 : Int32) &&& 31) = 1 := by decide
  rw [e]
  apply Int32.toBitVec_inj.mp
  rw [Int32.toBitVec_shiftRight]
  have e1 : ((1 : Int32).toBitVec.smod 32) = 1#32 := by decide
  have hm : (BitVec.ofNat 32 (2 * n)).toNat = 2 * n := by rw [BitVec.toNat_ofNat, Nat.mod_eq_of_lt (by omega)]
  rw [e1, BitVec.sshiftRight_eq']
  apply BitVec.eq_of_toNat_eq
  show ((BitVec.ofNat 32 (2 * n)).sshiftRight 1).toNat = (BitVec.ofNat 32 n).toNat
  rw [BitVec.toNat_sshiftRight_of_msb_false (by rw [BitVec.msb_eq_false_iff_two_mul_lt, hm]; omega), hm, BitVec.toNat_ofNat, Nat.shiftRight_eq_div_pow]
  omega
/-- charAt's cast of a byte read back -/
def chr8 (u : Int32) : Int32 := (u &&& 255).toUInt32.toUInt16.toUInt32.toInt32
theorem chr8_lo8 {c : Int32} (h0 : ¬ c < 0) (h1 : ¬ 255 < c) : chr8 (lo8 c) = c := by
  have t : ∀ k : Fin 256, (Int32.ofNat k.val).toUInt32.toUInt16.toUInt32.toInt32 = Int32.ofNat k.val := by decide +kernel
  unfold chr8
  rw [lo8_mask h0 h1]
  rw [Int32.lt_iff_toInt_lt] at h0 h1
  have e0 : (0 : Int32).toInt = 0 := rfl
  have e1 : (255 : Int32).toInt = 255 := rfl
  obtain ⟨k, hk⟩ : ∃ k : Nat, c.toInt = k := ⟨c.toInt.toNat, by omega⟩
  have hx : c = Int32.ofNat k := Int32.toInt_inj.mp (by rw [hk, Int32.toInt_ofNat_small (by omega)])
  rw [hx]
  exact t ⟨k, by omega⟩
theorem narrow_ch {c : Int32} (h0 : ¬ c < 0) (h1 : ¬ 65535 < c) : narrow .char (.int c) = .int c := by
  have q : narrow .char (.int (pairCh (lo8 c) (hi8 c))) = .int (pairCh (lo8 c) (hi8 c)) := narrow_c _
  rwa [pair_says h0 h1] at q
/-- the array's cell V codes the n chars f 0 .. f (n - 1) by the coder cd, as the JDK does: coder 1 just where some char is above 255 -/
def Cod (cd : Int32) (n : Nat) (f : Nat → Int32) (V : Cell) : Prop := (cd = 0 ∧ V.slots.size = n ∧ ∀ j, j < n → V.slots[j]? = some (.int (lo8 (f j))) ∧ ¬ 255 < f j) ∨ (cd = 1 ∧ V.slots.size = 2 * n ∧ (∀ j, j < n → V.slots[2 * j]? = some (.int (lo8 (f j))) ∧ V.slots[2 * j + 1]? = some (.int (hi8 (f j)))) ∧ ∃ j, j < n ∧ 255 < f j)
theorem Cod.cd {cd : Int32} {n : Nat} {f : Nat → Int32} {V : Cell} (h : Cod cd n f V) : cd = 0 ∨ cd = 1 := h.imp (fun q => q.1) fun q => q.1
theorem Cod.len {cd : Int32} {n : Nat} {f : Nat → Int32} {V : Cell} (h : Cod cd n f V) (hs : V.slots.size < 2 ^ 31) : Int32.ofNat V.slots.size >>> (cd &&& 31) = Int32.ofNat n := by
  rcases h with ⟨rfl, h, -⟩ | ⟨rfl, h, -⟩
  · rw [shr0, h]
  · rw [h, shr1 (by omega)]
/-- **x is a String of the n chars f 0 .. f (n - 1)**, Latin-1 or UTF-16; its array at t has the cell V -/
def Txt (x t : Addr) (V : Cell) (cd : Int32) (n : Nat) (f : Nat → Int32) (U : State) : Prop := Exact "java/lang/String" x U ∧ Has x "java/lang/String" "value" "[B" (.ref t) U ∧ Has x "java/lang/String" "coder" "B" (.int cd) U ∧ XT.Arr .byte t V U ∧ Cod cd n f V ∧ ∀ j, j < n → ¬ f j < 0 ∧ ¬ 65535 < f j
theorem Txt.mv {x t : Addr} {V : Cell} {cd : Int32} {n : Nat} {f : Nat → Int32} {U U' : State} (h : Txt x t V cd n f U) (hal : U.vm.Alike U'.vm) (hh : U'.heap = U.heap) : Txt x t V cd n f U' := ⟨h.1.mv hal hh, h.2.1.mv hal hh, h.2.2.1.mv hal hh, h.2.2.2.1.mv hal hh, h.2.2.2.2⟩
namespace Cdr
def yN : MethodName := ⟨"java/lang/String", "coder", "()B"⟩
abbrev yB : ByteArray := jdk_42_method_152_code
theorem d0 : decode yB 0 = .ok (.getstatic 38, 3) := by decide +kernel
theorem d3 : decode yB 3 = .ok (.ifCond (.eq) 10, 3) := by decide +kernel
theorem d6 : decode yB 6 = .ok (.aload_n 0, 1) := by decide +kernel
theorem d7 : decode yB 7 = .ok (.getfield 15, 3) := by decide +kernel
theorem d10 : decode yB 10 = .ok (.goto 4, 3) := by decide +kernel
theorem d14 : decode yB 14 = .ok (.ireturn, 1) := by decide +kernel
def site : List Cond := [.fieldLink "java/lang/String" 38 "java/lang/String" "COMPACT_STRINGS" "Z", .fieldLink "java/lang/String" 15 "java/lang/String" "coder" "B"]
def tab : Cond := tabOf yN yB 1 (some .byte) site
def P (x : Addr) (cd z : Int32) (args : Array Value) (s : State) : Prop := args = #[.ref x] ∧ Has x "java/lang/String" "coder" "B" (.int cd) s ∧ (cd = 0 ∨ cd = 1) ∧ StaticIs s "java/lang/String" "COMPACT_STRINGS" "Z" (.int z) ∧ ¬ z = 0
def E (cd : Int32) (r : Option Value) (s u : State) : Prop := XT.PureE (some (.int cd)) r s u
theorem law (l : Launch) (x : Addr) (cd z : Int32) : Law l yN 1 0 0 0 yB 1 (some .byte) site (P x cd z) (E cd) [] 0 0 := by
  refine Law.of_walk (plainFor_of_name (by decide +kernel)) (by decide +kernel) (by decide +kernel) (by decide) (fun _ _ h => by rw [h.1]; rfl) (fun _ U U' hal hh h => ⟨h.1, h.2.1.mv hal hh, h.2.2.1, h.2.2.2.1.there hal hh, h.2.2.2.2⟩) (fun r U U' V V' h1 hal h2 h => XT.PureE.mv r U U' V V' h1 hal h2 h) ?_
  intro p e s m args below meth c s₁ X0 hexec hbytes hml hret hlk hnm hown hh0 W hP
  obtain ⟨rfl, hx, hc, s1, hz⟩ := hP
  have c1 : Steps p.tables e below (s₁.setTop (entryFrame m #[.ref x] 1)) (s₁.setTop (mkF m 0 #[.val (.ref x)] [])) := entry rfl
  obtain ⟨T2, X2, q2, st2⟩ := X0.sget hexec hown (wk W (.fieldLink "java/lang/String" 38 "java/lang/String" "COMPACT_STRINGS" "Z")) s1 (fun _ _ h => by rw [hh0]; exact h) (g := (mkF m 0 #[.val (.ref x)] [])) rfl (hb hbytes d0)
  have hh2 := q2.trans hh0
  have c3 : Steps p.tables e below (s₁.setTop (entryFrame m #[.ref x] 1)) (T2.setTop (mkF m 7 #[.val (.ref x)] [.ref x])) := (c1.trans (st2 _ (Steps.refl _))).trans (by
    refine XS.ifNo X2.here hexec rfl (hb hbytes d3) rfl (i0_eq_f hz) ?_
    refine XS.aloadN X2.here hexec rfl (hb hbytes d6) rfl rfl ?_
    exact Steps.refl _)
  obtain ⟨T4, X4, q4, st4⟩ := X2.hget hexec hown (wk W (.fieldLink "java/lang/String" 15 "java/lang/String" "coder" "B")) (hx.mv X2.warmed.alike hh2) (g := (mkF m 7 #[.val (.ref x)] [.ref x])) rfl (rest := []) rfl (hb hbytes d7)
  have c5 : Steps p.tables e below (s₁.setTop (entryFrame m #[.ref x] 1)) (T4.setTop (mkF m 14 #[.val (.ref x)] [.int cd])) := (c3.trans (st4 _ (Steps.refl _))).trans (by
    refine XS.goto X4.here hexec rfl (pc0 := 10) rfl (hb hbytes d10) (by decide) rfl ?_
    exact Steps.refl _)
  exact ⟨T4, some (.int cd), _, _, _, X4, rfl, rfl, rfl, (fun h => by cases h), ⟨rfl, q4.trans hh2⟩, fun fs hl => c5.trans (X4.ireturnOut hexec hret (by rcases hc with rfl | rfl <;> rfl) (Or.inr (Or.inr (Or.inl rfl))) (hb hbytes d14) hl)⟩
end Cdr
namespace Len
def yN : MethodName := ⟨"java/lang/String", "length", "()I"⟩
abbrev yB : ByteArray := jdk_42_method_54_code
theorem d0 : decode yB 0 = .ok (.aload_n 0, 1) := by decide +kernel
theorem d1 : decode yB 1 = .ok (.getfield 9, 3) := by decide +kernel
theorem d4 : decode yB 4 = .ok (.arraylength, 1) := by decide +kernel
theorem d5 : decode yB 5 = .ok (.aload_n 0, 1) := by decide +kernel
theorem d6 : decode yB 6 = .ok (.invokevirtual 335, 3) := by decide +kernel
theorem d9 : decode yB 9 = .ok (.ishr, 1) := by decide +kernel
theorem d10 : decode yB 10 = .ok (.ireturn, 1) := by decide +kernel
def site : List Cond := [.fieldLink "java/lang/String" 9 "java/lang/String" "value" "[B", Cdr.tab] ++ virtW "java/lang/String" 335 "java/lang/String" Cdr.yN Cdr.yN
def tab : Cond := tabOf yN yB 1 (some .int) site
def P (x t : Addr) (V : Cell) (cd : Int32) (n : Nat) (f : Nat → Int32) (z : Int32) (args : Array Value) (s : State) : Prop := args = #[.ref x] ∧ Txt x t V cd n f s ∧ StaticIs s "java/lang/String" "COMPACT_STRINGS" "Z" (.int z) ∧ ¬ z = 0
def E (n : Nat) (r : Option Value) (s u : State) : Prop := XT.PureE (some (.int (Int32.ofNat n))) r s u
/-- length() of a String of n chars, in either coding -/
theorem law (l : Launch) (x t : Addr) (V : Cell) (cd : Int32) (n : Nat) (f : Nat → Int32) (z : Int32) : Law l yN 1 0 1 13 yB 1 (some .int) site (P x t V cd n f z) (E n) [] 0 0 := by
  refine Law.of_walk (plainFor_of_name (by decide +kernel)) (by decide +kernel) (by decide +kernel) (by decide) (fun _ _ h => by rw [h.1]; rfl) (fun _ U U' hal hh h => ⟨h.1, h.2.1.mv hal hh, h.2.2.1.there hal hh, h.2.2.2⟩) (fun r U U' V V' h1 hal h2 h => XT.PureE.mv r U U' V V' h1 hal h2 h) ?_
  intro p e s m args below meth c s₁ X0 hexec hbytes hml hret hlk hnm hown hh0 W hP
  obtain ⟨rfl, hx, s1, hz⟩ := hP
  have v31 := hx.2.2.2.1.2.2.2
  have c1 : Steps p.tables e below (s₁.setTop (entryFrame m #[.ref x] 1)) (s₁.setTop (mkF m 1 #[.val (.ref x)] [.ref x])) := Steps.trans (entry rfl) (by
    show Steps p.tables e below (s₁.setTop (mkF m 0 #[.val (.ref x)] [])) _
    refine XS.aloadN X0.here hexec rfl (hb hbytes d0) rfl rfl ?_
    exact Steps.refl _)
  obtain ⟨T2, X2, q2, st2⟩ := X0.hget hexec hown (wk W (.fieldLink "java/lang/String" 9 "java/lang/String" "value" "[B")) (hx.mv X0.warmed.alike hh0).2.1 (g := (mkF m 1 #[.val (.ref x)] [.ref x])) rfl (rest := []) rfl (hb hbytes d1)
  have hh2 := q2.trans hh0
  have hx2 := hx.mv X2.warmed.alike hh2
  have c3 : Steps p.tables e below (s₁.setTop (entryFrame m #[.ref x] 1)) (T2.setTop (mkF m 6 #[.val (.ref x)] [.ref x, .int (Int32.ofNat V.slots.size)])) := (c1.trans (st2 _ (Steps.refl _))).trans (by
    refine X2.alen hexec hx2.2.2.2.1 rfl rfl (hb hbytes d4) ?_
    refine XS.aloadN X2.here hexec rfl (hb hbytes d5) rfl rfl ?_
    exact Steps.refl _)
  obtain ⟨v4, T4, X4, E4, g4⟩ := X2.callV hexec (Cdr.law l x cd z) hown (wks W (virtW "java/lang/String" 335 "java/lang/String" Cdr.yN Cdr.yN)) rfl (by decide) (wk W Cdr.tab) (W := 1) (Nat.le_of_ble_eq_true rfl) (Nat.le_of_ble_eq_true rfl) (Nat.le_refl _) (Nat.le_refl _) (hx2.1.fc X2.warmed.alike) hx2.1.is (g := (mkF m 6 #[.val (.ref x)] [.ref x, .int (Int32.ofNat V.slots.size)])) rfl (by rw [hml]; rfl) c3 (argsL := []) (rest := [.int (Int32.ofNat V.slots.size)]) rfl rfl (by show 2 * 0 + (1 + 0) ≤ _; decide) (hb hbytes d6) (⟨rfl, hx2.2.2.1, hx.2.2.2.2.1.cd, s1.there X2.warmed.alike hh2, hz⟩)
  obtain ⟨rfl, q4⟩ := E4
  have c5 : Steps p.tables e below (s₁.setTop (entryFrame m #[.ref x] 1)) (T4.setTop (mkF m 10 #[.val (.ref x)] [.int (Int32.ofNat V.slots.size >>> (cd &&& 31))])) := Steps.trans g4 (by
    refine ishr X4.here hexec rfl (hb hbytes d9) rfl ?_
    exact Steps.refl _)
  rw [hx.2.2.2.2.1.len v31] at c5
  exact ⟨T4, some (.int (Int32.ofNat n)), _, _, _, X4, rfl, rfl, rfl, (fun h => by cases h), ⟨rfl, q4.trans hh2⟩, fun fs hl => c5.trans (X4.ireturnOut hexec hret rfl (Or.inl rfl) (hb hbytes d10) hl)⟩
theorem pays {l : Launch} {R : Room} {p : Program} {e : Env} {below : List Frame} {s : State} {sargs : Array Value} {len W : Nat} (x t : Addr) (V : Cell) (cd : Int32) (n : Nat) (f : Nat → Int32) (z : Int32) (htab : tab.before sargs s = true) (hfr : 2 ≤ R.frames) (hlo : W + 25 ≤ R.locals) :
    Back l R p e below s sargs yN len W (fun A₁ a₁ => A₁.cells + 0 ≤ R.cells ∧ A₁.slots + 0 ≤ R.slots ∧ P x t V cd n f z a₁ A₁.U) (fun A₁ _ v₁ B₁ => E n v₁ A₁.U B₁.U ∧ B₁.locs = A₁.locs ++ [] ∧ B₁.cells = A₁.cells + 0 ∧ B₁.slots = A₁.slots + 0) :=
  (law l x t V cd n f z).pays htab hfr (by omega)
end Len
namespace IsL
def yN : MethodName := ⟨"java/lang/String", "isLatin1", "()Z"⟩
abbrev yB : ByteArray := jdk_42_method_154_code
theorem d0 : decode yB 0 = .ok (.getstatic 38, 3) := by decide +kernel
theorem d3 : decode yB 3 = .ok (.ifCond (.eq) 14, 3) := by decide +kernel
theorem d6 : decode yB 6 = .ok (.aload_n 0, 1) := by decide +kernel
theorem d7 : decode yB 7 = .ok (.getfield 15, 3) := by decide +kernel
theorem d10 : decode yB 10 = .ok (.ifCond (.ne) 7, 3) := by decide +kernel
theorem d13 : decode yB 13 = .ok (.iconst 1, 1) := by decide +kernel
theorem d14 : decode yB 14 = .ok (.goto 4, 3) := by decide +kernel
theorem d17 : decode yB 17 = .ok (.iconst 0, 1) := by decide +kernel
theorem d18 : decode yB 18 = .ok (.ireturn, 1) := by decide +kernel
def site : List Cond := [.fieldLink "java/lang/String" 38 "java/lang/String" "COMPACT_STRINGS" "Z", .fieldLink "java/lang/String" 15 "java/lang/String" "coder" "B"]
def tab : Cond := tabOf yN yB 1 (some .boolean) site
def P (x : Addr) (cd z : Int32) (args : Array Value) (s : State) : Prop := args = #[.ref x] ∧ Has x "java/lang/String" "coder" "B" (.int cd) s ∧ (cd = 0 ∨ cd = 1) ∧ StaticIs s "java/lang/String" "COMPACT_STRINGS" "Z" (.int z) ∧ ¬ z = 0
def E (cd : Int32) (r : Option Value) (s u : State) : Prop := XT.PureE (some (.int (1 - cd))) r s u
theorem law (l : Launch) (x : Addr) (cd z : Int32) : Law l yN 1 0 0 0 yB 1 (some .boolean) site (P x cd z) (E cd) [] 0 0 := by
  refine Law.of_walk (plainFor_of_name (by decide +kernel)) (by decide +kernel) (by decide +kernel) (by decide) (fun _ _ h => by rw [h.1]; rfl) (fun _ U U' hal hh h => ⟨h.1, h.2.1.mv hal hh, h.2.2.1, h.2.2.2.1.there hal hh, h.2.2.2.2⟩) (fun r U U' V V' h1 hal h2 h => XT.PureE.mv r U U' V V' h1 hal h2 h) ?_
  intro p e s m args below meth c s₁ X0 hexec hbytes hml hret hlk hnm hown hh0 W hP
  obtain ⟨rfl, hx, hc, s1, hz⟩ := hP
  have c1 : Steps p.tables e below (s₁.setTop (entryFrame m #[.ref x] 1)) (s₁.setTop (mkF m 0 #[.val (.ref x)] [])) := entry rfl
  obtain ⟨T2, X2, q2, st2⟩ := X0.sget hexec hown (wk W (.fieldLink "java/lang/String" 38 "java/lang/String" "COMPACT_STRINGS" "Z")) s1 (fun _ _ h => by rw [hh0]; exact h) (g := (mkF m 0 #[.val (.ref x)] [])) rfl (hb hbytes d0)
  have hh2 := q2.trans hh0
  have c3 : Steps p.tables e below (s₁.setTop (entryFrame m #[.ref x] 1)) (T2.setTop (mkF m 7 #[.val (.ref x)] [.ref x])) := (c1.trans (st2 _ (Steps.refl _))).trans (by
    refine XS.ifNo X2.here hexec rfl (hb hbytes d3) rfl (i0_eq_f hz) ?_
    refine XS.aloadN X2.here hexec rfl (hb hbytes d6) rfl rfl ?_
    exact Steps.refl _)
  obtain ⟨T4, X4, q4, st4⟩ := X2.hget hexec hown (wk W (.fieldLink "java/lang/String" 15 "java/lang/String" "coder" "B")) (hx.mv X2.warmed.alike hh2) (g := (mkF m 7 #[.val (.ref x)] [.ref x])) rfl (rest := []) rfl (hb hbytes d7)
  have c5 : Steps p.tables e below (s₁.setTop (entryFrame m #[.ref x] 1)) (T4.setTop (mkF m 10 #[.val (.ref x)] [.int cd])) := c3.trans (st4 _ (Steps.refl _))
  have c6 : Steps p.tables e below (s₁.setTop (entryFrame m #[.ref x] 1)) (T4.setTop (mkF m 18 #[.val (.ref x)] [.int (1 - cd)])) := by
    rcases hc with rfl | rfl
    · exact c5.trans (by
        refine XS.ifNo X4.here hexec rfl (hb hbytes d10) rfl (i0_ne_f rfl) ?_
        refine iconstV X4.here hexec rfl 1 (hb hbytes d13) (by decide) ?_
        refine XS.goto X4.here hexec rfl (pc0 := 14) rfl (hb hbytes d14) (by decide) rfl ?_
        exact Steps.refl _)
    · exact c5.trans (by
        refine XS.ifYes X4.here hexec rfl (pc0 := 10) rfl (hb hbytes d10) rfl (i0_ne_t (by decide)) (by decide) rfl ?_
        refine iconstV X4.here hexec rfl 0 (hb hbytes d17) (by decide) ?_
        exact Steps.refl _)
  exact ⟨T4, some (.int (1 - cd)), _, _, _, X4, rfl, rfl, rfl, (fun h => by cases h), ⟨rfl, q4.trans hh2⟩, fun fs hl => c6.trans (X4.ireturnOut hexec hret (by rcases hc with rfl | rfl <;> rfl) (Or.inr (Or.inl rfl)) (hb hbytes d18) hl)⟩
end IsL
namespace LChA
def yN : MethodName := ⟨"java/lang/StringLatin1", "charAt", "([BI)C"⟩
abbrev yB : ByteArray := jdk_43_method_2_code
theorem d0 : decode yB 0 = .ok (.iload_n 1, 1) := by decide +kernel
theorem d1 : decode yB 1 = .ok (.aload_n 0, 1) := by decide +kernel
theorem d2 : decode yB 2 = .ok (.arraylength, 1) := by decide +kernel
theorem d3 : decode yB 3 = .ok (.invokestatic 9, 3) := by decide +kernel
theorem d6 : decode yB 6 = .ok (.aload_n 0, 1) := by decide +kernel
theorem d7 : decode yB 7 = .ok (.iload_n 1, 1) := by decide +kernel
theorem d8 : decode yB 8 = .ok (.baload, 1) := by decide +kernel
theorem d9 : decode yB 9 = .ok (.sipush 255, 3) := by decide +kernel
theorem d12 : decode yB 12 = .ok (.iand, 1) := by decide +kernel
theorem d13 : decode yB 13 = .ok (.i2c, 1) := by decide +kernel
theorem d14 : decode yB 14 = .ok (.ireturn, 1) := by decide +kernel
def site : List Cond := [JO.Str_checkIndex.tab] ++ staticW "java/lang/StringLatin1" 9 JO.Str_checkIndex.yN
def tab : Cond := tabOf yN yB 2 (some .char) site
def P (t : Addr) (V : Cell) (i : Nat) (u : Int32) (fm : Value) (args : Array Value) (s : State) : Prop := args = #[.ref t, .int (Int32.ofNat i)] ∧ XT.Arr .byte t V s ∧ V.slots[i]? = some (.int u) ∧ (StaticIs s "jdk/internal/util/Preconditions" "SIOOBE_FORMATTER" "Ljava/util/function/BiFunction;" fm ∧ fm.isRef = true)
def E (u : Int32) (r : Option Value) (s w : State) : Prop := XT.PureE (some (.int (chr8 u))) r s w
theorem law (l : Launch) (t : Addr) (V : Cell) (i : Nat) (u : Int32) (fm : Value) : Law l yN 2 2 2 27 yB 2 (some .char) site (P t V i u fm) (E u) [] 0 0 := by
  refine Law.of_walk (plainFor_of_name (by decide +kernel)) (by decide +kernel) (by decide +kernel) (by decide) (fun _ _ h => by rw [h.1]; rfl) (fun _ U U' hal hh h => ⟨h.1, h.2.1.mv hal hh, h.2.2.1, h.2.2.2.1.there hal hh, h.2.2.2.2⟩) (fun r U U' V V' h1 hal h2 h => XT.PureE.mv r U U' V V' h1 hal h2 h) ?_
  intro p e s m args below meth c s₁ X0 hexec hbytes hml hret hlk hnm hown hh0 W hP
  obtain ⟨rfl, hV, hu, s1, rf⟩ := hP
  have v31 := hV.2.2.2
  have hi : i < V.slots.size := (Array.getElem?_eq_some_iff.mp hu).1
  have c1 : Steps p.tables e below (s₁.setTop (entryFrame m #[.ref t, .int (Int32.ofNat i)] 2)) (s₁.setTop (mkF m 0 #[.val (.ref t), .val (.int (Int32.ofNat i))] [])) := entry rfl
  have c2 : Steps p.tables e below (s₁.setTop (entryFrame m #[.ref t, .int (Int32.ofNat i)] 2)) (s₁.setTop (mkF m 3 #[.val (.ref t), .val (.int (Int32.ofNat i))] [.int (Int32.ofNat V.slots.size), .int (Int32.ofNat i)])) := c1.trans (by
    refine XS.iloadN X0.here hexec rfl (hb hbytes d0) rfl ?_
    refine XS.aloadN X0.here hexec rfl (hb hbytes d1) rfl rfl ?_
    refine X0.alen hexec (hV.mv X0.warmed.alike hh0) rfl rfl (hb hbytes d2) ?_
    exact Steps.refl _)
  obtain ⟨v3, T3, X3, E3, g3⟩ := X0.callS hexec (JO.Str_checkIndex.law l (Int32.ofNat i) (Int32.ofNat V.slots.size) fm) hown (wks W (staticW "java/lang/StringLatin1" 9 JO.Str_checkIndex.yN)) (wk W JO.Str_checkIndex.tab) (W := 0) (Nat.le_of_ble_eq_true rfl) (Nat.le_of_ble_eq_true rfl) (Nat.le_refl _) (Nat.le_refl _) (g := (mkF m 3 #[.val (.ref t), .val (.int (Int32.ofNat i))] [.int (Int32.ofNat V.slots.size), .int (Int32.ofNat i)])) rfl (by rw [hml]; rfl) c2 (argsL := [.int (Int32.ofNat i), .int (Int32.ofNat V.slots.size)]) (rest := []) rfl rfl (by show 2 * 0 + 0 ≤ _; decide) (hb hbytes d3) (⟨rfl, rf, s1.there X0.warmed.alike hh0, Int32.ofNat_not_neg (by omega), lt32 v31 hi⟩)
  obtain ⟨rfl, q3⟩ := E3
  have hh3 := q3.trans hh0
  have c4 : Steps p.tables e below (s₁.setTop (entryFrame m #[.ref t, .int (Int32.ofNat i)] 2)) (T3.setTop (mkF m 14 #[.val (.ref t), .val (.int (Int32.ofNat i))] [.int (chr8 u)])) := Steps.trans g3 (by
    refine XS.aloadN X3.here hexec rfl (hb hbytes d6) rfl rfl ?_
    refine XS.iloadN X3.here hexec rfl (hb hbytes d7) rfl ?_
    refine X3.aget hexec (hV.mv X3.warmed.alike hh3) rfl hu rfl rfl (hb hbytes d8) ?_
    refine sipushV X3.here hexec rfl 255 (hb hbytes d9) (by decide) ?_
    refine XS.iand X3.here hexec rfl (hb hbytes d12) rfl ?_
    refine i2c X3.here hexec rfl (hb hbytes d13) rfl ?_
    exact Steps.refl _)
  exact ⟨T3, some (.int (chr8 u)), _, _, _, X3, rfl, rfl, rfl, (fun h => by cases h), ⟨rfl, hh3⟩, fun fs hl => c4.trans (X3.ireturnOut hexec hret (narrow_c _) (Or.inr (Or.inr (Or.inr (Or.inl rfl)))) (hb hbytes d14) hl)⟩
end LChA
end StrChars
namespace StrChars.Road
open Jvm Sem ClassFile Op Lib Jvm.Stand Jvm.Free Jvm.Free.XT
open Jvm.Lib.Cold (StaticIs)
theorem consq {a : Array Value} {s : State} {c : Jvm.Cond} {L : List Jvm.Cond} (h0 : c.before a s = true) (h : ∀ w ∈ L, w.before a s = true) : ∀ w ∈ c :: L, w.before a s = true := fun w hw => (List.mem_cons.mp hw).elim (fun e => e ▸ h0) (h w)
/-- the words of String.length(), either coding -/
abbrev wordsLen : List Jvm.Cond := [.code Len.yN Len.yB 1 (some .int), .initialized ST, .fieldLink ST 9 ST "value" "[B", .fieldLink ST 38 ST "COMPACT_STRINGS" "Z", .fieldLink ST 15 ST "coder" "B", .code Cdr.yN Cdr.yB 1 (some .byte), .methodLink ST 335 Cdr.yN, .declares Cdr.yN, .selects ST Cdr.yN Cdr.yN, .instanceMethod Cdr.yN]
theorem tabLen_of {a : Array Value} {s : State} (h : ∀ w ∈ wordsLen, w.before a s = true) : Len.tab.before a s = true := by
  have hc : Cdr.tab.before a s = true := unparts (wk h (.code Cdr.yN Cdr.yB 1 (some .byte))) (wks h (.initialized Cdr.yN.cls :: Cdr.site))
  have q := consq hc h
  exact unparts (wk q (.code Len.yN Len.yB 1 (some .int))) (wks q (.initialized Len.yN.cls :: Len.site))
theorem movedLen {Z s : State} {a0 args : Array Value} (hZ : Z.Warmed39 s.vm) (hw : ∀ d ∈ wordsLen, d.before a0 Z = true) : ∀ d ∈ wordsLen, d.before args s = true := fun d hd => by
  have q := hw d hd
  have t : ∀ d ∈ wordsLen, d = .arrayClass .byte ∨ (d.onTables && d.keepsFace) = true := by decide +kernel
  rcases t d hd with rfl | t
  · exact RoadKit.mvA hZ q
  · exact RoadKit.mv hZ q t
/-- the bytes of the chars cs, low before high -/
def wideBytes : List Int32 → List Value
  | [] => []
  | c :: cs => .int (lo8 c) :: .int (hi8 c) :: wideBytes cs
theorem wide_lo (d : Value) : ∀ (cs : List Int32) (j : Nat), j < cs.length → (wideBytes cs).getD (2 * j) d = .int (lo8 (cs.getD j 0))
  | [], j, h => absurd h (Nat.not_lt_zero j)
  | c :: cs, 0, _ => rfl
  | c :: cs, j + 1, h => by
    have q := wide_lo d cs j (by simpa using h)
    rw [show 2 * (j + 1) = 2 * j + 1 + 1 from by omega]
    simpa [wideBytes] using q
theorem wide_hi (d : Value) : ∀ (cs : List Int32) (j : Nat), j < cs.length → (wideBytes cs).getD (2 * j + 1) d = .int (hi8 (cs.getD j 0))
  | [], j, h => absurd h (Nat.not_lt_zero j)
  | c :: cs, 0, _ => rfl
  | c :: cs, j + 1, h => by
    have q := wide_hi d cs j (by simpa using h)
    rw [show 2 * (j + 1) + 1 = 2 * j + 1 + 1 + 1 from by omega]
    simpa [wideBytes] using q
theorem low_at (d : Value) (cs : List Int32) (j : Nat) (h : j < cs.length) : (cs.map fun c => Value.int (lo8 c)).getD j d = .int (lo8 (cs.getD j 0)) := by
  simp [List.getD_eq_getElem?_getD, h]
/-- an array of N2 bytes vs codes the chars cs by the coder cd -/
def CodA (cs : List Int32) (cd N2 : Int32) (vs : List Value) : Prop := (cd = 0 ∧ N2 = Int32.ofNat cs.length ∧ vs = (cs.map fun c => Value.int (lo8 c)) ∧ ∀ c ∈ cs, ¬ 255 < c) ∨ (cd = 1 ∧ N2 = Int32.ofNat (2 * cs.length) ∧ vs = wideBytes cs ∧ ∃ c ∈ cs, 255 < c)
theorem CodA.cod {cs : List Int32} {cd N2 : Int32} {vs : List Value} {V : Cell} (h : CodA cs cd N2 vs) (hn : 2 * cs.length < 2 ^ 31) (hs : V.slots.size = N2.toNatClampNeg) (hv : RoadKit.Has V vs (.int 0)) : Cod cd cs.length (fun j => cs.getD j 0) V := by
  rcases h with ⟨rfl, rfl, rfl, h⟩ | ⟨rfl, rfl, rfl, c, hc, hw⟩
  · rw [n32 (by omega)] at hs
    exact Or.inl ⟨rfl, hs, fun j hj => ⟨by rw [hv j (by omega), low_at _ _ _ hj], by
      have e : cs.getD j 0 = cs[j] := by simp [List.getD_eq_getElem?_getD, hj]
      show ¬ 255 < cs.getD j 0
      rw [e]; exact h _ (List.getElem_mem _)⟩⟩
  · rw [n32 (by omega)] at hs
    obtain ⟨j, hj, rfl⟩ := List.getElem_of_mem hc
    exact Or.inr ⟨rfl, hs, fun j hj => ⟨by rw [hv _ (by omega), wide_lo _ _ _ hj], by rw [hv _ (by omega), wide_hi _ _ _ hj]⟩, j, hj, by
      have e : cs.getD j 0 = cs[j] := by simp [List.getD_eq_getElem?_getD, hj]
      show 255 < cs.getD j 0
      rw [e]; exact hw⟩
/-- an object of exactly java/lang/String, its two fields found: as the laws ask it -/
theorem strObj {Z U : State} {a0 : Array Value} {kI : Nat} (wi : (Jvm.Cond.instantiable ST kI).before a0 Z = true) (al : Z.vm.Alike U.vm) {x : Addr} {v0 c0 : Value} (E : RoadKit.Exa Z U.heap x ST) (V : RoadKit.Fld Z U.heap x ST "value" "[B" v0) (C : RoadKit.Fld Z U.heap x ST "coder" "B" c0) :
    ∃ (D : Cell) (fV fC : Field), Blank ST x D U ∧ Found ST "value" "[B" fV U ∧ Found ST "coder" "B" fC U ∧ D.slots[fV.slot]? = some v0 ∧ D.slots[fC.slot]? = some c0 ∧ RoadKit.slotOf Z ST "value" "[B" = fV.slot ∧ RoadKit.slotOf Z ST "coder" "B" = fC.slot := by
  obtain ⟨D, cfV, kV, iV, fV, hD, gV, stV, knV, obV, asV, slV⟩ := V
  obtain ⟨D', cfC, kC, iC, fC, hD', gC, stC, -, -, asC, slC⟩ := C
  cases hD.symm.trans hD'
  obtain ⟨D2, kD, e1, e2, e3, e4, e5⟩ := E
  cases hD.symm.trans e1
  obtain ⟨c2, k2, i1, i2, i3, -⟩ := Cond.instantiable_spec wi
  cases e2.symm.trans i1
  cases e3.symm.trans i2
  obtain ⟨kU, u1, u2⟩ := al.2.2 _ _ e3
  exact ⟨D, fV, fC, ⟨hD, ⟨knV, fun q hq => by rw [hq] at obV; cases obV⟩, by rw [al.findClass]; exact e2, kU, u1, by rw [u2]; exact i3, by rw [u2]; exact e5 i3⟩, ⟨SBG.found_only al ⟨cfV, kV, iV, gV⟩, stV⟩, ⟨SBG.found_only al ⟨cfC, kC, iC, gC⟩, stC⟩, slV, slC, by simp [RoadKit.slotOf, gV], by simp [RoadKit.slotOf, gC]⟩
theorem sta_is {Z U : State} (al : Z.vm.Alike U.vm) {C n d : String} {v : Value} (S : RoadKit.Sta Z U.heap C n d v) : StaticIs U C n d v := by
  obtain ⟨cfS, iS, kS, fS, st, cS, t1, t2, t3, t4, t5, t6, t7⟩ := S
  exact StaticIs.there (s := { Z with heap := U.heap }) ⟨cfS, iS, kS, fS, st, cS, t1, t2, t3, t4, t5, (fun q => by rw [q] at t6; cases t6), t7⟩ al rfl
/-- **length() OF SUCH A STRING** -/
theorem lenW {p : Program} {l : Launch} {e : Env} {R : Room} {s : State} {args : Array Value} {below : List Frame} {len W : Nat} {Z : State} {a0 : Array Value} {h : Heap} (hZ : Z.Warmed39 s.vm) (hw : ∀ d ∈ wordsLen, d.before a0 Z = true) {kI : Nat} (wi : (Jvm.Cond.instantiable ST kI).before a0 Z = true)
    {x t : Addr} {kb : ClassId} {cs : List Int32} {cd N2 z : Int32} {vs : List Value} (E : RoadKit.Exa Z h x ST) (V : RoadKit.Fld Z h x ST "value" "[B" (.ref t)) (C : RoadKit.Fld Z h x ST "coder" "B" (.int cd)) (K : RoadKit.Arv Z h t kb .byte N2 vs (.int 0)) (hc : CodA cs cd N2 vs) (hb : ∀ c ∈ cs, ¬ c < 0 ∧ ¬ (65535 : Int32) < c)
    (S : RoadKit.Sta Z h ST "COMPACT_STRINGS" "Z" (.int z)) (hz : ¬ z = 0) (l2 : cs.length ≤ 4000) (hfr : 2 ≤ R.frames) (hlo : W + 25 ≤ R.locals) :
    Back l R p e below s args (⟨"java/lang/String", "length", "()I"⟩ : MethodName) len W (fun P a => a = #[.ref x] ∧ P.U.heap = h ∧ P.cells + 0 ≤ R.cells ∧ P.slots + 0 ≤ R.slots)
      (fun P _ v B => ∃ L, (v = some (.int (Int32.ofNat cs.length)) ∧ L = [] ∧ B.U.heap = h) ∧ B.locs = P.locs ++ L ∧ B.cells = P.cells + 0 ∧ B.slots = P.slots + 0) := by
  obtain ⟨A, K1, K2, K3, K4, K5, K6⟩ := K
  have hcod := hc.cod (by omega) K3 K5
  intro m meth c P g ig mk a X hg hsize hdg hW hn hp'
  obtain ⟨rfl, rfl, r1, r2⟩ := hp'
  have al : Z.vm.Alike P.U.vm := hZ.alike.trans X.warmed.alike
  obtain ⟨D, fV, fC, hB, F1, F2, g1, g2, -, -⟩ := strObj wi al E V C
  have hx : Txt x t A cd cs.length (fun j => cs.getD j 0) P.U := ⟨⟨_, hB.2.2.1, D, hB.1, rfl, by cases q : D.vm <;> first | rfl | exact absurd q (hB.2.1.2 _)⟩, Has.of hB F1 g1, Has.of hB F2 g2, ⟨K1.1, State.isArrayOf_alike al K1.2.1, K1.2.2, by rcases hcod with ⟨-, q, -⟩ | ⟨-, q, -⟩ <;> omega⟩, hcod, fun j hj => by
    have e : cs.getD j 0 = cs[j] := by simp [List.getD_eq_getElem?_getD, hj]
    show ¬ cs.getD j 0 < 0 ∧ ¬ 65535 < cs.getD j 0
    rw [e]; exact hb _ (List.getElem_mem _)⟩
  obtain ⟨v, B, X', ⟨⟨hv, hh⟩, hl, hk, hs⟩, st⟩ := Len.pays x t A cd cs.length (fun j => cs.getD j 0) z (tabLen_of (movedLen hZ hw)) hfr hlo m meth c P g ig mk _ X hg hsize hdg hW hn ⟨r1, r2, rfl, hx, sta_is al S, hz⟩
  exact ⟨v, B, X', ⟨[], ⟨hv, rfl, hh⟩, hl, hk, hs⟩, st⟩
end StrChars.Road
namespace StrChars
open Jvm Sem ClassFile Op Lib Jvm.Stand Jvm.Free.XT Jvm.Free.ALB Jvm.Free.JM Jvm.Free
open Jvm.Lib.Cold (StaticIs)
namespace Emp
def yN : MethodName := ⟨"java/lang/String", "isEmpty", "()Z"⟩
abbrev yB : ByteArray := jdk_42_method_55_code
theorem d0 : decode yB 0 = .ok (.aload_n 0, 1) := by decide +kernel
theorem d1 : decode yB 1 = .ok (.getfield 9, 3) := by decide +kernel
theorem d4 : decode yB 4 = .ok (.arraylength, 1) := by decide +kernel
theorem d5 : decode yB 5 = .ok (.ifCond (.ne) 7, 3) := by decide +kernel
theorem d8 : decode yB 8 = .ok (.iconst 1, 1) := by decide +kernel
theorem d9 : decode yB 9 = .ok (.goto 4, 3) := by decide +kernel
theorem d12 : decode yB 12 = .ok (.iconst 0, 1) := by decide +kernel
theorem d13 : decode yB 13 = .ok (.ireturn, 1) := by decide +kernel
def site : List Cond := [.fieldLink "java/lang/String" 9 "java/lang/String" "value" "[B"]
def tab : Cond := tabOf yN yB 1 (some .boolean) site
def P (x t : Addr) (V : Cell) (cd : Int32) (n : Nat) (f : Nat → Int32) (args : Array Value) (s : State) : Prop := args = #[.ref x] ∧ Txt x t V cd n f s
def E (n : Nat) (r : Option Value) (s u : State) : Prop := XT.PureE (some (.int (if n = 0 then 1 else 0))) r s u
/-- isEmpty() of a String of n chars -/
theorem law (l : Launch) (x t : Addr) (V : Cell) (cd : Int32) (n : Nat) (f : Nat → Int32) : Law l yN 1 0 0 0 yB 1 (some .boolean) site (P x t V cd n f) (E n) [] 0 0 := by
  refine Law.of_walk (plainFor_of_name (by decide +kernel)) (by decide +kernel) (by decide +kernel) (by decide) (fun _ _ h => by rw [h.1]; rfl) (fun _ U U' hal hh h => ⟨h.1, h.2.mv hal hh⟩) (fun r U U' V V' h1 hal h2 h => XT.PureE.mv r U U' V V' h1 hal h2 h) ?_
  intro p e s m args below meth c s₁ X0 hexec hbytes hml hret hlk hnm hown hh0 W hP
  obtain ⟨rfl, hx⟩ := hP
  have v31 := hx.2.2.2.1.2.2.2
  have c1 : Steps p.tables e below (s₁.setTop (entryFrame m #[.ref x] 1)) (s₁.setTop (mkF m 1 #[.val (.ref x)] [.ref x])) := Steps.trans (entry rfl) (by
    show Steps p.tables e below (s₁.setTop (mkF m 0 #[.val (.ref x)] [])) _
    refine XS.aloadN X0.here hexec rfl (hb hbytes d0) rfl rfl ?_
    exact Steps.refl _)
  obtain ⟨T2, X2, q2, st2⟩ := X0.hget hexec hown (wk W (.fieldLink "java/lang/String" 9 "java/lang/String" "value" "[B")) (hx.mv X0.warmed.alike hh0).2.1 (g := (mkF m 1 #[.val (.ref x)] [.ref x])) rfl (rest := []) rfl (hb hbytes d1)
  have hh2 := q2.trans hh0
  have hx2 := hx.mv X2.warmed.alike hh2
  have c3 : Steps p.tables e below (s₁.setTop (entryFrame m #[.ref x] 1)) (T2.setTop (mkF m 5 #[.val (.ref x)] [.int (Int32.ofNat V.slots.size)])) := (c1.trans (st2 _ (Steps.refl _))).trans (by
    refine X2.alen hexec hx2.2.2.2.1 rfl rfl (hb hbytes d4) ?_
    exact Steps.refl _)
  have hz : V.slots.size = 0 ↔ n = 0 := by
    rcases hx.2.2.2.2.1 with ⟨-, q, -⟩ | ⟨-, q, -⟩ <;> omega
  by_cases h0 : n = 0
  · have c4 : Steps p.tables e below (s₁.setTop (entryFrame m #[.ref x] 1)) (T2.setTop (mkF m 13 #[.val (.ref x)] [.int 1])) := c3.trans (by
      refine XS.ifNo X2.here hexec rfl (hb hbytes d5) rfl (i0_ne_f (by rw [hz.mpr h0]; rfl)) ?_
      refine iconstV X2.here hexec rfl 1 (hb hbytes d8) (by decide) ?_
      refine XS.goto X2.here hexec rfl (pc0 := 9) rfl (hb hbytes d9) (by decide) rfl ?_
      exact Steps.refl _)
    exact ⟨T2, some (.int 1), _, _, _, X2, rfl, rfl, rfl, (fun h => by cases h), ⟨by rw [if_pos h0], hh2⟩, fun fs hl => c4.trans (X2.ireturnOut hexec hret rfl (Or.inr (Or.inl rfl)) (hb hbytes d13) hl)⟩
  · have c4 : Steps p.tables e below (s₁.setTop (entryFrame m #[.ref x] 1)) (T2.setTop (mkF m 13 #[.val (.ref x)] [.int 0])) := c3.trans (by
      refine XS.ifYes X2.here hexec rfl (pc0 := 5) rfl (hb hbytes d5) rfl (i0_ne_t (nz32 v31 (by omega))) (by decide) rfl ?_
      refine iconstV X2.here hexec rfl 0 (hb hbytes d12) (by decide) ?_
      exact Steps.refl _)
    exact ⟨T2, some (.int 0), _, _, _, X2, rfl, rfl, rfl, (fun h => by cases h), ⟨by rw [if_neg h0], hh2⟩, fun fs hl => c4.trans (X2.ireturnOut hexec hret rfl (Or.inr (Or.inl rfl)) (hb hbytes d13) hl)⟩
theorem pays {l : Launch} {R : Room} {p : Program} {e : Env} {below : List Frame} {s : State} {sargs : Array Value} {len W : Nat} (x t : Addr) (V : Cell) (cd : Int32) (n : Nat) (f : Nat → Int32) (htab : tab.before sargs s = true) (hfr : 1 ≤ R.frames) (hlo : W + 12 ≤ R.locals) :
    Back l R p e below s sargs yN len W (fun A₁ a₁ => A₁.cells + 0 ≤ R.cells ∧ A₁.slots + 0 ≤ R.slots ∧ P x t V cd n f a₁ A₁.U) (fun A₁ _ v₁ B₁ => E n v₁ A₁.U B₁.U ∧ B₁.locs = A₁.locs ++ [] ∧ B₁.cells = A₁.cells + 0 ∧ B₁.slots = A₁.slots + 0) :=
  (law l x t V cd n f).pays htab hfr (by omega)
end Emp
/-- what place i of a byte[]'s cell holds -/
def yv (A : Cell) (i : Nat) : Int32 := match A.slots[i]? with | some (.int x) => x | _ => 0
theorem yv_get {a : Addr} {A : Cell} {U : State} (h : XT.Arr .byte a A U) (ht : Typed .byte A) {i : Nat} (hi : i < A.slots.size) : A.slots[i]? = some (.int (yv A i)) := by
  have e := Array.getElem?_eq_getElem hi
  have f := ht i _ e
  unfold yv; rw [e]
  generalize A.slots[i] = v at f
  cases v <;> simp [fits] at f ⊢
/-- the two arrays are equal, place for place -/
def EqC (A B : Cell) : Prop := A.slots.size = B.slots.size ∧ ∀ i, i < A.slots.size → yv A i = yv B i
/-- a boolean that says whether p -/
def Says01 (q : Prop) (r : Option Value) (s u : State) : Prop := ∃ v : Int32, r = some (.int v) ∧ u.heap = s.heap ∧ ((v = 1 ∧ q) ∨ (v = 0 ∧ ¬ q))
theorem Says01.mv {q : Prop} : ∀ r (U U' V V' : State), U'.heap = U.heap → V.vm.Alike V'.vm → V'.heap = V.heap → Says01 q r U V → Says01 q r U' V' :=
  fun r U U' V V' h1 _ h2 ⟨v, a, b, c⟩ => ⟨v, a, by rw [h1, h2]; exact b, c⟩
namespace LEq
def yN : MethodName := ⟨"java/lang/StringLatin1", "equals", "([B[B)Z"⟩
abbrev yB : ByteArray := jdk_43_method_13_code
theorem d0 : decode yB 0 = .ok (.aload_n 0, 1) := by decide +kernel
theorem d1 : decode yB 1 = .ok (.arraylength, 1) := by decide +kernel
theorem d2 : decode yB 2 = .ok (.aload_n 1, 1) := by decide +kernel
theorem d3 : decode yB 3 = .ok (.arraylength, 1) := by decide +kernel
theorem d4 : decode yB 4 = .ok (.if_icmp (.ne) 30, 3) := by decide +kernel
theorem d7 : decode yB 7 = .ok (.iconst 0, 1) := by decide +kernel
theorem d8 : decode yB 8 = .ok (.istore_n 2, 1) := by decide +kernel
theorem d9 : decode yB 9 = .ok (.iload_n 2, 1) := by decide +kernel
theorem d10 : decode yB 10 = .ok (.aload_n 0, 1) := by decide +kernel
theorem d11 : decode yB 11 = .ok (.arraylength, 1) := by decide +kernel
theorem d12 : decode yB 12 = .ok (.if_icmp (.ge) 20, 3) := by decide +kernel
theorem d15 : decode yB 15 = .ok (.aload_n 0, 1) := by decide +kernel
theorem d16 : decode yB 16 = .ok (.iload_n 2, 1) := by decide +kernel
theorem d17 : decode yB 17 = .ok (.baload, 1) := by decide +kernel
theorem d18 : decode yB 18 = .ok (.aload_n 1, 1) := by decide +kernel
theorem d19 : decode yB 19 = .ok (.iload_n 2, 1) := by decide +kernel
theorem d20 : decode yB 20 = .ok (.baload, 1) := by decide +kernel
theorem d21 : decode yB 21 = .ok (.if_icmp (.eq) 5, 3) := by decide +kernel
theorem d24 : decode yB 24 = .ok (.iconst 0, 1) := by decide +kernel
theorem d25 : decode yB 25 = .ok (.ireturn, 1) := by decide +kernel
theorem d26 : decode yB 26 = .ok (.iinc 2 1, 3) := by decide +kernel
theorem d29 : decode yB 29 = .ok (.goto (-20), 3) := by decide +kernel
theorem d32 : decode yB 32 = .ok (.iconst 1, 1) := by decide +kernel
theorem d33 : decode yB 33 = .ok (.ireturn, 1) := by decide +kernel
theorem d34 : decode yB 34 = .ok (.iconst 0, 1) := by decide +kernel
theorem d35 : decode yB 35 = .ok (.ireturn, 1) := by decide +kernel
def site : List Cond := []
def tab : Cond := tabOf yN yB 3 (some .boolean) site
def P (a : Addr) (A : Cell) (b : Addr) (B : Cell) (args : Array Value) (s : State) : Prop := args = #[.ref a, .ref b] ∧ XT.Arr .byte a A s ∧ Typed .byte A ∧ XT.Arr .byte b B s ∧ Typed .byte B
/-- whether two byte[] are equal, place for place -/
theorem law (l : Launch) (a : Addr) (A : Cell) (b : Addr) (B : Cell) : Law l yN 2 2 0 0 yB 3 (some .boolean) site (P a A b B) (Says01 (EqC A B)) [] 0 0 := by
  refine Law.of_walk (plainFor_of_name (by decide +kernel)) (by decide +kernel) (by decide +kernel) (by decide) (fun _ _ h => by rw [h.1]; rfl) (fun _ U U' hal hh h => ⟨h.1, h.2.1.mv hal hh, h.2.2.1, h.2.2.2.1.mv hal hh, h.2.2.2.2⟩) (fun r U U' V V' h1 hal h2 h => Says01.mv r U U' V V' h1 hal h2 h) ?_
  intro p e s m args below meth c s₁ X0 hexec hbytes hml hret hlk hnm hown hh0 W hP
  obtain ⟨rfl, hA, tA, hB, tB⟩ := hP
  have a31 := hA.2.2.2
  have b31 := hB.2.2.2
  have hA0 := hA.mv X0.warmed.alike hh0
  have hB0 := hB.mv X0.warmed.alike hh0
  have c1 : Steps p.tables e below (s₁.setTop (entryFrame m #[.ref a, .ref b] 3)) (s₁.setTop (mkF m 0 #[.val (.ref a), .val (.ref b), .unset] [])) := entry rfl
  have c2 : Steps p.tables e below (s₁.setTop (entryFrame m #[.ref a, .ref b] 3)) (s₁.setTop (mkF m 4 #[.val (.ref a), .val (.ref b), .unset] [.int (Int32.ofNat B.slots.size), .int (Int32.ofNat A.slots.size)])) := c1.trans (by
    refine XS.aloadN X0.here hexec rfl (hb hbytes d0) rfl rfl ?_
    refine X0.alen hexec hA0 rfl rfl (hb hbytes d1) ?_
    refine XS.aloadN X0.here hexec rfl (hb hbytes d2) rfl rfl ?_
    refine X0.alen hexec hB0 rfl rfl (hb hbytes d3) ?_
    exact Steps.refl _)
  by_cases hs : A.slots.size = B.slots.size
  · have c3 : Steps p.tables e below (s₁.setTop (entryFrame m #[.ref a, .ref b] 3)) (s₁.setTop (mkF m 9 #[.val (.ref a), .val (.ref b), .val (.int 0)] [])) := c2.trans (by
      refine XS.icmpNo X0.here hexec rfl (hb hbytes d4) rfl (ii_ne_f (by rw [hs])) ?_
      refine iconstV X0.here hexec rfl 0 (hb hbytes d7) (by decide) ?_
      refine XS.istoreN X0.here hexec rfl (hb hbytes d8) rfl rfl ?_
      exact Steps.refl _)
    have loop : ∀ (r i : Nat), i + r = A.slots.size → (∀ j, j < i → yv A j = yv B j) → Steps p.tables e below (s₁.setTop (entryFrame m #[.ref a, .ref b] 3)) (s₁.setTop (mkF m 9 #[.val (.ref a), .val (.ref b), .val (.int (Int32.ofNat i))] [])) → ∃ (pc : Nat) (Ls : Array Slot) (v : Int32), (pc = 25 ∨ pc = 33) ∧ ((v = 1 ∧ EqC A B) ∨ (v = 0 ∧ ¬ EqC A B)) ∧ Steps p.tables e below (s₁.setTop (entryFrame m #[.ref a, .ref b] 3)) (s₁.setTop (mkF m pc Ls [.int v])) := by
      intro r
      induction r with
      | zero =>
        intro i hi he cl
        exact ⟨33, _, 1, Or.inr rfl, Or.inl ⟨rfl, hs, fun j hj => he j (by omega)⟩, cl.trans (by
          refine XS.iloadN X0.here hexec rfl (hb hbytes d9) rfl ?_
          refine XS.aloadN X0.here hexec rfl (hb hbytes d10) rfl rfl ?_
          refine X0.alen hexec hA0 rfl rfl (hb hbytes d11) ?_
          refine XS.icmpYes X0.here hexec rfl (pc0 := 12) rfl (hb hbytes d12) rfl (ii_ge_t (nlt32 (by omega) (by omega))) (by decide) rfl ?_
          refine iconstV X0.here hexec rfl 1 (hb hbytes d32) (by decide) ?_
          exact Steps.refl _)⟩
      | succ r ih =>
        intro i hi he cl
        have c4 : Steps p.tables e below (s₁.setTop (entryFrame m #[.ref a, .ref b] 3)) (s₁.setTop (mkF m 21 #[.val (.ref a), .val (.ref b), .val (.int (Int32.ofNat i))] [.int (yv B i), .int (yv A i)])) := cl.trans (by
          refine XS.iloadN X0.here hexec rfl (hb hbytes d9) rfl ?_
          refine XS.aloadN X0.here hexec rfl (hb hbytes d10) rfl rfl ?_
          refine X0.alen hexec hA0 rfl rfl (hb hbytes d11) ?_
          refine XS.icmpNo X0.here hexec rfl (hb hbytes d12) rfl (ii_ge_f (lt32 (by omega) (by omega))) ?_
          refine XS.aloadN X0.here hexec rfl (hb hbytes d15) rfl rfl ?_
          refine XS.iloadN X0.here hexec rfl (hb hbytes d16) rfl ?_
          refine X0.aget hexec hA0 rfl (yv_get hA tA (i := i) (by omega)) rfl rfl (hb hbytes d17) ?_
          refine XS.aloadN X0.here hexec rfl (hb hbytes d18) rfl rfl ?_
          refine XS.iloadN X0.here hexec rfl (hb hbytes d19) rfl ?_
          refine X0.aget hexec hB0 rfl (yv_get hB tB (i := i) (by omega)) rfl rfl (hb hbytes d20) ?_
          exact Steps.refl _)
        by_cases hv : yv A i = yv B i
        · have c5 : Steps p.tables e below (s₁.setTop (entryFrame m #[.ref a, .ref b] 3)) (s₁.setTop (mkF m 9 #[.val (.ref a), .val (.ref b), .val (.int (Int32.ofNat i + 1))] [])) := c4.trans (by
            refine XS.icmpYes X0.here hexec rfl (pc0 := 21) rfl (hb hbytes d21) rfl (ii_eq_t hv) (by decide) rfl ?_
            refine iincV X0.here hexec rfl 1 (hb hbytes d26) (by decide) rfl rfl ?_
            refine XS.goto X0.here hexec rfl (pc0 := 29) rfl (hb hbytes d29) (by decide) rfl ?_
            exact Steps.refl _)
          rw [succ32] at c5
          exact ih (i + 1) (by omega) (fun j hj => by
            by_cases e : j = i
            · rw [e]; exact hv
            · exact he j (by omega)) c5
        · exact ⟨25, _, 0, Or.inl rfl, Or.inr ⟨rfl, fun q => hv (q.2 i (by omega))⟩, c4.trans (by
            refine XS.icmpNo X0.here hexec rfl (hb hbytes d21) rfl (ii_eq_f hv) ?_
            refine iconstV X0.here hexec rfl 0 (hb hbytes d24) (by decide) ?_
            exact Steps.refl _)⟩
    obtain ⟨pc, Ls, v, hpc, hv, cz⟩ := loop A.slots.size 0 (by omega) (fun j hj => absurd hj (Nat.not_lt_zero j)) c3
    have nv : narrow .boolean (.int v) = .int v := by rcases hv with ⟨rfl, -⟩ | ⟨rfl, -⟩ <;> rfl
    rcases hpc with rfl | rfl
    · exact ⟨s₁, some (.int v), _, _, _, X0, rfl, rfl, rfl, (fun h => by cases h), ⟨v, rfl, hh0, hv⟩, fun fs hl => cz.trans (X0.ireturnOut hexec hret nv (Or.inr (Or.inl rfl)) (hb hbytes d25) hl)⟩
    · exact ⟨s₁, some (.int v), _, _, _, X0, rfl, rfl, rfl, (fun h => by cases h), ⟨v, rfl, hh0, hv⟩, fun fs hl => cz.trans (X0.ireturnOut hexec hret nv (Or.inr (Or.inl rfl)) (hb hbytes d33) hl)⟩
  · have c3 : Steps p.tables e below (s₁.setTop (entryFrame m #[.ref a, .ref b] 3)) (s₁.setTop (mkF m 35 #[.val (.ref a), .val (.ref b), .unset] [.int 0])) := c2.trans (by
      refine XS.icmpYes X0.here hexec rfl (pc0 := 4) rfl (hb hbytes d4) rfl (ii_ne_t (ne32 a31 b31 hs)) (by decide) rfl ?_
      refine iconstV X0.here hexec rfl 0 (hb hbytes d34) (by decide) ?_
      exact Steps.refl _)
    exact ⟨s₁, some (.int 0), _, _, _, X0, rfl, rfl, rfl, (fun h => by cases h), ⟨0, rfl, hh0, Or.inr ⟨rfl, fun q => hs q.1⟩⟩, fun fs hl => c3.trans (X0.ireturnOut hexec hret rfl (Or.inr (Or.inl rfl)) (hb hbytes d35) hl)⟩
end LEq
theorem Cod.ty {cd : Int32} {n : Nat} {f : Nat → Int32} {V : Cell} (h : Cod cd n f V) : Typed .byte V := fun i v hv => by
  have hi : i < V.slots.size := (Array.getElem?_eq_some_iff.mp hv).1
  rcases h with ⟨-, k1, k2⟩ | ⟨-, k1, k2, -⟩
  · rw [(k2 i (by omega)).1] at hv; cases hv; exact fits_lo8 _
  · rcases Nat.mod_two_eq_zero_or_one i with e | e
    · obtain ⟨j, rfl⟩ : ∃ j, i = 2 * j := ⟨i / 2, by omega⟩
      rw [(k2 j (by omega)).1] at hv; cases hv; exact fits_lo8 _
    · obtain ⟨j, rfl⟩ : ∃ j, i = 2 * j + 1 := ⟨i / 2, by omega⟩
      rw [(k2 j (by omega)).2] at hv; cases hv; exact fits_lo8 _
/-- the same text -/
def SameT (n : Nat) (f : Nat → Int32) (k : Nat) (g : Nat → Int32) : Prop := n = k ∧ ∀ j, j < n → f j = g j
theorem lo8_inj {x y : Int32} (h0 : ¬ x < 0) (h1 : ¬ 255 < x) (k0 : ¬ y < 0) (k1 : ¬ 255 < y) (h : lo8 x = lo8 y) : x = y := by
  rw [← lo8_mask h0 h1, ← lo8_mask k0 k1, h]
/-- arrays coded by one coder are equal just where the texts are -/
theorem Cod.eqv {cd : Int32} {n k : Nat} {f g : Nat → Int32} {V V' : Cell} (h : Cod cd n f V) (h' : Cod cd k g V') (hf : ∀ j, j < n → ¬ f j < 0 ∧ ¬ 65535 < f j) (hg : ∀ j, j < k → ¬ g j < 0 ∧ ¬ 65535 < g j) : EqC V V' ↔ SameT n f k g := by
  have yvv : ∀ {W : Cell} {i : Nat} {x : Int32}, W.slots[i]? = some (.int x) → yv W i = x := fun q => by unfold yv; rw [q]
  rcases h with ⟨rfl, k1, k2⟩ | ⟨rfl, k1, k2, -⟩
  · rcases h' with ⟨-, m1, m2⟩ | ⟨e, -⟩
    · constructor
      · rintro ⟨e1, e2⟩
        refine ⟨by omega, fun j hj => ?_⟩
        have q := e2 j (by omega)
        rw [yvv (k2 j hj).1, yvv (m2 j (by omega)).1] at q
        exact lo8_inj (hf j hj).1 (k2 j hj).2 (hg j (by omega)).1 (m2 j (by omega)).2 q
      · rintro ⟨rfl, e2⟩
        refine ⟨by omega, fun j hj => ?_⟩
        rw [yvv (k2 j (by omega)).1, yvv (m2 j (by omega)).1, e2 j (by omega)]
    · exact absurd e (by decide)
  · rcases h' with ⟨e, -⟩ | ⟨-, m1, m2, -⟩
    · exact absurd e (by decide)
    · constructor
      · rintro ⟨e1, e2⟩
        refine ⟨by omega, fun j hj => ?_⟩
        have q1 := e2 (2 * j) (by omega)
        have q2 := e2 (2 * j + 1) (by omega)
        rw [yvv (k2 j hj).1, yvv (m2 j (by omega)).1] at q1
        rw [yvv (k2 j hj).2, yvv (m2 j (by omega)).2] at q2
        rw [← pair_says (hf j hj).1 (hf j hj).2, ← pair_says (hg j (by omega)).1 (hg j (by omega)).2, q1, q2]
      · rintro ⟨rfl, e2⟩
        refine ⟨by omega, fun i hi => ?_⟩
        rcases Nat.mod_two_eq_zero_or_one i with e | e
        · obtain ⟨j, rfl⟩ : ∃ j, i = 2 * j := ⟨i / 2, by omega⟩
          rw [yvv (k2 j (by omega)).1, yvv (m2 j (by omega)).1, e2 j (by omega)]
        · obtain ⟨j, rfl⟩ : ∃ j, i = 2 * j + 1 := ⟨i / 2, by omega⟩
          rw [yvv (k2 j (by omega)).2, yvv (m2 j (by omega)).2, e2 j (by omega)]
/-- two codings differ: so do the texts -/
theorem Cod.dif {cd cd' : Int32} {n k : Nat} {f g : Nat → Int32} {V V' : Cell} (h : Cod cd n f V) (h' : Cod cd' k g V') (hne : ¬ cd = cd') : ¬ SameT n f k g := by
  rintro ⟨rfl, e⟩
  rcases h with ⟨rfl, -, k2⟩ | ⟨rfl, -, -, j, hj, hw⟩
  · rcases h' with ⟨rfl, -⟩ | ⟨-, -, -, j, hj, hw⟩
    · exact hne rfl
    · exact (k2 j hj).2 (by rw [e j hj]; exact hw)
  · rcases h' with ⟨-, -, m2⟩ | ⟨rfl, -⟩
    · exact (m2 j hj).2 (by rw [← e j hj]; exact hw)
    · exact hne rfl
/-- an object of exactly C is an instance of C -/
theorem cinst {p : Program} {l : Launch} {e : Env} {R : Room} {s : State} {m : MethodId} {args : Array Value} {below : List Frame} {meth : Method} {c : Code} {T : State} {locs : List Loc} {cells slots : Nat} (X : Stand p l e R s m args below meth c T locs cells slots) (hexec : p.tables.exec = Jvm.exec) {own C : String} {index : Nat} (hown : s.vm.findClass own = some m.cls) (hlink : (Cond.classLink own index C).before args s = true) {a : Addr} (hE : Exact C a T)
    {g : JFrame} (hg : g.method = m) {rest : List Value} (hstack : g.stack = .ref a :: rest) (hdg : decode c.code g.pc = .ok (.instanceof index, 3)) :
    ∃ T', Stand p l e R s m args below meth c T' locs cells slots ∧ T'.heap = T.heap ∧ ∀ target, Steps p.tables e below (T'.setTop { g with pc := g.pc + 3, stack := .int 1 :: rest }) target → Steps p.tables e below (T.setTop g) target := by
  obtain ⟨cB, h1, D, h2, h3, h4⟩ := hE
  have h1' : s.vm.findClass C = some cB := by rw [← X.warmed.alike.findClass]; exact h1
  obtain ⟨vm', X', st⟩ := X.instanceofYes hexec hown hlink h2 h4 h1' (by rw [h3]; exact Jvm.Free.SB.assignable_self _ _) hg hstack hdg
  exact ⟨_, X', rfl, st⟩
theorem cself {p : Program} {l : Launch} {e : Env} {R : Room} {s : State} {m : MethodId} {args : Array Value} {below : List Frame} {meth : Method} {c : Code} {T : State} {locs : List Loc} {cells slots : Nat} (X : Stand p l e R s m args below meth c T locs cells slots) (hexec : p.tables.exec = Jvm.exec) {own C : String} {index : Nat} (hown : s.vm.findClass own = some m.cls) (hlink : (Cond.classLink own index C).before args s = true) {a : Addr} (hE : Exact C a T)
    {g : JFrame} (hg : g.method = m) {rest : List Value} (hstack : g.stack = .ref a :: rest) (hdg : decode c.code g.pc = .ok (.checkcast index, 3)) :
    ∃ T', Stand p l e R s m args below meth c T' locs cells slots ∧ T'.heap = T.heap ∧ ∀ target, Steps p.tables e below (T'.setTop { g with pc := g.pc + 3, stack := .ref a :: rest }) target → Steps p.tables e below (T.setTop g) target := by
  obtain ⟨cB, h1, D, h2, h3, h4⟩ := hE
  have h1' : s.vm.findClass C = some cB := by rw [← X.warmed.alike.findClass]; exact h1
  obtain ⟨vm', X', st⟩ := X.checkcastYes hexec hown hlink h2 h4 h1' (by rw [h3]; exact Jvm.Free.SB.assignable_self _ _) hg hstack hdg
  exact ⟨_, X', rfl, fun t h => st t (by rw [← hstack] at h; exact h)⟩
namespace SEq
def yN : MethodName := ⟨"java/lang/String", "equals", "(Ljava/lang/Object;)Z"⟩
abbrev yB : ByteArray := jdk_42_method_66_code
theorem d0 : decode yB 0 = .ok (.aload_n 0, 1) := by decide +kernel
theorem d1 : decode yB 1 = .ok (.aload_n 1, 1) := by decide +kernel
theorem d2 : decode yB 2 = .ok (.if_acmp (.ne) 5, 3) := by decide +kernel
theorem d5 : decode yB 5 = .ok (.iconst 1, 1) := by decide +kernel
theorem d6 : decode yB 6 = .ok (.ireturn, 1) := by decide +kernel
theorem d7 : decode yB 7 = .ok (.aload_n 1, 1) := by decide +kernel
theorem d8 : decode yB 8 = .ok (.instanceof 10, 3) := by decide +kernel
theorem d11 : decode yB 11 = .ok (.ifCond (.eq) 43, 3) := by decide +kernel
theorem d14 : decode yB 14 = .ok (.aload_n 1, 1) := by decide +kernel
theorem d15 : decode yB 15 = .ok (.checkcast 10, 3) := by decide +kernel
theorem d18 : decode yB 18 = .ok (.astore_n 2, 1) := by decide +kernel
theorem d19 : decode yB 19 = .ok (.getstatic 38, 3) := by decide +kernel
theorem d22 : decode yB 22 = .ok (.ifCond (.eq) 14, 3) := by decide +kernel
theorem d25 : decode yB 25 = .ok (.aload_n 0, 1) := by decide +kernel
theorem d26 : decode yB 26 = .ok (.getfield 15, 3) := by decide +kernel
theorem d29 : decode yB 29 = .ok (.aload_n 2, 1) := by decide +kernel
theorem d30 : decode yB 30 = .ok (.getfield 15, 3) := by decide +kernel
theorem d33 : decode yB 33 = .ok (.if_icmp (.ne) 21, 3) := by decide +kernel
theorem d36 : decode yB 36 = .ok (.aload_n 0, 1) := by decide +kernel
theorem d37 : decode yB 37 = .ok (.getfield 9, 3) := by decide +kernel
theorem d40 : decode yB 40 = .ok (.aload_n 2, 1) := by decide +kernel
theorem d41 : decode yB 41 = .ok (.getfield 9, 3) := by decide +kernel
theorem d44 : decode yB 44 = .ok (.invokestatic 541, 3) := by decide +kernel
theorem d47 : decode yB 47 = .ok (.ifCond (.eq) 7, 3) := by decide +kernel
theorem d50 : decode yB 50 = .ok (.iconst 1, 1) := by decide +kernel
theorem d51 : decode yB 51 = .ok (.goto 4, 3) := by decide +kernel
theorem d54 : decode yB 54 = .ok (.iconst 0, 1) := by decide +kernel
theorem d55 : decode yB 55 = .ok (.ireturn, 1) := by decide +kernel
def site : List Cond := [.classLink "java/lang/String" 10 "java/lang/String", .fieldLink "java/lang/String" 38 "java/lang/String" "COMPACT_STRINGS" "Z", .fieldLink "java/lang/String" 15 "java/lang/String" "coder" "B", .fieldLink "java/lang/String" 9 "java/lang/String" "value" "[B", LEq.tab] ++ staticW "java/lang/String" 541 LEq.yN
def tab : Cond := tabOf yN yB 3 (some .boolean) site
def P (x t : Addr) (V : Cell) (cd : Int32) (n : Nat) (f : Nat → Int32) (y t' : Addr) (V' : Cell) (cd' : Int32) (k : Nat) (g : Nat → Int32) (z : Int32) (args : Array Value) (s : State) : Prop := args = #[.ref x, .ref y] ∧ Txt x t V cd n f s ∧ Txt y t' V' cd' k g s ∧ StaticIs s "java/lang/String" "COMPACT_STRINGS" "Z" (.int z) ∧ ¬ z = 0
/-- equals(Object) of two Strings: whether the texts are the same -/
theorem law (l : Launch) (x t : Addr) (V : Cell) (cd : Int32) (n : Nat) (f : Nat → Int32) (y t' : Addr) (V' : Cell) (cd' : Int32) (k : Nat) (g : Nat → Int32) (z : Int32) : Law l yN 2 1 1 14 yB 3 (some .boolean) site (P x t V cd n f y t' V' cd' k g z) (Says01 (SameT n f k g)) [] 0 0 := by
  refine Law.of_walk (plainFor_of_name (by decide +kernel)) (by decide +kernel) (by decide +kernel) (by decide) (fun _ _ h => by rw [h.1]; rfl) (fun _ U U' hal hh h => ⟨h.1, h.2.1.mv hal hh, h.2.2.1.mv hal hh, h.2.2.2.1.there hal hh, h.2.2.2.2⟩) (fun r U U' V V' h1 hal h2 h => Says01.mv r U U' V V' h1 hal h2 h) ?_
  intro p e s m args below meth c s₁ X0 hexec hbytes hml hret hlk hnm hown hh0 W hP
  obtain ⟨rfl, hx, hy, s1, hz⟩ := hP
  have c1 : Steps p.tables e below (s₁.setTop (entryFrame m #[.ref x, .ref y] 3)) (s₁.setTop (mkF m 2 #[.val (.ref x), .val (.ref y), .unset] [.ref y, .ref x])) := Steps.trans (entry rfl) (by
    show Steps p.tables e below (s₁.setTop (mkF m 0 #[.val (.ref x), .val (.ref y), .unset] [])) _
    refine XS.aloadN X0.here hexec rfl (hb hbytes d0) rfl rfl ?_
    refine XS.aloadN X0.here hexec rfl (hb hbytes d1) rfl rfl ?_
    exact Steps.refl _)
  by_cases hxy : x = y
  · have c2 : Steps p.tables e below (s₁.setTop (entryFrame m #[.ref x, .ref y] 3)) (s₁.setTop (mkF m 6 #[.val (.ref x), .val (.ref y), .unset] [.int 1])) := c1.trans (by
      refine acmpNo X0.here hexec rfl (hb hbytes d2) rfl rfl rfl (by simp [acmp, hxy]) ?_
      refine iconstV X0.here hexec rfl 1 (hb hbytes d5) (by decide) ?_
      exact Steps.refl _)
    subst hxy
    have ec : cd = cd' := by
      obtain ⟨D, fd, a1, a2, a3⟩ := hx.2.2.1
      obtain ⟨D', fd', b1, b2, b3⟩ := hy.2.2.1
      cases a1.symm.trans b1
      obtain ⟨q1, q2, q3, q4⟩ := a2.1
      obtain ⟨r1, r2, r3, r4⟩ := b2.1
      cases q4.symm.trans r4
      cases a3.symm.trans b3; rfl
    have et : t = t' := by
      obtain ⟨D, fd, a1, a2, a3⟩ := hx.2.1
      obtain ⟨D', fd', b1, b2, b3⟩ := hy.2.1
      cases a1.symm.trans b1
      obtain ⟨q1, q2, q3, q4⟩ := a2.1
      obtain ⟨r1, r2, r3, r4⟩ := b2.1
      cases q4.symm.trans r4
      cases a3.symm.trans b3; rfl
    subst ec et
    have ev : V = V' := by cases hx.2.2.2.1.1.symm.trans hy.2.2.2.1.1; rfl
    subst ev
    have hs : SameT n f k g := (Cod.eqv hx.2.2.2.2.1 hy.2.2.2.2.1 hx.2.2.2.2.2 hy.2.2.2.2.2).mp ⟨rfl, fun _ _ => rfl⟩
    exact ⟨s₁, some (.int 1), _, _, _, X0, rfl, rfl, rfl, (fun h => by cases h), ⟨1, rfl, hh0, Or.inl ⟨rfl, hs⟩⟩, fun fs hl => c2.trans (X0.ireturnOut hexec hret rfl (Or.inr (Or.inl rfl)) (hb hbytes d6) hl)⟩
  · have c2 : Steps p.tables e below (s₁.setTop (entryFrame m #[.ref x, .ref y] 3)) (s₁.setTop (mkF m 8 #[.val (.ref x), .val (.ref y), .unset] [.ref y])) := c1.trans (by
      refine acmpYes X0.here hexec rfl (pc0 := 2) rfl (hb hbytes d2) rfl rfl rfl (by simp [acmp, hxy]) (by decide) rfl ?_
      refine XS.aloadN X0.here hexec rfl (hb hbytes d7) rfl rfl ?_
      exact Steps.refl _)
    obtain ⟨T3, X3, q3, st3⟩ := cinst X0 hexec hown (wk W (.classLink "java/lang/String" 10 "java/lang/String")) (hy.mv X0.warmed.alike hh0).1 (g := (mkF m 8 #[.val (.ref x), .val (.ref y), .unset] [.ref y])) rfl (rest := []) rfl (hb hbytes d8)
    have hh3 := q3.trans hh0
    have c4 : Steps p.tables e below (s₁.setTop (entryFrame m #[.ref x, .ref y] 3)) (T3.setTop (mkF m 15 #[.val (.ref x), .val (.ref y), .unset] [.ref y])) := (c2.trans (st3 _ (Steps.refl _))).trans (by
      refine XS.ifNo X3.here hexec rfl (hb hbytes d11) rfl (i0_eq_f (by decide)) ?_
      refine XS.aloadN X3.here hexec rfl (hb hbytes d14) rfl rfl ?_
      exact Steps.refl _)
    obtain ⟨T5, X5, q5, st5⟩ := cself X3 hexec hown (wk W (.classLink "java/lang/String" 10 "java/lang/String")) (hy.mv X3.warmed.alike hh3).1 (g := (mkF m 15 #[.val (.ref x), .val (.ref y), .unset] [.ref y])) rfl (rest := []) rfl (hb hbytes d15)
    have hh5 := q5.trans hh3
    have c6 : Steps p.tables e below (s₁.setTop (entryFrame m #[.ref x, .ref y] 3)) (T5.setTop (mkF m 19 #[.val (.ref x), .val (.ref y), .val (.ref y)] [])) := (c4.trans (st5 _ (Steps.refl _))).trans (by
      refine XS.astoreN X5.here hexec rfl (hb hbytes d18) rfl rfl rfl ?_
      exact Steps.refl _)
    obtain ⟨T7, X7, q7, st7⟩ := X5.sget hexec hown (wk W (.fieldLink "java/lang/String" 38 "java/lang/String" "COMPACT_STRINGS" "Z")) s1 (fun _ _ h => by rw [hh5]; exact h) (g := (mkF m 19 #[.val (.ref x), .val (.ref y), .val (.ref y)] [])) rfl (hb hbytes d19)
    have hh7 := q7.trans hh5
    have c8 : Steps p.tables e below (s₁.setTop (entryFrame m #[.ref x, .ref y] 3)) (T7.setTop (mkF m 26 #[.val (.ref x), .val (.ref y), .val (.ref y)] [.ref x])) := (c6.trans (st7 _ (Steps.refl _))).trans (by
      refine XS.ifNo X7.here hexec rfl (hb hbytes d22) rfl (i0_eq_f hz) ?_
      refine XS.aloadN X7.here hexec rfl (hb hbytes d25) rfl rfl ?_
      exact Steps.refl _)
    obtain ⟨T9, X9, q9, st9⟩ := X7.hget hexec hown (wk W (.fieldLink "java/lang/String" 15 "java/lang/String" "coder" "B")) (hx.mv X7.warmed.alike hh7).2.2.1 (g := (mkF m 26 #[.val (.ref x), .val (.ref y), .val (.ref y)] [.ref x])) rfl (rest := []) rfl (hb hbytes d26)
    have hh9 := q9.trans hh7
    have c10 : Steps p.tables e below (s₁.setTop (entryFrame m #[.ref x, .ref y] 3)) (T9.setTop (mkF m 30 #[.val (.ref x), .val (.ref y), .val (.ref y)] [.ref y, .int cd])) := (c8.trans (st9 _ (Steps.refl _))).trans (by
      refine XS.aloadN X9.here hexec rfl (hb hbytes d29) rfl rfl ?_
      exact Steps.refl _)
    obtain ⟨T11, X11, q11, st11⟩ := X9.hget hexec hown (wk W (.fieldLink "java/lang/String" 15 "java/lang/String" "coder" "B")) (hy.mv X9.warmed.alike hh9).2.2.1 (g := (mkF m 30 #[.val (.ref x), .val (.ref y), .val (.ref y)] [.ref y, .int cd])) rfl (rest := [.int cd]) rfl (hb hbytes d30)
    have hh11 := q11.trans hh9
    have c12 : Steps p.tables e below (s₁.setTop (entryFrame m #[.ref x, .ref y] 3)) (T11.setTop (mkF m 33 #[.val (.ref x), .val (.ref y), .val (.ref y)] [.int cd', .int cd])) := c10.trans (st11 _ (Steps.refl _))
    by_cases hcd : cd = cd'
    · subst hcd
      have c13 : Steps p.tables e below (s₁.setTop (entryFrame m #[.ref x, .ref y] 3)) (T11.setTop (mkF m 37 #[.val (.ref x), .val (.ref y), .val (.ref y)] [.ref x])) := c12.trans (by
        refine XS.icmpNo X11.here hexec rfl (hb hbytes d33) rfl (ii_ne_f rfl) ?_
        refine XS.aloadN X11.here hexec rfl (hb hbytes d36) rfl rfl ?_
        exact Steps.refl _)
      obtain ⟨T14, X14, q14, st14⟩ := X11.hget hexec hown (wk W (.fieldLink "java/lang/String" 9 "java/lang/String" "value" "[B")) (hx.mv X11.warmed.alike hh11).2.1 (g := (mkF m 37 #[.val (.ref x), .val (.ref y), .val (.ref y)] [.ref x])) rfl (rest := []) rfl (hb hbytes d37)
      have hh14 := q14.trans hh11
      have c15 : Steps p.tables e below (s₁.setTop (entryFrame m #[.ref x, .ref y] 3)) (T14.setTop (mkF m 41 #[.val (.ref x), .val (.ref y), .val (.ref y)] [.ref y, .ref t])) := (c13.trans (st14 _ (Steps.refl _))).trans (by
        refine XS.aloadN X14.here hexec rfl (hb hbytes d40) rfl rfl ?_
        exact Steps.refl _)
      obtain ⟨T16, X16, q16, st16⟩ := X14.hget hexec hown (wk W (.fieldLink "java/lang/String" 9 "java/lang/String" "value" "[B")) (hy.mv X14.warmed.alike hh14).2.1 (g := (mkF m 41 #[.val (.ref x), .val (.ref y), .val (.ref y)] [.ref y, .ref t])) rfl (rest := [.ref t]) rfl (hb hbytes d41)
      have hh16 := q16.trans hh14
      have c17 : Steps p.tables e below (s₁.setTop (entryFrame m #[.ref x, .ref y] 3)) (T16.setTop (mkF m 44 #[.val (.ref x), .val (.ref y), .val (.ref y)] [.ref t', .ref t])) := c15.trans (st16 _ (Steps.refl _))
      obtain ⟨v18, T18, X18, E18, g18⟩ := X16.callS hexec (LEq.law l t V t' V') hown (wks W (staticW "java/lang/String" 541 LEq.yN)) (wk W LEq.tab) (W := 0) (Nat.le_of_ble_eq_true rfl) (Nat.le_of_ble_eq_true rfl) (Nat.le_refl _) (Nat.le_refl _) (g := (mkF m 44 #[.val (.ref x), .val (.ref y), .val (.ref y)] [.ref t', .ref t])) rfl (by rw [hml]; rfl) c17 (argsL := [.ref t, .ref t']) (rest := []) rfl rfl (by show 2 * 0 + 0 ≤ _; decide) (hb hbytes d44) (⟨rfl, hx.2.2.2.1.mv X16.warmed.alike hh16, hx.2.2.2.2.1.ty, hy.2.2.2.1.mv X16.warmed.alike hh16, hy.2.2.2.2.1.ty⟩)
      obtain ⟨v, rfl, q18, hv⟩ := E18
      have iff := Cod.eqv hx.2.2.2.2.1 hy.2.2.2.2.1 hx.2.2.2.2.2 hy.2.2.2.2.2
      rcases hv with ⟨rfl, he⟩ | ⟨rfl, he⟩
      · have c19 : Steps p.tables e below (s₁.setTop (entryFrame m #[.ref x, .ref y] 3)) (T18.setTop (mkF m 55 #[.val (.ref x), .val (.ref y), .val (.ref y)] [.int 1])) := Steps.trans g18 (by
          refine XS.ifNo X18.here hexec rfl (hb hbytes d47) rfl (i0_eq_f (by decide)) ?_
          refine iconstV X18.here hexec rfl 1 (hb hbytes d50) (by decide) ?_
          refine XS.goto X18.here hexec rfl (pc0 := 51) rfl (hb hbytes d51) (by decide) rfl ?_
          exact Steps.refl _)
        exact ⟨T18, some (.int 1), _, _, _, X18, rfl, rfl, rfl, (fun h => by cases h), ⟨1, rfl, q18.trans hh16, Or.inl ⟨rfl, iff.mp he⟩⟩, fun fs hl => c19.trans (X18.ireturnOut hexec hret rfl (Or.inr (Or.inl rfl)) (hb hbytes d55) hl)⟩
      · have c19 : Steps p.tables e below (s₁.setTop (entryFrame m #[.ref x, .ref y] 3)) (T18.setTop (mkF m 55 #[.val (.ref x), .val (.ref y), .val (.ref y)] [.int 0])) := Steps.trans g18 (by
          refine XS.ifYes X18.here hexec rfl (pc0 := 47) rfl (hb hbytes d47) rfl (i0_eq_t rfl) (by decide) rfl ?_
          refine iconstV X18.here hexec rfl 0 (hb hbytes d54) (by decide) ?_
          exact Steps.refl _)
        exact ⟨T18, some (.int 0), _, _, _, X18, rfl, rfl, rfl, (fun h => by cases h), ⟨0, rfl, q18.trans hh16, Or.inr ⟨rfl, fun q => he (iff.mpr q)⟩⟩, fun fs hl => c19.trans (X18.ireturnOut hexec hret rfl (Or.inr (Or.inl rfl)) (hb hbytes d55) hl)⟩
    · have c13 : Steps p.tables e below (s₁.setTop (entryFrame m #[.ref x, .ref y] 3)) (T11.setTop (mkF m 55 #[.val (.ref x), .val (.ref y), .val (.ref y)] [.int 0])) := c12.trans (by
        refine XS.icmpYes X11.here hexec rfl (pc0 := 33) rfl (hb hbytes d33) rfl (ii_ne_t hcd) (by decide) rfl ?_
        refine iconstV X11.here hexec rfl 0 (hb hbytes d54) (by decide) ?_
        exact Steps.refl _)
      exact ⟨T11, some (.int 0), _, _, _, X11, rfl, rfl, rfl, (fun h => by cases h), ⟨0, rfl, hh11, Or.inr ⟨rfl, Cod.dif hx.2.2.2.2.1 hy.2.2.2.2.1 hcd⟩⟩, fun fs hl => c13.trans (X11.ireturnOut hexec hret rfl (Or.inr (Or.inl rfl)) (hb hbytes d55) hl)⟩
theorem pays {l : Launch} {R : Room} {p : Program} {e : Env} {below : List Frame} {s : State} {sargs : Array Value} {len W : Nat} (x t : Addr) (V : Cell) (cd : Int32) (n : Nat) (f : Nat → Int32) (y t' : Addr) (V' : Cell) (cd' : Int32) (k : Nat) (g : Nat → Int32) (z : Int32) (htab : tab.before sargs s = true) (hfr : 2 ≤ R.frames) (hlo : W + 28 ≤ R.locals) :
    Back l R p e below s sargs yN len W (fun A₁ a₁ => A₁.cells + 0 ≤ R.cells ∧ A₁.slots + 0 ≤ R.slots ∧ P x t V cd n f y t' V' cd' k g z a₁ A₁.U) (fun A₁ _ v₁ B₁ => Says01 (SameT n f k g) v₁ A₁.U B₁.U ∧ B₁.locs = A₁.locs ++ [] ∧ B₁.cells = A₁.cells + 0 ∧ B₁.slots = A₁.slots + 0) :=
  (law l x t V cd n f y t' V' cd' k g z).pays htab hfr (by omega)
end SEq
end StrChars
namespace StrChars.Road
open Jvm Sem ClassFile Op Lib Jvm.Stand Jvm.Free Jvm.Free.XT
open Jvm.Lib.Cold (StaticIs)
/-- the words of String.isEmpty() -/
abbrev wordsEmp : List Jvm.Cond := [.code Emp.yN Emp.yB 1 (some .boolean), .initialized ST, .fieldLink ST 9 ST "value" "[B"]
theorem tabEmp_of {a : Array Value} {s : State} (h : ∀ w ∈ wordsEmp, w.before a s = true) : Emp.tab.before a s = true := unparts (wk h (.code Emp.yN Emp.yB 1 (some .boolean))) (wks h (.initialized Emp.yN.cls :: Emp.site))
theorem movedEmp {Z s : State} {a0 args : Array Value} (hZ : Z.Warmed39 s.vm) (hw : ∀ d ∈ wordsEmp, d.before a0 Z = true) : ∀ d ∈ wordsEmp, d.before args s = true := fun d hd => by
  have t : ∀ d ∈ wordsEmp, (d.onTables && d.keepsFace) = true := by decide +kernel
  exact RoadKit.mv hZ (hw d hd) (t d hd)
/-- the words of String.equals(Object) -/
abbrev wordsEq : List Jvm.Cond := [.code SEq.yN SEq.yB 3 (some .boolean), .initialized ST, .classLink ST 10 ST, .fieldLink ST 38 ST "COMPACT_STRINGS" "Z", .fieldLink ST 15 ST "coder" "B", .fieldLink ST 9 ST "value" "[B", .methodLink ST 541 LEq.yN, .static LEq.yN, .code LEq.yN LEq.yB 3 (some .boolean), .initialized "java/lang/StringLatin1"]
theorem tabEq_of {a : Array Value} {s : State} (h : ∀ w ∈ wordsEq, w.before a s = true) : SEq.tab.before a s = true := by
  have hl : LEq.tab.before a s = true := unparts (wk h (.code LEq.yN LEq.yB 3 (some .boolean))) (wks h (.initialized LEq.yN.cls :: LEq.site))
  have q := consq hl h
  exact unparts (wk q (.code SEq.yN SEq.yB 3 (some .boolean))) (wks q (.initialized SEq.yN.cls :: SEq.site))
theorem movedEq {Z s : State} {a0 args : Array Value} (hZ : Z.Warmed39 s.vm) (hw : ∀ d ∈ wordsEq, d.before a0 Z = true) : ∀ d ∈ wordsEq, d.before args s = true := fun d hd => by
  have t : ∀ d ∈ wordsEq, (d.onTables && d.keepsFace) = true := by decide +kernel
  exact RoadKit.mv hZ (hw d hd) (t d hd)
/-- the road's facts of a String, as the laws ask it -/
theorem txt_of {Z U : State} {a0 : Array Value} {kI : Nat} (wi : (Jvm.Cond.instantiable ST kI).before a0 Z = true) (al : Z.vm.Alike U.vm) {x t : Addr} {kb : ClassId} {cs : List Int32} {cd N2 : Int32} {vs : List Value} (E : RoadKit.Exa Z U.heap x ST) (V : RoadKit.Fld Z U.heap x ST "value" "[B" (.ref t)) (C : RoadKit.Fld Z U.heap x ST "coder" "B" (.int cd)) (K : RoadKit.Arv Z U.heap t kb .byte N2 vs (.int 0)) (hc : CodA cs cd N2 vs) (hb : ∀ c ∈ cs, ¬ c < 0 ∧ ¬ (65535 : Int32) < c) (l2 : cs.length ≤ 4000) :
    ∃ A, Txt x t A cd cs.length (fun j => cs.getD j 0) U := by
  obtain ⟨A, K1, K2, K3, K4, K5, K6⟩ := K
  have hcod := hc.cod (by omega) K3 K5
  obtain ⟨D, fV, fC, hB, F1, F2, g1, g2, -, -⟩ := strObj wi al E V C
  exact ⟨A, ⟨_, hB.2.2.1, D, hB.1, rfl, by cases q : D.vm <;> first | rfl | exact absurd q (hB.2.1.2 _)⟩, Has.of hB F1 g1, Has.of hB F2 g2, ⟨K1.1, State.isArrayOf_alike al K1.2.1, K1.2.2, by rcases hcod with ⟨-, q, -⟩ | ⟨-, q, -⟩ <;> omega⟩, hcod, fun j hj => by
    have e : cs.getD j 0 = cs[j] := by simp [List.getD_eq_getElem?_getD, hj]
    show ¬ cs.getD j 0 < 0 ∧ ¬ 65535 < cs.getD j 0
    rw [e]; exact hb _ (List.getElem_mem _)⟩
theorem same_list (cs ds : List Int32) : SameT cs.length (fun j => cs.getD j 0) ds.length (fun j => ds.getD j 0) ↔ cs = ds := by
  constructor
  · rintro ⟨e, q⟩
    refine List.ext_getElem e fun j h1 h2 => ?_
    have := q j h1
    simpa [List.getD_eq_getElem?_getD, h1, h2] using this
  · rintro rfl
    exact ⟨rfl, fun _ _ => rfl⟩
/-- **isEmpty() OF SUCH A STRING** -/
theorem empW {p : Program} {l : Launch} {e : Env} {R : Room} {s : State} {args : Array Value} {below : List Frame} {len W : Nat} {Z : State} {a0 : Array Value} {h : Heap} (hZ : Z.Warmed39 s.vm) (hw : ∀ d ∈ wordsEmp, d.before a0 Z = true) {kI : Nat} (wi : (Jvm.Cond.instantiable ST kI).before a0 Z = true)
    {x t : Addr} {kb : ClassId} {cs : List Int32} {cd N2 : Int32} {vs : List Value} (E : RoadKit.Exa Z h x ST) (V : RoadKit.Fld Z h x ST "value" "[B" (.ref t)) (C : RoadKit.Fld Z h x ST "coder" "B" (.int cd)) (K : RoadKit.Arv Z h t kb .byte N2 vs (.int 0)) (hc : CodA cs cd N2 vs) (hb : ∀ c ∈ cs, ¬ c < 0 ∧ ¬ (65535 : Int32) < c) (l2 : cs.length ≤ 4000) (hfr : 1 ≤ R.frames) (hlo : W + 12 ≤ R.locals) :
    Back l R p e below s args (⟨"java/lang/String", "isEmpty", "()Z"⟩ : MethodName) len W (fun P a => a = #[.ref x] ∧ P.U.heap = h ∧ P.cells + 0 ≤ R.cells ∧ P.slots + 0 ≤ R.slots)
      (fun P _ v B => ∃ L, (v = some (.int (if cs.length = 0 then 1 else 0)) ∧ L = [] ∧ B.U.heap = h) ∧ B.locs = P.locs ++ L ∧ B.cells = P.cells + 0 ∧ B.slots = P.slots + 0) := by
  intro m meth c P g ig mk a X hg hsize hdg hW hn hp'
  obtain ⟨rfl, rfl, r1, r2⟩ := hp'
  have al : Z.vm.Alike P.U.vm := hZ.alike.trans X.warmed.alike
  obtain ⟨A, hx⟩ := txt_of wi al E V C K hc hb l2
  obtain ⟨v, B, X', ⟨⟨hv, hh⟩, hl, hk, hs⟩, st⟩ := Emp.pays x t A cd cs.length (fun j => cs.getD j 0) (tabEmp_of (movedEmp hZ hw)) hfr hlo m meth c P g ig mk _ X hg hsize hdg hW hn ⟨r1, r2, rfl, hx⟩
  exact ⟨v, B, X', ⟨[], ⟨hv, rfl, hh⟩, hl, hk, hs⟩, st⟩
/-- **equals(Object) OF TWO SUCH STRINGS**: 1 just where the chars are the same -/
theorem eqW {p : Program} {l : Launch} {e : Env} {R : Room} {s : State} {args : Array Value} {below : List Frame} {len W : Nat} {Z : State} {a0 : Array Value} {h : Heap} (hZ : Z.Warmed39 s.vm) (hw : ∀ d ∈ wordsEq, d.before a0 Z = true) {kI : Nat} (wi : (Jvm.Cond.instantiable ST kI).before a0 Z = true)
    {x t : Addr} {kb : ClassId} {cs : List Int32} {cd N2 : Int32} {vs : List Value} (E : RoadKit.Exa Z h x ST) (V : RoadKit.Fld Z h x ST "value" "[B" (.ref t)) (C : RoadKit.Fld Z h x ST "coder" "B" (.int cd)) (K : RoadKit.Arv Z h t kb .byte N2 vs (.int 0)) (hc : CodA cs cd N2 vs) (hb : ∀ c ∈ cs, ¬ c < 0 ∧ ¬ (65535 : Int32) < c) (l2 : cs.length ≤ 4000)
    {y t' : Addr} {kb' : ClassId} {ds : List Int32} {cd' N2' : Int32} {vs' : List Value} (E' : RoadKit.Exa Z h y ST) (V' : RoadKit.Fld Z h y ST "value" "[B" (.ref t')) (C' : RoadKit.Fld Z h y ST "coder" "B" (.int cd')) (K' : RoadKit.Arv Z h t' kb' .byte N2' vs' (.int 0)) (hc' : CodA ds cd' N2' vs') (hb' : ∀ c ∈ ds, ¬ c < 0 ∧ ¬ (65535 : Int32) < c) (l2' : ds.length ≤ 4000)
    {z : Int32} (S : RoadKit.Sta Z h ST "COMPACT_STRINGS" "Z" (.int z)) (hz : ¬ z = 0) (hfr : 2 ≤ R.frames) (hlo : W + 28 ≤ R.locals) :
    Back l R p e below s args (⟨"java/lang/String", "equals", "(Ljava/lang/Object;)Z"⟩ : MethodName) len W (fun P a => a = #[.ref x, .ref y] ∧ P.U.heap = h ∧ P.cells + 0 ≤ R.cells ∧ P.slots + 0 ≤ R.slots)
      (fun P _ v B => ∃ L, (((v = some (.int 1) ∧ cs = ds) ∨ (v = some (.int 0) ∧ ¬ cs = ds)) ∧ L = [] ∧ B.U.heap = h) ∧ B.locs = P.locs ++ L ∧ B.cells = P.cells + 0 ∧ B.slots = P.slots + 0) := by
  intro m meth c P g ig mk a X hg hsize hdg hW hn hp'
  obtain ⟨rfl, rfl, r1, r2⟩ := hp'
  have al : Z.vm.Alike P.U.vm := hZ.alike.trans X.warmed.alike
  obtain ⟨A, hx⟩ := txt_of wi al E V C K hc hb l2
  obtain ⟨A', hy⟩ := txt_of wi al E' V' C' K' hc' hb' l2'
  obtain ⟨v, B, X', ⟨⟨w, hv, hh, hq⟩, hl, hk, hs⟩, st⟩ := SEq.pays x t A cd cs.length (fun j => cs.getD j 0) y t' A' cd' ds.length (fun j => ds.getD j 0) z (tabEq_of (movedEq hZ hw)) hfr hlo m meth c P g ig mk _ X hg hsize hdg hW hn ⟨r1, r2, rfl, hx, hy, sta_is al S, hz⟩
  refine ⟨v, B, X', ⟨[], ⟨?_, rfl, hh⟩, hl, hk, hs⟩, st⟩
  rcases hq with ⟨rfl, q⟩ | ⟨rfl, q⟩
  · exact Or.inl ⟨hv, (same_list cs ds).mp q⟩
  · exact Or.inr ⟨hv, fun e => q ((same_list cs ds).mpr e)⟩
end StrChars.Road
namespace StrChars
open Jvm Sem ClassFile Op Lib Jvm.Stand Jvm.Free.XT Jvm.Free.ALB Jvm.Free.JM Jvm.Free
open Jvm.Lib.Cold (StaticIs)
namespace ChN
def yN : MethodName := ⟨"java/lang/String", "charAt", "(I)C"⟩
abbrev yB : ByteArray := jdk_42_method_56_code
theorem d0 : decode yB 0 = .ok (.aload_n 0, 1) := by decide +kernel
theorem d1 : decode yB 1 = .ok (.invokevirtual 492, 3) := by decide +kernel
theorem d4 : decode yB 4 = .ok (.ifCond (.eq) 12, 3) := by decide +kernel
theorem d7 : decode yB 7 = .ok (.aload_n 0, 1) := by decide +kernel
theorem d8 : decode yB 8 = .ok (.getfield 9, 3) := by decide +kernel
theorem d11 : decode yB 11 = .ok (.iload_n 1, 1) := by decide +kernel
theorem d12 : decode yB 12 = .ok (.invokestatic 495, 3) := by decide +kernel
theorem d15 : decode yB 15 = .ok (.ireturn, 1) := by decide +kernel
def site : List Cond := [.fieldLink "java/lang/String" 9 "java/lang/String" "value" "[B", IsL.tab, LChA.tab] ++ virtW "java/lang/String" 492 "java/lang/String" IsL.yN IsL.yN ++ staticW "java/lang/String" 495 LChA.yN
def tab : Cond := tabOf yN yB 2 (some .char) site
def P (x t : Addr) (V : Cell) (n : Nat) (f : Nat → Int32) (z : Int32) (fm : Value) (i : Nat) (args : Array Value) (s : State) : Prop := args = #[.ref x, .int (Int32.ofNat i)] ∧ Txt x t V 0 n f s ∧ i < n ∧ StaticIs s "java/lang/String" "COMPACT_STRINGS" "Z" (.int z) ∧ ¬ z = 0 ∧ StaticIs s "jdk/internal/util/Preconditions" "SIOOBE_FORMATTER" "Ljava/util/function/BiFunction;" fm ∧ fm.isRef = true
def E (f : Nat → Int32) (i : Nat) (r : Option Value) (s u : State) : Prop := XT.PureE (some (.int (f i))) r s u
/-- charAt(i) of a Latin-1 String of n chars, i < n: f i -/
theorem law (l : Launch) (x t : Addr) (V : Cell) (n : Nat) (f : Nat → Int32) (z : Int32) (fm : Value) (i : Nat) : Law l yN 2 1 3 40 yB 2 (some .char) site (P x t V n f z fm i) (E f i) [] 0 0 := by
  refine Law.of_walk (plainFor_of_name (by decide +kernel)) (by decide +kernel) (by decide +kernel) (by decide) (fun _ _ h => by rw [h.1]; rfl) (fun _ U U' hal hh h => ⟨h.1, h.2.1.mv hal hh, h.2.2.1, h.2.2.2.1.there hal hh, h.2.2.2.2.1, h.2.2.2.2.2.1.there hal hh, h.2.2.2.2.2.2⟩) (fun r U U' V V' h1 hal h2 h => XT.PureE.mv r U U' V V' h1 hal h2 h) ?_
  intro p e s m args below meth c s₁ X0 hexec hbytes hml hret hlk hnm hown hh0 W hP
  obtain ⟨rfl, hx, hi, s1, hz, s3, rf⟩ := hP
  have v31 := hx.2.2.2.1.2.2.2
  have hr := hx.2.2.2.2.2 i hi
  have hx0 := hx.mv X0.warmed.alike hh0
  have c1 : Steps p.tables e below (s₁.setTop (entryFrame m #[.ref x, .int (Int32.ofNat i)] 2)) (s₁.setTop (mkF m 1 #[.val (.ref x), .val (.int (Int32.ofNat i))] [.ref x])) := Steps.trans (entry rfl) (by
    show Steps p.tables e below (s₁.setTop (mkF m 0 #[.val (.ref x), .val (.int (Int32.ofNat i))] [])) _
    refine XS.aloadN X0.here hexec rfl (hb hbytes d0) rfl rfl ?_
    exact Steps.refl _)
  obtain ⟨v2, T2, X2, E2, g2⟩ := X0.callV hexec (IsL.law l x 0 z) hown (wks W (virtW "java/lang/String" 492 "java/lang/String" IsL.yN IsL.yN)) rfl (by decide) (wk W IsL.tab) (W := 0) (Nat.le_of_ble_eq_true rfl) (Nat.le_of_ble_eq_true rfl) (Nat.le_refl _) (Nat.le_refl _) (hx0.1.fc X0.warmed.alike) hx0.1.is (g := (mkF m 1 #[.val (.ref x), .val (.int (Int32.ofNat i))] [.ref x])) rfl (by rw [hml]; rfl) c1 (argsL := []) (rest := []) rfl rfl (by show 2 * 0 + 0 ≤ _; decide) (hb hbytes d1) (⟨rfl, hx0.2.2.1, hx.2.2.2.2.1.cd, s1.there X0.warmed.alike hh0, hz⟩)
  obtain ⟨rfl, q2⟩ := E2
  have hh2 := q2.trans hh0
  have hx2 := hx.mv X2.warmed.alike hh2
  obtain ⟨-, k1, k2⟩ | ⟨k0, -⟩ := hx.2.2.2.2.1
  · have c3 : Steps p.tables e below (s₁.setTop (entryFrame m #[.ref x, .int (Int32.ofNat i)] 2)) (T2.setTop (mkF m 8 #[.val (.ref x), .val (.int (Int32.ofNat i))] [.ref x])) := Steps.trans g2 (by
      refine XS.ifNo X2.here hexec rfl (hb hbytes d4) rfl (i0_eq_f (by decide)) ?_
      refine XS.aloadN X2.here hexec rfl (hb hbytes d7) rfl rfl ?_
      exact Steps.refl _)
    obtain ⟨T4, X4, q4, st4⟩ := X2.hget hexec hown (wk W (.fieldLink "java/lang/String" 9 "java/lang/String" "value" "[B")) hx2.2.1 (g := (mkF m 8 #[.val (.ref x), .val (.int (Int32.ofNat i))] [.ref x])) rfl (rest := []) rfl (hb hbytes d8)
    have hh4 := q4.trans hh2
    have c5 : Steps p.tables e below (s₁.setTop (entryFrame m #[.ref x, .int (Int32.ofNat i)] 2)) (T4.setTop (mkF m 12 #[.val (.ref x), .val (.int (Int32.ofNat i))] [.int (Int32.ofNat i), .ref t])) := (c3.trans (st4 _ (Steps.refl _))).trans (by
      refine XS.iloadN X4.here hexec rfl (hb hbytes d11) rfl ?_
      exact Steps.refl _)
    obtain ⟨v6, T6, X6, E6, g6⟩ := X4.callS hexec (LChA.law l t V i (lo8 (f i)) fm) hown (wks W (staticW "java/lang/String" 495 LChA.yN)) (wk W LChA.tab) (W := 0) (Nat.le_of_ble_eq_true rfl) (Nat.le_of_ble_eq_true rfl) (Nat.le_refl _) (Nat.le_refl _) (g := (mkF m 12 #[.val (.ref x), .val (.int (Int32.ofNat i))] [.int (Int32.ofNat i), .ref t])) rfl (by rw [hml]; rfl) c5 (argsL := [.ref t, .int (Int32.ofNat i)]) (rest := []) rfl rfl (by show 2 * 0 + 0 ≤ _; decide) (hb hbytes d12) (⟨rfl, hx.2.2.2.1.mv X4.warmed.alike hh4, (k2 i hi).1, s3.there X4.warmed.alike hh4, rf⟩)
    obtain ⟨rfl, q6⟩ := E6
    rw [chr8_lo8 hr.1 (k2 i hi).2] at g6
    exact ⟨T6, some (.int (f i)), _, _, _, X6, rfl, rfl, rfl, (fun h => by cases h), ⟨rfl, q6.trans hh4⟩, fun fs hl => Steps.trans g6 (X6.ireturnOut hexec hret (narrow_ch hr.1 hr.2) (Or.inr (Or.inr (Or.inr (Or.inl rfl)))) (hb hbytes d15) hl)⟩
  · exact absurd k0 (by decide)
theorem pays {l : Launch} {R : Room} {p : Program} {e : Env} {below : List Frame} {s : State} {sargs : Array Value} {len W : Nat} (x t : Addr) (V : Cell) (n : Nat) (f : Nat → Int32) (z : Int32) (fm : Value) (i : Nat) (htab : tab.before sargs s = true) (hfr : 4 ≤ R.frames) (hlo : W + 53 ≤ R.locals) :
    Back l R p e below s sargs yN len W (fun A₁ a₁ => A₁.cells + 0 ≤ R.cells ∧ A₁.slots + 0 ≤ R.slots ∧ P x t V n f z fm i a₁ A₁.U) (fun A₁ _ v₁ B₁ => E f i v₁ A₁.U B₁.U ∧ B₁.locs = A₁.locs ++ [] ∧ B₁.cells = A₁.cells + 0 ∧ B₁.slots = A₁.slots + 0) :=
  (law l x t V n f z fm i).pays htab hfr (by omega)
end ChN
end StrChars
namespace StrChars.Road
open Jvm Sem ClassFile Op Lib Jvm.Stand Jvm.Free Jvm.Free.XT
open Jvm.Lib.Cold (StaticIs)
/-- the words of String.charAt(int), the Latin-1 road alone -/
abbrev wordsChN : List Jvm.Cond := [.code ChN.yN ChN.yB 2 (some .char), .initialized ST, .fieldLink ST 9 ST "value" "[B", .fieldLink ST 38 ST "COMPACT_STRINGS" "Z", .fieldLink ST 15 ST "coder" "B", .code IsL.yN IsL.yB 1 (some .boolean), .methodLink ST 492 IsL.yN, .declares IsL.yN, .selects ST IsL.yN IsL.yN, .instanceMethod IsL.yN,
  .methodLink ST 495 LChA.yN, .static LChA.yN, .code LChA.yN LChA.yB 2 (some .char), .initialized "java/lang/StringLatin1", .methodLink "java/lang/StringLatin1" 9 JO.Str_checkIndex.yN, .static JO.Str_checkIndex.yN, .code JO.Str_checkIndex.yN JO.Str_checkIndex.yB 2 none,
  .fieldLink ST 1053 "jdk/internal/util/Preconditions" "SIOOBE_FORMATTER" "Ljava/util/function/BiFunction;", .methodLink ST 1059 JC.PreCheck.yN, .static JC.PreCheck.yN, .code JC.PreCheck.yN JC.PreCheck.yB 3 (some .int), .initialized "jdk/internal/util/Preconditions"]
theorem tabChN_of {a : Array Value} {s : State} (h : ∀ w ∈ wordsChN, w.before a s = true) : ChN.tab.before a s = true := by
  have hp : JC.PreCheck.tab.before a s = true := unparts (wk h (.code JC.PreCheck.yN JC.PreCheck.yB 3 (some .int))) (wks h (.initialized JC.PreCheck.yN.cls :: JC.PreCheck.site))
  have qk := consq hp h
  have hk : JO.Str_checkIndex.tab.before a s = true := unparts (wk qk (.code JO.Str_checkIndex.yN JO.Str_checkIndex.yB 2 none)) (wks qk (.initialized JO.Str_checkIndex.yN.cls :: JO.Str_checkIndex.site))
  have ql := consq hk h
  have hl : LChA.tab.before a s = true := unparts (wk ql (.code LChA.yN LChA.yB 2 (some .char))) (wks ql (.initialized LChA.yN.cls :: LChA.site))
  have hi : IsL.tab.before a s = true := unparts (wk h (.code IsL.yN IsL.yB 1 (some .boolean))) (wks h (.initialized IsL.yN.cls :: IsL.site))
  have q := consq hi (consq hl h)
  exact unparts (wk q (.code ChN.yN ChN.yB 2 (some .char))) (wks q (.initialized ChN.yN.cls :: ChN.site))
theorem movedChN {Z s : State} {a0 args : Array Value} (hZ : Z.Warmed39 s.vm) (hw : ∀ d ∈ wordsChN, d.before a0 Z = true) : ∀ d ∈ wordsChN, d.before args s = true := fun d hd => by
  have t : ∀ d ∈ wordsChN, (d.onTables && d.keepsFace) = true := by decide +kernel
  exact RoadKit.mv hZ (hw d hd) (t d hd)
/-- **charAt(i) OF A LATIN-1 STRING**, i < n: the char -/
theorem chN {p : Program} {l : Launch} {e : Env} {R : Room} {s : State} {args : Array Value} {below : List Frame} {len W : Nat} {Z : State} {a0 : Array Value} {h : Heap} (hZ : Z.Warmed39 s.vm) (hw : ∀ d ∈ wordsChN, d.before a0 Z = true) {kI : Nat} (wi : (Jvm.Cond.instantiable ST kI).before a0 Z = true)
    {x t : Addr} {kb : ClassId} {cs : List Int32} {N2 z : Int32} {vs : List Value} {fm : Value} {i : Nat} {j : Int32} (E : RoadKit.Exa Z h x ST) (V : RoadKit.Fld Z h x ST "value" "[B" (.ref t)) (C : RoadKit.Fld Z h x ST "coder" "B" (.int 0)) (K : RoadKit.Arv Z h t kb .byte N2 vs (.int 0)) (hc : CodA cs 0 N2 vs) (hb : ∀ c ∈ cs, ¬ c < 0 ∧ ¬ (65535 : Int32) < c)
    (S : RoadKit.Sta Z h ST "COMPACT_STRINGS" "Z" (.int z)) (hz : ¬ z = 0) (F : RoadKit.Sta Z h "jdk/internal/util/Preconditions" "SIOOBE_FORMATTER" "Ljava/util/function/BiFunction;" fm) (rf : fm.isRef = true) (l2 : cs.length ≤ 4000) (hi : i < cs.length) (hj : j = Int32.ofNat i) (hfr : 4 ≤ R.frames) (hlo : W + 53 ≤ R.locals) :
    Back l R p e below s args (⟨"java/lang/String", "charAt", "(I)C"⟩ : MethodName) len W (fun P a => a = #[.ref x, .int j] ∧ P.U.heap = h ∧ P.cells + 0 ≤ R.cells ∧ P.slots + 0 ≤ R.slots)
      (fun P _ v B => ∃ L, (v = some (.int (cs.getD i 0)) ∧ L = [] ∧ B.U.heap = h) ∧ B.locs = P.locs ++ L ∧ B.cells = P.cells + 0 ∧ B.slots = P.slots + 0) := by
  subst hj
  intro m meth c P g ig mk a X hg hsize hdg hW hn hp'
  obtain ⟨rfl, rfl, r1, r2⟩ := hp'
  have al : Z.vm.Alike P.U.vm := hZ.alike.trans X.warmed.alike
  obtain ⟨A, hx⟩ := txt_of wi al E V C K hc hb l2
  obtain ⟨v, B, X', ⟨⟨hv, hh⟩, hl, hk, hs⟩, st⟩ := ChN.pays x t A cs.length (fun j => cs.getD j 0) z fm i (tabChN_of (movedChN hZ hw)) hfr hlo m meth c P g ig mk _ X hg hsize hdg hW hn ⟨r1, r2, rfl, hx, hi, sta_is al S, hz, sta_is al F, rf⟩
  exact ⟨v, B, X', ⟨[], ⟨hv, rfl, hh⟩, hl, hk, hs⟩, st⟩
/-- what backV says of its String, as the contracts of this text ask it: cs's low bytes, coder 0 -/
theorem codOf {cs : List Int32} {n : Nat} (hn : cs.length = n) (hb : ∀ c ∈ cs, ¬ 255 < c) : CodA cs 0 (Int32.ofNat n) ((cs.map lo8).map Value.int) := Or.inl ⟨rfl, by rw [hn], by simp [List.map_map, Function.comp_def], hb⟩
end StrChars.Road
end Jvm.Pilot.@@N@@

@@BLOCK:LamKit.lean.txt@@
namespace Jvm.Pilot.@@N@@
namespace Own
open Jvm Jvm.ClassFile Sem Op Lib Jvm.Free Jvm.Stand Jvm.LawKit Jvm.RoadKit
abbrev Gx := Bool × Launch × State × Array Value × List (String × Nat) × Nat
abbrev Gx.wd (G : Gx) : Bool := G.1
abbrev Gx.l (G : Gx) : Launch := G.2.1
abbrev Gx.Z (G : Gx) : State := G.2.2.1
abbrev Gx.a0 (G : Gx) : Array Value := G.2.2.2.1
abbrev Gx.EL (G : Gx) : List (String × Nat) := G.2.2.2.2.1
abbrev Gx.n0 (G : Gx) : Nat := G.2.2.2.2.2
abbrev Md := String × String × ByteArray × Nat × Option FieldType
abbrev Md.own (M : Md) : String := M.1
abbrev Md.nm (M : Md) : String := M.2.1
abbrev Md.code (M : Md) : ByteArray := M.2.2.1
abbrev Md.mx (M : Md) : Nat := M.2.2.2.1
abbrev Md.ret (M : Md) : Option FieldType := M.2.2.2.2
abbrev Cx := Program × Env × State × MethodId × Array Value × List Frame × Method × Code
abbrev Cx.p (X : Cx) : Program := X.1
abbrev Cx.e (X : Cx) : Env := X.2.1
abbrev Cx.s (X : Cx) : State := X.2.2.1
abbrev Cx.m (X : Cx) : MethodId := X.2.2.2.1
abbrev Cx.args (X : Cx) : Array Value := X.2.2.2.2.1
abbrev Cx.below (X : Cx) : List Frame := X.2.2.2.2.2.1
abbrev Cx.meth (X : Cx) : Method := X.2.2.2.2.2.2.1
abbrev Cx.c (X : Cx) : Code := X.2.2.2.2.2.2.2
def EndW (wd : Bool) (s : State) (o : Outcome) (t : State) (L : List Loc) (k n : Nat) : Prop := ReturnedEndW s o t L k n ∧ (wd = false → FrameEnd s o t L k n)
def Fix (G : Gx) (M : Md) (X : Cx) : Prop := X.p.tables.exec = Jvm.exec ∧ X.c.code = M.code ∧ X.c.maxLocals = M.mx ∧ X.meth.sig.returnType = M.ret ∧ X.meth.locks = false ∧ X.meth.name = M.nm ∧ EW G.Z G.a0 G.EL
def Wk (G : Gx) (M : Md) (R : Room) (X : Cx) (vm : Vm) (T : State) (h : Heap) (k n : Nat) : Prop :=
  Fix G M X ∧ ∃ (k0 : Nat) (L : List Loc), Stand X.p G.l X.e R (X.s.setVm vm) X.m X.args X.below X.meth X.c T L k n ∧ T.heap = h ∧ X.s.Since vm k0 ∧ k0 ≤ h.size ∧ G.Z.Warmed39 vm ∧ vm.findClass M.own = some X.m.cls ∧ Fr G.n0 L ∧ Old G.Z G.n0 h ∧ (G.wd = true → CHr G.Z G.EL X.s.vm X.s.heap vm h) ∧ (G.wd = false → vm = X.s.vm)
def Go (G : Gx) (R : Room) (X : Cx) (Q : Option Value → Heap → Prop) (S : State) : Prop :=
  ∃ (t : State) (o : Outcome), Steps X.p.tables X.e X.below S t ∧ t.status = .running ∧ Ended t X.below o ∧ ∃ (v : Option Value) (L : List Loc), o = .returned v ∧ (Q v t.heap ∧ Fr G.n0 L ∧ Old G.Z G.n0 t.heap) ∧ (G.wd = true → CHr G.Z G.EL X.s.vm X.s.heap t.vm t.heap) ∧ EndW G.wd X.s o t L R.cells R.slots
def Con (G : Gx) (y : MethodName) (bytes : ByteArray) (maxL : Nat) (ret : Option FieldType) (ws : List Cond) (rm : Room) (as : Array Value) (h : Heap) (Q : Option Value → Heap → Prop) : Prop :=
  MetFree G.l y (head1 (Cond.code y bytes maxL ret :: ws) rm) (fun a U => a = as ∧ G.Z.Warmed39 U.vm ∧ U.heap = h ∧ (G.wd = true → CHv G.Z G.EL U.vm h)) (fun _ _ _ _ _ => True)
    (fun _ U o U' => ∃ (v : Option Value) (L : List Loc), o = .returned v ∧ (Q v U'.heap ∧ Fr G.n0 L ∧ Old G.Z G.n0 U'.heap) ∧ (G.wd = true → CHr G.Z G.EL U.vm U.heap U'.vm U'.heap) ∧ EndW G.wd U o U' L rm.cells rm.slots)
def vQ (Q : Value → Heap → Prop) : Option Value → Heap → Prop := fun v h => ∃ x, v = some x ∧ Q x h
def nQ (Q : Heap → Prop) : Option Value → Heap → Prop := fun v h => v = none ∧ Q h
section Lay
variable {G : Gx} {M : Md} {R : Room} {X : Cx} {vm : Vm} {T : State} {h : Heap} {k n : Nat} {Q : Option Value → Heap → Prop}
theorem Go.of {S S' : State} (f : ∀ t, Steps X.p.tables X.e X.below S' t → Steps X.p.tables X.e X.below S t) (g : Go G R X Q S') : Go G R X Q S := by
  obtain ⟨t, o, h1, r⟩ := g; exact ⟨t, o, f t h1, r⟩
theorem Wk.hx (w : Wk G M R X vm T h k n) : X.p.tables.exec = Jvm.exec := w.1.1
theorem Wk.by_ (w : Wk G M R X vm T h k n) : X.c.code = M.code := w.1.2.1
theorem Wk.hml (w : Wk G M R X vm T h k n) : X.c.maxLocals = M.mx := w.1.2.2.1
theorem Wk.hret (w : Wk G M R X vm T h k n) : X.meth.sig.returnType = M.ret := w.1.2.2.2.1
theorem Wk.hlk (w : Wk G M R X vm T h k n) : X.meth.locks = false := w.1.2.2.2.2.1
theorem Wk.hnm (w : Wk G M R X vm T h k n) : X.meth.name = M.nm := w.1.2.2.2.2.2.1
theorem Wk.hEL (w : Wk G M R X vm T h k n) : EW G.Z G.a0 G.EL := w.1.2.2.2.2.2.2
theorem Wk.here (w : Wk G M R X vm T h k n) : At T X.m X.c X.below := by obtain ⟨-, k0, L, S, -⟩ := w; exact S.here
theorem Wk.heap (w : Wk G M R X vm T h k n) : T.heap = h := by obtain ⟨-, k0, L, S, e, -⟩ := w; exact e
theorem Wk.old (w : Wk G M R X vm T h k n) : Old G.Z G.n0 h := by obtain ⟨-, k0, L, -, -, -, -, -, -, -, q, -⟩ := w; exact q
theorem Wk.ch (w : Wk G M R X vm T h k n) : G.wd = true → CHr G.Z G.EL X.s.vm X.s.heap vm h := by obtain ⟨-, k0, L, -, -, -, -, -, -, -, -, q, -⟩ := w; exact q
theorem Wk.wz (w : Wk G M R X vm T h k n) : G.Z.Warmed39 vm := by obtain ⟨-, k0, L, -, -, -, -, q, -⟩ := w; exact q
theorem Wk.n0le (w : Wk G M R X vm T h k n) : G.n0 ≤ h.size := by have := w.old; rw [← this.1]; exact this.2.1
theorem Wk.sta (w : Wk G M R X vm T h k n) {C f d : String} {v : Value} (S : Sta G.Z G.Z.heap C f d v) : Sta G.Z h C f d v := S.ext w.old.2
theorem Wk.mono (w : Wk G M R X vm T h k n) {k' n' : Nat} (hk : k ≤ k') (hn : n ≤ n') : Wk G M R X vm T h k' n' := by
  obtain ⟨a, k0, L, S, r⟩ := w; exact ⟨a, k0, L, S.mono hk hn, r⟩
theorem Wk.aloadN (w : Wk G M R X vm T h k n) {pc q : Nat} {Ls : Array Slot} {st : List Value} {j : Fin 4} {v : Value} (hd : decode M.code pc = .ok (.aload_n j, 1)) (hl : Ls[j.val]? = some (.val v)) (hv : v.isRef = true) (hq : pc + 1 = q) (go : Go G R X Q (T.setTop (mkF X.m q Ls (v :: st)))) : Go G R X Q (T.setTop (mkF X.m pc Ls st)) := by
  subst hq
  exact go.of fun t r => XS.aloadN w.here w.hx rfl (hb w.by_ hd) hl hv r
theorem Wk.aload (w : Wk G M R X vm T h k n) {pc q : Nat} {Ls : Array Slot} {st : List Value} {j : Nat} {v : Value} (hd : decode M.code pc = .ok (.aload j, 2)) (hl : Ls[j]? = some (.val v)) (hv : v.isRef = true) (hq : pc + 2 = q) (go : Go G R X Q (T.setTop (mkF X.m q Ls (v :: st)))) : Go G R X Q (T.setTop (mkF X.m pc Ls st)) := by
  subst hq
  exact go.of fun t r => XS.aload w.here w.hx rfl (hb w.by_ hd) hl hv r
theorem Wk.iloadN (w : Wk G M R X vm T h k n) {pc q : Nat} {Ls : Array Slot} {st : List Value} {j : Fin 4} {v : Int32} (hd : decode M.code pc = .ok (.iload_n j, 1)) (hl : Ls[j.val]? = some (.val (.int v))) (hq : pc + 1 = q) (go : Go G R X Q (T.setTop (mkF X.m q Ls (.int v :: st)))) : Go G R X Q (T.setTop (mkF X.m pc Ls st)) := by
  subst hq
  exact go.of fun t r => XS.iloadN w.here w.hx rfl (hb w.by_ hd) hl r
theorem Wk.iload (w : Wk G M R X vm T h k n) {pc q : Nat} {Ls : Array Slot} {st : List Value} {j : Nat} {v : Int32} (hd : decode M.code pc = .ok (.iload j, 2)) (hl : Ls[j]? = some (.val (.int v))) (hq : pc + 2 = q) (go : Go G R X Q (T.setTop (mkF X.m q Ls (.int v :: st)))) : Go G R X Q (T.setTop (mkF X.m pc Ls st)) := by
  subst hq
  exact go.of fun t r => XS.iload w.here w.hx rfl (hb w.by_ hd) hl r
theorem Wk.lloadN (w : Wk G M R X vm T h k n) {pc q : Nat} {Ls : Array Slot} {st : List Value} {j : Fin 4} {v : Int64} (hd : decode M.code pc = .ok (.lload_n j, 1)) (hl : Ls[j.val]? = some (.val (.long v))) (hq : pc + 1 = q) (go : Go G R X Q (T.setTop (mkF X.m q Ls (.long v :: st)))) : Go G R X Q (T.setTop (mkF X.m pc Ls st)) := by
  subst hq
  exact go.of fun t r => XS.lloadN w.here w.hx rfl (hb w.by_ hd) hl r
theorem Wk.lload (w : Wk G M R X vm T h k n) {pc q : Nat} {Ls : Array Slot} {st : List Value} {j : Nat} {v : Int64} (hd : decode M.code pc = .ok (.lload j, 2)) (hl : Ls[j]? = some (.val (.long v))) (hq : pc + 2 = q) (go : Go G R X Q (T.setTop (mkF X.m q Ls (.long v :: st)))) : Go G R X Q (T.setTop (mkF X.m pc Ls st)) := by
  subst hq
  exact go.of fun t r => XS.lload w.here w.hx rfl (hb w.by_ hd) hl r
theorem Wk.istoreN (w : Wk G M R X vm T h k n) {pc q : Nat} {Ls : Array Slot} {st : List Value} {j : Fin 4} {x : Int32} {L2 : Array Slot} (hd : decode M.code pc = .ok (.istore_n j, 1)) (hl : storeLocals Ls j.val (.int x) = some L2) (hq : pc + 1 = q) (go : Go G R X Q (T.setTop (mkF X.m q L2 st))) : Go G R X Q (T.setTop (mkF X.m pc Ls (.int x :: st))) := by
  subst hq
  exact go.of fun t r => XS.istoreN w.here w.hx rfl (hb w.by_ hd) rfl hl r
theorem Wk.istore (w : Wk G M R X vm T h k n) {pc q : Nat} {Ls : Array Slot} {st : List Value} {j : Nat} {x : Int32} {L2 : Array Slot} (hd : decode M.code pc = .ok (.istore j, 2)) (hl : storeLocals Ls j (.int x) = some L2) (hq : pc + 2 = q) (go : Go G R X Q (T.setTop (mkF X.m q L2 st))) : Go G R X Q (T.setTop (mkF X.m pc Ls (.int x :: st))) := by
  subst hq
  exact go.of fun t r => XS.istore w.here w.hx rfl (hb w.by_ hd) rfl hl r
theorem Wk.lstoreN (w : Wk G M R X vm T h k n) {pc q : Nat} {Ls : Array Slot} {st : List Value} {j : Fin 4} {x : Int64} {L2 : Array Slot} (hd : decode M.code pc = .ok (.lstore_n j, 1)) (hl : storeLocals Ls j.val (.long x) = some L2) (hq : pc + 1 = q) (go : Go G R X Q (T.setTop (mkF X.m q L2 st))) : Go G R X Q (T.setTop (mkF X.m pc Ls (.long x :: st))) := by
  subst hq
  exact go.of fun t r => XS.lstoreN w.here w.hx rfl (hb w.by_ hd) rfl hl r
theorem Wk.lstore (w : Wk G M R X vm T h k n) {pc q : Nat} {Ls : Array Slot} {st : List Value} {j : Nat} {x : Int64} {L2 : Array Slot} (hd : decode M.code pc = .ok (.lstore j, 2)) (hl : storeLocals Ls j (.long x) = some L2) (hq : pc + 2 = q) (go : Go G R X Q (T.setTop (mkF X.m q L2 st))) : Go G R X Q (T.setTop (mkF X.m pc Ls (.long x :: st))) := by
  subst hq
  exact go.of fun t r => XS.lstore w.here w.hx rfl (hb w.by_ hd) rfl hl r
theorem Wk.astoreN (w : Wk G M R X vm T h k n) {pc q : Nat} {Ls : Array Slot} {st : List Value} {j : Fin 4} {x : Value} {L2 : Array Slot} (hd : decode M.code pc = .ok (.astore_n j, 1)) (hv : x.isRef = true) (hl : storeLocals Ls j.val x = some L2) (hq : pc + 1 = q) (go : Go G R X Q (T.setTop (mkF X.m q L2 st))) : Go G R X Q (T.setTop (mkF X.m pc Ls (x :: st))) := by
  subst hq
  exact go.of fun t r => XS.astoreN w.here w.hx rfl (hb w.by_ hd) rfl hv hl r
theorem Wk.astore (w : Wk G M R X vm T h k n) {pc q : Nat} {Ls : Array Slot} {st : List Value} {j : Nat} {x : Value} {L2 : Array Slot} (hd : decode M.code pc = .ok (.astore j, 2)) (hv : x.isRef = true) (hl : storeLocals Ls j x = some L2) (hq : pc + 2 = q) (go : Go G R X Q (T.setTop (mkF X.m q L2 st))) : Go G R X Q (T.setTop (mkF X.m pc Ls (x :: st))) := by
  subst hq
  exact go.of fun t r => XS.astore w.here w.hx rfl (hb w.by_ hd) rfl hv hl r
theorem Wk.aconst (w : Wk G M R X vm T h k n) {pc q : Nat} {Ls : Array Slot} {st : List Value} (hd : decode M.code pc = .ok (.aconst_null, 1)) (hq : pc + 1 = q) (go : Go G R X Q (T.setTop (mkF X.m q Ls (.null :: st)))) : Go G R X Q (T.setTop (mkF X.m pc Ls st)) := by
  subst hq
  exact go.of fun t r => XS.aconstNull w.here w.hx rfl (hb w.by_ hd) r
theorem Wk.iconst (w : Wk G M R X vm T h k n) {pc q : Nat} {Ls : Array Slot} {st : List Value} {i : Int} (v : Int32) (hd : decode M.code pc = .ok (.iconst i, 1)) (hv : Int32.ofInt i = v) (hq : pc + 1 = q) (go : Go G R X Q (T.setTop (mkF X.m q Ls (.int v :: st)))) : Go G R X Q (T.setTop (mkF X.m pc Ls st)) := by
  subst hq hv
  exact go.of fun t r => XS.iconst w.here w.hx rfl (hb w.by_ hd) r
theorem Wk.bipush (w : Wk G M R X vm T h k n) {pc q : Nat} {Ls : Array Slot} {st : List Value} {i : Int} (v : Int32) (hd : decode M.code pc = .ok (.bipush i, 2)) (hv : (Int8.ofInt i).toInt32 = v) (hq : pc + 2 = q) (go : Go G R X Q (T.setTop (mkF X.m q Ls (.int v :: st)))) : Go G R X Q (T.setTop (mkF X.m pc Ls st)) := by
  subst hq hv
  exact go.of fun t r => XS.bipush w.here w.hx rfl (hb w.by_ hd) r
theorem Wk.sipush (w : Wk G M R X vm T h k n) {pc q : Nat} {Ls : Array Slot} {st : List Value} {i : Int} (v : Int32) (hd : decode M.code pc = .ok (.sipush i, 3)) (hv : (Int16.ofInt i).toInt32 = v) (hq : pc + 3 = q) (go : Go G R X Q (T.setTop (mkF X.m q Ls (.int v :: st)))) : Go G R X Q (T.setTop (mkF X.m pc Ls st)) := by
  subst hq hv
  exact go.of fun t r => XS.sipush w.here w.hx rfl (hb w.by_ hd) r
theorem Wk.lconst (w : Wk G M R X vm T h k n) {pc q : Nat} {Ls : Array Slot} {st : List Value} {i : Fin 2} (v : Int64) (hd : decode M.code pc = .ok (.lconst i, 1)) (hv : Int64.ofNat i = v) (hq : pc + 1 = q) (go : Go G R X Q (T.setTop (mkF X.m q Ls (.long v :: st)))) : Go G R X Q (T.setTop (mkF X.m pc Ls st)) := by
  subst hq hv
  exact go.of fun t r => XS.lconst w.here w.hx rfl (hb w.by_ hd) r
theorem Wk.iadd (w : Wk G M R X vm T h k n) {pc q : Nat} {Ls : Array Slot} {st : List Value} {x y : Int32} (hd : decode M.code pc = .ok (.iadd, 1)) (hq : pc + 1 = q) (go : Go G R X Q (T.setTop (mkF X.m q Ls (.int (x + y) :: st)))) : Go G R X Q (T.setTop (mkF X.m pc Ls (.int y :: .int x :: st))) := by
  subst hq
  exact go.of fun t r => XS.iadd w.here w.hx rfl (hb w.by_ hd) rfl r
theorem Wk.isub (w : Wk G M R X vm T h k n) {pc q : Nat} {Ls : Array Slot} {st : List Value} {x y : Int32} (hd : decode M.code pc = .ok (.isub, 1)) (hq : pc + 1 = q) (go : Go G R X Q (T.setTop (mkF X.m q Ls (.int (x - y) :: st)))) : Go G R X Q (T.setTop (mkF X.m pc Ls (.int y :: .int x :: st))) := by
  subst hq
  exact go.of fun t r => XS.isub w.here w.hx rfl (hb w.by_ hd) rfl r
theorem Wk.imul (w : Wk G M R X vm T h k n) {pc q : Nat} {Ls : Array Slot} {st : List Value} {x y : Int32} (hd : decode M.code pc = .ok (.imul, 1)) (hq : pc + 1 = q) (go : Go G R X Q (T.setTop (mkF X.m q Ls (.int (x * y) :: st)))) : Go G R X Q (T.setTop (mkF X.m pc Ls (.int y :: .int x :: st))) := by
  subst hq
  exact go.of fun t r => XS.imul w.here w.hx rfl (hb w.by_ hd) rfl r
theorem Wk.iand (w : Wk G M R X vm T h k n) {pc q : Nat} {Ls : Array Slot} {st : List Value} {x y : Int32} (hd : decode M.code pc = .ok (.iand, 1)) (hq : pc + 1 = q) (go : Go G R X Q (T.setTop (mkF X.m q Ls (.int (x &&& y) :: st)))) : Go G R X Q (T.setTop (mkF X.m pc Ls (.int y :: .int x :: st))) := by
  subst hq
  exact go.of fun t r => XS.iand w.here w.hx rfl (hb w.by_ hd) rfl r
theorem Wk.ior (w : Wk G M R X vm T h k n) {pc q : Nat} {Ls : Array Slot} {st : List Value} {x y : Int32} (hd : decode M.code pc = .ok (.ior, 1)) (hq : pc + 1 = q) (go : Go G R X Q (T.setTop (mkF X.m q Ls (.int (x ||| y) :: st)))) : Go G R X Q (T.setTop (mkF X.m pc Ls (.int y :: .int x :: st))) := by
  subst hq
  exact go.of fun t r => XS.ior w.here w.hx rfl (hb w.by_ hd) rfl r
theorem Wk.ixor (w : Wk G M R X vm T h k n) {pc q : Nat} {Ls : Array Slot} {st : List Value} {x y : Int32} (hd : decode M.code pc = .ok (.ixor, 1)) (hq : pc + 1 = q) (go : Go G R X Q (T.setTop (mkF X.m q Ls (.int (x ^^^ y) :: st)))) : Go G R X Q (T.setTop (mkF X.m pc Ls (.int y :: .int x :: st))) := by
  subst hq
  exact go.of fun t r => XS.ixor w.here w.hx rfl (hb w.by_ hd) rfl r
theorem Wk.ishl (w : Wk G M R X vm T h k n) {pc q : Nat} {Ls : Array Slot} {st : List Value} {x y : Int32} (hd : decode M.code pc = .ok (.ishl, 1)) (hq : pc + 1 = q) (go : Go G R X Q (T.setTop (mkF X.m q Ls (.int (x <<< (y &&& 31)) :: st)))) : Go G R X Q (T.setTop (mkF X.m pc Ls (.int y :: .int x :: st))) := by
  subst hq
  exact go.of fun t r => XS.ishl w.here w.hx rfl (hb w.by_ hd) rfl r
theorem Wk.ishr (w : Wk G M R X vm T h k n) {pc q : Nat} {Ls : Array Slot} {st : List Value} {x y : Int32} (hd : decode M.code pc = .ok (.ishr, 1)) (hq : pc + 1 = q) (go : Go G R X Q (T.setTop (mkF X.m q Ls (.int (x >>> (y &&& 31)) :: st)))) : Go G R X Q (T.setTop (mkF X.m pc Ls (.int y :: .int x :: st))) := by
  subst hq
  exact go.of fun t r => XS.ishr w.here w.hx rfl (hb w.by_ hd) rfl r
theorem Wk.iushr (w : Wk G M R X vm T h k n) {pc q : Nat} {Ls : Array Slot} {st : List Value} {x y : Int32} (hd : decode M.code pc = .ok (.iushr, 1)) (hq : pc + 1 = q) (go : Go G R X Q (T.setTop (mkF X.m q Ls (.int ((x.toUInt32 >>> (y &&& 31).toUInt32).toInt32) :: st)))) : Go G R X Q (T.setTop (mkF X.m pc Ls (.int y :: .int x :: st))) := by
  subst hq
  exact go.of fun t r => XS.iushr w.here w.hx rfl (hb w.by_ hd) rfl r
theorem Wk.ladd (w : Wk G M R X vm T h k n) {pc q : Nat} {Ls : Array Slot} {st : List Value} {x y : Int64} (hd : decode M.code pc = .ok (.ladd, 1)) (hq : pc + 1 = q) (go : Go G R X Q (T.setTop (mkF X.m q Ls (.long (x + y) :: st)))) : Go G R X Q (T.setTop (mkF X.m pc Ls (.long y :: .long x :: st))) := by
  subst hq
  exact go.of fun t r => XS.ladd w.here w.hx rfl (hb w.by_ hd) rfl r
theorem Wk.lsub (w : Wk G M R X vm T h k n) {pc q : Nat} {Ls : Array Slot} {st : List Value} {x y : Int64} (hd : decode M.code pc = .ok (.lsub, 1)) (hq : pc + 1 = q) (go : Go G R X Q (T.setTop (mkF X.m q Ls (.long (x - y) :: st)))) : Go G R X Q (T.setTop (mkF X.m pc Ls (.long y :: .long x :: st))) := by
  subst hq
  exact go.of fun t r => XS.lsub w.here w.hx rfl (hb w.by_ hd) rfl r
theorem Wk.lmul (w : Wk G M R X vm T h k n) {pc q : Nat} {Ls : Array Slot} {st : List Value} {x y : Int64} (hd : decode M.code pc = .ok (.lmul, 1)) (hq : pc + 1 = q) (go : Go G R X Q (T.setTop (mkF X.m q Ls (.long (x * y) :: st)))) : Go G R X Q (T.setTop (mkF X.m pc Ls (.long y :: .long x :: st))) := by
  subst hq
  exact go.of fun t r => XS.lmul w.here w.hx rfl (hb w.by_ hd) rfl r
theorem Wk.land (w : Wk G M R X vm T h k n) {pc q : Nat} {Ls : Array Slot} {st : List Value} {x y : Int64} (hd : decode M.code pc = .ok (.land, 1)) (hq : pc + 1 = q) (go : Go G R X Q (T.setTop (mkF X.m q Ls (.long (x &&& y) :: st)))) : Go G R X Q (T.setTop (mkF X.m pc Ls (.long y :: .long x :: st))) := by
  subst hq
  exact go.of fun t r => XS.land w.here w.hx rfl (hb w.by_ hd) rfl r
theorem Wk.lor (w : Wk G M R X vm T h k n) {pc q : Nat} {Ls : Array Slot} {st : List Value} {x y : Int64} (hd : decode M.code pc = .ok (.lor, 1)) (hq : pc + 1 = q) (go : Go G R X Q (T.setTop (mkF X.m q Ls (.long (x ||| y) :: st)))) : Go G R X Q (T.setTop (mkF X.m pc Ls (.long y :: .long x :: st))) := by
  subst hq
  exact go.of fun t r => XS.lor w.here w.hx rfl (hb w.by_ hd) rfl r
theorem Wk.lxor (w : Wk G M R X vm T h k n) {pc q : Nat} {Ls : Array Slot} {st : List Value} {x y : Int64} (hd : decode M.code pc = .ok (.lxor, 1)) (hq : pc + 1 = q) (go : Go G R X Q (T.setTop (mkF X.m q Ls (.long (x ^^^ y) :: st)))) : Go G R X Q (T.setTop (mkF X.m pc Ls (.long y :: .long x :: st))) := by
  subst hq
  exact go.of fun t r => XS.lxor w.here w.hx rfl (hb w.by_ hd) rfl r
theorem Wk.lshl (w : Wk G M R X vm T h k n) {pc q : Nat} {Ls : Array Slot} {st : List Value} {x : Int64} {y : Int32} (hd : decode M.code pc = .ok (.lshl, 1)) (hq : pc + 1 = q) (go : Go G R X Q (T.setTop (mkF X.m q Ls (.long (x <<< (y &&& 0x3f).toInt64) :: st)))) : Go G R X Q (T.setTop (mkF X.m pc Ls (.int y :: .long x :: st))) := by
  subst hq
  exact go.of fun t r => XS.lshl w.here w.hx rfl (hb w.by_ hd) rfl r
theorem Wk.lshr (w : Wk G M R X vm T h k n) {pc q : Nat} {Ls : Array Slot} {st : List Value} {x : Int64} {y : Int32} (hd : decode M.code pc = .ok (.lshr, 1)) (hq : pc + 1 = q) (go : Go G R X Q (T.setTop (mkF X.m q Ls (.long (x >>> (y &&& 0x3f).toInt64) :: st)))) : Go G R X Q (T.setTop (mkF X.m pc Ls (.int y :: .long x :: st))) := by
  subst hq
  exact go.of fun t r => XS.lshr w.here w.hx rfl (hb w.by_ hd) rfl r
theorem Wk.lushr (w : Wk G M R X vm T h k n) {pc q : Nat} {Ls : Array Slot} {st : List Value} {x : Int64} {y : Int32} (hd : decode M.code pc = .ok (.lushr, 1)) (hq : pc + 1 = q) (go : Go G R X Q (T.setTop (mkF X.m q Ls (.long ((x.toUInt64 >>> (y &&& 0x3f).toInt64.toUInt64).toInt64) :: st)))) : Go G R X Q (T.setTop (mkF X.m pc Ls (.int y :: .long x :: st))) := by
  subst hq
  exact go.of fun t r => XS.lushr w.here w.hx rfl (hb w.by_ hd) rfl r
theorem Wk.lcmp (w : Wk G M R X vm T h k n) {pc q : Nat} {Ls : Array Slot} {st : List Value} {x y : Int64} (hd : decode M.code pc = .ok (.lcmp, 1)) (hq : pc + 1 = q) (go : Go G R X Q (T.setTop (mkF X.m q Ls (.int (lcmpW x y) :: st)))) : Go G R X Q (T.setTop (mkF X.m pc Ls (.long y :: .long x :: st))) := by
  subst hq
  exact go.of fun t r => XS.lcmp w.here w.hx rfl (hb w.by_ hd) rfl r
theorem Wk.idiv (w : Wk G M R X vm T h k n) {pc q : Nat} {Ls : Array Slot} {st : List Value} {x y : Int32} (hd : decode M.code pc = .ok (.idiv, 1)) (hy : y ≠ 0) (hq : pc + 1 = q) (go : Go G R X Q (T.setTop (mkF X.m q Ls (.int (x / y) :: st)))) : Go G R X Q (T.setTop (mkF X.m pc Ls (.int y :: .int x :: st))) := by
  subst hq
  exact go.of fun t r => XS.idiv w.here w.hx rfl (hb w.by_ hd) rfl hy r
theorem Wk.irem (w : Wk G M R X vm T h k n) {pc q : Nat} {Ls : Array Slot} {st : List Value} {x y : Int32} (hd : decode M.code pc = .ok (.irem, 1)) (hy : y ≠ 0) (hq : pc + 1 = q) (go : Go G R X Q (T.setTop (mkF X.m q Ls (.int (x % y) :: st)))) : Go G R X Q (T.setTop (mkF X.m pc Ls (.int y :: .int x :: st))) := by
  subst hq
  refine go.of fun t r => XS.irem w.here w.hx rfl (hb w.by_ hd) rfl hy ?_
  rw [irem_eq_mod]; exact r
theorem Wk.ineg (w : Wk G M R X vm T h k n) {pc q : Nat} {Ls : Array Slot} {st : List Value} {x : Int32} (hd : decode M.code pc = .ok (.ineg, 1)) (hq : pc + 1 = q) (go : Go G R X Q (T.setTop (mkF X.m q Ls (.int (-x) :: st)))) : Go G R X Q (T.setTop (mkF X.m pc Ls (.int x :: st))) := by
  subst hq
  exact go.of fun t r => XS.ineg w.here w.hx rfl (hb w.by_ hd) rfl r
theorem Wk.lneg (w : Wk G M R X vm T h k n) {pc q : Nat} {Ls : Array Slot} {st : List Value} {x : Int64} (hd : decode M.code pc = .ok (.lneg, 1)) (hq : pc + 1 = q) (go : Go G R X Q (T.setTop (mkF X.m q Ls (.long (-x) :: st)))) : Go G R X Q (T.setTop (mkF X.m pc Ls (.long x :: st))) := by
  subst hq
  exact go.of fun t r => XS.lneg w.here w.hx rfl (hb w.by_ hd) rfl r
theorem Wk.i2l (w : Wk G M R X vm T h k n) {pc q : Nat} {Ls : Array Slot} {st : List Value} {x : Int32} (hd : decode M.code pc = .ok (.i2l, 1)) (hq : pc + 1 = q) (go : Go G R X Q (T.setTop (mkF X.m q Ls (.long x.toInt64 :: st)))) : Go G R X Q (T.setTop (mkF X.m pc Ls (.int x :: st))) := by
  subst hq
  exact go.of fun t r => XS.i2l w.here w.hx rfl (hb w.by_ hd) rfl r
theorem Wk.i2b (w : Wk G M R X vm T h k n) {pc q : Nat} {Ls : Array Slot} {st : List Value} {x : Int32} (hd : decode M.code pc = .ok (.i2b, 1)) (hq : pc + 1 = q) (go : Go G R X Q (T.setTop (mkF X.m q Ls (.int x.toInt8.toInt32 :: st)))) : Go G R X Q (T.setTop (mkF X.m pc Ls (.int x :: st))) := by
  subst hq
  exact go.of fun t r => XS.i2b w.here w.hx rfl (hb w.by_ hd) rfl r
theorem Wk.i2c (w : Wk G M R X vm T h k n) {pc q : Nat} {Ls : Array Slot} {st : List Value} {x : Int32} (hd : decode M.code pc = .ok (.i2c, 1)) (hq : pc + 1 = q) (go : Go G R X Q (T.setTop (mkF X.m q Ls (.int x.toUInt32.toUInt16.toUInt32.toInt32 :: st)))) : Go G R X Q (T.setTop (mkF X.m pc Ls (.int x :: st))) := by
  subst hq
  exact go.of fun t r => XS.i2c w.here w.hx rfl (hb w.by_ hd) rfl r
theorem Wk.i2s (w : Wk G M R X vm T h k n) {pc q : Nat} {Ls : Array Slot} {st : List Value} {x : Int32} (hd : decode M.code pc = .ok (.i2s, 1)) (hq : pc + 1 = q) (go : Go G R X Q (T.setTop (mkF X.m q Ls (.int x.toInt16.toInt32 :: st)))) : Go G R X Q (T.setTop (mkF X.m pc Ls (.int x :: st))) := by
  subst hq
  exact go.of fun t r => XS.i2s w.here w.hx rfl (hb w.by_ hd) rfl r
theorem Wk.l2i (w : Wk G M R X vm T h k n) {pc q : Nat} {Ls : Array Slot} {st : List Value} {x : Int64} (hd : decode M.code pc = .ok (.l2i, 1)) (hq : pc + 1 = q) (go : Go G R X Q (T.setTop (mkF X.m q Ls (.int x.toInt32 :: st)))) : Go G R X Q (T.setTop (mkF X.m pc Ls (.long x :: st))) := by
  subst hq
  exact go.of fun t r => XS.l2i w.here w.hx rfl (hb w.by_ hd) rfl r
theorem Wk.dup (w : Wk G M R X vm T h k n) {pc q : Nat} {Ls : Array Slot} {st : List Value} {x : Value} (hd : decode M.code pc = .ok (.dup, 1)) (hc : x.category = 1) (hq : pc + 1 = q) (go : Go G R X Q (T.setTop (mkF X.m q Ls (x :: x :: st)))) : Go G R X Q (T.setTop (mkF X.m pc Ls (x :: st))) := by
  subst hq
  exact go.of fun t r => XS.dup w.here w.hx rfl (hb w.by_ hd) rfl hc r
theorem Wk.pop (w : Wk G M R X vm T h k n) {pc q : Nat} {Ls : Array Slot} {st : List Value} {x : Value} (hd : decode M.code pc = .ok (.pop, 1)) (hc : x.category = 1) (hq : pc + 1 = q) (go : Go G R X Q (T.setTop (mkF X.m q Ls st))) : Go G R X Q (T.setTop (mkF X.m pc Ls (x :: st))) := by
  subst hq
  exact go.of fun t r => XS.pop w.here w.hx rfl (hb w.by_ hd) rfl hc r
theorem Wk.dupX1 (w : Wk G M R X vm T h k n) {pc q : Nat} {Ls : Array Slot} {st : List Value} {x y : Value} (hd : decode M.code pc = .ok (.dup_x1, 1)) (hc : x.category = 1) (hc2 : y.category = 1) (hq : pc + 1 = q) (go : Go G R X Q (T.setTop (mkF X.m q Ls (x :: y :: x :: st)))) : Go G R X Q (T.setTop (mkF X.m pc Ls (x :: y :: st))) := by
  subst hq
  exact go.of fun t r => XS.dupX1 w.here w.hx rfl (hb w.by_ hd) rfl hc hc2 r
theorem Wk.dup2 (w : Wk G M R X vm T h k n) {pc q : Nat} {Ls : Array Slot} {st : List Value} {x y : Value} (hd : decode M.code pc = .ok (.dup2, 1)) (hc : x.category = 1) (hc2 : y.category = 1) (hq : pc + 1 = q) (go : Go G R X Q (T.setTop (mkF X.m q Ls (x :: y :: x :: y :: st)))) : Go G R X Q (T.setTop (mkF X.m pc Ls (x :: y :: st))) := by
  subst hq
  exact go.of fun t r => XT.dup2 w.here w.hx rfl (hb w.by_ hd) rfl hc hc2 r
theorem Wk.dup2L (w : Wk G M R X vm T h k n) {pc q : Nat} {Ls : Array Slot} {st : List Value} {x : Int64} (hd : decode M.code pc = .ok (.dup2, 1)) (hq : pc + 1 = q) (go : Go G R X Q (T.setTop (mkF X.m q Ls (.long x :: .long x :: st)))) : Go G R X Q (T.setTop (mkF X.m pc Ls (.long x :: st))) := by
  subst hq
  exact go.of fun t r => XT.dup2L w.here w.hx rfl (hb w.by_ hd) rfl r
theorem Wk.iinc (w : Wk G M R X vm T h k n) {pc q : Nat} {Ls L2 : Array Slot} {st : List Value} {j : Nat} {cst : Int} {x : Int32} (v : Int32) (hd : decode M.code pc = .ok (.iinc j cst, 3)) (hv : Int32.ofInt cst = v) (hl : Ls[j]? = some (.val (.int x))) (hl2 : storeLocals Ls j (.int (x + v)) = some L2) (hq : pc + 3 = q) (go : Go G R X Q (T.setTop (mkF X.m q L2 st))) : Go G R X Q (T.setTop (mkF X.m pc Ls st)) := by
  subst hq hv
  exact go.of fun t r => XS.iinc w.here w.hx rfl (hb w.by_ hd) hl hl2 r
theorem Wk.goto (w : Wk G M R X vm T h k n) {pc q : Nat} {Ls : Array Slot} {st : List Value} {o : Int} (hd : decode M.code pc = .ok (.goto o, 3)) (ho : 0 ≤ (pc : Int) + o) (hq : ((pc : Int) + o).toNat = q) (go : Go G R X Q (T.setTop (mkF X.m q Ls st))) : Go G R X Q (T.setTop (mkF X.m pc Ls st)) := by
  exact go.of fun t r => XS.goto w.here w.hx rfl (pc0 := pc) rfl (hb w.by_ hd) ho hq r
theorem Wk.ifY (w : Wk G M R X vm T h k n) {pc q : Nat} {Ls : Array Slot} {st : List Value} {cd : ClassFile.Cond} {x : Int32} {o : Int} (hd : decode M.code pc = .ok (.ifCond cd o, 3)) (hc : ifCond.holds cd x = true) (ho : 0 ≤ (pc : Int) + o) (hq : ((pc : Int) + o).toNat = q) (go : Go G R X Q (T.setTop (mkF X.m q Ls st))) : Go G R X Q (T.setTop (mkF X.m pc Ls (.int x :: st))) := by
  exact go.of fun t r => XS.ifYes w.here w.hx rfl (pc0 := pc) rfl (hb w.by_ hd) rfl hc ho hq r
theorem Wk.ifN (w : Wk G M R X vm T h k n) {pc q : Nat} {Ls : Array Slot} {st : List Value} {cd : ClassFile.Cond} {x : Int32} {o : Int} (hd : decode M.code pc = .ok (.ifCond cd o, 3)) (hc : ifCond.holds cd x = false) (hq : pc + 3 = q) (go : Go G R X Q (T.setTop (mkF X.m q Ls st))) : Go G R X Q (T.setTop (mkF X.m pc Ls (.int x :: st))) := by
  subst hq
  exact go.of fun t r => XS.ifNo w.here w.hx rfl (hb w.by_ hd) rfl hc r
theorem Wk.icY (w : Wk G M R X vm T h k n) {pc q : Nat} {Ls : Array Slot} {st : List Value} {cd : ClassFile.Cond} {x y : Int32} {o : Int} (hd : decode M.code pc = .ok (.if_icmp cd o, 3)) (hc : if_icmp.holds cd x y = true) (ho : 0 ≤ (pc : Int) + o) (hq : ((pc : Int) + o).toNat = q) (go : Go G R X Q (T.setTop (mkF X.m q Ls st))) : Go G R X Q (T.setTop (mkF X.m pc Ls (.int y :: .int x :: st))) := by
  exact go.of fun t r => XS.icmpYes w.here w.hx rfl (pc0 := pc) rfl (hb w.by_ hd) rfl hc ho hq r
theorem Wk.icN (w : Wk G M R X vm T h k n) {pc q : Nat} {Ls : Array Slot} {st : List Value} {cd : ClassFile.Cond} {x y : Int32} {o : Int} (hd : decode M.code pc = .ok (.if_icmp cd o, 3)) (hc : if_icmp.holds cd x y = false) (hq : pc + 3 = q) (go : Go G R X Q (T.setTop (mkF X.m q Ls st))) : Go G R X Q (T.setTop (mkF X.m pc Ls (.int y :: .int x :: st))) := by
  subst hq
  exact go.of fun t r => XS.icmpNo w.here w.hx rfl (hb w.by_ hd) rfl hc r
theorem Wk.nuY (w : Wk G M R X vm T h k n) {pc q : Nat} {Ls : Array Slot} {st : List Value} {o : Int} (hd : decode M.code pc = .ok (.ifnull o, 3)) (ho : 0 ≤ (pc : Int) + o) (hq : ((pc : Int) + o).toNat = q) (go : Go G R X Q (T.setTop (mkF X.m q Ls st))) : Go G R X Q (T.setTop (mkF X.m pc Ls (.null :: st))) := by
  exact go.of fun t r => XS.ifnullYes w.here w.hx rfl (pc0 := pc) rfl (hb w.by_ hd) rfl ho hq r
theorem Wk.nuN (w : Wk G M R X vm T h k n) {pc q : Nat} {Ls : Array Slot} {st : List Value} {b : Addr} {o : Int} (hd : decode M.code pc = .ok (.ifnull o, 3)) (hq : pc + 3 = q) (go : Go G R X Q (T.setTop (mkF X.m q Ls st))) : Go G R X Q (T.setTop (mkF X.m pc Ls (.ref b :: st))) := by
  subst hq
  exact go.of fun t r => XS.ifnullNo w.here w.hx rfl (hb w.by_ hd) rfl r
theorem Wk.nnY (w : Wk G M R X vm T h k n) {pc q : Nat} {Ls : Array Slot} {st : List Value} {b : Addr} {o : Int} (hd : decode M.code pc = .ok (.ifnonnull o, 3)) (ho : 0 ≤ (pc : Int) + o) (hq : ((pc : Int) + o).toNat = q) (go : Go G R X Q (T.setTop (mkF X.m q Ls st))) : Go G R X Q (T.setTop (mkF X.m pc Ls (.ref b :: st))) := by
  exact go.of fun t r => XS.ifnonnullYes w.here w.hx rfl (pc0 := pc) rfl (hb w.by_ hd) rfl ho hq r
theorem Wk.nnN (w : Wk G M R X vm T h k n) {pc q : Nat} {Ls : Array Slot} {st : List Value} {o : Int} (hd : decode M.code pc = .ok (.ifnonnull o, 3)) (hq : pc + 3 = q) (go : Go G R X Q (T.setTop (mkF X.m q Ls st))) : Go G R X Q (T.setTop (mkF X.m pc Ls (.null :: st))) := by
  subst hq
  exact go.of fun t r => XS.ifnonnullNo w.here w.hx rfl (hb w.by_ hd) rfl r
theorem Wk.acY (w : Wk G M R X vm T h k n) {pc q : Nat} {Ls : Array Slot} {st : List Value} {cd : ClassFile.ACond} {x y : Value} {o : Int} (hd : decode M.code pc = .ok (.if_acmp cd o, 3)) (hx : x.isRef = true) (hy : y.isRef = true) (hc : Jvm.Free.XT.acmp cd x y = true) (ho : 0 ≤ (pc : Int) + o) (hq : ((pc : Int) + o).toNat = q) (go : Go G R X Q (T.setTop (mkF X.m q Ls st))) : Go G R X Q (T.setTop (mkF X.m pc Ls (y :: x :: st))) := by
  exact go.of fun t r => XT.acmpYes w.here w.hx rfl (pc0 := pc) rfl (hb w.by_ hd) rfl hx hy hc ho hq r
theorem Wk.acN (w : Wk G M R X vm T h k n) {pc q : Nat} {Ls : Array Slot} {st : List Value} {cd : ClassFile.ACond} {x y : Value} {o : Int} (hd : decode M.code pc = .ok (.if_acmp cd o, 3)) (hx : x.isRef = true) (hy : y.isRef = true) (hc : Jvm.Free.XT.acmp cd x y = false) (hq : pc + 3 = q) (go : Go G R X Q (T.setTop (mkF X.m q Ls st))) : Go G R X Q (T.setTop (mkF X.m pc Ls (y :: x :: st))) := by
  subst hq
  exact go.of fun t r => XT.acmpNo w.here w.hx rfl (hb w.by_ hd) rfl hx hy hc r
theorem xrfl (h : Heap) : Ext h h := ⟨Nat.le_refl _, fun _ _ q => q⟩
theorem xtr {h h' h2 : Heap} (A : Ext h h') (B : Ext h' h2) : Ext h h2 := ⟨Nat.le_trans A.1 B.1, fun a c q => B.2 a c (A.2 a c q)⟩
theorem xkp {h0 h h' : Heap} {ws : List Addr} (E : Ext h0 h) (K : Keep h h' ws) (q : ∀ x ∈ ws, h0.size ≤ x) : Ext h0 h' := ⟨Nat.le_trans E.1 K.1, fun a c r => K.2.1 a c (E.2 a c r) fun z => absurd (Array.getElem?_eq_some_iff.mp r).1 (Nat.not_lt.mpr (q a z))⟩
theorem xkeep {h h' : Heap} (E : Ext h h') : Keep h h' [] := (Keep.refl h []).ext E
theorem sta_uniq {Z : State} {h : Heap} {C n d : String} {a b : Addr} (F : Sta Z h C n d (.ref a)) (E : Sta Z h C n d (.ref b)) : a = b := by
  obtain ⟨cf, i, k, f, st, cell, h1, h2, h3, h4, h5, h6, h7⟩ := F
  obtain ⟨cf', i', k', f', st', cell', g1, g2, g3, g4, g5, g6, g7⟩ := E
  cases h1.symm.trans g1
  cases h4.symm.trans g4
  cases h5.symm.trans g5
  cases h7.symm.trans g7
  rfl
theorem nin1 {x y : Nat} (q : x ≠ y) : x ∉ ([y] : List Addr) := fun z => q (List.mem_singleton.mp z)
theorem all1 {P : Addr → Prop} {a : Addr} (q : P a) : ∀ x ∈ [a], P x := fun x hx => by cases List.mem_singleton.mp hx; exact q
theorem Wk.sfE (w : Wk G M R X vm T h k n) {a : Addr} {C : String} (E : Exa G.Z h a C) (h1 : C ≠ "java/lang/String") (h2 : C ≠ "[B") : G.wd = true → Safe G.Z G.EL vm h a := fun _ => Safe.exa w.wz.alike E h1 h2
theorem Wk.sfA (w : Wk G M R X vm T h k n) {a : Addr} {kc : ClassId} {ty : FieldType} {N : Int32} {vs : List Value} {dv : Value} (A : Arv G.Z h a kc ty N vs dv) (ht : ty ≠ .byte) : G.wd = true → Safe G.Z G.EL vm h a := fun _ => Safe.arv w.wz.alike A ht
theorem Wk.sfN (w : Wk G M R X vm T h k n) {a : Addr} (q : h.size ≤ a) : G.wd = true → Safe G.Z G.EL vm h a := fun _ => Safe.new q
theorem blank_safe {Z : State} {EL : List (String × Nat)} {vm : Vm} {h : Heap} {x : Addr} (hal : Z.vm.Alike vm) (E : Exa Z h x "java/lang/String") (V : Fld Z h x "java/lang/String" "value" "[B" .null) : Safe Z EL vm h x := fun B => by
  obtain ⟨cell, kx, e1, e2, e3, e4, e5⟩ := E
  obtain ⟨cellV, cf, kf, i, f, v1, v2, v3, v4, v5, v6, v7⟩ := V
  cases e1.symm.trans v1
  obtain ⟨p, -, u, a, -, q, -, F, hy⟩ := B
  obtain ⟨cS, ⟨⟨s1, s2, s3, ⟨cv, kv, iv, s4, s4'⟩, -, s6, s7, s8, s9, s10, s11, -⟩, hfS, hcS⟩, -, hB, -⟩ := F
  rcases hy with rfl | rfl
  · cases e1.symm.trans (show h[q.sa]? = some q.sC from s1)
    obtain ⟨kz, z4⟩ := ff_back (U := Wst Z vm h) hal s4
    have := v2.symm.trans z4
    simp only [Option.some.injEq, Prod.mk.injEq] at this
    rw [this.2.2.2] at v7
    rw [s8] at v7
    cases v7
  · cases e1.symm.trans (show h[q.sd]? = some q.SA from s10)
    obtain ⟨-, k9, hk9, comp, hkind⟩ := s11
    have hB' : vm.findClass "[B" = some q.SA.cls := hB
    rw [hal.findClass] at hB'
    obtain ⟨k1, a1, a2⟩ := Vm.findClass_spec hB'
    obtain ⟨k2, b1, b2⟩ := Vm.findClass_spec e2
    cases a1.symm.trans b1
    rw [a2] at b2
    exact absurd b2 (by decide)
theorem Wk.sfB (w : Wk G M R X vm T h k n) {a : Addr} (E : Exa G.Z h a "java/lang/String") (V : Fld G.Z h a "java/lang/String" "value" "[B" .null) : G.wd = true → Safe G.Z G.EL vm h a := fun _ => blank_safe w.wz.alike E V
theorem Wk.newO (w : Wk G M R X vm T h k n) {pc q : Nat} {Ls : Array Slot} {st : List Value} {C : String} {index sz : Nat} (hd : decode M.code pc = .ok (.new index, 3)) (w1 : (Jvm.Cond.classLink M.own index C).before G.a0 G.Z = true) (w2 : (Jvm.Cond.instantiable C sz).before G.a0 G.Z = true) (w3 : (Jvm.Cond.initialized C).before G.a0 G.Z = true) (hc : k + 1 ≤ R.cells) (hl : n + sz ≤ R.slots) (hq : pc + 3 = q)
    (go : ∀ (T' : State) (h' : Heap) (b : Nat), b = h.size → Wk G M R X vm T' h' (k + 1) (n + sz) → Ext h h' → Exa G.Z h' b C → (∀ {O nm d : String} {ty : FieldType}, Laid G.Z G.a0 C O nm d → parseFieldDescriptor d = some ty → Fld G.Z h' b O nm d (defaultValue ty)) → Unt h' b → Go G R X Q (T'.setTop (mkF X.m q Ls (.ref b :: st)))) : Go G R X Q (T.setTop (mkF X.m pc Ls st)) := by
  subst hq
  obtain ⟨fx, k0, L, S, eh, hS, hk, hZ, hown, hF, ho, hch, hnw⟩ := w
  obtain ⟨T', h', X', e', E, A, D, U, st'⟩ := Jvm.RoadKit.newO S fx.1 hZ hown w1 w2 w3 eh (g := mkF X.m pc Ls st) rfl (hb fx.2.1 hd) hc hl
  exact (go T' h' h.size rfl ⟨fx, k0, L, X', e', hS, Nat.le_trans hk E.1, hZ, hown, hF, ho.ext E, fun b => (hch b).trans (CHr.ext E (hch b).1), hnw⟩ E A D U).of st'
theorem Wk.newP (w : Wk G M R X vm T h k n) {pc q : Nat} {Ls : Array Slot} {st : List Value} {aty : ArrayType} {N : Int32} (cap : Nat) (hd : decode M.code pc = .ok (.newarray aty, 2)) (w1 : (Jvm.Cond.arrayClass (newarray.typeOf aty)).before G.a0 G.Z = true) (hN : ¬ N < 0) (hcap : N.toNatClampNeg ≤ cap) (hb8 : cap * 8 ≤ 536870912) (hc : k + 1 ≤ R.cells) (hl : n + cap ≤ R.slots) (hq : pc + 2 = q)
    (go : ∀ (T' : State) (h' : Heap) (b : Nat) (kc : ClassId), b = h.size → Wk G M R X vm T' h' (k + 1) (n + cap) → Ext h h' → Arv G.Z h' b kc (newarray.typeOf aty) N [] (defaultValue (newarray.typeOf aty)) → Go G R X Q (T'.setTop (mkF X.m q Ls (.ref b :: st)))) : Go G R X Q (T.setTop (mkF X.m pc Ls (.int N :: st))) := by
  subst hq
  obtain ⟨fx, k0, L, S, eh, hS, hk, hZ, hown, hF, ho, hch, hnw⟩ := w
  obtain ⟨T', h', kc, X', e', E, A, st'⟩ := Jvm.RoadKit.newP S fx.1 hZ w1 eh (g := mkF X.m pc Ls (.int N :: st)) rfl (hb fx.2.1 hd) rfl hN (cap := cap) hcap hb8 hc hl
  exact (go T' h' h.size kc rfl ⟨fx, k0, L, X', e', hS, Nat.le_trans hk E.1, hZ, hown, hF, ho.ext E, fun b => (hch b).trans (CHr.ext E (hch b).1), hnw⟩ E (Arv.new A hN)).of st'
theorem Wk.newR (w : Wk G M R X vm T h k n) {pc q : Nat} {Ls : Array Slot} {st : List Value} {C : String} {index : Nat} {N : Int32} (cap : Nat) (hd : decode M.code pc = .ok (.anewarray index, 3)) (w1 : (Jvm.Cond.classLink M.own index C).before G.a0 G.Z = true) (w2 : (Jvm.Cond.arrayOver (.object C)).before G.a0 G.Z = true) (hN : ¬ N < 0) (hcap : N.toNatClampNeg ≤ cap) (hb8 : cap * 8 ≤ 536870912) (hc : k + 1 ≤ R.cells) (hl : n + cap ≤ R.slots) (hq : pc + 3 = q)
    (go : ∀ (T' : State) (h' : Heap) (b : Nat) (kc : ClassId), b = h.size → Wk G M R X vm T' h' (k + 1) (n + cap) → Ext h h' → Arv G.Z h' b kc (.object C) N [] .null → Ovr G.Z kc C → Go G R X Q (T'.setTop (mkF X.m q Ls (.ref b :: st)))) : Go G R X Q (T.setTop (mkF X.m pc Ls (.int N :: st))) := by
  subst hq
  obtain ⟨fx, k0, L, S, eh, hS, hk, hZ, hown, hF, ho, hch, hnw⟩ := w
  obtain ⟨T', h', kc, X', e', E, A, O, st'⟩ := Jvm.RoadKit.newR S fx.1 hZ hown w1 w2 eh (g := mkF X.m pc Ls (.int N :: st)) rfl (hb fx.2.1 hd) rfl hN (cap := cap) hcap hb8 hc hl
  exact (go T' h' h.size kc rfl ⟨fx, k0, L, X', e', hS, Nat.le_trans hk E.1, hZ, hown, hF, ho.ext E, fun b => (hch b).trans (CHr.ext E (hch b).1), hnw⟩ E (Arv.new A hN) O).of st'
theorem Wk.castore (w : Wk G M R X vm T h k n) {pc q : Nat} {Ls : Array Slot} {st : List Value} {b : Addr} {kc : ClassId} {N j x : Int32} {vs : List Value} {dv : Value} (i : Nat) (hd : decode M.code pc = .ok (.castore, 1)) (A : Arv G.Z h b kc .char N vs dv) (h0 : G.n0 ≤ b) (hj : ¬ j < 0 ∧ j < N) (hi : j.toNatClampNeg = i) (hlen : i < vs.length) (hq : pc + 1 = q)
    (go : ∀ (T' : State) (h' : Heap), Wk G M R X vm T' h' k n → Keep h h' [b] → Arv G.Z h' b kc .char N (vs.set i (.int (nar .char x))) dv → Go G R X Q (T'.setTop (mkF X.m q Ls st))) : Go G R X Q (T.setTop (mkF X.m pc Ls (.int x :: .int j :: .ref b :: st))) := by
  subst hq
  have sf := w.sfA A (by decide)
  obtain ⟨fx, k0, L, S, eh, hS, hk, hZ, hown, hF, ho, hch, hnw⟩ := w
  obtain ⟨cl, Ar, r1, r2, r3, H, Gf⟩ := A
  obtain ⟨T', h', X', e', W, st'⟩ := Jvm.RoadKit.stC S fx.1 hZ eh Ar (j := j) (x := x) (inb_of r2 hj) (g := mkF X.m pc Ls (.int x :: .int j :: .ref b :: st)) rfl rfl (hb fx.2.1 hd)
  have K := Keep.of_wr W
  exact (go T' h' ⟨fx, k0, _, X', e', hS, Nat.le_trans hk K.1, hZ, hown, Fr.snoc X' hF h0, ho.wr W h0, fun b' => (hch b').trans (CHr.wr W (sf b') (hch b').1), hnw⟩ K (Arv.set Ar r1 r2 r3 H Gf (fits_nar_char _) W i hi hlen)).of st'
theorem Wk.iastore (w : Wk G M R X vm T h k n) {pc q : Nat} {Ls : Array Slot} {st : List Value} {b : Addr} {kc : ClassId} {N j x : Int32} {vs : List Value} {dv : Value} (i : Nat) (hd : decode M.code pc = .ok (.iastore, 1)) (A : Arv G.Z h b kc .int N vs dv) (h0 : G.n0 ≤ b) (hj : ¬ j < 0 ∧ j < N) (hi : j.toNatClampNeg = i) (hlen : i < vs.length) (hq : pc + 1 = q)
    (go : ∀ (T' : State) (h' : Heap), Wk G M R X vm T' h' k n → Keep h h' [b] → Arv G.Z h' b kc .int N (vs.set i (.int x)) dv → Go G R X Q (T'.setTop (mkF X.m q Ls st))) : Go G R X Q (T.setTop (mkF X.m pc Ls (.int x :: .int j :: .ref b :: st))) := by
  subst hq
  have sf := w.sfA A (by decide)
  obtain ⟨fx, k0, L, S, eh, hS, hk, hZ, hown, hF, ho, hch, hnw⟩ := w
  obtain ⟨cl, Ar, r1, r2, r3, H, Gf⟩ := A
  obtain ⟨T', h', X', e', W, st'⟩ := Jvm.RoadKit.stI S fx.1 hZ eh Ar (j := j) (x := x) (inb_of r2 hj) (g := mkF X.m pc Ls (.int x :: .int j :: .ref b :: st)) rfl rfl (hb fx.2.1 hd)
  have K := Keep.of_wr W
  exact (go T' h' ⟨fx, k0, _, X', e', hS, Nat.le_trans hk K.1, hZ, hown, Fr.snoc X' hF h0, ho.wr W h0, fun b' => (hch b').trans (CHr.wr W (sf b') (hch b').1), hnw⟩ K (Arv.set Ar r1 r2 r3 H Gf rfl W i hi hlen)).of st'
theorem Wk.bastore (w : Wk G M R X vm T h k n) {pc q : Nat} {Ls : Array Slot} {st : List Value} {b : Addr} {kc : ClassId} {N j x : Int32} {vs : List Value} {dv : Value} (i : Nat) (hd : decode M.code pc = .ok (.bastore, 1)) (A : Arv G.Z h b kc .byte N vs dv) (h0 : G.n0 ≤ b) (sf : G.wd = true → Safe G.Z G.EL vm h b) (hj : ¬ j < 0 ∧ j < N) (hi : j.toNatClampNeg = i) (hlen : i < vs.length) (hq : pc + 1 = q)
    (go : ∀ (T' : State) (h' : Heap), Wk G M R X vm T' h' k n → Keep h h' [b] → (G.wd = true → Safe G.Z G.EL vm h' b) → Arv G.Z h' b kc .byte N (vs.set i (.int x.toInt8.toInt32)) dv → Go G R X Q (T'.setTop (mkF X.m q Ls st))) : Go G R X Q (T.setTop (mkF X.m pc Ls (.int x :: .int j :: .ref b :: st))) := by
  subst hq
  obtain ⟨fx, k0, L, S, eh, hS, hk, hZ, hown, hF, ho, hch, hnw⟩ := w
  obtain ⟨cl, Ar, r1, r2, r3, H, Gf⟩ := A
  obtain ⟨T', h', X', e', W, st'⟩ := Jvm.RoadKit.stB S fx.1 hZ eh Ar (j := j) (x := x) (inb_of r2 hj) (g := mkF X.m pc Ls (.int x :: .int j :: .ref b :: st)) rfl rfl (hb fx.2.1 hd)
  have K := Keep.of_wr W
  exact (go T' h' ⟨fx, k0, _, X', e', hS, Nat.le_trans hk K.1, hZ, hown, Fr.snoc X' hF h0, ho.wr W h0, fun b' => (hch b').trans (CHr.wr W (sf b') (hch b').1), hnw⟩ K (fun b' => (CHr.wr W (sf b') (hch b').1).safe Ar.lt (sf b')) (Arv.set Ar r1 r2 r3 H Gf (fits_nar_byte _) W i hi hlen)).of st'
theorem Wk.aastore (w : Wk G M R X vm T h k n) {pc q : Nat} {Ls : Array Slot} {st : List Value} {b : Addr} {kc : ClassId} {ty : FieldType} {N j : Int32} {v : Value} {vs : List Value} {dv : Value} (i : Nat) (hd : decode M.code pc = .ok (.aastore, 1)) (A : Arv G.Z h b kc ty N vs dv) (hty : ty.isReference = true) (F : Sto G.Z h b v) (hv : v.isRef = true) (h0 : G.n0 ≤ b) (hj : ¬ j < 0 ∧ j < N) (hi : j.toNatClampNeg = i) (hlen : i < vs.length) (hq : pc + 1 = q)
    (go : ∀ (T' : State) (h' : Heap), Wk G M R X vm T' h' k n → Keep h h' [b] → Arv G.Z h' b kc ty N (vs.set i v) dv → Go G R X Q (T'.setTop (mkF X.m q Ls st))) : Go G R X Q (T.setTop (mkF X.m pc Ls (v :: .int j :: .ref b :: st))) := by
  subst hq
  have hnb : ty ≠ .byte := fun e => by rw [e] at hty; cases hty
  have sf := w.sfA A hnb
  have hfit : fits ty v = true := by cases ty <;> first | (cases hty; done) | (rcases ref_cases hv with rfl | ⟨_, rfl⟩ <;> rfl)
  obtain ⟨fx, k0, L, S, eh, hS, hk, hZ, hown, hF, ho, hch, hnw⟩ := w
  obtain ⟨cl, Ar, r1, r2, r3, H, Gf⟩ := A
  obtain ⟨T', h', X', e', W, st'⟩ := Jvm.RoadKit.stR S fx.1 hZ eh Ar (j := j) (v := v) (inb_of r2 hj) hty F (g := mkF X.m pc Ls (v :: .int j :: .ref b :: st)) rfl rfl (hb fx.2.1 hd)
  have K := Keep.of_wr W
  exact (go T' h' ⟨fx, k0, _, X', e', hS, Nat.le_trans hk K.1, hZ, hown, Fr.snoc X' hF h0, ho.wr W h0, fun b' => (hch b').trans (CHr.wr W (sf b') (hch b').1), hnw⟩ K (Arv.set Ar r1 r2 r3 H Gf hfit W i hi hlen)).of st'
theorem Wk.getF (w : Wk G M R X vm T h k n) {pc q : Nat} {Ls : Array Slot} {st : List Value} {R0 O f d : String} {index : Nat} {a : Addr} {v : Value} (hd : decode M.code pc = .ok (.getfield index, 3)) (w1 : (Jvm.Cond.fieldLink M.own index R0 f d).before G.a0 G.Z = true) (via : Via G.Z R0 O f d) (F : Fld G.Z h a O f d v) (hq : pc + 3 = q)
    (go : ∀ T' : State, Wk G M R X vm T' h k n → Go G R X Q (T'.setTop (mkF X.m q Ls (v :: st)))) : Go G R X Q (T.setTop (mkF X.m pc Ls (.ref a :: st))) := by
  subst hq
  obtain ⟨fx, k0, L, S, eh, hS, hk, hZ, hown, r⟩ := w
  obtain ⟨T', X', e', st'⟩ := Jvm.RoadKit.getF (host := "") S fx.1 hZ hown (Or.inl w1) via eh F (g := mkF X.m pc Ls (.ref a :: st)) rfl rfl (hb fx.2.1 hd)
  exact (go T' ⟨fx, k0, L, X', e', hS, hk, hZ, hown, r⟩).of st'
theorem Wk.getS (w : Wk G M R X vm T h k n) {pc q : Nat} {Ls : Array Slot} {st : List Value} {R0 O f d : String} {index : Nat} {v : Value} (hd : decode M.code pc = .ok (.getstatic index, 3)) (w1 : (Jvm.Cond.fieldLink M.own index R0 f d).before G.a0 G.Z = true) (via : Via G.Z R0 O f d) (F : Sta G.Z G.Z.heap O f d v) (hq : pc + 3 = q)
    (go : ∀ T' : State, Wk G M R X vm T' h k n → Go G R X Q (T'.setTop (mkF X.m q Ls (v :: st)))) : Go G R X Q (T.setTop (mkF X.m pc Ls st)) := by
  subst hq
  have F' := w.sta F
  obtain ⟨fx, k0, L, S, eh, hS, hk, hZ, hown, r⟩ := w
  obtain ⟨T', X', e', st'⟩ := Jvm.RoadKit.getS (host := "") S fx.1 hZ hown w1 via eh F' (g := mkF X.m pc Ls st) rfl (hb fx.2.1 hd)
  exact (go T' ⟨fx, k0, L, X', e', hS, hk, hZ, hown, r⟩).of st'
theorem Wk.putF (w : Wk G M R X vm T h k n) {pc q : Nat} {Ls : Array Slot} {st : List Value} {R0 O f d C : String} {index kk : Nat} {ty : FieldType} {a : Addr} {v old : Value} (hd : decode M.code pc = .ok (.putfield index, 3)) (w1 : (Jvm.Cond.fieldLink M.own index R0 f d).before G.a0 G.Z = true) (via : Via G.Z R0 O f d) (F : Fld G.Z h a O f d old) (E : Exa G.Z h a C) (hlay : (Jvm.Cond.lays C O f d).before G.a0 G.Z = true ∨ ((Jvm.Cond.laysFinal C O f d).before G.a0 G.Z = true ∧ M.own = O ∧ M.nm = "<init>")) (wi : (Jvm.Cond.instantiable C kk).before G.a0 G.Z = true)
    (hty : parseFieldDescriptor d = some ty) (hn : narrow ty v = v) (hf : fits ty v = true) (h0 : G.n0 ≤ a) (sf : G.wd = true → Safe G.Z G.EL vm h a) (hq : pc + 3 = q)
    (go : ∀ (T' : State) (h' : Heap), Wk G M R X vm T' h' k n → Wr h h' a (Jvm.RoadKit.slotOf G.Z O f d) v → (G.wd = true → Safe G.Z G.EL vm h' a) → Go G R X Q (T'.setTop (mkF X.m q Ls st))) : Go G R X Q (T.setTop (mkF X.m pc Ls (v :: .ref a :: st))) := by
  subst hq
  have hnm := w.hnm
  obtain ⟨fx, k0, L, S, eh, hS, hk, hZ, hown, hF, ho, hch, hnw⟩ := w
  obtain ⟨T', h', X', e', W, st'⟩ := Jvm.RoadKit.putF (host := "") S fx.1 hZ hown (Or.inl w1) via eh F E (hlay.imp id fun z => ⟨z.1, z.2.1, hnm.trans z.2.2⟩) wi hty hn hf (g := mkF X.m pc Ls (v :: .ref a :: st)) rfl rfl (hb fx.2.1 hd)
  have K := Keep.of_wr W
  exact (go T' h' ⟨fx, k0, _, X', e', hS, Nat.le_trans hk K.1, hZ, hown, Fr.snoc X' hF h0, ho.wr W h0, fun b' => (hch b').trans (CHr.wr W (sf b') (hch b').1), hnw⟩ W (fun b' => (CHr.wr W (sf b') (hch b').1).safe F.lt (sf b'))).of st'
theorem Wk.castY (w : Wk G M R X vm T h k n) {pc q : Nat} {Ls : Array Slot} {st : List Value} {K : String} {index : Nat} {a : Addr} (hd : decode M.code pc = .ok (.checkcast index, 3)) (w1 : (Jvm.Cond.classLink M.own index K).before G.a0 G.Z = true) (F : Ins G.Z h a K true) (hq : pc + 3 = q)
    (go : ∀ T' : State, Wk G M R X vm T' h k n → Go G R X Q (T'.setTop (mkF X.m q Ls (.ref a :: st)))) : Go G R X Q (T.setTop (mkF X.m pc Ls (.ref a :: st))) := by
  subst hq
  obtain ⟨fx, k0, L, S, eh, hS, hk, hZ, hown, r⟩ := w
  obtain ⟨T', X', e', st'⟩ := Jvm.RoadKit.castY S fx.1 hZ hown w1 eh F (g := mkF X.m pc Ls (.ref a :: st)) rfl rfl (hb fx.2.1 hd)
  exact (go T' ⟨fx, k0, L, X', e', hS, hk, hZ, hown, r⟩).of st'
theorem Wk.instY (w : Wk G M R X vm T h k n) {pc q : Nat} {Ls : Array Slot} {st : List Value} {K : String} {index : Nat} {a : Addr} (hd : decode M.code pc = .ok (.instanceof index, 3)) (w1 : (Jvm.Cond.classLink M.own index K).before G.a0 G.Z = true) (F : Ins G.Z h a K true) (hq : pc + 3 = q)
    (go : ∀ T' : State, Wk G M R X vm T' h k n → Go G R X Q (T'.setTop (mkF X.m q Ls (.int 1 :: st)))) : Go G R X Q (T.setTop (mkF X.m pc Ls (.ref a :: st))) := by
  subst hq
  obtain ⟨fx, k0, L, S, eh, hS, hk, hZ, hown, r⟩ := w
  obtain ⟨T', X', e', st'⟩ := Jvm.RoadKit.instY S fx.1 hZ hown w1 eh F (g := mkF X.m pc Ls (.ref a :: st)) rfl rfl (hb fx.2.1 hd)
  exact (go T' ⟨fx, k0, L, X', e', hS, hk, hZ, hown, r⟩).of st'
theorem Wk.initO (w : Wk G M R X vm T h k n) {pc q : Nat} {Ls : Array Slot} {st : List Value} {index W : Nat} {a : Addr} (hd : decode M.code pc = .ok (.invokespecial index, 3)) (w1 : (Jvm.Cond.methodLink M.own index Lib.objectInit).before G.a0 G.Z = true) (w2 : (Jvm.Cond.instanceMethod Lib.objectInit).before G.a0 G.Z = true) (w3 : (Jvm.Cond.code Lib.objectInit ⟨#[0xb1]⟩ 1 none).before G.a0 G.Z = true) (hsz : Ls.size = M.mx) (hfr : 1 ≤ R.frames) (hW : (st.map fun v => v.category).sum ≤ W) (hlo : W + 12 ≤ R.locals) (hq : pc + 3 = q)
    (go : ∀ T' : State, Wk G M R X vm T' h k n → Go G R X Q (T'.setTop (mkF X.m q Ls st))) : Go G R X Q (T.setTop (mkF X.m pc Ls (.ref a :: st))) := by
  subst hq
  obtain ⟨fx, k0, L, S, eh, hS, hk, hZ, hown, r⟩ := w
  obtain ⟨T', X', e', st'⟩ := Jvm.RoadKit.initO S fx.1 hZ hown w1 w2 w3 eh (g := mkF X.m pc Ls (.ref a :: st)) rfl (hsz.trans fx.2.2.1.symm) rfl (hb fx.2.1 hd) hfr (W := W) (by show 2 * 0 + _ ≤ _; omega) hlo
  exact (go T' ⟨fx, k0, L, X', e', hS, hk, hZ, hown, r⟩).of st'
theorem Wk.ldcI (w : Wk G M R X vm T h k n) {pc q : Nat} {Ls : Array Slot} {st : List Value} {index : Nat} {v : Int32} (hd : decode M.code pc = .ok (.ldc index, 2)) (w1 : (Jvm.Cond.constant M.own index v).before G.a0 G.Z = true) (hq : pc + 2 = q) (go : Go G R X Q (T.setTop (mkF X.m q Ls (.int v :: st)))) : Go G R X Q (T.setTop (mkF X.m pc Ls st)) := by
  subst hq
  obtain ⟨fx, k0, L, S, eh, hS, hk, hZ, hown, r⟩ := w
  exact go.of fun t z => S.ldcI fx.1 hown (mv (s := X.s.setVm vm) hZ w1) (g := mkF X.m pc Ls st) rfl (hb fx.2.1 hd) z
theorem Wk.ldc2J (w : Wk G M R X vm T h k n) {pc q : Nat} {Ls : Array Slot} {st : List Value} {index : Nat} {v : Int64} (hd : decode M.code pc = .ok (.ldc2_w index, 3)) (w1 : (Jvm.Cond.constantLong M.own index v).before G.a0 G.Z = true) (hq : pc + 3 = q) (go : Go G R X Q (T.setTop (mkF X.m q Ls (.long v :: st)))) : Go G R X Q (T.setTop (mkF X.m pc Ls st)) := by
  subst hq
  obtain ⟨fx, k0, L, S, eh, hS, hk, hZ, hown, r⟩ := w
  exact go.of fun t z => S.ldc2J fx.1 hown (mv (s := X.s.setVm vm) hZ w1) (g := mkF X.m pc Ls st) rfl (hb fx.2.1 hd) z
theorem Wk.alen (w : Wk G M R X vm T h k n) {pc q : Nat} {Ls : Array Slot} {st : List Value} {b : Addr} {kc : ClassId} {ty : FieldType} {N : Int32} {vs : List Value} {dv : Value} (hd : decode M.code pc = .ok (.arraylength, 1)) (A : Arv G.Z h b kc ty N vs dv) (hq : pc + 1 = q) (go : Go G R X Q (T.setTop (mkF X.m q Ls (.int N :: st)))) : Go G R X Q (T.setTop (mkF X.m pc Ls (.ref b :: st))) := by
  subst hq
  obtain ⟨fx, k0, L, S, eh, hS, hk, hZ, hown, r⟩ := w
  obtain ⟨cl, Ar, r1, r2, r3, H, Gf⟩ := A
  refine go.of fun t z => S.arraylength fx.1 (by rw [eh]; exact Ar.1) (State.isArrayOf_alike hZ.alike Ar.2.1) (g := mkF X.m pc Ls (.ref b :: st)) rfl rfl (hb fx.2.1 hd) _ ?_
  rw [len_of r2 r3]; exact z
theorem Wk.aaload (w : Wk G M R X vm T h k n) {pc q : Nat} {Ls : Array Slot} {st : List Value} {b : Addr} {kc : ClassId} {ty : FieldType} {N j : Int32} {v : Value} {vs : List Value} {dv : Value} (hd : decode M.code pc = .ok (.aaload, 1)) (A : Arv G.Z h b kc ty N vs dv) (hty : ty.isReference = true) (hj : ¬ j < 0 ∧ j < N) (hv : vs.getD j.toNatClampNeg dv = v) (hq : pc + 1 = q) (go : Go G R X Q (T.setTop (mkF X.m q Ls (v :: st)))) : Go G R X Q (T.setTop (mkF X.m pc Ls (.int j :: .ref b :: st))) := by
  subst hq
  obtain ⟨fx, k0, L, S, eh, hS, hk, hZ, hown, r⟩ := w
  obtain ⟨cl, Ar, r1, r2, r3, H, Gf⟩ := A
  exact go.of fun t z => S.aaload fx.1 (j := j) (v := v) (by rw [eh]; exact Ar.1) (State.isArrayOf_alike hZ.alike Ar.2.1) hty Ar.2.2 (inb_of r2 hj) (H.at (inb_of r2 hj) hv) (g := mkF X.m pc Ls (.int j :: .ref b :: st)) rfl rfl (hb fx.2.1 hd) _ z
theorem Wk.caload (w : Wk G M R X vm T h k n) {pc q : Nat} {Ls : Array Slot} {st : List Value} {b : Addr} {kc : ClassId} {N j x : Int32} {vs : List Value} {dv : Value} (hd : decode M.code pc = .ok (.caload, 1)) (A : Arv G.Z h b kc .char N vs dv) (hj : ¬ j < 0 ∧ j < N) (hv : vs.getD j.toNatClampNeg dv = .int x) (hq : pc + 1 = q) (go : Go G R X Q (T.setTop (mkF X.m q Ls (.int x :: st)))) : Go G R X Q (T.setTop (mkF X.m pc Ls (.int j :: .ref b :: st))) := by
  subst hq
  obtain ⟨fx, k0, L, S, eh, hS, hk, hZ, hown, r⟩ := w
  obtain ⟨cl, Ar, r1, r2, r3, H, Gf⟩ := A
  exact go.of fun t z => S.caload fx.1 (j := j) (v := .int x) (by rw [eh]; exact Ar.1) (State.isArrayOf_alike hZ.alike Ar.2.1) Ar.2.2 (inb_of r2 hj) (H.at (inb_of r2 hj) hv) (g := mkF X.m pc Ls (.int j :: .ref b :: st)) rfl rfl (hb fx.2.1 hd) _ z
theorem Wk.baload (w : Wk G M R X vm T h k n) {pc q : Nat} {Ls : Array Slot} {st : List Value} {b : Addr} {kc : ClassId} {N j x : Int32} {vs : List Value} {dv : Value} (hd : decode M.code pc = .ok (.baload, 1)) (A : Arv G.Z h b kc .byte N vs dv) (hj : ¬ j < 0 ∧ j < N) (hv : vs.getD j.toNatClampNeg dv = .int x) (hq : pc + 1 = q) (go : Go G R X Q (T.setTop (mkF X.m q Ls (.int x :: st)))) : Go G R X Q (T.setTop (mkF X.m pc Ls (.int j :: .ref b :: st))) := by
  subst hq
  obtain ⟨fx, k0, L, S, eh, hS, hk, hZ, hown, r⟩ := w
  obtain ⟨cl, Ar, r1, r2, r3, H, Gf⟩ := A
  exact go.of fun t z => S.baloadBytes fx.1 (j := j) (v := .int x) (by rw [eh]; exact Ar.1) (State.isArrayOf_alike hZ.alike Ar.2.1) Ar.2.2 (inb_of r2 hj) (H.at (inb_of r2 hj) hv) (g := mkF X.m pc Ls (.int j :: .ref b :: st)) rfl rfl (hb fx.2.1 hd) _ z
theorem arv_sto {Z : State} {h : Heap} {b y : Addr} {kc : ClassId} {ty : FieldType} {N : Int32} {vs : List Value} {dv : Value} {C : String} (A : Arv Z h b kc ty N vs dv) (O : Ovr Z kc C) (I : Ins Z h y C true) : Sto Z h b (.ref y) := by
  obtain ⟨c, Ar, r1, -⟩ := A; exact Sto.ofV Ar r1 O I
def PayN (G : Gx) (R : Room) (X : Cx) (y : MethodName) (len W : Nat) (as : Array Value) (h : Heap) (k1 n1 : Nat) (Q1 : Option Value → Heap → Prop) (vm : Vm) : Prop :=
  Back G.l R X.p X.e X.below (X.s.setVm vm) X.args y len W (fun P a => a = as ∧ P.U.heap = h ∧ P.cells + k1 ≤ R.cells ∧ P.slots + n1 ≤ R.slots)
    (fun P _ v B => ∃ L, (Q1 v B.U.heap ∧ Fr G.n0 L ∧ Old G.Z G.n0 B.U.heap ∧ h.size ≤ B.U.heap.size ∧ (G.wd = true → CHr G.Z G.EL vm h vm B.U.heap)) ∧ B.locs = P.locs ++ L ∧ B.cells = P.cells + k1 ∧ B.slots = P.slots + n1)
def PayW (G : Gx) (R : Room) (X : Cx) (y : MethodName) (len W : Nat) (as : Array Value) (h : Heap) (k1 n1 : Nat) (Q1 : Option Value → Heap → Prop) (vm : Vm) : Prop :=
  G.wd = true ∧ BackS G.l R X.p X.e X.below (X.s.setVm vm) X.args y len W (fun P a => a = as ∧ P.U.heap = h ∧ P.cells + k1 ≤ R.cells ∧ P.slots + n1 ≤ R.slots)
    (fun P _ v B => ∃ L, (Q1 v B.U.heap ∧ Fr G.n0 L ∧ Old G.Z G.n0 B.U.heap ∧ (G.wd = true → CHr G.Z G.EL vm h B.U.vm B.U.heap)) ∧ B.locs = P.locs ++ L ∧ B.cells = P.cells + k1 ∧ B.slots = P.slots + n1)
def Pay (G : Gx) (R : Room) (X : Cx) (y : MethodName) (len W : Nat) (as : Array Value) (h : Heap) (k1 n1 : Nat) (Q1 : Option Value → Heap → Prop) (vm : Vm) : Prop := PayN G R X y len W as h k1 n1 Q1 vm ∨ PayW G R X y len W as h k1 n1 Q1 vm
theorem finN {k0 k1 n1 : Nat} {L : List Loc} {Q1 : Option Value → Heap → Prop} (fx : Fix G M X) (hS : X.s.Since vm k0) (hk : k0 ≤ h.size) (hZ : G.Z.Warmed39 vm) (hown : vm.findClass M.own = some X.m.cls) (hF : Fr G.n0 L) (hch : G.wd = true → CHr G.Z G.EL X.s.vm X.s.heap vm h) (hnw : G.wd = false → vm = X.s.vm)
    {v : Option Value} {B : Pt} (X' : Stand X.p G.l X.e R (X.s.setVm vm) X.m X.args X.below X.meth X.c B.U B.locs B.cells B.slots) (post : ∃ L', (Q1 v B.U.heap ∧ Fr G.n0 L' ∧ Old G.Z G.n0 B.U.heap ∧ h.size ≤ B.U.heap.size ∧ (G.wd = true → CHr G.Z G.EL vm h vm B.U.heap)) ∧ B.locs = L ++ L' ∧ B.cells = k + k1 ∧ B.slots = n + n1) :
    Wk G M R X vm B.U B.U.heap (k + k1) (n + n1) ∧ Q1 v B.U.heap := by
  obtain ⟨U, Lb, c, s⟩ := B
  obtain ⟨L', ⟨q1, q2, q3, q4, q5⟩, h1, h2, h3⟩ := post
  dsimp only [Pt.U, Pt.locs, Pt.cells, Pt.slots] at *
  subst h1 h2 h3
  exact ⟨⟨fx, k0, _, X', rfl, hS, Nat.le_trans hk q4, hZ, hown, Fr.app hF q2, q3, fun b => (hch b).trans (q5 b), hnw⟩, q1⟩
theorem finW {k0 k1 n1 : Nat} {L : List Loc} {Q1 : Option Value → Heap → Prop} (hwd : G.wd = true) (fx : Fix G M X) (hS : X.s.Since vm k0) (hk : k0 ≤ h.size) (hZ : G.Z.Warmed39 vm) (hown : vm.findClass M.own = some X.m.cls) (hF : Fr G.n0 L) (hch : G.wd = true → CHr G.Z G.EL X.s.vm X.s.heap vm h)
    {v : Option Value} {B : Pt} (X' : Stand X.p G.l X.e R ((X.s.setVm vm).setVm B.U.vm) X.m X.args X.below X.meth X.c B.U B.locs B.cells B.slots) (hS' : (X.s.setVm vm).Since B.U.vm B.U.heap.size) (hgr : h.size ≤ B.U.heap.size) (post : ∃ L', (Q1 v B.U.heap ∧ Fr G.n0 L' ∧ Old G.Z G.n0 B.U.heap ∧ (G.wd = true → CHr G.Z G.EL vm h B.U.vm B.U.heap)) ∧ B.locs = L ++ L' ∧ B.cells = k + k1 ∧ B.slots = n + n1) :
    Wk G M R X B.U.vm B.U B.U.heap (k + k1) (n + n1) ∧ Q1 v B.U.heap := by
  obtain ⟨U, Lb, c, s⟩ := B
  obtain ⟨L', ⟨q1, q2, q3, q5⟩, h1, h2, h3⟩ := post
  dsimp only [Pt.U, Pt.locs, Pt.cells, Pt.slots] at *
  subst h1 h2 h3
  exact ⟨⟨fx, U.heap.size, _, X', rfl, hS.trans hS' (Nat.le_trans hk hgr), Nat.le_refl _, State.Warmed39.trans (t := X.s.setVm vm) hZ hS'.1, by rw [hS'.1.alike.findClass]; exact hown, Fr.app hF q2, q3, fun b => (hch b).trans (q5 b), fun z => absurd (z.symm.trans hwd) (by decide)⟩, q1⟩
theorem Wk.callS (w : Wk G M R X vm T h k n) {pc q : Nat} {Ls : Array Slot} {st : List Value} {y : MethodName} {bytes : ByteArray} {maxL : Nat} {ret : Option FieldType} {index W k1 n1 : Nat} {argsL rest : List Value} {Q1 : Option Value → Heap → Prop} (hd : decode M.code pc = .ok (.invokestatic index, 3)) (w1 : (Jvm.Cond.methodLink M.own index y).before G.a0 G.Z = true) (w2 : (Jvm.Cond.static y).before G.a0 G.Z = true) (w3 : (Jvm.Cond.initialized y.cls).before G.a0 G.Z = true) (w4 : (Jvm.Cond.code y bytes maxL ret).before G.a0 G.Z = true) (hy : y.cls ≠ "java/lang/invoke/MethodHandle" ∧ y.cls ≠ "java/lang/invoke/VarHandle")
    (hst : st = argsL.reverse ++ rest) (hlen : ∀ sig, parseMethodDescriptor y.desc = some sig → argsL.length = sig.parameters.length) (hsz : Ls.size = M.mx) (hW : (rest.map fun v => v.category).sum ≤ W) (pay : Pay G R X y 3 W argsL.toArray h k1 n1 Q1 vm) (hc : k + k1 ≤ R.cells) (hl : n + n1 ≤ R.slots) (hq : pc + 3 = q)
    (go : ∀ (vm' : Vm) (T' : State) (h' : Heap) (v : Option Value), Wk G M R X vm' T' h' (k + k1) (n + n1) → Q1 v h' → Go G R X Q (T'.setTop (mkF X.m q Ls (v.toList ++ rest)))) : Go G R X Q (T.setTop (mkF X.m pc Ls st)) := by
  subst hst hq
  obtain ⟨fx, k0, L, S, eh, hS, hk, hZ, hown, hF, ho, hch, hnw⟩ := w
  rcases pay with pay | ⟨hwd, pay⟩
  · obtain ⟨v, vm₁, B, -, X', post, st'⟩ := Jvm.LawKit.callS S fx.1 hown (mv (s := X.s.setVm vm) hZ w1) (mv (s := X.s.setVm vm) hZ w2) (mv (s := X.s.setVm vm) hZ w3) (mv (s := X.s.setVm vm) hZ w4) hy pay (g := mkF X.m pc Ls (argsL.reverse ++ rest)) rfl (hsz.trans fx.2.2.1.symm) hlen rfl (by show 2 * 0 + _ ≤ _; omega) (hb fx.2.1 hd) (fun _ _ => ⟨rfl, eh, hc, hl⟩)
    obtain ⟨w2, q1⟩ := finN fx hS hk hZ hown hF hch hnw X' post
    exact (go _ _ _ v w2 q1).of st'
  · obtain ⟨v, vm₁, B, -, X', hS', hgr, post, st'⟩ := Jvm.RoadKit.callSS S fx.1 hown (mv (s := X.s.setVm vm) hZ w1) (mv (s := X.s.setVm vm) hZ w2) (mv (s := X.s.setVm vm) hZ w3) (mv (s := X.s.setVm vm) hZ w4) hy pay (g := mkF X.m pc Ls (argsL.reverse ++ rest)) rfl (hsz.trans fx.2.2.1.symm) hlen rfl (by show 2 * 0 + _ ≤ _; omega) (hb fx.2.1 hd) (fun _ _ => ⟨rfl, eh, hc, hl⟩)
    obtain ⟨w2, q1⟩ := finW hwd fx hS hk hZ hown hF hch X' hS' (by rw [← eh]; exact hgr) post
    exact (go _ _ _ v w2 q1).of fun t z => st'.trans z
theorem Wk.callC (w : Wk G M R X vm T h k n) {pc q : Nat} {Ls : Array Slot} {st : List Value} {y : MethodName} {bytes : ByteArray} {maxL : Nat} {index W k1 n1 : Nat} {a : Addr} {argsL rest : List Value} {Q1 : Option Value → Heap → Prop} (hd : decode M.code pc = .ok (.invokespecial index, 3)) (hy1 : y.name = "<init>") (w1 : (Jvm.Cond.methodLink M.own index y).before G.a0 G.Z = true) (w2 : (Jvm.Cond.instanceMethod y).before G.a0 G.Z = true) (w4 : (Jvm.Cond.code y bytes maxL none).before G.a0 G.Z = true) (hy : y.cls ≠ "java/lang/invoke/MethodHandle" ∧ y.cls ≠ "java/lang/invoke/VarHandle")
    (hst : st = argsL.reverse ++ .ref a :: rest) (hlen : ∀ sig, parseMethodDescriptor y.desc = some sig → argsL.length = sig.parameters.length) (hsz : Ls.size = M.mx) (hW : (rest.map fun v => v.category).sum ≤ W) (pay : Pay G R X y 3 W (.ref a :: argsL).toArray h k1 n1 Q1 vm) (hc : k + k1 ≤ R.cells) (hl : n + n1 ≤ R.slots) (hq : pc + 3 = q)
    (go : ∀ (vm' : Vm) (T' : State) (h' : Heap) (v : Option Value), Wk G M R X vm' T' h' (k + k1) (n + n1) → Q1 v h' → Go G R X Q (T'.setTop (mkF X.m q Ls (v.toList ++ rest)))) : Go G R X Q (T.setTop (mkF X.m pc Ls st)) := by
  subst hst hq
  obtain ⟨fx, k0, L, S, eh, hS, hk, hZ, hown, hF, ho, hch, hnw⟩ := w
  rcases pay with pay | ⟨hwd, pay⟩
  · obtain ⟨v, vm₁, B, -, X', post, st'⟩ := S.specialBack fx.1 hy1 hown (mv (s := X.s.setVm vm) hZ w1) (mv (s := X.s.setVm vm) hZ w2) (mv (s := X.s.setVm vm) hZ w4) hy pay (g := mkF X.m pc Ls (argsL.reverse ++ .ref a :: rest)) rfl (hsz.trans fx.2.2.1.symm) (Steps.refl _) (a := a) hlen rfl (by show 2 * 0 + _ ≤ _; omega) (hb fx.2.1 hd) (fun _ _ => ⟨rfl, eh, hc, hl⟩)
    obtain ⟨w2, q1⟩ := finN fx hS hk hZ hown hF hch hnw X' post
    exact (go _ _ _ v w2 q1).of fun t z => st'.trans z
  · obtain ⟨v, vm₁, B, -, X', hS', hgr, post, st'⟩ := S.specialBackS fx.1 hy1 hown (mv (s := X.s.setVm vm) hZ w1) (mv (s := X.s.setVm vm) hZ w2) (mv (s := X.s.setVm vm) hZ w4) hy pay (g := mkF X.m pc Ls (argsL.reverse ++ .ref a :: rest)) rfl (hsz.trans fx.2.2.1.symm) (Steps.refl _) (a := a) hlen rfl (by show 2 * 0 + _ ≤ _; omega) (hb fx.2.1 hd) (fun _ _ => ⟨rfl, eh, hc, hl⟩)
    obtain ⟨w2, q1⟩ := finW hwd fx hS hk hZ hown hF hch X' hS' (by rw [← eh]; exact hgr) post
    exact (go _ _ _ v w2 q1).of fun t z => st'.trans z
theorem Wk.callV (w : Wk G M R X vm T h k n) {pc q : Nat} {Ls : Array Slot} {st : List Value} {C : String} {y z : MethodName} {index W k1 n1 : Nat} {a : Addr} {argsL rest : List Value} {Q1 : Option Value → Heap → Prop} (hd : decode M.code pc = .ok (.invokevirtual index, 3)) (w1 : (Jvm.Cond.methodLink M.own index y).before G.a0 G.Z = true) (w2 : (Jvm.Cond.declares y).before G.a0 G.Z = true) (hnf : NotFace G.Z y) (w3 : (Jvm.Cond.selects C y z).before G.a0 G.Z = true) (w4 : (Jvm.Cond.instanceMethod z).before G.a0 G.Z = true) (hy : y.cls ≠ "java/lang/invoke/MethodHandle" ∧ y.cls ≠ "java/lang/invoke/VarHandle") (E : Exa G.Z h a C)
    (hst : st = argsL.reverse ++ .ref a :: rest) (hlen : ∀ sig, parseMethodDescriptor y.desc = some sig → argsL.length = sig.parameters.length) (hsz : Ls.size = M.mx) (hW : (rest.map fun v => v.category).sum ≤ W) (pay : Pay G R X z 3 W (.ref a :: argsL).toArray h k1 n1 Q1 vm) (hc : k + k1 ≤ R.cells) (hl : n + n1 ≤ R.slots) (hq : pc + 3 = q)
    (go : ∀ (vm' : Vm) (T' : State) (h' : Heap) (v : Option Value), Wk G M R X vm' T' h' (k + k1) (n + n1) → Q1 v h' → Go G R X Q (T'.setTop (mkF X.m q Ls (v.toList ++ rest)))) : Go G R X Q (T.setTop (mkF X.m pc Ls st)) := by
  subst hst hq
  obtain ⟨fx, k0, L, S, eh, hS, hk, hZ, hown, hF, ho, hch, hnw⟩ := w
  have hnf' : NotFace (X.s.setVm vm) y := fun r0 h0 => by
    have q0 : G.Z.methodNamed? y = some r0 := by
      have := State.methodNamed?_setVm (s := G.Z) (vm' := vm) hZ.alike (x := y)
      rw [← this]; exact h0
    obtain ⟨kr, g1, g2⟩ := hnf r0 q0
    obtain ⟨kr', g3, g4⟩ := hZ.alike.2.2 _ _ g1
    exact ⟨kr', g3, by rw [g4]; exact g2⟩
  obtain ⟨cB, kB, b1, b2, b3⟩ := isOf (s := X.s.setVm vm) hZ eh E
  rcases pay with pay | ⟨hwd, pay⟩
  · obtain ⟨v, vm₁, B, -, X', post, st'⟩ := S.virtualBack fx.1 hown (mv (s := X.s.setVm vm) hZ w1) (mv (s := X.s.setVm vm) hZ w2) hnf' (mv (s := X.s.setVm vm) hZ w3) (mv (s := X.s.setVm vm) hZ w4) hy pay b1 b3 (g := mkF X.m pc Ls (argsL.reverse ++ .ref a :: rest)) rfl (hsz.trans fx.2.2.1.symm) (Steps.refl _) hlen rfl (by show 2 * 0 + _ ≤ _; omega) (hb fx.2.1 hd) (fun _ _ => ⟨rfl, eh, hc, hl⟩)
    obtain ⟨w2, q1⟩ := finN fx hS hk hZ hown hF hch hnw X' post
    exact (go _ _ _ v w2 q1).of fun t z => st'.trans z
  · obtain ⟨v, vm₁, B, -, X', hS', hgr, post, st'⟩ := S.virtualBackS fx.1 hown (mv (s := X.s.setVm vm) hZ w1) (mv (s := X.s.setVm vm) hZ w2) hnf' (mv (s := X.s.setVm vm) hZ w3) (mv (s := X.s.setVm vm) hZ w4) hy pay b1 b3 (g := mkF X.m pc Ls (argsL.reverse ++ .ref a :: rest)) rfl (hsz.trans fx.2.2.1.symm) (Steps.refl _) hlen rfl (by show 2 * 0 + _ ≤ _; omega) (hb fx.2.1 hd) (fun _ _ => ⟨rfl, eh, hc, hl⟩)
    obtain ⟨w2, q1⟩ := finW hwd fx hS hk hZ hown hF hch X' hS' (by rw [← eh]; exact hgr) post
    exact (go _ _ _ v w2 q1).of fun t z => st'.trans z
theorem Wk.callI (w : Wk G M R X vm T h k n) {pc q : Nat} {Ls : Array Slot} {st : List Value} {C : String} {xi y : MethodName} {index count W k1 n1 : Nat} {a : Addr} {argsL rest : List Value} {Q1 : Option Value → Heap → Prop} (hd : decode M.code pc = .ok (.invokeinterface index count, 5)) (w1 : (Jvm.Cond.methodLink M.own index xi).before G.a0 G.Z = true) (w2 : (Jvm.Cond.declares xi).before G.a0 G.Z = true) (w3 : (Jvm.Cond.interfaceMethod xi.cls xi.cls xi.name xi.desc).before G.a0 G.Z = true) (w4 : (Jvm.Cond.selects C xi y).before G.a0 G.Z = true) (w5 : (Jvm.Cond.instanceMethod y).before G.a0 G.Z = true) (w6 : (Jvm.Cond.publicMethod y).before G.a0 G.Z = true) (w7 : (Jvm.Cond.unhidden C xi.name xi.desc).before G.a0 G.Z = true) (w8 : (Jvm.Cond.castable C xi.cls).before G.a0 G.Z = true) (hy : xi.cls ≠ "java/lang/invoke/MethodHandle" ∧ xi.cls ≠ "java/lang/invoke/VarHandle") (E : Exa G.Z h a C)
    (hst : st = argsL.reverse ++ .ref a :: rest) (hlen : ∀ sig, parseMethodDescriptor xi.desc = some sig → argsL.length = sig.parameters.length) (hsz : Ls.size = M.mx) (hW : (rest.map fun v => v.category).sum ≤ W) (pay : Pay G R X y 5 W (.ref a :: argsL).toArray h k1 n1 Q1 vm) (hc : k + k1 ≤ R.cells) (hl : n + n1 ≤ R.slots) (hq : pc + 5 = q)
    (go : ∀ (vm' : Vm) (T' : State) (h' : Heap) (v : Option Value), Wk G M R X vm' T' h' (k + k1) (n + n1) → Q1 v h' → Go G R X Q (T'.setTop (mkF X.m q Ls (v.toList ++ rest)))) : Go G R X Q (T.setTop (mkF X.m pc Ls st)) := by
  subst hst hq
  obtain ⟨fx, k0, L, S, eh, hS, hk, hZ, hown, hF, ho, hch, hnw⟩ := w
  obtain ⟨cB, kB, b1, b2, b3⟩ := isOf (s := X.s.setVm vm) hZ eh E
  rcases pay with pay | ⟨hwd, pay⟩
  · obtain ⟨v, vm₁, B, -, X', post, st'⟩ := S.interfaceBack fx.1 hown (mv (s := X.s.setVm vm) hZ w1) (mv (s := X.s.setVm vm) hZ w2) (mv (s := X.s.setVm vm) hZ w3 (by simp [Cond.onTables, Cond.keepsFace, Cond.keeps, Cond.steady, Cond.faceAtom]; exact hy)) (mv (s := X.s.setVm vm) hZ w4) (mv (s := X.s.setVm vm) hZ w5) (mv (s := X.s.setVm vm) hZ w6) (mv (s := X.s.setVm vm) hZ w7) (mv (s := X.s.setVm vm) hZ w8) hy pay b1 b2 b3 (g := mkF X.m pc Ls (argsL.reverse ++ .ref a :: rest)) rfl (hsz.trans fx.2.2.1.symm) (Steps.refl _) hlen rfl (by show 2 * 0 + _ ≤ _; omega) (hb fx.2.1 hd) (fun _ _ => ⟨rfl, eh, hc, hl⟩)
    obtain ⟨w2, q1⟩ := finN fx hS hk hZ hown hF hch hnw X' post
    exact (go _ _ _ v w2 q1).of fun t z => st'.trans z
  · obtain ⟨v, vm₁, B, -, X', hS', hgr, post, st'⟩ := S.interfaceBackS fx.1 hown (mv (s := X.s.setVm vm) hZ w1) (mv (s := X.s.setVm vm) hZ w2) (mv (s := X.s.setVm vm) hZ w3 (by simp [Cond.onTables, Cond.keepsFace, Cond.keeps, Cond.steady, Cond.faceAtom]; exact hy)) (mv (s := X.s.setVm vm) hZ w4) (mv (s := X.s.setVm vm) hZ w5) (mv (s := X.s.setVm vm) hZ w6) (mv (s := X.s.setVm vm) hZ w7) (mv (s := X.s.setVm vm) hZ w8) hy pay b1 b2 b3 (g := mkF X.m pc Ls (argsL.reverse ++ .ref a :: rest)) rfl (hsz.trans fx.2.2.1.symm) (Steps.refl _) hlen rfl (by show 2 * 0 + _ ≤ _; omega) (hb fx.2.1 hd) (fun _ _ => ⟨rfl, eh, hc, hl⟩)
    obtain ⟨w2, q1⟩ := finW hwd fx hS hk hZ hown hF hch X' hS' (by rw [← eh]; exact hgr) post
    exact (go _ _ _ v w2 q1).of fun t z => st'.trans z
theorem Con.pay {y : MethodName} {bytes : ByteArray} {maxL : Nat} {ret : Option FieldType} {rm : Room} {as : Array Value} {Q1 : Option Value → Heap → Prop} {len W : Nat} (H : Con G y bytes maxL ret [] rm as h Q1) (w : Wk G M R X vm T h k n) (wc : (Jvm.Cond.code y bytes maxL ret).before G.a0 G.Z = true) (wz : (Jvm.Cond.initialized y.cls).before G.a0 G.Z = true) (hf : rm.frames + 1 ≤ R.frames) (hl : W + (maxL + 11) + rm.locals ≤ R.locals) : Pay G R X y len W as h rm.cells rm.slots Q1 vm := by
  have hZ := w.wz
  have hEL := w.hEL
  have hch := w.ch
  cases hwd : G.wd with
  | false =>
    exact Or.inl (Back.of_free (bytes := bytes) (maxL := maxL) (ret := ret) (E := fun _ first o t L k n => k = rm.cells ∧ n = rm.slots ∧ first.heap.size ≤ t.heap.size ∧ ∃ v, o = .returned v ∧ (Q1 v t.heap ∧ Fr G.n0 L ∧ Old G.Z G.n0 t.heap)) H hf hl
      (fun m meth c A a Y hp => have hU : G.Z.Warmed39 A.U.vm := wtrans (s := X.s.setVm vm) hZ Y.warmed
        ⟨by show (Jvm.Cond.and _ .tt).before a A.U = true; rw [Cond.before_and, mv hU wc]; rfl, mv hU wc, mv hU wz, hp.2.2.1, hp.2.2.2⟩)
      (fun m meth c A a g mk Y hp => ⟨hp.1, wtrans (s := X.s.setVm vm) hZ Y.warmed, hp.2.1, fun b => absurd (hwd.symm.trans b) (by decide)⟩) (fun _ _ _ _ _ _ _ _ _ => trivial)
      (fun _ _ _ _ ⟨v, L, h1, h2, h3, h4⟩ => ⟨L, _, _, h4.2 hwd, rfl, rfl, (h4.1.2.2.2).2.1, v, h1, h2⟩)
      (fun m meth c A a g mk v t L k n Y hp _ _ ⟨e1, e2, e0, v', e3, e4⟩ => by
        cases e3; subst e1 e2
        refine ⟨L, ⟨e4.1, e4.2.1, e4.2.2, ?_, fun b => absurd (hwd.symm.trans b) (by decide)⟩, rfl, rfl, rfl⟩
        rw [← hp.2.1]; exact e0))
  | true =>
    refine Or.inr ⟨hwd, BackS.of_freeW (bytes := bytes) (maxL := maxL) (ret := ret) (E := fun _ first o t L k n => k = rm.cells ∧ n = rm.slots ∧ CHr G.Z G.EL first.vm first.heap t.vm t.heap ∧ ∃ v, o = .returned v ∧ (Q1 v t.heap ∧ Fr G.n0 L ∧ Old G.Z G.n0 t.heap)) H hf hl
      (fun m meth c A a Y hp => have hU : G.Z.Warmed39 A.U.vm := wtrans (s := X.s.setVm vm) hZ Y.warmed
        ⟨by show (Jvm.Cond.and _ .tt).before a A.U = true; rw [Cond.before_and, mv hU wc]; rfl, mv hU wc, mv hU wz, hp.2.2.1, hp.2.2.2⟩)
      (fun m meth c A a g mk Y hp => ⟨hp.1, wtrans (s := X.s.setVm vm) hZ Y.warmed, hp.2.1, fun b => (CHv.at Y hZ hEL (hch b).1).1⟩) (fun _ _ _ _ _ _ _ _ _ => trivial)
      (fun _ _ _ _ ⟨v, L, h1, h2, h3, h4⟩ => ⟨L, _, _, h4.1, rfl, rfl, h3 hwd, v, h1, h2⟩)
      (fun m meth c A a g mk v t L k n Y hp _ _ ⟨e1, e2, e0, v', e3, e4⟩ => by
        cases e3; subst e1 e2
        refine ⟨L, ⟨e4.1, e4.2.1, e4.2.2, fun b => (CHv.at Y hZ hEL (hch b).1).trans ?_⟩, rfl, rfl, rfl⟩
        rw [← hp.2.1]; exact e0)⟩
theorem Pay.pure {y : MethodName} {as : Array Value} {len W : Nat} {P : Option Value → Prop} (w : Wk G M R X vm T h k n) (H : Back G.l R X.p X.e X.below (X.s.setVm vm) X.args y len W (fun P a => a = as ∧ P.U.heap = h ∧ P.cells + 0 ≤ R.cells ∧ P.slots + 0 ≤ R.slots) (fun A _ v B => ∃ L, (P v ∧ L = [] ∧ B.U.heap = h) ∧ B.locs = A.locs ++ L ∧ B.cells = A.cells + 0 ∧ B.slots = A.slots + 0)) : Pay G R X y len W as h 0 0 (fun v h' => P v ∧ h = h') vm := by
  refine Or.inl (Back.mono H (fun P a hp => hp) (fun A a v B hp hq => ?_))
  obtain ⟨L, ⟨q1, rfl, q3⟩, r⟩ := hq
  exact ⟨[], ⟨⟨q1, q3.symm⟩, Fr.nil _, by rw [q3]; exact w.old, by rw [q3]; exact Nat.le_refl _, fun b => by rw [q3]; exact CHr.refl (w.ch b).1⟩, r⟩
theorem Pay.pureV {y : MethodName} {as : Array Value} {len W : Nat} {P : Value → Prop} (w : Wk G M R X vm T h k n) (H : Pay G R X y len W as h 0 0 (fun v h' => (∃ x, v = some x ∧ P x) ∧ h = h') vm) : Pay G R X y len W as h 0 0 (vQ fun x h' => P x ∧ h = h') vm := by
  have e : (vQ fun x h' => P x ∧ h = h') = (fun (v : Option Value) (h' : Heap) => (∃ x, v = some x ∧ P x) ∧ h = h') := by
    funext v h'
    apply propext
    exact ⟨fun ⟨x, a, b, c⟩ => ⟨⟨x, a, b⟩, c⟩, fun ⟨⟨x, a, b⟩, c⟩ => ⟨x, a, b, c⟩⟩
  rw [e]; exact H
theorem Con.intro {y : MethodName} {bytes : ByteArray} {maxL : Nat} {ret : Option FieldType} {ws : List Jvm.Cond} {rm : Room} {as : Array Value} {Ls : Array Slot} (hE : EW G.Z G.a0 G.EL) (ho : Old G.Z G.n0 h) (hpl : plainFor y = true) (hef : ∀ m, entryFrame m as maxL = mkF m 0 Ls [])
    (body : ∀ (X : Cx) (vm : Vm) (T : State), Wk G (y.cls, y.name, bytes, maxL, ret) rm X vm T h 0 0 → Go G rm X Q (T.setTop (mkF X.m 0 Ls []))) : Con G y bytes maxL ret ws rm as h Q := by
  refine MetFree.of_bodySF hpl hisR ?_
  intro p e s m args below meth c s₁ Bd hml0 hP hK
  obtain ⟨rfl, hZ, hh, hc⟩ := hP
  have X0 : Stand p G.l e rm s m args below meth c s₁ [] 0 0 := Stand.of_body Bd
  have e0 : s₁.heap = h := by rw [← hh, Bd.state]; rfl
  have w : Wk G (y.cls, y.name, bytes, maxL, ret) rm (p, e, s, m, args, below, meth, c) s.vm s₁ h 0 0 :=
    ⟨⟨Bd.exec, Bd.bytes, hml0, Bd.returns, Bd.notSynchronized, (name_of_methodNamed Bd.named Bd.method).1, hE⟩, 0, [], X0, e0, (State.WarmedH.refl s).since 0, Nat.zero_le _, hZ, findClass_of_methodNamed Bd.named, Fr.nil _, ho, fun b => by show CHr G.Z G.EL s.vm s.heap s.vm h; rw [hh]; exact CHr.refl (hc b), fun _ => rfl⟩
  obtain ⟨t, o, h1, h2, h3, h4⟩ := body _ _ _ w
  exact ⟨t, o, castTop (hef m) h1, h2, h3, h4⟩
theorem Wk.leave' (w : Wk G M R X vm T h k n) {v : Option Value} (hv : M.ret = none → v = none) (hk' : k ≤ R.cells) (hn' : n ≤ R.slots) (hQ : Q v h) {S0 : State} (f : ∀ fs, (∀ (f : JFrame) (acts : List Action), f.method = X.m → f.locked = none → f.entered = [] → (doReturn X.e (T.setTop f) acts v).1 = T.setFrames fs) → ∀ L, Stand X.p G.l X.e R (X.s.setVm vm) X.m X.args X.below X.meth X.c T L k n → Steps X.p.tables X.e X.below S0 (T.setFrames fs)) : Go G R X Q S0 := by
  have hEL := w.hEL
  obtain ⟨fx, k0, L, S, eh, hS, hk, hZ, hown, hF, ho, hch, hnw⟩ := w
  obtain ⟨fs, hr, hrun, hended, hW, hsame⟩ := S.leave (v := v) (fun z => hv (fx.2.2.2.1.symm.trans z)) fx.2.2.2.2.1
  obtain ⟨a, b, c⟩ := hS.ended (U := T.setFrames fs) hW (by show k0 ≤ T.heap.size; rw [eh]; exact hk) hsame
  refine ⟨T.setFrames fs, .returned v, f fs hr L S, hrun, hended, v, L, rfl, ⟨by show Q v T.heap; rw [eh]; exact hQ, hF, by show Old G.Z G.n0 T.heap; rw [eh]; exact ho⟩, fun z => ?_, ⟨⟨v, rfl⟩, a, b, c.mono hk' hn'⟩, fun z => ?_⟩
  · show CHr G.Z G.EL X.s.vm X.s.heap T.vm T.heap
    rw [eh]; exact (hch z).trans (CHv.at S hZ hEL (hch z).1)
  · have e := hnw z
    subst e
    exact ⟨⟨v, rfl⟩, hW, c.mono hk' hn'⟩
theorem Wk.retV (w : Wk G M R X vm T h k n) {pc : Nat} {Ls : Array Slot} (hd : decode M.code pc = .ok (.return_, 1)) (hret : M.ret = none) (hk' : k ≤ R.cells) (hn' : n ≤ R.slots) (hQ : Q none h) : Go G R X Q (T.setTop (mkF X.m pc Ls [])) := by
  have fx := w.1
  exact w.leave' (v := none) (fun _ => rfl) hk' hn' hQ fun fs hr L S => S.returnOut fx.1 (fx.2.2.2.1.trans hret) (hb fx.2.1 hd) hr
theorem Wk.ret (w : Wk G M R X vm T h k n) {pc : Nat} {Ls : Array Slot} {st : List Value} {v : Value} {t : FieldType} {i : Instr} (hd : decode M.code pc = .ok (i, 1)) (hret : M.ret = some t) (hn : narrow t v = v)
    (hi : (i = .ireturn ∧ (t = .int ∨ t = .boolean ∨ t = .byte ∨ t = .char ∨ t = .short) ∧ ∃ z, v = .int z) ∨ (i = .lreturn ∧ t = .long ∧ ∃ z, v = .long z) ∨ (i = .dreturn ∧ t = .double ∧ ∃ z, v = .double z) ∨ (i = .freturn ∧ t = .float ∧ ∃ z, v = .float z) ∨ (i = .areturn ∧ t.isReference = true ∧ v.isRef = true))
    (hk' : k ≤ R.cells) (hn' : n ≤ R.slots) (hQ : Q (some v) h) : Go G R X Q (T.setTop (mkF X.m pc Ls (v :: st))) := by
  have fx := w.1
  exact w.leave' (v := some v) (fun z => by rw [hret] at z; cases z) hk' hn' hQ fun fs hr L S => retOut S fx.1 (fx.2.2.2.1.trans hret) hn hi (hb fx.2.1 hd) hr
theorem Wk.retI (w : Wk G M R X vm T h k n) {pc : Nat} {Ls : Array Slot} {st : List Value} {z : Int32} (hd : decode M.code pc = .ok (.ireturn, 1)) (hret : M.ret = some .int) (hk' : k ≤ R.cells) (hn' : n ≤ R.slots) (hQ : Q (some (.int z)) h) : Go G R X Q (T.setTop (mkF X.m pc Ls (.int z :: st))) :=
  w.ret hd hret rfl (Or.inl ⟨rfl, Or.inl rfl, z, rfl⟩) hk' hn' hQ
theorem Wk.retZ (w : Wk G M R X vm T h k n) {pc : Nat} {Ls : Array Slot} {st : List Value} {z : Int32} {t : FieldType} (hd : decode M.code pc = .ok (.ireturn, 1)) (hret : M.ret = some t) (ht : t = .boolean ∨ t = .byte ∨ t = .char ∨ t = .short) (hn : narrow t (.int z) = .int z) (hk' : k ≤ R.cells) (hn' : n ≤ R.slots) (hQ : Q (some (.int z)) h) : Go G R X Q (T.setTop (mkF X.m pc Ls (.int z :: st))) :=
  w.ret hd hret hn (Or.inl ⟨rfl, Or.inr ht, z, rfl⟩) hk' hn' hQ
theorem Wk.retA (w : Wk G M R X vm T h k n) {pc : Nat} {Ls : Array Slot} {st : List Value} {v : Value} {t : FieldType} (hd : decode M.code pc = .ok (.areturn, 1)) (hret : M.ret = some t) (ht : t.isReference = true) (hv : v.isRef = true) (hk' : k ≤ R.cells) (hn' : n ≤ R.slots) (hQ : Q (some v) h) : Go G R X Q (T.setTop (mkF X.m pc Ls (v :: st))) :=
  w.ret hd hret (by cases t <;> first | (cases ht; done) | (rcases ref_cases hv with rfl | ⟨_, rfl⟩ <;> rfl)) (Or.inr (Or.inr (Or.inr (Or.inr ⟨rfl, ht, hv⟩)))) hk' hn' hQ
theorem Wk.retJ (w : Wk G M R X vm T h k n) {pc : Nat} {Ls : Array Slot} {st : List Value} {z : Int64} (hd : decode M.code pc = .ok (.lreturn, 1)) (hret : M.ret = some .long) (hk' : k ≤ R.cells) (hn' : n ≤ R.slots) (hQ : Q (some (.long z)) h) : Go G R X Q (T.setTop (mkF X.m pc Ls (.long z :: st))) :=
  w.ret hd hret rfl (Or.inr (Or.inl ⟨rfl, rfl, z, rfl⟩)) hk' hn' hQ
theorem Wk.ldcS (w : Wk G M R X vm T h k n) {pc q : Nat} {Ls : Array Slot} {st : List Value} {index sz : Nat} {text : String} {vs : List Value} {z : Int32} (hd : decode M.code pc = .ok (.ldc index, 2)) (hwd : G.wd = true) (w1 : (Jvm.Cond.stringLink M.own index text).before G.a0 G.Z = true) (wS : ∀ a ∈ Bundle.stringAtoms, a.before G.a0 G.Z = true) (hmem : (M.own, index) ∈ G.EL) (ht : (∀ c ∈ text.toList, c.toNat < 256) ∧ text.toList.map (fun c => Value.int (Jvm.Lit.byteI c.toNat.toUInt16)) = vs) (hz : ¬ z < 0) (hlz : z.toNatClampNeg = vs.length) (hn : 4 * text.toList.length ≤ sz) (hbig : sz ≤ 536870912) (hc : k + 2 ≤ R.cells) (hl : n + (sz + 4) ≤ R.slots) (hq : pc + 2 = q)
    (go : ∀ (vm' : Vm) (T' : State) (h' : Heap) (a b : Addr) (kb : ClassId), Wk G M R X vm' T' h' (k + 2) (n + (sz + 4)) → Ext h h' → CHr G.Z G.EL vm h vm' h' → Exa G.Z h' a "java/lang/String" → Fld G.Z h' a "java/lang/String" "coder" "B" (.int 0) → Fld G.Z h' a "java/lang/String" "value" "[B" (.ref b) → Arv G.Z h' b kb .byte z vs (.int 0) → Go G R X Q (T'.setTop (mkF X.m q Ls (.ref a :: st)))) : Go G R X Q (T.setTop (mkF X.m pc Ls st)) := by
  subst hq
  have hEL := w.hEL
  obtain ⟨fx, k0, L, S, eh, hS, hk, hZ, hown, hF, ho, hch, hnw⟩ := w
  obtain ⟨a, T', h', k1, b, kb, X', e', E, hS', hk', hZ', hown', A1, A2, A3, A4, -, -, hC, -, -, st'⟩ := ldcCH S fx.1 hZ hown w1 wS eh hS hk hEL hmem (hch hwd).1 ht hz hlz (g := mkF X.m pc Ls st) rfl (hb fx.2.1 hd) hn hbig hc hl
  exact (go T'.vm T' h' a b kb ⟨fx, k1, L, X', e', hS', hk', hZ', hown', hF, ho.ext E, fun z => (hch z).trans hC, fun z => absurd (z.symm.trans hwd) (by decide)⟩ E hC A1 A2 A3 A4).of st'
theorem Wk.ldcO (w : Wk G M R X vm T h k n) {pc q : Nat} {Ls : Array Slot} {st : List Value} {index sz : Nat} {text : String} (hd : decode M.code pc = .ok (.ldc index, 2)) (hwd : G.wd = true) (w1 : (Jvm.Cond.stringLink M.own index text).before G.a0 G.Z = true) (wS : ∀ a ∈ Bundle.stringAtoms, a.before G.a0 G.Z = true) (hn : 4 * text.toList.length ≤ sz) (hbig : sz ≤ 536870912) (hc : k + 2 ≤ R.cells) (hl : n + (sz + 4) ≤ R.slots) (hq : pc + 2 = q)
    (go : ∀ (vm' : Vm) (T' : State) (h' : Heap) (a : Addr), Wk G M R X vm' T' h' (k + 2) (n + (sz + 4)) → Ext h h' → CHr G.Z G.EL vm h vm' h' → Go G R X Q (T'.setTop (mkF X.m q Ls (.ref a :: st)))) : Go G R X Q (T.setTop (mkF X.m pc Ls st)) := by
  subst hq
  have hEL := w.hEL
  obtain ⟨fx, k0, L, S, eh, hS, hk, hZ, hown, hF, ho, hch, hnw⟩ := w
  obtain ⟨a, T', h', k1, X', e', E, hS', hk', hZ', hown', hC, -, st'⟩ := ldcOH S fx.1 hZ hown w1 wS eh hS hk hEL (hch hwd).1 (g := mkF X.m pc Ls st) rfl (hb fx.2.1 hd) hn hbig hc hl
  exact (go T'.vm T' h' a ⟨fx, k1, L, X', e', hS', hk', hZ', hown', hF, ho.ext E, fun z => (hch z).trans hC, fun z => absurd (z.symm.trans hwd) (by decide)⟩ E hC).of st'
end Lay
end Own
end Jvm.Pilot.@@N@@
namespace Jvm.Pilot.@@N@@
namespace Own
open Jvm Jvm.ClassFile Sem Op Lib Jvm.Free Jvm.Stand Jvm.LawKit Jvm.RoadKit
section Lay
variable {G : Gx} {M : Md} {R : Room} {X : Cx} {vm : Vm} {T : State} {h : Heap} {k n : Nat} {Q : Option Value → Heap → Prop}
theorem mvMN {Z s : State} {a0 args : Array Value} {own host : String} {y : MethodName} {index : Nat} (hZ : Z.Warmed39 s.vm) (w : (Jvm.Cond.methodLinkNest own index y host).before a0 Z = true) : (Jvm.Cond.methodLinkNest own index y host).before args s = true := (Cond.methodLinkNest_wide hZ w :)
theorem Wk.newRX (w : Wk G M R X vm T h k n) {pc q : Nat} {Ls : Array Slot} {st : List Value} {C : String} {index : Nat} {N : Int32} {ad : String} (cap : Nat) (hd : decode M.code pc = .ok (.anewarray index, 3)) (w1 : (Jvm.Cond.classLink M.own index C).before G.a0 G.Z = true) (w2 : (Jvm.Cond.arrayOver (.object C)).before G.a0 G.Z = true) (had : "[" ++ (FieldType.object C).toString = ad) (hN : ¬ N < 0) (hcap : N.toNatClampNeg ≤ cap) (hb8 : cap * 8 ≤ 536870912) (hc : k + 1 ≤ R.cells) (hl : n + cap ≤ R.slots) (hq : pc + 3 = q)
    (go : ∀ (T' : State) (h' : Heap) (b : Nat) (kc : ClassId), b = h.size → Wk G M R X vm T' h' (k + 1) (n + cap) → Ext h h' → Arv G.Z h' b kc (.object C) N [] .null → Ovr G.Z kc C → Exa G.Z h' b ad → Go G R X Q (T'.setTop (mkF X.m q Ls (.ref b :: st)))) : Go G R X Q (T.setTop (mkF X.m pc Ls (.int N :: st))) := by
  subst hq
  obtain ⟨fx, k0, L, S, eh, hS, hk, hZ, hown, hF, ho, hch, hnw⟩ := w
  obtain ⟨T', h', kc, X', e', E, A, Ea, O, st'⟩ := Jvm.RoadKit.newRE S fx.1 hZ hown w1 w2 eh (g := mkF X.m pc Ls (.int N :: st)) rfl (hb fx.2.1 hd) rfl hN (cap := cap) hcap hb8 hc hl had
  exact (go T' h' h.size kc rfl ⟨fx, k0, L, X', e', hS, Nat.le_trans hk E.1, hZ, hown, hF, ho.ext E, fun b => (hch b).trans (CHr.ext E (hch b).1), hnw⟩ E (Arv.new A hN) O Ea).of st'
theorem Wk.getSN (w : Wk G M R X vm T h k n) {pc q : Nat} {Ls : Array Slot} {st : List Value} {R0 O f d host : String} {index : Nat} {v : Value} (hd : decode M.code pc = .ok (.getstatic index, 3)) (w1 : (Jvm.Cond.fieldLinkNest M.own index R0 f d host).before G.a0 G.Z = true) (via : Via G.Z R0 O f d) (F : Sta G.Z G.Z.heap O f d v) (hq : pc + 3 = q)
    (go : ∀ T' : State, Wk G M R X vm T' h k n → Go G R X Q (T'.setTop (mkF X.m q Ls (v :: st)))) : Go G R X Q (T.setTop (mkF X.m pc Ls st)) := by
  subst hq
  have F' := w.sta F
  obtain ⟨fx, k0, L, S, eh, hS, hk, hZ, hown, r⟩ := w
  obtain ⟨T', X', e', st'⟩ := Jvm.RoadKit.getS2 (host := host) S fx.1 hZ hown (Or.inr w1) via eh F' (g := mkF X.m pc Ls st) rfl (hb fx.2.1 hd)
  exact (go T' ⟨fx, k0, L, X', e', hS, hk, hZ, hown, r⟩).of st'
theorem Wk.getFN (w : Wk G M R X vm T h k n) {pc q : Nat} {Ls : Array Slot} {st : List Value} {R0 O f d host : String} {index : Nat} {a : Addr} {v : Value} (hd : decode M.code pc = .ok (.getfield index, 3)) (w1 : (Jvm.Cond.fieldLinkNest M.own index R0 f d host).before G.a0 G.Z = true) (via : Via G.Z R0 O f d) (F : Fld G.Z h a O f d v) (hq : pc + 3 = q)
    (go : ∀ T' : State, Wk G M R X vm T' h k n → Go G R X Q (T'.setTop (mkF X.m q Ls (v :: st)))) : Go G R X Q (T.setTop (mkF X.m pc Ls (.ref a :: st))) := by
  subst hq
  obtain ⟨fx, k0, L, S, eh, hS, hk, hZ, hown, r⟩ := w
  obtain ⟨T', X', e', st'⟩ := Jvm.RoadKit.getF (host := host) S fx.1 hZ hown (Or.inr w1) via eh F (g := mkF X.m pc Ls (.ref a :: st)) rfl rfl (hb fx.2.1 hd)
  exact (go T' ⟨fx, k0, L, X', e', hS, hk, hZ, hown, r⟩).of st'
theorem Wk.callCN (w : Wk G M R X vm T h k n) {pc q : Nat} {Ls : Array Slot} {st : List Value} {y : MethodName} {host : String} {bytes : ByteArray} {maxL : Nat} {index W k1 n1 : Nat} {a : Addr} {argsL rest : List Value} {Q1 : Option Value → Heap → Prop} (hd : decode M.code pc = .ok (.invokespecial index, 3)) (hy1 : y.name = "<init>") (w1 : (Jvm.Cond.methodLinkNest M.own index y host).before G.a0 G.Z = true) (w2 : (Jvm.Cond.instanceMethod y).before G.a0 G.Z = true) (w4 : (Jvm.Cond.code y bytes maxL none).before G.a0 G.Z = true) (hy : y.cls ≠ "java/lang/invoke/MethodHandle" ∧ y.cls ≠ "java/lang/invoke/VarHandle")
    (hst : st = argsL.reverse ++ .ref a :: rest) (hlen : ∀ sig, parseMethodDescriptor y.desc = some sig → argsL.length = sig.parameters.length) (hsz : Ls.size = M.mx) (hW : (rest.map fun v => v.category).sum ≤ W) (pay : Pay G R X y 3 W (.ref a :: argsL).toArray h k1 n1 Q1 vm) (hc : k + k1 ≤ R.cells) (hl : n + n1 ≤ R.slots) (hq : pc + 3 = q)
    (go : ∀ (vm' : Vm) (T' : State) (h' : Heap) (v : Option Value), Wk G M R X vm' T' h' (k + k1) (n + n1) → Q1 v h' → Go G R X Q (T'.setTop (mkF X.m q Ls (v.toList ++ rest)))) : Go G R X Q (T.setTop (mkF X.m pc Ls st)) := by
  subst hst hq
  obtain ⟨fx, k0, L, S, eh, hS, hk, hZ, hown, hF, ho, hch, hnw⟩ := w
  rcases pay with pay | ⟨hwd, pay⟩
  · obtain ⟨v, vm₁, B, -, X', post, st'⟩ := S.specialBackNest fx.1 hy1 hown (mvMN (s := X.s.setVm vm) hZ w1) (mv (s := X.s.setVm vm) hZ w2) (mv (s := X.s.setVm vm) hZ w4) hy pay (g := mkF X.m pc Ls (argsL.reverse ++ .ref a :: rest)) rfl (hsz.trans fx.2.2.1.symm) (Steps.refl _) (a := a) hlen rfl (by show 2 * 0 + _ ≤ _; omega) (hb fx.2.1 hd) (fun _ _ => ⟨rfl, eh, hc, hl⟩)
    obtain ⟨w2, q1⟩ := finN fx hS hk hZ hown hF hch hnw X' post
    exact (go _ _ _ v w2 q1).of fun t z => st'.trans z
  · obtain ⟨v, vm₁, B, -, X', hS', hgr, post, st'⟩ := S.specialBackNestS fx.1 hy1 hown (mvMN (s := X.s.setVm vm) hZ w1) (mv (s := X.s.setVm vm) hZ w2) (mv (s := X.s.setVm vm) hZ w4) hy pay (g := mkF X.m pc Ls (argsL.reverse ++ .ref a :: rest)) rfl (hsz.trans fx.2.2.1.symm) (Steps.refl _) (a := a) hlen rfl (by show 2 * 0 + _ ≤ _; omega) (hb fx.2.1 hd) (fun _ _ => ⟨rfl, eh, hc, hl⟩)
    obtain ⟨w2, q1⟩ := finW hwd fx hS hk hZ hown hF hch X' hS' (by rw [← eh]; exact hgr) post
    exact (go _ _ _ v w2 q1).of fun t z => st'.trans z
theorem Wk.tswI (w : Wk G M R X vm T h k n) {pc q : Nat} {Ls : Array Slot} {st : List Value} {dflt low high : Int} {offs : Array Int} {len : Nat} {o : Int} {i : Int32} (hd : decode M.code pc = .ok (.tableswitch dflt low high offs, len)) (hin : ¬ (i.toInt < low ∨ i.toInt > high)) (hoff : offs[(i.toInt - low).toNat]? = some o) (ho : 0 ≤ (pc : Int) + o) (hq : ((pc : Int) + o).toNat = q) (go : Go G R X Q (T.setTop (mkF X.m q Ls st))) : Go G R X Q (T.setTop (mkF X.m pc Ls (.int i :: st))) :=
  go.of fun t r => XS.tswIn w.here w.hx rfl (pc0 := pc) rfl (hb w.by_ hd) rfl hin hoff ho hq r
theorem Wk.tswO (w : Wk G M R X vm T h k n) {pc q : Nat} {Ls : Array Slot} {st : List Value} {dflt low high : Int} {offs : Array Int} {len : Nat} {i : Int32} (hd : decode M.code pc = .ok (.tableswitch dflt low high offs, len)) (hout : i.toInt < low ∨ i.toInt > high) (ho : 0 ≤ (pc : Int) + dflt) (hq : ((pc : Int) + dflt).toNat = q) (go : Go G R X Q (T.setTop (mkF X.m q Ls st))) : Go G R X Q (T.setTop (mkF X.m pc Ls (.int i :: st))) :=
  go.of fun t r => XS.tswOut w.here w.hx rfl (pc0 := pc) rfl (hb w.by_ hd) rfl hout ho hq r
end Lay
end Own
end Jvm.Pilot.@@N@@

namespace Jvm.Pilot.@@N@@
namespace Own
open Jvm Jvm.ClassFile Sem Op Lib Jvm.Free Jvm.Stand Jvm.LawKit Jvm.RoadKit
def StrAt (Z : State) (h : Heap) (a : Addr) (cd : Int32) (cs : List Int32) : Prop := ∃ (t : Addr) (kb : ClassId) (N : Int32) (vs : List Value), Exa Z h a "java/lang/String" ∧ Fld Z h a "java/lang/String" "value" "[B" (.ref t) ∧ Fld Z h a "java/lang/String" "coder" "B" (.int cd) ∧ Arv Z h t kb .byte N vs (.int 0) ∧ StrChars.Road.CodA cs cd N vs ∧ (∀ c ∈ cs, ¬ c < 0 ∧ ¬ (65535 : Int32) < c) ∧ cs.length ≤ 4000
section
variable {Z : State} {h h' : Heap} {a : Addr} {cd : Int32} {cs : List Int32}
theorem StrAt.ext (F : StrAt Z h a cd cs) (E : Ext h h') : StrAt Z h' a cd cs := by
  obtain ⟨t, kb, N, vs, h1, h2, h3, h4, r⟩ := F; exact ⟨t, kb, N, vs, h1.ext E, h2.ext E, h3.ext E, h4.ext E, r⟩
theorem StrAt.exa (F : StrAt Z h a cd cs) : Exa Z h a "java/lang/String" := by obtain ⟨t, kb, N, vs, h1, -⟩ := F; exact h1
theorem StrAt.lt (F : StrAt Z h a cd cs) : a < h.size := F.exa.lt
theorem up_ (cs : List Int32) (h : ∀ c ∈ cs, ¬ c < 0 ∧ ¬ (255 : Int32) < c) : ∀ c ∈ cs, ¬ c < 0 ∧ ¬ (65535 : Int32) < c := fun c hc => ⟨(h c hc).1, fun q => (h c hc).2 (by rw [Int32.lt_iff_toInt_lt] at q ⊢; have e1 : (65535 : Int32).toInt = 65535 := rfl; have e2 : (255 : Int32).toInt = 255 := rfl; omega)⟩
theorem and255 (x : Int32) : ¬ nar .char ((x &&& (255 : Int32)).toUInt32.toUInt16.toUInt32.toInt32) < 0 ∧ ¬ (255 : Int32) < nar .char ((x &&& (255 : Int32)).toUInt32.toUInt16.toUInt32.toInt32) := by
  have t : ∀ k : Fin 256, ¬ nar .char ((Int32.ofNat k.val).toUInt32.toUInt16.toUInt32.toInt32) < 0 ∧ ¬ (255 : Int32) < nar .char ((Int32.ofNat k.val).toUInt32.toUInt16.toUInt32.toInt32) := by decide +kernel
  have h : (x &&& 255).toBitVec.toNat < 256 := by
    simp only [Int32.toBitVec_and, BitVec.toNat_and]
    exact Nat.lt_succ_of_le Nat.and_le_right
  have e : (x &&& 255) = Int32.ofNat (x &&& 255).toBitVec.toNat := by
    apply Int32.toBitVec_inj.mp
    show _ = BitVec.ofNat 32 _
    rw [BitVec.ofNat_toNat]; simp
  rw [e]
  exact t ⟨_, h⟩
def Lat (c : Int32) : Prop := ¬ c < 0 ∧ ¬ (255 : Int32) < c
theorem lat_mask (x : Int32) : Lat (nar .char ((x &&& (255 : Int32)).toUInt32.toUInt16.toUInt32.toInt32)) := and255 x
theorem lat0 : ∀ c ∈ ([] : List Int32), ¬ c < 0 ∧ ¬ (255 : Int32) < c := fun _ q => nomatch q
theorem latS {c : Int32} {cs : List Int32} (a : Lat c) (r : ∀ c ∈ cs, ¬ c < 0 ∧ ¬ (255 : Int32) < c) : ∀ d ∈ c :: cs, ¬ d < 0 ∧ ¬ (255 : Int32) < d := fun d hd => by
  rcases List.mem_cons.mp hd with rfl | hd
  · exact a
  · exact r d hd
end
section
variable {G : Gx} {M : Md} {R : Room} {X : Cx} {vm : Vm} {T : State} {h : Heap} {k n : Nat} {Q : Option Value → Heap → Prop}
abbrev strInit : MethodName := ⟨"java/lang/String", "<init>", "([C)V"⟩
theorem pay_newStr (w : Wk G M R X vm T h k n) (hws : ∀ d ∈ StrChars.Road.words, d.before G.a0 G.Z = true) (wi : (Jvm.Cond.instantiable "java/lang/String" 4).before G.a0 G.Z = true) (hcz : ∃ z : Int32, ¬ z = 0 ∧ Sta G.Z G.Z.heap "java/lang/String" "COMPACT_STRINGS" "Z" (.int z))
    {x b : Addr} {kC : ClassId} {cs : List Int32} {d : Value} {N : Int32} {nn W : Nat} (h0 : G.n0 ≤ x) (E : Exa G.Z h x "java/lang/String") (V : Fld G.Z h x "java/lang/String" "value" "[B" .null) (C : Fld G.Z h x "java/lang/String" "coder" "B" (.int 0)) (K : Arv G.Z h b kC .char N (cs.map Value.int) d) (hn : cs.length = nn) (hN : N = Int32.ofNat nn) (l0 : 0 < nn) (l2 : nn ≤ 4000) (hp : ∀ c ∈ cs, ¬ c < 0 ∧ ¬ (255 : Int32) < c) (hfr : 4 ≤ R.frames) (hlo : W + 65 ≤ R.locals) :
    Pay G R X strInit 3 W #[.ref x, .ref b] h 1 nn (nQ fun h' => Keep h h' [x] ∧ StrAt G.Z h' x 0 cs) vm := by
  obtain ⟨z, hz, S⟩ := hcz
  refine Or.inl (Back.mono (StrChars.Road.backV (s := X.s.setVm vm) w.wz hws wi (cs := cs) (n := nn) h0 w.n0le E V C K (w.sta S) hz hn hN l0 l2 hp rfl hfr hlo) (fun P a hp => hp) (fun P a v B _ hq => ?_))
  obtain ⟨L, ⟨q1, q2, q3, q4, q5, t, kb, u1, u2, u3, q6, q7⟩, r⟩ := hq
  exact ⟨L, ⟨⟨q1, q3, t, kb, N, _, q4, q6, q5, q7, hN ▸ StrChars.Road.codOf hn (fun c hc => (hp c hc).2), up_ cs hp, by omega⟩, q2, w.old.keep q3 (all1 h0), q3.1, fun b => CHr.keep q3 (all1 (blank_safe w.wz.alike E V)) (w.ch b).1⟩, r⟩
end

section
variable {G : Gx} {M : Md} {R : Room} {X : Cx} {vm : Vm} {T : State} {h : Heap} {k n : Nat} {Q : Option Value → Heap → Prop}
abbrev strLength : MethodName := ⟨"java/lang/String", "length", "()I"⟩
theorem pay_len (w : Wk G M R X vm T h k n) (hws : ∀ d ∈ StrChars.Road.wordsLen, d.before G.a0 G.Z = true) (wi : (Jvm.Cond.instantiable "java/lang/String" 4).before G.a0 G.Z = true) (hcz : ∃ z : Int32, ¬ z = 0 ∧ Sta G.Z G.Z.heap "java/lang/String" "COMPACT_STRINGS" "Z" (.int z))
    {x : Addr} {cs : List Int32} {cd : Int32} {W : Nat} (A : StrAt G.Z h x cd cs) (hfr : 2 ≤ R.frames) (hlo : W + 25 ≤ R.locals) :
    Pay G R X strLength 3 W #[.ref x] h 0 0 (vQ fun v h' => (v = .int (Int32.ofNat cs.length)) ∧ h = h') vm := by
  obtain ⟨z, hz, S⟩ := hcz
  obtain ⟨t, kb, N, vs, a1, a2, a3, a4, a5, a6, a7⟩ := A
  refine Pay.pureV w (Pay.pure w (Back.mono (StrChars.Road.lenW (s := X.s.setVm vm) w.wz hws wi a1 a2 a3 a4 a5 a6 (w.sta S) hz a7 hfr hlo) (fun P a hp => hp) (fun P a v B _ hq => ?_)))
  obtain ⟨L, ⟨q1, q2⟩, r⟩ := hq
  exact ⟨L, ⟨⟨_, q1, rfl⟩, q2⟩, r⟩
end

section
variable {G : Gx} {M : Md} {R : Room} {X : Cx} {vm : Vm} {T : State} {h : Heap} {k n : Nat} {Q : Option Value → Heap → Prop}
abbrev strCharAt : MethodName := ⟨"java/lang/String", "charAt", "(I)C"⟩
theorem pay_chr (w : Wk G M R X vm T h k n) (hws : ∀ d ∈ StrChars.Road.wordsChN, d.before G.a0 G.Z = true) (wi : (Jvm.Cond.instantiable "java/lang/String" 4).before G.a0 G.Z = true) (hcz : ∃ z : Int32, ¬ z = 0 ∧ Sta G.Z G.Z.heap "java/lang/String" "COMPACT_STRINGS" "Z" (.int z)) (hfm : ∃ fm : Value, fm.isRef = true ∧ Sta G.Z G.Z.heap "jdk/internal/util/Preconditions" "SIOOBE_FORMATTER" "Ljava/util/function/BiFunction;" fm)
    {x : Addr} {cs : List Int32} {W : Nat} (A : StrAt G.Z h x 0 cs) (i : Nat) {j : Int32} (hi : i < cs.length) (hj : j = Int32.ofNat i) (hfr : 4 ≤ R.frames) (hlo : W + 53 ≤ R.locals) :
    Pay G R X strCharAt 3 W #[.ref x, .int j] h 0 0 (vQ fun v h' => (v = .int (cs.getD i 0)) ∧ h = h') vm := by
  obtain ⟨z, hz, S⟩ := hcz
  obtain ⟨fm, hr, F⟩ := hfm
  obtain ⟨t, kb, N, vs, a1, a2, a3, a4, a5, a6, a7⟩ := A
  refine Pay.pureV w (Pay.pure w (Back.mono (StrChars.Road.chN (s := X.s.setVm vm) w.wz hws wi a1 a2 a3 a4 a5 a6 (w.sta S) hz (w.sta F) hr a7 hi hj hfr hlo) (fun P a hp => hp) (fun P a v B _ hq => ?_)))
  obtain ⟨L, ⟨q1, q2⟩, r⟩ := hq
  exact ⟨L, ⟨⟨_, q1, rfl⟩, q2⟩, r⟩
end

section
variable {G : Gx} {M : Md} {R : Room} {X : Cx} {vm : Vm} {T : State} {h : Heap} {k n : Nat} {Q : Option Value → Heap → Prop}
abbrev strEquals : MethodName := ⟨"java/lang/String", "equals", "(Ljava/lang/Object;)Z"⟩
theorem pay_eq (w : Wk G M R X vm T h k n) (hws : ∀ d ∈ StrChars.Road.wordsEq, d.before G.a0 G.Z = true) (wi : (Jvm.Cond.instantiable "java/lang/String" 4).before G.a0 G.Z = true) (hcz : ∃ z : Int32, ¬ z = 0 ∧ Sta G.Z G.Z.heap "java/lang/String" "COMPACT_STRINGS" "Z" (.int z))
    {x y : Addr} {cs ds : List Int32} {cd cd' : Int32} {W : Nat} (A : StrAt G.Z h x cd cs) (B : StrAt G.Z h y cd' ds) (hfr : 2 ≤ R.frames) (hlo : W + 28 ≤ R.locals) :
    Pay G R X strEquals 3 W #[.ref x, .ref y] h 0 0 (vQ fun v h' => (v = .int (if cs = ds then 1 else 0)) ∧ h = h') vm := by
  obtain ⟨z, hz, S⟩ := hcz
  obtain ⟨t, kb, N, vs, a1, a2, a3, a4, a5, a6, a7⟩ := A
  obtain ⟨t', kb', N', vs', b1, b2, b3, b4, b5, b6, b7⟩ := B
  refine Pay.pureV w (Pay.pure w (Back.mono (StrChars.Road.eqW (s := X.s.setVm vm) w.wz hws wi a1 a2 a3 a4 a5 a6 a7 b1 b2 b3 b4 b5 b6 b7 (w.sta S) hz hfr hlo) (fun P a hp => hp) (fun P a v B _ hq => ?_)))
  obtain ⟨L, ⟨q1, q2⟩, r⟩ := hq
  refine ⟨L, ⟨?_, q2⟩, r⟩
  rcases q1 with ⟨e1, e2⟩ | ⟨e1, e2⟩
  · exact ⟨_, e1, by rw [if_pos e2]⟩
  · exact ⟨_, e1, by rw [if_neg e2]⟩
end

section
variable {G : Gx} {M : Md} {R : Room} {X : Cx} {vm : Vm} {T : State} {h : Heap} {k n : Nat} {Q : Option Value → Heap → Prop}
abbrev strIsEmpty : MethodName := ⟨"java/lang/String", "isEmpty", "()Z"⟩
theorem pay_emp (w : Wk G M R X vm T h k n) (hws : ∀ d ∈ StrChars.Road.wordsEmp, d.before G.a0 G.Z = true) (wi : (Jvm.Cond.instantiable "java/lang/String" 4).before G.a0 G.Z = true)
    {x : Addr} {cs : List Int32} {cd : Int32} {W : Nat} (A : StrAt G.Z h x cd cs) (hfr : 1 ≤ R.frames) (hlo : W + 12 ≤ R.locals) :
    Pay G R X strIsEmpty 3 W #[.ref x] h 0 0 (vQ fun v h' => (v = .int (if cs.length = 0 then 1 else 0)) ∧ h = h') vm := by
  obtain ⟨t, kb, N, vs, a1, a2, a3, a4, a5, a6, a7⟩ := A
  refine Pay.pureV w (Pay.pure w (Back.mono (StrChars.Road.empW (s := X.s.setVm vm) w.wz hws wi a1 a2 a3 a4 a5 a6 a7 hfr hlo) (fun P a hp => hp) (fun P a v B _ hq => ?_)))
  obtain ⟨L, ⟨q1, q2⟩, r⟩ := hq
  exact ⟨L, ⟨⟨_, q1, rfl⟩, q2⟩, r⟩
end

section Lam
open Jvm.Lambda
variable {G : Gx} {M : Md} {R : Room} {X : Cx} {vm : Vm} {T : State} {h : Heap} {k n : Nat} {Q : Option Value → Heap → Prop}
theorem Con.introN {y : MethodName} {bytes : ByteArray} {maxL : Nat} {ret : Option FieldType} {ws : List Jvm.Cond} {rm : Room} {as : Array Value} {Ls : Array Slot} (hE : EW G.Z G.a0 G.EL) (ho : Old G.Z G.n0 h) (hpl : plainFor y = true) (hef : ∀ m, entryFrame m as maxL = mkF m 0 Ls [])
    (body : ∀ (X : Cx) (vm : Vm) (T : State), G.Z.methodNamed? y = some X.m → Wk G (y.cls, y.name, bytes, maxL, ret) rm X vm T h 0 0 → Go G rm X Q (T.setTop (mkF X.m 0 Ls []))) : Con G y bytes maxL ret ws rm as h Q := by
  refine MetFree.of_bodySF hpl hisR ?_
  intro p e s m args below meth c s₁ Bd hml0 hP hK
  obtain ⟨rfl, hZ, hh, hc⟩ := hP
  have X0 : Stand p G.l e rm s m args below meth c s₁ [] 0 0 := Stand.of_body Bd
  have e0 : s₁.heap = h := by rw [← hh, Bd.state]; rfl
  have w : Wk G (y.cls, y.name, bytes, maxL, ret) rm (p, e, s, m, args, below, meth, c) s.vm s₁ h 0 0 :=
    ⟨⟨Bd.exec, Bd.bytes, hml0, Bd.returns, Bd.notSynchronized, (name_of_methodNamed Bd.named Bd.method).1, hE⟩, 0, [], X0, e0, (State.WarmedH.refl s).since 0, Nat.zero_le _, hZ, findClass_of_methodNamed Bd.named, Fr.nil _, ho, fun b => by show CHr G.Z G.EL s.vm s.heap s.vm h; rw [hh]; exact CHr.refl (hc b), fun _ => rfl⟩
  have hN : G.Z.methodNamed? y = some m := by
    have q := State.methodNamed?_setVm (s := G.Z) hZ.alike y
    rw [← q]; exact Bd.named
  obtain ⟨t, o, h1, h2, h3, h4⟩ := body _ _ _ hN w
  exact ⟨t, o, castTop (hef m) h1, h2, h3, h4⟩
theorem push_ext (h : Heap) (c : Cell) : Ext h (h.push c) := ⟨by simp, fun a x q => by rw [Array.getElem?_push_lt (Array.getElem?_eq_some_iff.mp q).1]; exact (Array.getElem?_eq_getElem _).symm.trans q⟩
theorem Wk.lam (w : Wk G M R X vm T h k n) {y : MethodName} {pc q index fi : Nat} {σ : Lambda.Shape} {Ls : Array Slot} {st vals : List Value} (hN : G.Z.methodNamed? y = some X.m) (hd : decode M.code pc = .ok (.invokedynamic index, 5))
    (ws : (Jvm.Cond.lambdaSite y pc index σ).before G.a0 G.Z = true) (wO : (Jvm.Cond.instantiable "java/lang/Object" 0).before G.a0 G.Z = true) (hcap : σ.captured ≠ []) (hok : Jvm.LamKit.capOK σ y.cls fi 0 = true)
    (hlen : vals.length = σ.captured.length) (hfit : ∀ (i : Nat) t v, σ.captured[i]? = some t → vals[i]? = some v → narrow t v = v ∧ fits t v = true) (hls : Ls.size = M.mx)
    (hwords : ((vals.reverse ++ st).map fun v => v.category).sum + 3072 ≤ R.locals) (hc : k + 1 ≤ R.cells) (hl : n + vals.length ≤ R.slots) (hq : pc + 5 = q)
    (go : ∀ (T' : State) (h' : Heap) (b : Nat) (cK : ClassId), b = h.size → Wk G M R X vm T' h' (k + 1) (n + vals.length) → Ext h h' → Jvm.LamKit.Made G.Z y.cls σ cK → h'[b]? = some { cls := cK, slots := vals.toArray, vm := .none } → Go G R X Q (T'.setTop (mkF X.m q Ls (.ref b :: st)))) : Go G R X Q (T.setTop (mkF X.m pc Ls (vals.reverse ++ st))) := by
  subst hq
  have hml := w.hml
  obtain ⟨fx, k0, L, S, eh, hS, hk, hZ, hown, hF, ho, hch, hnw⟩ := w
  obtain ⟨cK, one, hat⟩ := Cond.lambdaSite_spec ws
  obtain ⟨mD, kD, cfD, i0, p0, lk, hmD, hkD, hcfD, hsh, -, hfind, hmade, hcan, hlk⟩ := State.lambdaAt?_spec hat
  cases hN.symm.trans hmD
  obtain ⟨kD', hkD', hnameD⟩ := className_of_methodNamed hN
  cases hkD.symm.trans hkD'
  rcases hlk with ⟨a, cell, -, -, hc0, -⟩ | ⟨rfl, -, -⟩
  · exact absurd hc0 hcap
  · obtain ⟨b, nt, desc, site, h1, h2, h3, h4⟩ := shapeOf?_site hsh
    obtain ⟨kc, f, hkc, hkind, hty, -⟩ := Jvm.LamKit.made_cap hok hkD hnameD hmade (Jvm.LamKit.noFields wO (State.WarmedH.refl G.Z))
    obtain ⟨kE, hkE, heE⟩ := hZ.alike.2.2 _ _ hkD
    obtain ⟨kF, hkF, heF⟩ := hZ.alike.2.2 _ _ hkc
    have tyF : kF.instanceTypes = σ.captured.toArray := by rw [heF]; exact hty
    have kindF : kF.kind = .ordinary := by rw [heF]; exact hkind
    have hz : ((kF.instanceTypes.toList.zip vals).map fun (t, v) => narrow t v) = vals := by rw [tyF]; exact Jvm.LamKit.zip_narrow _ _ hlen fun i t v a b => (hfit i t v a b).1
    have hw : X.e.platform.lambdaLinkWords = 3072 := by rw [S.admits.platform]
    have q := S.lambdaMakes fx.1 (g := mkF X.m pc Ls (vals.reverse ++ st)) rfl (by show Ls.size = X.c.maxLocals; rw [hls]; exact hml.symm) (hb fx.2.1 hd) (vals := vals) (rest := st) (k := kE) (kc := kF) (i0 := i0) (p0 := p0) (cK := cK) hkE (by rw [heE]; exact hfind) (by rw [heE]; exact hcfD) h1 h2 (parseLong_of_parse h3) (by rw [h4]; exact hlen) rfl hkF
      (by rw [hw]; simpa [mkF, JFrame.monitorRoom] using hwords) hc (by rw [hz]; exact hl)
      (fun i v hv => by
        rw [hz] at hv
        have hv' : vals[i]? = some v := by simpa using hv
        have hi : i < σ.captured.length := by rw [← hlen]; exact (List.getElem?_eq_some_iff.mp hv').1
        have := (hfit i _ v (List.getElem?_eq_getElem hi) hv').2
        have hkF' : vm.classes[cK]? = some kF := hkF
        simp [State.fitsSlot, State.slotType?, hkF', kindF, tyF, List.getElem?_eq_getElem hi, this])
    rw [hz] at q
    have E : Ext h (h.push { cls := cK, slots := vals.toArray, vm := .none }) := push_ext _ _
    refine (go _ (h.push { cls := cK, slots := vals.toArray, vm := .none }) h.size cK rfl ⟨fx, k0, L, by simpa using q.1, by rw [← eh]; rfl, hS, Nat.le_trans hk E.1, hZ, hown, hF, ho.ext E, fun b => (hch b).trans (CHr.ext E (hch b).1), hnw⟩ E ⟨_, kD, hkD, hnameD, hmade, hcan⟩ (by simp)).of ?_
    intro t ht
    refine q.2 t ?_
    rw [eh]; exact ht
end Lam

section Inst
variable {G : Gx} {M : Md} {R : Room} {X : Cx} {vm : Vm} {T : State} {h : Heap} {k n : Nat} {Q : Option Value → Heap → Prop}
/-- C, a child of the root O, is not assignable to the class K (an ordinary, instantiable one) -/
theorem assign_no {Z : State} {a0 : Array Value} {C O K : String} {nk : Nat} (w1 : (Jvm.Cond.superclass C O).before a0 Z = true) (w2 : (Jvm.Cond.noSuperclass O).before a0 Z = true) (wk : (Jvm.Cond.instantiable K nk).before a0 Z = true) (h1 : C ≠ K) (h2 : O ≠ K) :
    ∃ c t, Z.vm.findClass C = some c ∧ Z.vm.findClass K = some t ∧ Z.vm.assignable c t = false := by
  obtain ⟨c, hc⟩ := found_sup w1
  obtain ⟨p, kc, kp, a1, a2, a3, a4, a5, -, -⟩ := Cond.superclass_spec hc w1
  obtain ⟨o, ko, b1, b2, b3, -, -⟩ := Cond.noSuperclass_spec w2
  cases a1.symm.trans b1
  cases a3.symm.trans b2
  obtain ⟨t, kt, c1, c2, c3, c4, -⟩ := Cond.instantiable_spec wk
  have n1 := ids_ne hc c1 h1
  have n2 := ids_ne b1 c1 h2
  have ci : kt.isInterface = false := (Bool.or_eq_false_iff.mp c4).1
  refine ⟨c, t, hc, c1, ?_⟩
  have s1 : ∀ fuel, Z.vm.isSubclassAux fuel p t = false := fun fuel => by
    cases fuel with
    | zero => rfl
    | succ f => simp [Vm.isSubclassAux, n2, b2, b3]
  have s2 : ∀ fuel, Z.vm.isSubclassAux fuel c t = false := fun fuel => by
    cases fuel with
    | zero => rfl
    | succ f => simp [Vm.isSubclassAux, n1, a2, a4, s1]
  show Z.vm.assignableAux (255 + 1) c t = false
  simp [Vm.assignableAux, n1, a2, c2, a5, c3, ci, Vm.isSubclass, s2]
theorem Wk.instNo (w : Wk G M R X vm T h k n) {pc q : Nat} {Ls : Array Slot} {st : List Value} {K C : String} {index : Nat} {a : Addr} (hd : decode M.code pc = .ok (.instanceof index, 3)) (w1 : (Jvm.Cond.classLink M.own index K).before G.a0 G.Z = true) (E : Exa G.Z h a C) (F : ∃ c t, G.Z.vm.findClass C = some c ∧ G.Z.vm.findClass K = some t ∧ G.Z.vm.assignable c t = false) (hq : pc + 3 = q)
    (go : ∀ T' : State, Wk G M R X vm T' h k n → Go G R X Q (T'.setTop (mkF X.m q Ls (.int 0 :: st)))) : Go G R X Q (T.setTop (mkF X.m pc Ls (.ref a :: st))) := by
  subst hq
  obtain ⟨fx, k0, L, S, eh, hS, hk, hZ, hown, r⟩ := w
  obtain ⟨T', X', e', st'⟩ := Jvm.RoadKit.instNo S fx.1 hZ hown w1 eh E F (g := mkF X.m pc Ls (.ref a :: st)) rfl rfl (hb fx.2.1 hd)
  exact (go T' ⟨fx, k0, L, X', e', hS, hk, hZ, hown, r⟩).of st'
theorem Wk.instNull (w : Wk G M R X vm T h k n) {pc q : Nat} {Ls : Array Slot} {st : List Value} {index : Nat} (hd : decode M.code pc = .ok (.instanceof index, 3)) (hq : pc + 3 = q)
    (go : Go G R X Q (T.setTop (mkF X.m q Ls (.int 0 :: st)))) : Go G R X Q (T.setTop (mkF X.m pc Ls (.null :: st))) := by
  subst hq
  have hx := w.hx
  have hd' := hb w.by_ hd
  have hh := w.here
  refine go.of fun t ht => ?_
  unfold mkF at ht ⊢
  jvm_step hh [hx, hd', instanceof.wp_null (e := X.e) (s := T) (f := { method := X.m, pc := pc, locals := Ls, stack := .null :: st, locked := none }) (rest := st) hh.top rfl]
  exact ht
end Inst

end Own
end Jvm.Pilot.@@N@@
namespace Jvm.Pilot.@@N@@
open Jvm Jvm.ClassFile Sem Op Lib Jvm.Free Jvm.Stand Jvm.LawKit Jvm.RoadKit Bundle Jvm.Pilot.@@N@@.Jvm.D Own
def Hyp (G : Gx) : Prop := (∀ d ∈ tables_1, d.before G.a0 G.Z = true) ∧ EW G.Z G.a0 G.EL ∧ (∃ z : Int32, ¬ z = 0 ∧ Sta G.Z G.Z.heap "java/lang/String" "COMPACT_STRINGS" "Z" (.int z)) ∧ (G.wd = true ∧ G.EL = ([] : List (String × Nat))) ∧ (∃ fm : Value, fm.isRef = true ∧ Sta G.Z G.Z.heap "jdk/internal/util/Preconditions" "SIOOBE_FORMATTER" "Ljava/util/function/BiFunction;" fm) ∧ ∃ (oe : Nat), Sta G.Z G.Z.heap "java/util/OptionalInt" "EMPTY" "Ljava/util/OptionalInt;" (.ref oe) ∧ Exa G.Z G.Z.heap oe "java/util/OptionalInt" ∧ Fld G.Z G.Z.heap oe "java/util/OptionalInt" "isPresent" "Z" (.int 0)
theorem Hyp.tw {G : Gx} (H : Hyp G) {d : Jvm.Cond} (i : Nat) (q : tables_1[i]? = some d) : d.before G.a0 G.Z = true := H.1 d (List.mem_of_getElem? q)
theorem Hyp.el {G : Gx} (H : Hyp G) : EW G.Z G.a0 G.EL := H.2.1
theorem Hyp.cz {G : Gx} (H : Hyp G) : ∃ z : Int32, ¬ z = 0 ∧ Sta G.Z G.Z.heap "java/lang/String" "COMPACT_STRINGS" "Z" (.int z) := H.2.2.1
theorem Hyp.ws {G : Gx} (H : Hyp G) : ∀ d ∈ StrChars.Road.words, d.before G.a0 G.Z = true := fun d hd => H.1 d ((by decide +kernel : ∀ d ∈ StrChars.Road.words, d ∈ tables_1) d hd)
theorem Hyp.wln {G : Gx} (H : Hyp G) : ∀ d ∈ StrChars.Road.wordsLen, d.before G.a0 G.Z = true := fun d hd => H.1 d ((by decide +kernel : ∀ d ∈ StrChars.Road.wordsLen, d ∈ tables_1) d hd)
theorem Hyp.wch {G : Gx} (H : Hyp G) : ∀ d ∈ StrChars.Road.wordsChN, d.before G.a0 G.Z = true := fun d hd => H.1 d ((by decide +kernel : ∀ d ∈ StrChars.Road.wordsChN, d ∈ tables_1) d hd)
theorem Hyp.weq {G : Gx} (H : Hyp G) : ∀ d ∈ StrChars.Road.wordsEq, d.before G.a0 G.Z = true := fun d hd => H.1 d ((by decide +kernel : ∀ d ∈ StrChars.Road.wordsEq, d ∈ tables_1) d hd)
theorem Hyp.wse {G : Gx} (H : Hyp G) : ∀ d ∈ StrChars.Road.wordsEmp, d.before G.a0 G.Z = true := fun d hd => H.1 d ((by decide +kernel : ∀ d ∈ StrChars.Road.wordsEmp, d ∈ tables_1) d hd)
theorem Hyp.sa {G : Gx} (H : Hyp G) : ∀ d ∈ Bundle.stringAtoms, d.before G.a0 G.Z = true := fun d hd => H.1 d ((by decide +kernel : ∀ d ∈ Bundle.stringAtoms, d ∈ tables_1) d hd)
theorem Hyp.wd {G : Gx} (H : Hyp G) : G.wd = true := H.2.2.2.1.1
theorem Hyp.mem {G : Gx} (H : Hyp G) {p : String × Nat} (q : p ∈ ([] : List (String × Nat))) : p ∈ G.EL := H.2.2.2.1.2 ▸ q
theorem Hyp.mo {G : Gx} (H : Hyp G) : (∃ fm : Value, fm.isRef = true ∧ Sta G.Z G.Z.heap "jdk/internal/util/Preconditions" "SIOOBE_FORMATTER" "Ljava/util/function/BiFunction;" fm) ∧ ∃ (oe : Nat), Sta G.Z G.Z.heap "java/util/OptionalInt" "EMPTY" "Ljava/util/OptionalInt;" (.ref oe) ∧ Exa G.Z G.Z.heap oe "java/util/OptionalInt" ∧ Fld G.Z G.Z.heap oe "java/util/OptionalInt" "isPresent" "Z" (.int 0) := H.2.2.2.2
theorem StrAt.lit {Z : State} {h : Heap} {a b : Addr} {kb : ClassId} {z : Int32} {vs : List Value} (cs : List Int32) (A1 : Exa Z h a "java/lang/String") (A2 : Fld Z h a "java/lang/String" "coder" "B" (.int 0)) (A3 : Fld Z h a "java/lang/String" "value" "[B" (.ref b)) (A4 : Arv Z h b kb .byte z vs (.int 0)) (e1 : z = Int32.ofNat cs.length) (e2 : vs = cs.map fun c => Value.int (StrChars.lo8 c)) (e3 : ∀ c ∈ cs, ¬ c < 0 ∧ ¬ (255 : Int32) < c) (e4 : cs.length ≤ 4000) : StrAt Z h a 0 cs :=
  ⟨b, kb, z, vs, A1, A3, A2, A4, Or.inl ⟨rfl, e1, e2, fun c hc => (e3 c hc).2⟩, up_ cs e3, e4⟩
def c0_ (c : Int32) : Int32 := nar .char ((c &&& (255 : Int32)).toUInt32.toUInt16.toUInt32.toInt32)
def c1_ (c : Int32) : Int32 := nar .char ((((c.toUInt32 >>> ((8 : Int32) &&& 31).toUInt32).toInt32) &&& (255 : Int32)).toUInt32.toUInt16.toUInt32.toInt32)
def strOf (ln c : Int32) : List Int32 := if ln = 1 then [c0_ c] else [c0_ c, c1_ c]
theorem strOf_1 (c : Int32) {ln : Int32} (q : ln = 1) : strOf ln c = [c0_ c] := if_pos q
theorem strOf_2 (c : Int32) {ln : Int32} (q : ¬ ln = 1) : strOf ln c = [c0_ c, c1_ c] := if_neg q
theorem lat_c0 (c : Int32) : Lat (c0_ c) := lat_mask c
theorem lat_c1 (c : Int32) : Lat (c1_ c) := lat_mask _
def OkS (cs : List Int32) : Prop := (∃ c, cs = [c] ∧ Lat c) ∨ (∃ c d, cs = [c, d] ∧ Lat c ∧ Lat d)
theorem okS (ln c : Int32) : OkS (strOf ln c) := by
  by_cases q : ln = 1
  · rw [strOf_1 c q]; exact Or.inl ⟨_, rfl, lat_c0 c⟩
  · rw [strOf_2 c q]; exact Or.inr ⟨_, _, rfl, lat_c0 c, lat_c1 c⟩
theorem nar255 (x : Int32) : nar .char ((x &&& (255 : Int32)).toUInt32.toUInt16.toUInt32.toInt32) = x &&& 255 := by
  have t : ∀ k : Fin 256, nar .char ((Int32.ofNat k.val).toUInt32.toUInt16.toUInt32.toInt32) = Int32.ofNat k.val := by decide +kernel
  have h : (x &&& 255).toBitVec.toNat < 256 := by
    simp only [Int32.toBitVec_and, BitVec.toNat_and]
    exact Nat.lt_succ_of_le Nat.and_le_right
  have e : (x &&& 255) = Int32.ofNat (x &&& 255).toBitVec.toNat := by
    apply Int32.toBitVec_inj.mp
    show _ = BitVec.ofNat 32 _
    rw [BitVec.ofNat_toNat]; simp
  rw [e]
  exact t ⟨_, h⟩
theorem lat_sur {c : Int32} (h : Lat c) : c < (55296 : Int32) := by
  obtain ⟨h1, h2⟩ := h
  rw [Int32.lt_iff_toInt_lt] at h2 ⊢
  have e1 : (55296 : Int32).toInt = 55296 := rfl
  have e2 : (255 : Int32).toInt = 255 := rfl
  omega
theorem ok_mx1 {cs : List Int32} (h : OkS cs) : ¬ (0 : Int32) < lcmpW ((Int32.ofNat cs.length).toInt64 * (3 : Int64)) (2048 : Int32).toInt64 := by
  rcases h with ⟨c, rfl, -⟩ | ⟨c, d, rfl, -, -⟩
  · show ¬ (0 : Int32) < lcmpW ((1 : Int32).toInt64 * (3 : Int64)) (2048 : Int32).toInt64; decide
  · show ¬ (0 : Int32) < lcmpW ((2 : Int32).toInt64 * (3 : Int64)) (2048 : Int32).toInt64; decide
theorem ok_mx2 {cs : List Int32} (h : OkS cs) : ¬ (0 : Int32) < lcmpW ((Int32.ofNat cs.length).toInt64 * (3 : Int64)) (1024 : Int32).toInt64 := by
  rcases h with ⟨c, rfl, -⟩ | ⟨c, d, rfl, -, -⟩
  · show ¬ (0 : Int32) < lcmpW ((1 : Int32).toInt64 * (3 : Int64)) (1024 : Int32).toInt64; decide
  · show ¬ (0 : Int32) < lcmpW ((2 : Int32).toInt64 * (3 : Int64)) (1024 : Int32).toInt64; decide
theorem pay_emp0 {G : Gx} {M : Md} {R : Room} {X : Cx} {vm : Vm} {T : State} {h : Heap} {k n : Nat} (w : Wk G M R X vm T h k n) (hws : ∀ d ∈ StrChars.Road.wordsEmp, d.before G.a0 G.Z = true) (wi : (Jvm.Cond.instantiable "java/lang/String" 4).before G.a0 G.Z = true)
    {x : Addr} {cs : List Int32} {cd : Int32} {W : Nat} (A : StrAt G.Z h x cd cs) (hk : OkS cs) (hfr : 1 ≤ R.frames) (hlo : W + 12 ≤ R.locals) :
    Pay G R X strIsEmpty 3 W #[.ref x] h 0 0 (vQ fun v h' => (v = .int 0) ∧ h = h') vm := by
  have e : (if cs.length = 0 then (1 : Int32) else 0) = 0 := by
    rcases hk with ⟨c, rfl, -⟩ | ⟨c, d, rfl, -, -⟩ <;> rfl
  rw [← e]; exact pay_emp w hws wi A hfr hlo
theorem Own.StrAt.keepX {Z : State} {a0 : Array Value} {h h' : Heap} {p a : Addr} {cd : Int32} {cs : List Int32} {Cn : String} {nn : Nat} (F : StrAt Z h p cd cs) (E : Exa Z h a Cn) (hn : Cn ≠ "java/lang/String") (wi : (Jvm.Cond.instantiable Cn nn).before a0 Z = true) (K : Keep h h' [a]) : StrAt Z h' p cd cs := by
  obtain ⟨t, kb, N, vs, h1, h2, h3, h4, r⟩ := F
  have n1 : a ≠ p := E.ne h1 hn
  have n2 : a ≠ t := E.neArv h4 wi
  have m1 : p ∉ [a] := fun q => n1 (List.mem_singleton.mp q).symm
  have m2 : t ∉ [a] := fun q => n2 (List.mem_singleton.mp q).symm
  exact ⟨t, kb, N, vs, h1.keep K, h2.keep K m1, h3.keep K m1, h4.keep K m2, r⟩
theorem ite_no {p : Prop} [Decidable p] (c : (if p then (1 : Int32) else 0) = 0) : ¬ p := fun q => by rw [if_pos q] at c; exact absurd c (by decide)
theorem ite_yes {p : Prop} [Decidable p] (c : ¬ (if p then (1 : Int32) else 0) = 0) : p := Classical.byContradiction fun q => c (if_neg q)
theorem same_1 {la ca lb cb : Int32} (k0 : la = lb) (k1 : ca &&& (255 : Int32) = cb &&& (255 : Int32)) (k2 : la = 1) : strOf la ca = strOf lb cb := by
  subst k0; rw [strOf_1 _ k2, strOf_1 _ k2]; unfold c0_; rw [k1]
theorem same_2 {la ca lb cb : Int32} (k0 : la = lb) (k1 : ca &&& (255 : Int32) = cb &&& (255 : Int32)) (k2 : ¬ la = 1) (k3 : ((ca.toUInt32 >>> ((8 : Int32) &&& 31).toUInt32).toInt32) &&& (255 : Int32) = ((cb.toUInt32 >>> ((8 : Int32) &&& 31).toUInt32).toInt32) &&& (255 : Int32)) : strOf la ca = strOf lb cb := by
  subst k0; rw [strOf_2 _ k2, strOf_2 _ k2]; unfold c0_ c1_; rw [k1, k3]
theorem same_3 {la ca lb cb : Int32} (k0 : la = lb) (k2 : ¬ la = 1) (k3 : ¬ ((ca.toUInt32 >>> ((8 : Int32) &&& 31).toUInt32).toInt32) &&& (255 : Int32) = ((cb.toUInt32 >>> ((8 : Int32) &&& 31).toUInt32).toInt32) &&& (255 : Int32)) : ¬ strOf la ca = strOf lb cb := by
  subst k0; rw [strOf_2 _ k2, strOf_2 _ k2]; unfold c0_ c1_; rw [nar255, nar255, nar255, nar255]
  intro q; injection q with _ q; injection q with q _; exact k3 q
theorem same_4 {la ca lb cb : Int32} (k1 : ¬ ca &&& (255 : Int32) = cb &&& (255 : Int32)) : ¬ strOf la ca = strOf lb cb := by
  have e : ∀ l c, (strOf l c).head? = some (c &&& 255) := fun l c => by
    by_cases q : l = 1
    · rw [strOf_1 c q]; unfold c0_; rw [nar255]; rfl
    · rw [strOf_2 c q]; unfold c0_; rw [nar255]; rfl
  intro q
  have := congrArg List.head? q
  rw [e, e] at this
  exact k1 (Option.some.inj this)
theorem same_5 {la ca lb cb : Int32} (ha : la = 1 ∨ la = 2) (hb : lb = 1 ∨ lb = 2) (k0 : ¬ la = lb) : ¬ strOf la ca = strOf lb cb := by
  intro q
  have := congrArg List.length q
  rcases ha with rfl | rfl <;> rcases hb with rfl | rfl
  · exact k0 rfl
  · rw [strOf_1 _ rfl, strOf_2 _ (by decide)] at this; exact Nat.noConfusion (Nat.succ.inj this)
  · rw [strOf_1 _ rfl, strOf_2 _ (by decide)] at this; exact Nat.noConfusion (Nat.succ.inj this)
  · exact k0 rfl
theorem one_two (x : Int32) : (1 : Int32) + (x &&& 1) = 1 ∨ (1 : Int32) + (x &&& 1) = 2 := by
  have h : (x &&& 1).toBitVec.toNat < 2 := by
    simp only [Int32.toBitVec_and, BitVec.toNat_and]
    exact Nat.lt_succ_of_le Nat.and_le_right
  have e : (x &&& 1) = Int32.ofNat (x &&& 1).toBitVec.toNat := by
    apply Int32.toBitVec_inj.mp
    show _ = BitVec.ofNat 32 _
    rw [BitVec.ofNat_toNat]; simp
  rw [e]
  generalize (x &&& 1).toBitVec.toNat = z at h
  match z, h with
  | 0, _ => exact Or.inl rfl
  | 1, _ => exact Or.inr rfl
theorem fit1 {t : FieldType} {v : Value} (h1 : narrow t v = v) (h2 : fits t v = true) : ∀ (i : Nat) t' v', [t][i]? = some t' → [v][i]? = some v' → narrow t' v' = v' ∧ fits t' v' = true := by
  intro i t' v' a b
  match i with
  | 0 => cases a; cases b; exact ⟨h1, h2⟩
  | n + 1 => simp at a

theorem d0_0 : decode method_2_code 0 = .ok (.iload_n 0, 1) := by decide +kernel
theorem d0_1 : decode method_2_code 1 = .ok (.iconst 1, 1) := by decide +kernel
theorem d0_2 : decode method_2_code 2 = .ok (.if_icmp .ne 23, 3) := by decide +kernel
theorem d0_5 : decode method_2_code 5 = .ok (.new 7, 3) := by decide +kernel
theorem d0_8 : decode method_2_code 8 = .ok (.dup, 1) := by decide +kernel
theorem d0_9 : decode method_2_code 9 = .ok (.iconst 1, 1) := by decide +kernel
theorem d0_10 : decode method_2_code 10 = .ok (.newarray .char, 2) := by decide +kernel
theorem d0_12 : decode method_2_code 12 = .ok (.dup, 1) := by decide +kernel
theorem d0_13 : decode method_2_code 13 = .ok (.iconst 0, 1) := by decide +kernel
theorem d0_14 : decode method_2_code 14 = .ok (.iload_n 1, 1) := by decide +kernel
theorem d0_15 : decode method_2_code 15 = .ok (.sipush 255, 3) := by decide +kernel
theorem d0_18 : decode method_2_code 18 = .ok (.iand, 1) := by decide +kernel
theorem d0_19 : decode method_2_code 19 = .ok (.i2c, 1) := by decide +kernel
theorem d0_20 : decode method_2_code 20 = .ok (.castore, 1) := by decide +kernel
theorem d0_21 : decode method_2_code 21 = .ok (.invokespecial 9, 3) := by decide +kernel
theorem pd1 : parseMethodDescriptor "([C)V" = some ⟨[(.array .char)], none⟩ := by decide +kernel
theorem d0_24 : decode method_2_code 24 = .ok (.areturn, 1) := by decide +kernel
theorem d0_25 : decode method_2_code 25 = .ok (.new 7, 3) := by decide +kernel
theorem d0_28 : decode method_2_code 28 = .ok (.dup, 1) := by decide +kernel
theorem d0_29 : decode method_2_code 29 = .ok (.iconst 2, 1) := by decide +kernel
theorem d0_30 : decode method_2_code 30 = .ok (.newarray .char, 2) := by decide +kernel
theorem d0_32 : decode method_2_code 32 = .ok (.dup, 1) := by decide +kernel
theorem d0_33 : decode method_2_code 33 = .ok (.iconst 0, 1) := by decide +kernel
theorem d0_34 : decode method_2_code 34 = .ok (.iload_n 1, 1) := by decide +kernel
theorem d0_35 : decode method_2_code 35 = .ok (.sipush 255, 3) := by decide +kernel
theorem d0_38 : decode method_2_code 38 = .ok (.iand, 1) := by decide +kernel
theorem d0_39 : decode method_2_code 39 = .ok (.i2c, 1) := by decide +kernel
theorem d0_40 : decode method_2_code 40 = .ok (.castore, 1) := by decide +kernel
theorem d0_41 : decode method_2_code 41 = .ok (.dup, 1) := by decide +kernel
theorem d0_42 : decode method_2_code 42 = .ok (.iconst 1, 1) := by decide +kernel
theorem d0_43 : decode method_2_code 43 = .ok (.iload_n 1, 1) := by decide +kernel
theorem d0_44 : decode method_2_code 44 = .ok (.bipush 8, 2) := by decide +kernel
theorem d0_46 : decode method_2_code 46 = .ok (.iushr, 1) := by decide +kernel
theorem d0_47 : decode method_2_code 47 = .ok (.sipush 255, 3) := by decide +kernel
theorem d0_50 : decode method_2_code 50 = .ok (.iand, 1) := by decide +kernel
theorem d0_51 : decode method_2_code 51 = .ok (.i2c, 1) := by decide +kernel
theorem d0_52 : decode method_2_code 52 = .ok (.castore, 1) := by decide +kernel
theorem d0_53 : decode method_2_code 53 = .ok (.invokespecial 9, 3) := by decide +kernel
theorem d0_56 : decode method_2_code 56 = .ok (.areturn, 1) := by decide +kernel
theorem pn2 : plainName "com/example/versioned_table/versionedtable/RecordKeyEqualsPinLaw" = true := by first | (simp [plainName, overriddenIn]; done) | decide +kernel
set_option maxRecDepth 65536 in
set_option maxHeartbeats 40000000 in
theorem con_str (G : Gx) (H : Hyp G) (ln c : Int32) (h : Heap) (ho : Old G.Z G.n0 h)  :
    Con G (⟨"com/example/versioned_table/versionedtable/RecordKeyEqualsPinLaw", "str", "(II)Ljava/lang/String;"⟩ : MethodName) method_2_code 2 (some (.object "java/lang/String")) [] ({ frames := 4, cells := 3, slots := 8, locals := 66 } : Room) #[(.int ln), (.int c)] h (vQ fun v h' => ∃ r : Nat, v = .ref r ∧ Ext h h' ∧ StrAt G.Z h' r 0 (strOf ln c)) := by
  refine Con.intro H.el ho (plainFor_of_name pn2) (Ls := #[.val (.int ln), .val (.int c)]) (fun m => by first | (simp [entryFrame, mkF, argsToLocals, Value.category]; done) | rfl) ?_
  intro X vm T w
  refine w.iloadN (q := 1) d0_0 rfl rfl ?_
  refine w.iconst (q := 2) (1 : Int32) d0_1 rfl rfl ?_
  by_cases c0 : ln = (1 : Int32)
  ·
    refine w.icN (q := 5) d0_2 ((teq c0).2) rfl ?_
    refine w.newO (q := 8) d0_5 (H.tw 7 rfl) (H.tw 8 rfl) (H.tw 9 rfl) (by decide) (by decide) rfl fun T1 h1 b1 e1 w1 E1 A1 D1 U1 => ?_
    have lt1 : b1 < h1.size := A1.lt
    have sz1 : h.size ≤ h1.size := E1.1
    have F1_value : Fld G.Z h1 b1 "java/lang/String" "value" "[B" .null := D1 (Or.inr (H.tw 36 rfl)) (ty := (.array .byte)) (by decide)
    have F1_coder : Fld G.Z h1 b1 "java/lang/String" "coder" "B" (.int (0 : Int32)) := D1 (Or.inr (H.tw 34 rfl)) (ty := .byte) (by decide)
    have g1 : G.n0 ≤ b1 := by have := ho.2.1; have := ho.1; omega
    refine w1.dup (q := 9) d0_8 rfl rfl ?_
    refine w1.iconst (q := 10) (1 : Int32) d0_9 rfl rfl ?_
    refine w1.newP (q := 12) 1 d0_10 (H.tw 10 rfl) (by decide) (by decide) (by decide) (by decide) (by decide) rfl fun T2 h2 b2 kc2 e2 w2 E2 A2 => ?_
    replace A2 : Arv G.Z h2 b2 kc2 .char (1 : Int32) [(.int (0 : Int32))] (.int (0 : Int32)) := A2.pad (pad_rep [] (.int (0 : Int32)) 1)
    have lt2 : b2 < h2.size := A2.lt
    have sz2 : h1.size ≤ h2.size := E2.1
    have g2 : G.n0 ≤ b2 := by have := ho.2.1; have := ho.1; omega
    replace A1 := A1.ext E2
    replace F1_value := F1_value.ext E2
    replace F1_coder := F1_coder.ext E2
    refine w2.dup (q := 13) d0_12 rfl rfl ?_
    refine w2.iconst (q := 14) (0 : Int32) d0_13 rfl rfl ?_
    refine w2.iloadN (q := 15) d0_14 rfl rfl ?_
    refine w2.sipush (q := 18) (255 : Int32) d0_15 rfl rfl ?_
    refine w2.iand (q := 19) d0_18 rfl ?_
    refine w2.i2c (q := 20) d0_19 rfl ?_
    refine w2.castore (q := 21) 0 d0_20 A2 g2 ⟨by decide, by decide⟩ rfl (Nat.le_of_ble_eq_true rfl) rfl fun T3 h3 w3 K3 A3 => ?_
    have sz3 : h2.size ≤ h3.size := K3.1
    replace A1 := A1.keep K3
    replace F1_value := F1_value.keep K3 (nin1 (by omega))
    replace F1_coder := F1_coder.keep K3 (nin1 (by omega))
    refine w3.callC (q := 24) d0_21 rfl (H.tw 11 rfl) (H.tw 12 rfl) (H.tw 13 rfl) (by decide) (a := b1) (argsL := [(.ref b2)]) (rest := [(.ref b1)]) rfl (lenOf pd1 rfl) rfl (W := 1) (Nat.le_of_eq rfl) (pay_newStr w3 H.ws (H.tw 8 rfl) H.cz (nn := 1) (cs := [c0_ c]) g1 A1 F1_value F1_coder A3 rfl rfl (by decide) (by decide) (latS (lat_c0 _) lat0) (by decide) (by decide)) (by decide) (by decide) rfl fun vm4 T4 h4 v4 w4 q4 => ?_
    obtain ⟨rfl, K4, S4⟩ := q4
    show Go _ _ _ _ (T4.setTop (mkF X.m 24 #[.val (.int ln), .val (.int c)] [(.ref b1)]))
    have sz4 : h3.size ≤ h4.size := K4.1
    have X4 : Ext h h4 := xkp (xkp (xtr E1 E2) K3 (all1 (by omega))) K4 (all1 (by omega))
    rw [← strOf_1 c c0] at S4
    exact w4.retA d0_24 (t := (.object "java/lang/String")) rfl rfl rfl (by decide) (by decide) ⟨_, rfl, b1, rfl, X4, S4⟩
  ·
    refine w.icY (q := 25) d0_2 ((feq c0).2) (by decide) (by decide) ?_
    refine w.newO (q := 28) d0_25 (H.tw 7 rfl) (H.tw 8 rfl) (H.tw 9 rfl) (by decide) (by decide) rfl fun T5 h5 b5 e5 w5 E5 A5 D5 U5 => ?_
    have lt5 : b5 < h5.size := A5.lt
    have sz5 : h.size ≤ h5.size := E5.1
    have F5_value : Fld G.Z h5 b5 "java/lang/String" "value" "[B" .null := D5 (Or.inr (H.tw 36 rfl)) (ty := (.array .byte)) (by decide)
    have F5_coder : Fld G.Z h5 b5 "java/lang/String" "coder" "B" (.int (0 : Int32)) := D5 (Or.inr (H.tw 34 rfl)) (ty := .byte) (by decide)
    have g5 : G.n0 ≤ b5 := by have := ho.2.1; have := ho.1; omega
    refine w5.dup (q := 29) d0_28 rfl rfl ?_
    refine w5.iconst (q := 30) (2 : Int32) d0_29 rfl rfl ?_
    refine w5.newP (q := 32) 2 d0_30 (H.tw 10 rfl) (by decide) (by decide) (by decide) (by decide) (by decide) rfl fun T6 h6 b6 kc6 e6 w6 E6 A6 => ?_
    replace A6 : Arv G.Z h6 b6 kc6 .char (2 : Int32) [(.int (0 : Int32)), (.int (0 : Int32))] (.int (0 : Int32)) := A6.pad (pad_rep [] (.int (0 : Int32)) 2)
    have lt6 : b6 < h6.size := A6.lt
    have sz6 : h5.size ≤ h6.size := E6.1
    have g6 : G.n0 ≤ b6 := by have := ho.2.1; have := ho.1; omega
    replace A5 := A5.ext E6
    replace F5_value := F5_value.ext E6
    replace F5_coder := F5_coder.ext E6
    refine w6.dup (q := 33) d0_32 rfl rfl ?_
    refine w6.iconst (q := 34) (0 : Int32) d0_33 rfl rfl ?_
    refine w6.iloadN (q := 35) d0_34 rfl rfl ?_
    refine w6.sipush (q := 38) (255 : Int32) d0_35 rfl rfl ?_
    refine w6.iand (q := 39) d0_38 rfl ?_
    refine w6.i2c (q := 40) d0_39 rfl ?_
    refine w6.castore (q := 41) 0 d0_40 A6 g6 ⟨by decide, by decide⟩ rfl (Nat.le_of_ble_eq_true rfl) rfl fun T7 h7 w7 K7 A7 => ?_
    have sz7 : h6.size ≤ h7.size := K7.1
    replace A5 := A5.keep K7
    replace F5_value := F5_value.keep K7 (nin1 (by omega))
    replace F5_coder := F5_coder.keep K7 (nin1 (by omega))
    refine w7.dup (q := 42) d0_41 rfl rfl ?_
    refine w7.iconst (q := 43) (1 : Int32) d0_42 rfl rfl ?_
    refine w7.iloadN (q := 44) d0_43 rfl rfl ?_
    refine w7.bipush (q := 46) (8 : Int32) d0_44 rfl rfl ?_
    refine w7.iushr (q := 47) d0_46 rfl ?_
    refine w7.sipush (q := 50) (255 : Int32) d0_47 rfl rfl ?_
    refine w7.iand (q := 51) d0_50 rfl ?_
    refine w7.i2c (q := 52) d0_51 rfl ?_
    refine w7.castore (q := 53) 1 d0_52 A7 g6 ⟨by decide, by decide⟩ rfl (Nat.le_of_ble_eq_true rfl) rfl fun T8 h8 w8 K8 A8 => ?_
    have sz8 : h7.size ≤ h8.size := K8.1
    replace A5 := A5.keep K8
    replace F5_value := F5_value.keep K8 (nin1 (by omega))
    replace F5_coder := F5_coder.keep K8 (nin1 (by omega))
    refine w8.callC (q := 56) d0_53 rfl (H.tw 11 rfl) (H.tw 12 rfl) (H.tw 13 rfl) (by decide) (a := b5) (argsL := [(.ref b6)]) (rest := [(.ref b5)]) rfl (lenOf pd1 rfl) rfl (W := 1) (Nat.le_of_eq rfl) (pay_newStr w8 H.ws (H.tw 8 rfl) H.cz (nn := 2) (cs := [c0_ c, c1_ c]) g5 A5 F5_value F5_coder A8 rfl rfl (by decide) (by decide) (latS (lat_c0 _) (latS (lat_c1 _) lat0)) (by decide) (by decide)) (by decide) (by decide) rfl fun vm9 T9 h9 v9 w9 q9 => ?_
    obtain ⟨rfl, K9, S9⟩ := q9
    show Go _ _ _ _ (T9.setTop (mkF X.m 56 #[.val (.int ln), .val (.int c)] [(.ref b5)]))
    have sz9 : h8.size ≤ h9.size := K9.1
    have X9 : Ext h h9 := xkp (xkp (xkp (xtr E5 E6) K7 (all1 (by omega))) K8 (all1 (by omega))) K9 (all1 (by omega))
    rw [← strOf_2 c c0] at S9
    exact w9.retA d0_56 (t := (.object "java/lang/String")) rfl rfl rfl (by decide) (by decide) ⟨_, rfl, b5, rfl, X9, S9⟩
theorem d3_0 : decode jdk_30_method_1_code 0 = .ok (.aload_n 0, 1) := by decide +kernel
theorem d3_1 : decode jdk_30_method_1_code 1 = .ok (.invokespecial 1, 3) := by decide +kernel
theorem d3_4 : decode jdk_30_method_1_code 4 = .ok (.return_, 1) := by decide +kernel
theorem pn4 : plainName "java/lang/Record" = true := by first | (simp [plainName, overriddenIn]; done) | decide +kernel
set_option maxRecDepth 65536 in
set_option maxHeartbeats 40000000 in
theorem con_recinit (G : Gx) (H : Hyp G) (a : Nat) (h : Heap) (ho : Old G.Z G.n0 h)  :
    Con G (⟨"java/lang/Record", "<init>", "()V"⟩ : MethodName) jdk_30_method_1_code 1 none [] ({ frames := 1, cells := 0, slots := 0, locals := 12 } : Room) #[(.ref a)] h (nQ fun h' => h = h') := by
  refine Con.intro H.el ho (plainFor_of_name pn4) (Ls := #[.val (.ref a)]) (fun m => by first | (simp [entryFrame, mkF, argsToLocals, Value.category]; done) | rfl) ?_
  intro X vm T w
  refine w.aloadN (q := 1) d3_0 rfl rfl rfl ?_
  refine w.initO (q := 4) (W := 0) d3_1 (H.tw 45 rfl) (H.tw 19 rfl) (H.tw 20 rfl) rfl (by decide) (Nat.le_of_eq rfl) (by decide) rfl fun T1 w1 => ?_
  exact w1.retV d3_4 rfl (by decide) (by decide) ⟨rfl, rfl⟩
theorem d5_0 : decode jdk_31_method_16_code 0 = .ok (.aload_n 0, 1) := by decide +kernel
theorem d5_1 : decode jdk_31_method_16_code 1 = .ok (.ifnonnull 28, 3) := by decide +kernel
theorem d5_29 : decode jdk_31_method_16_code 29 = .ok (.aload_n 0, 1) := by decide +kernel
theorem d5_30 : decode jdk_31_method_16_code 30 = .ok (.areturn, 1) := by decide +kernel
theorem pn6 : plainName "java/util/Objects" = true := by first | (simp [plainName, overriddenIn]; done) | decide +kernel
set_option maxRecDepth 65536 in
set_option maxHeartbeats 40000000 in
theorem con_rnn (G : Gx) (H : Hyp G) (a b : Nat) (h : Heap) (ho : Old G.Z G.n0 h)  :
    Con G (⟨"java/util/Objects", "requireNonNull", "(Ljava/lang/Object;Ljava/util/function/Supplier;)Ljava/lang/Object;"⟩ : MethodName) jdk_31_method_16_code 2 (some (.object "java/lang/Object")) [] ({ frames := 0, cells := 0, slots := 0, locals := 0 } : Room) #[(.ref a), (.ref b)] h (vQ fun v h' => v = .ref a ∧ h = h') := by
  refine Con.intro H.el ho (plainFor_of_name pn6) (Ls := #[.val (.ref a), .val (.ref b)]) (fun m => by first | (simp [entryFrame, mkF, argsToLocals, Value.category]; done) | rfl) ?_
  intro X vm T w
  refine w.aloadN (q := 1) d5_0 rfl rfl rfl ?_
  refine w.nnY (q := 29) d5_1 (by decide) (by decide) ?_
  refine w.aloadN (q := 30) d5_29 rfl rfl rfl ?_
  exact w.retA d5_30 (t := (.object "java/lang/Object")) rfl rfl rfl (by decide) (by decide) ⟨_, rfl, ⟨rfl, rfl⟩⟩
theorem d7_0 : decode jdk_89_method_16_code 0 = .ok (.iload_n 0, 1) := by decide +kernel
theorem d7_1 : decode jdk_89_method_16_code 1 = .ok (.ldc 75, 2) := by decide +kernel
theorem d7_3 : decode jdk_89_method_16_code 3 = .ok (.if_icmp .lt 13, 3) := by decide +kernel
theorem d7_16 : decode jdk_89_method_16_code 16 = .ok (.iconst 0, 1) := by decide +kernel
theorem d7_17 : decode jdk_89_method_16_code 17 = .ok (.ireturn, 1) := by decide +kernel
theorem pn8 : plainName "java/lang/Character" = true := by first | (simp [plainName, overriddenIn]; done) | decide +kernel
set_option maxRecDepth 65536 in
set_option maxHeartbeats 40000000 in
theorem con_sur (G : Gx) (H : Hyp G) (c : Int32) (h : Heap) (ho : Old G.Z G.n0 h) (hc : Lat c) :
    Con G (⟨"java/lang/Character", "isSurrogate", "(C)Z"⟩ : MethodName) jdk_89_method_16_code 1 (some .boolean) [] ({ frames := 0, cells := 0, slots := 0, locals := 0 } : Room) #[(.int c)] h (vQ fun v h' => v = .int 0 ∧ h = h') := by
  refine Con.intro H.el ho (plainFor_of_name pn8) (Ls := #[.val (.int c)]) (fun m => by first | (simp [entryFrame, mkF, argsToLocals, Value.category]; done) | rfl) ?_
  intro X vm T w
  refine w.iloadN (q := 1) d7_0 rfl rfl ?_
  refine w.ldcI (q := 3) d7_1 (H.tw 111 rfl) rfl ?_
  refine w.icY (q := 16) d7_3 ((tlt (lat_sur hc)).1) (by decide) (by decide) ?_
  refine w.iconst (q := 17) (0 : Int32) d7_16 rfl rfl ?_
  exact w.retZ d7_17 (t := .boolean) rfl (by decide) rfl (by decide) (by decide) ⟨_, rfl, ⟨rfl, rfl⟩⟩
theorem d9_0 : decode jdk_2649_method_2_code 0 = .ok (.getstatic 17, 3) := by decide +kernel
theorem d9_3 : decode jdk_2649_method_2_code 3 = .ok (.areturn, 1) := by decide +kernel
theorem pn10 : plainName "java/util/OptionalInt" = true := by first | (simp [plainName, overriddenIn]; done) | decide +kernel
set_option maxRecDepth 65536 in
set_option maxHeartbeats 40000000 in
theorem con_oe (G : Gx) (H : Hyp G) (oe : Nat) (So : Sta G.Z G.Z.heap "java/util/OptionalInt" "EMPTY" "Ljava/util/OptionalInt;" (.ref oe)) (h : Heap) (ho : Old G.Z G.n0 h)  :
    Con G (⟨"java/util/OptionalInt", "empty", "()Ljava/util/OptionalInt;"⟩ : MethodName) jdk_2649_method_2_code 0 (some (.object "java/util/OptionalInt")) [] ({ frames := 0, cells := 0, slots := 0, locals := 0 } : Room) #[] h (vQ fun v h' => v = .ref oe ∧ h = h') := by
  refine Con.intro H.el ho (plainFor_of_name pn10) (Ls := #[]) (fun m => by first | (simp [entryFrame, mkF, argsToLocals, Value.category]; done) | rfl) ?_
  intro X vm T w
  refine w.getS (q := 3) d9_0 (H.tw 116 rfl) Via.refl So rfl fun T1 w1 => ?_
  exact w1.retA d9_3 (t := (.object "java/util/OptionalInt")) rfl rfl rfl (by decide) (by decide) ⟨_, rfl, ⟨rfl, rfl⟩⟩
theorem d11_0 : decode jdk_2649_method_6_code 0 = .ok (.aload_n 0, 1) := by decide +kernel
theorem d11_1 : decode jdk_2649_method_6_code 1 = .ok (.getfield 7, 3) := by decide +kernel
theorem d11_4 : decode jdk_2649_method_6_code 4 = .ok (.ireturn, 1) := by decide +kernel
set_option maxRecDepth 65536 in
set_option maxHeartbeats 40000000 in
theorem con_ip (G : Gx) (H : Hyp G) (a : Nat) (x : Int32) (h : Heap) (ho : Old G.Z G.n0 h) (F : Fld G.Z h a "java/util/OptionalInt" "isPresent" "Z" (.int x)) (hn : narrow .boolean (.int x) = .int x) :
    Con G (⟨"java/util/OptionalInt", "isPresent", "()Z"⟩ : MethodName) jdk_2649_method_6_code 1 (some .boolean) [] ({ frames := 0, cells := 0, slots := 0, locals := 0 } : Room) #[(.ref a)] h (vQ fun v' h' => v' = (.int x) ∧ h = h') := by
  refine Con.intro H.el ho (plainFor_of_name pn10) (Ls := #[.val (.ref a)]) (fun m => by first | (simp [entryFrame, mkF, argsToLocals, Value.category]; done) | rfl) ?_
  intro X vm T w
  refine w.aloadN (q := 1) d11_0 rfl rfl rfl ?_
  refine w.getF (q := 4) d11_1 (H.tw 122 rfl) Via.refl F rfl fun T1 w1 => ?_
  exact w1.retZ d11_4 (t := .boolean) rfl (by decide) hn (by decide) (by decide) ⟨_, rfl, ⟨rfl, rfl⟩⟩
theorem d12_0 : decode prog_55_method_5_code 0 = .ok (.iconst 0, 1) := by decide +kernel
theorem d12_1 : decode prog_55_method_5_code 1 = .ok (.istore_n 1, 1) := by decide +kernel
theorem d12_2 : decode prog_55_method_5_code 2 = .ok (.iload_n 1, 1) := by decide +kernel
theorem d12_3 : decode prog_55_method_5_code 3 = .ok (.aload_n 0, 1) := by decide +kernel
theorem d12_4 : decode prog_55_method_5_code 4 = .ok (.invokevirtual 7, 3) := by decide +kernel
theorem pd13 : parseMethodDescriptor "()I" = some ⟨[], some .int⟩ := by decide +kernel
theorem d12_7 : decode prog_55_method_5_code 7 = .ok (.if_icmp .ge 39, 3) := by decide +kernel
theorem d12_10 : decode prog_55_method_5_code 10 = .ok (.aload_n 0, 1) := by decide +kernel
theorem d12_11 : decode prog_55_method_5_code 11 = .ok (.iload_n 1, 1) := by decide +kernel
theorem d12_12 : decode prog_55_method_5_code 12 = .ok (.invokevirtual 21, 3) := by decide +kernel
theorem pd14 : parseMethodDescriptor "(I)C" = some ⟨[.int], some .char⟩ := by decide +kernel
theorem d12_15 : decode prog_55_method_5_code 15 = .ok (.invokestatic 37, 3) := by decide +kernel
theorem pd15 : parseMethodDescriptor "(C)Z" = some ⟨[.char], some .boolean⟩ := by decide +kernel
theorem d12_18 : decode prog_55_method_5_code 18 = .ok (.ifCond .ne 9, 3) := by decide +kernel
theorem d12_21 : decode prog_55_method_5_code 21 = .ok (.iinc 1 1, 3) := by decide +kernel
theorem d12_24 : decode prog_55_method_5_code 24 = .ok (.goto (-22), 3) := by decide +kernel
theorem d12_46 : decode prog_55_method_5_code 46 = .ok (.invokestatic 49, 3) := by decide +kernel
theorem pd16 : parseMethodDescriptor "()Ljava/util/OptionalInt;" = some ⟨[], some (.object "java/util/OptionalInt")⟩ := by decide +kernel
theorem d12_49 : decode prog_55_method_5_code 49 = .ok (.areturn, 1) := by decide +kernel
theorem pn17 : plainName "com/example/versioned_table/versionedtable/Utf8" = true := by first | (simp [plainName, overriddenIn]; done) | decide +kernel
set_option maxRecDepth 65536 in
set_option maxHeartbeats 40000000 in
theorem con_us (G : Gx) (H : Hyp G) (a : Nat) (cs : List Int32) (h : Heap) (ho : Old G.Z G.n0 h) (S : StrAt G.Z h a 0 cs) (hk : OkS cs) :
    Con G (⟨"com/example/versioned_table/versionedtable/Utf8", "unpairedSurrogate", "(Ljava/lang/String;)Ljava/util/OptionalInt;"⟩ : MethodName) prog_55_method_5_code 2 (some (.object "java/util/OptionalInt")) [] ({ frames := 4, cells := 0, slots := 0, locals := 53 } : Room) #[(.ref a)] h (vQ fun v h' => ∃ oe : Nat, v = .ref oe ∧ h = h' ∧ Exa G.Z h' oe "java/util/OptionalInt" ∧ Fld G.Z h' oe "java/util/OptionalInt" "isPresent" "Z" (.int 0)) := by
  refine Con.intro H.el ho (plainFor_of_name pn17) (Ls := #[.val (.ref a), .unset]) (fun m => by first | (simp [entryFrame, mkF, argsToLocals, Value.category]; done) | rfl) ?_
  intro X vm T w
  obtain ⟨hfm, oe, So, Eo, Fo⟩ := H.mo
  refine w.iconst (q := 1) (0 : Int32) d12_0 rfl rfl ?_
  refine w.istoreN (q := 2) (L2 := #[.val (.ref a), .val (.int (0 : Int32))]) d12_1 rfl rfl ?_
  refine w.iloadN (q := 3) d12_2 rfl rfl ?_
  refine w.aloadN (q := 4) d12_3 rfl rfl rfl ?_
  rcases hk with ⟨d0, rfl, l0⟩ | ⟨d0, d1, rfl, l0, l1⟩
  ·
    refine w.callV (q := 7) d12_4 (H.tw 75 rfl) (H.tw 76 rfl) (notFace_of_selects (C := "java/lang/String") (args := G.a0) (H.tw 78 rfl)) (H.tw 78 rfl) (H.tw 77 rfl) (by decide) S.exa (argsL := []) (rest := [(.int (0 : Int32))]) rfl (lenOf pd13 rfl) rfl (W := 1) (Nat.le_of_eq rfl) (pay_len w H.wln (H.tw 8 rfl) H.cz S (by decide) (by decide)) (by decide) (by decide) rfl fun vm1 T1 h1 v1 w1 q1 => ?_
    obtain ⟨_, rfl, rfl, rfl⟩ := q1
    show Go _ _ _ _ (T1.setTop (mkF X.m 7 #[.val (.ref a), .val (.int (0 : Int32))] [(.int (1 : Int32)), (.int (0 : Int32))]))
    refine w1.icN (q := 10) d12_7 ((tlt (by decide)).2.1) rfl ?_
    refine w1.aloadN (q := 11) d12_10 rfl rfl rfl ?_
    refine w1.iloadN (q := 12) d12_11 rfl rfl ?_
    refine w1.callV (q := 15) d12_12 (H.tw 85 rfl) (H.tw 86 rfl) (notFace_of_selects (C := "java/lang/String") (args := G.a0) (H.tw 88 rfl)) (H.tw 88 rfl) (H.tw 87 rfl) (by decide) S.exa (argsL := [(.int (0 : Int32))]) (rest := []) rfl (lenOf pd14 rfl) rfl (W := 0) (Nat.le_of_eq rfl) (pay_chr w1 H.wch (H.tw 8 rfl) H.cz hfm S 0 (Nat.le_of_ble_eq_true rfl) rfl (by decide) (by decide)) (by decide) (by decide) rfl fun vm2 T2 h2 v2 w2 q2 => ?_
    obtain ⟨_, rfl, rfl, rfl⟩ := q2
    show Go _ _ _ _ (T2.setTop (mkF X.m 15 #[.val (.ref a), .val (.int (0 : Int32))] [(.int d0)]))
    refine w2.callS (q := 18) d12_15 (H.tw 107 rfl) (H.tw 108 rfl) (H.tw 109 rfl) (H.tw 110 rfl) (by decide) (argsL := [(.int d0)]) (rest := []) rfl (lenOf pd15 rfl) rfl (W := 0) (Nat.le_of_eq rfl) ((con_sur G H d0 h ho l0).pay w2 (H.tw 110 rfl) (H.tw 109 rfl) (by decide) (by decide)) (by decide) (by decide) rfl fun vm3 T3 h3 v3 w3 q3 => ?_
    obtain ⟨_, rfl, rfl, rfl⟩ := q3
    show Go _ _ _ _ (T3.setTop (mkF X.m 18 #[.val (.ref a), .val (.int (0 : Int32))] [(.int (0 : Int32))]))
    refine w3.ifN (q := 21) d12_18 ((if0 _ _).trans (teq rfl).2) rfl ?_
    refine w3.iinc (q := 24) (L2 := #[.val (.ref a), .val (.int ((0 : Int32) + (1 : Int32)))]) (1 : Int32) d12_21 rfl rfl rfl rfl ?_
    refine w3.goto (q := 2) d12_24 (by decide) (by decide) ?_
    show Go _ _ _ _ (T3.setTop (mkF X.m 2 #[.val (.ref a), .val (.int (1 : Int32))] []))
    refine w3.iloadN (q := 3) d12_2 rfl rfl ?_
    refine w3.aloadN (q := 4) d12_3 rfl rfl rfl ?_
    refine w3.callV (q := 7) d12_4 (H.tw 75 rfl) (H.tw 76 rfl) (notFace_of_selects (C := "java/lang/String") (args := G.a0) (H.tw 78 rfl)) (H.tw 78 rfl) (H.tw 77 rfl) (by decide) S.exa (argsL := []) (rest := [(.int (1 : Int32))]) rfl (lenOf pd13 rfl) rfl (W := 1) (Nat.le_of_eq rfl) (pay_len w3 H.wln (H.tw 8 rfl) H.cz S (by decide) (by decide)) (by decide) (by decide) rfl fun vm4 T4 h4 v4 w4 q4 => ?_
    obtain ⟨_, rfl, rfl, rfl⟩ := q4
    show Go _ _ _ _ (T4.setTop (mkF X.m 7 #[.val (.ref a), .val (.int (1 : Int32))] [(.int (1 : Int32)), (.int (1 : Int32))]))
    refine w4.icY (q := 46) d12_7 ((flt (by decide)).2.1) (by decide) (by decide) ?_
    refine w4.callS (q := 49) d12_46 (H.tw 112 rfl) (H.tw 113 rfl) (H.tw 114 rfl) (H.tw 115 rfl) (by decide) (argsL := []) (rest := []) rfl (lenOf pd16 rfl) rfl (W := 0) (Nat.le_of_eq rfl) ((con_oe G H oe So h ho).pay w4 (H.tw 115 rfl) (H.tw 114 rfl) (by decide) (by decide)) (by decide) (by decide) rfl fun vm5 T5 h5 v5 w5 q5 => ?_
    obtain ⟨_, rfl, rfl, rfl⟩ := q5
    show Go _ _ _ _ (T5.setTop (mkF X.m 49 #[.val (.ref a), .val (.int (1 : Int32))] [(.ref oe)]))
    exact w5.retA d12_49 (t := (.object "java/util/OptionalInt")) rfl rfl rfl (by decide) (by decide) ⟨_, rfl, ⟨oe, rfl, rfl, Eo.ext ho.2, Fo.ext ho.2⟩⟩
  ·
    refine w.callV (q := 7) d12_4 (H.tw 75 rfl) (H.tw 76 rfl) (notFace_of_selects (C := "java/lang/String") (args := G.a0) (H.tw 78 rfl)) (H.tw 78 rfl) (H.tw 77 rfl) (by decide) S.exa (argsL := []) (rest := [(.int (0 : Int32))]) rfl (lenOf pd13 rfl) rfl (W := 1) (Nat.le_of_eq rfl) (pay_len w H.wln (H.tw 8 rfl) H.cz S (by decide) (by decide)) (by decide) (by decide) rfl fun vm6 T6 h6 v6 w6 q6 => ?_
    obtain ⟨_, rfl, rfl, rfl⟩ := q6
    show Go _ _ _ _ (T6.setTop (mkF X.m 7 #[.val (.ref a), .val (.int (0 : Int32))] [(.int (2 : Int32)), (.int (0 : Int32))]))
    refine w6.icN (q := 10) d12_7 ((tlt (by decide)).2.1) rfl ?_
    refine w6.aloadN (q := 11) d12_10 rfl rfl rfl ?_
    refine w6.iloadN (q := 12) d12_11 rfl rfl ?_
    refine w6.callV (q := 15) d12_12 (H.tw 85 rfl) (H.tw 86 rfl) (notFace_of_selects (C := "java/lang/String") (args := G.a0) (H.tw 88 rfl)) (H.tw 88 rfl) (H.tw 87 rfl) (by decide) S.exa (argsL := [(.int (0 : Int32))]) (rest := []) rfl (lenOf pd14 rfl) rfl (W := 0) (Nat.le_of_eq rfl) (pay_chr w6 H.wch (H.tw 8 rfl) H.cz hfm S 0 (Nat.le_of_ble_eq_true rfl) rfl (by decide) (by decide)) (by decide) (by decide) rfl fun vm7 T7 h7 v7 w7 q7 => ?_
    obtain ⟨_, rfl, rfl, rfl⟩ := q7
    show Go _ _ _ _ (T7.setTop (mkF X.m 15 #[.val (.ref a), .val (.int (0 : Int32))] [(.int d0)]))
    refine w7.callS (q := 18) d12_15 (H.tw 107 rfl) (H.tw 108 rfl) (H.tw 109 rfl) (H.tw 110 rfl) (by decide) (argsL := [(.int d0)]) (rest := []) rfl (lenOf pd15 rfl) rfl (W := 0) (Nat.le_of_eq rfl) ((con_sur G H d0 h ho l0).pay w7 (H.tw 110 rfl) (H.tw 109 rfl) (by decide) (by decide)) (by decide) (by decide) rfl fun vm8 T8 h8 v8 w8 q8 => ?_
    obtain ⟨_, rfl, rfl, rfl⟩ := q8
    show Go _ _ _ _ (T8.setTop (mkF X.m 18 #[.val (.ref a), .val (.int (0 : Int32))] [(.int (0 : Int32))]))
    refine w8.ifN (q := 21) d12_18 ((if0 _ _).trans (teq rfl).2) rfl ?_
    refine w8.iinc (q := 24) (L2 := #[.val (.ref a), .val (.int ((0 : Int32) + (1 : Int32)))]) (1 : Int32) d12_21 rfl rfl rfl rfl ?_
    refine w8.goto (q := 2) d12_24 (by decide) (by decide) ?_
    show Go _ _ _ _ (T8.setTop (mkF X.m 2 #[.val (.ref a), .val (.int (1 : Int32))] []))
    refine w8.iloadN (q := 3) d12_2 rfl rfl ?_
    refine w8.aloadN (q := 4) d12_3 rfl rfl rfl ?_
    refine w8.callV (q := 7) d12_4 (H.tw 75 rfl) (H.tw 76 rfl) (notFace_of_selects (C := "java/lang/String") (args := G.a0) (H.tw 78 rfl)) (H.tw 78 rfl) (H.tw 77 rfl) (by decide) S.exa (argsL := []) (rest := [(.int (1 : Int32))]) rfl (lenOf pd13 rfl) rfl (W := 1) (Nat.le_of_eq rfl) (pay_len w8 H.wln (H.tw 8 rfl) H.cz S (by decide) (by decide)) (by decide) (by decide) rfl fun vm9 T9 h9 v9 w9 q9 => ?_
    obtain ⟨_, rfl, rfl, rfl⟩ := q9
    show Go _ _ _ _ (T9.setTop (mkF X.m 7 #[.val (.ref a), .val (.int (1 : Int32))] [(.int (2 : Int32)), (.int (1 : Int32))]))
    refine w9.icN (q := 10) d12_7 ((tlt (by decide)).2.1) rfl ?_
    refine w9.aloadN (q := 11) d12_10 rfl rfl rfl ?_
    refine w9.iloadN (q := 12) d12_11 rfl rfl ?_
    refine w9.callV (q := 15) d12_12 (H.tw 85 rfl) (H.tw 86 rfl) (notFace_of_selects (C := "java/lang/String") (args := G.a0) (H.tw 88 rfl)) (H.tw 88 rfl) (H.tw 87 rfl) (by decide) S.exa (argsL := [(.int (1 : Int32))]) (rest := []) rfl (lenOf pd14 rfl) rfl (W := 0) (Nat.le_of_eq rfl) (pay_chr w9 H.wch (H.tw 8 rfl) H.cz hfm S 1 (Nat.le_of_ble_eq_true rfl) rfl (by decide) (by decide)) (by decide) (by decide) rfl fun vm10 T10 h10 v10 w10 q10 => ?_
    obtain ⟨_, rfl, rfl, rfl⟩ := q10
    show Go _ _ _ _ (T10.setTop (mkF X.m 15 #[.val (.ref a), .val (.int (1 : Int32))] [(.int d1)]))
    refine w10.callS (q := 18) d12_15 (H.tw 107 rfl) (H.tw 108 rfl) (H.tw 109 rfl) (H.tw 110 rfl) (by decide) (argsL := [(.int d1)]) (rest := []) rfl (lenOf pd15 rfl) rfl (W := 0) (Nat.le_of_eq rfl) ((con_sur G H d1 h ho l1).pay w10 (H.tw 110 rfl) (H.tw 109 rfl) (by decide) (by decide)) (by decide) (by decide) rfl fun vm11 T11 h11 v11 w11 q11 => ?_
    obtain ⟨_, rfl, rfl, rfl⟩ := q11
    show Go _ _ _ _ (T11.setTop (mkF X.m 18 #[.val (.ref a), .val (.int (1 : Int32))] [(.int (0 : Int32))]))
    refine w11.ifN (q := 21) d12_18 ((if0 _ _).trans (teq rfl).2) rfl ?_
    refine w11.iinc (q := 24) (L2 := #[.val (.ref a), .val (.int ((1 : Int32) + (1 : Int32)))]) (1 : Int32) d12_21 rfl rfl rfl rfl ?_
    refine w11.goto (q := 2) d12_24 (by decide) (by decide) ?_
    show Go _ _ _ _ (T11.setTop (mkF X.m 2 #[.val (.ref a), .val (.int (2 : Int32))] []))
    refine w11.iloadN (q := 3) d12_2 rfl rfl ?_
    refine w11.aloadN (q := 4) d12_3 rfl rfl rfl ?_
    refine w11.callV (q := 7) d12_4 (H.tw 75 rfl) (H.tw 76 rfl) (notFace_of_selects (C := "java/lang/String") (args := G.a0) (H.tw 78 rfl)) (H.tw 78 rfl) (H.tw 77 rfl) (by decide) S.exa (argsL := []) (rest := [(.int (2 : Int32))]) rfl (lenOf pd13 rfl) rfl (W := 1) (Nat.le_of_eq rfl) (pay_len w11 H.wln (H.tw 8 rfl) H.cz S (by decide) (by decide)) (by decide) (by decide) rfl fun vm12 T12 h12 v12 w12 q12 => ?_
    obtain ⟨_, rfl, rfl, rfl⟩ := q12
    show Go _ _ _ _ (T12.setTop (mkF X.m 7 #[.val (.ref a), .val (.int (2 : Int32))] [(.int (2 : Int32)), (.int (2 : Int32))]))
    refine w12.icY (q := 46) d12_7 ((flt (by decide)).2.1) (by decide) (by decide) ?_
    refine w12.callS (q := 49) d12_46 (H.tw 112 rfl) (H.tw 113 rfl) (H.tw 114 rfl) (H.tw 115 rfl) (by decide) (argsL := []) (rest := []) rfl (lenOf pd16 rfl) rfl (W := 0) (Nat.le_of_eq rfl) ((con_oe G H oe So h ho).pay w12 (H.tw 115 rfl) (H.tw 114 rfl) (by decide) (by decide)) (by decide) (by decide) rfl fun vm13 T13 h13 v13 w13 q13 => ?_
    obtain ⟨_, rfl, rfl, rfl⟩ := q13
    show Go _ _ _ _ (T13.setTop (mkF X.m 49 #[.val (.ref a), .val (.int (2 : Int32))] [(.ref oe)]))
    exact w13.retA d12_49 (t := (.object "java/util/OptionalInt")) rfl rfl rfl (by decide) (by decide) ⟨_, rfl, ⟨oe, rfl, rfl, Eo.ext ho.2, Fo.ext ho.2⟩⟩
theorem d18_0 : decode prog_22_method_6_code 0 = .ok (.aload_n 0, 1) := by decide +kernel
theorem d18_1 : decode prog_22_method_6_code 1 = .ok (.invokestatic 39, 3) := by decide +kernel
theorem pd19 : parseMethodDescriptor "(Ljava/lang/String;)Ljava/util/OptionalInt;" = some ⟨[(.object "java/lang/String")], some (.object "java/util/OptionalInt")⟩ := by decide +kernel
theorem d18_4 : decode prog_22_method_6_code 4 = .ok (.astore_n 2, 1) := by decide +kernel
theorem d18_5 : decode prog_22_method_6_code 5 = .ok (.aload_n 2, 1) := by decide +kernel
theorem d18_6 : decode prog_22_method_6_code 6 = .ok (.invokevirtual 45, 3) := by decide +kernel
theorem pd20 : parseMethodDescriptor "()Z" = some ⟨[], some .boolean⟩ := by decide +kernel
theorem d18_9 : decode prog_22_method_6_code 9 = .ok (.ifCond .eq 21, 3) := by decide +kernel
theorem d18_30 : decode prog_22_method_6_code 30 = .ok (.return_, 1) := by decide +kernel
theorem pn21 : plainName "com/example/versioned_table/versionedtable/RecordKey" = true := by first | (simp [plainName, overriddenIn]; done) | decide +kernel
set_option maxRecDepth 65536 in
set_option maxHeartbeats 40000000 in
theorem con_rwf (G : Gx) (H : Hyp G) (a nm : Nat) (cs : List Int32) (h : Heap) (ho : Old G.Z G.n0 h) (S : StrAt G.Z h a 0 cs) (hk : OkS cs) :
    Con G (⟨"com/example/versioned_table/versionedtable/RecordKey", "requireWellFormed", "(Ljava/lang/String;Ljava/lang/String;)V"⟩ : MethodName) prog_22_method_6_code 3 none [] ({ frames := 5, cells := 0, slots := 0, locals := 66 } : Room) #[(.ref a), (.ref nm)] h (nQ fun h' => h = h') := by
  refine Con.intro H.el ho (plainFor_of_name pn21) (Ls := #[.val (.ref a), .val (.ref nm), .unset]) (fun m => by first | (simp [entryFrame, mkF, argsToLocals, Value.category]; done) | rfl) ?_
  intro X vm T w
  refine w.aloadN (q := 1) d18_0 rfl rfl rfl ?_
  refine w.callS (q := 4) d18_1 (H.tw 71 rfl) (H.tw 72 rfl) (H.tw 73 rfl) (H.tw 74 rfl) (by decide) (argsL := [(.ref a)]) (rest := []) rfl (lenOf pd19 rfl) rfl (W := 0) (Nat.le_of_eq rfl) ((con_us G H a cs h ho S hk).pay w (H.tw 74 rfl) (H.tw 73 rfl) (by decide) (by decide)) (by decide) (by decide) rfl fun vm1 T1 h1 v1 w1 q1 => ?_
  obtain ⟨_, rfl, oe, rfl, rfl, Eo, Fo⟩ := q1
  show Go _ _ _ _ (T1.setTop (mkF X.m 4 #[.val (.ref a), .val (.ref nm), .unset] [(.ref oe)]))
  refine w1.astoreN (q := 5) (L2 := #[.val (.ref a), .val (.ref nm), .val (.ref oe)]) d18_4 rfl rfl rfl ?_
  refine w1.aloadN (q := 6) d18_5 rfl rfl rfl ?_
  refine w1.callV (q := 9) d18_6 (H.tw 117 rfl) (H.tw 118 rfl) (notFace_of_selects (C := "java/util/OptionalInt") (args := G.a0) (H.tw 120 rfl)) (H.tw 120 rfl) (H.tw 119 rfl) (by decide) Eo (argsL := []) (rest := []) rfl (lenOf pd20 rfl) rfl (W := 0) (Nat.le_of_eq rfl) ((con_ip G H oe (0 : Int32) h ho Fo rfl).pay w1 (H.tw 121 rfl) (H.tw 114 rfl) (by decide) (by decide)) (by decide) (by decide) rfl fun vm2 T2 h2 v2 w2 q2 => ?_
  obtain ⟨_, rfl, rfl, rfl⟩ := q2
  show Go _ _ _ _ (T2.setTop (mkF X.m 9 #[.val (.ref a), .val (.ref nm), .val (.ref oe)] [(.int (0 : Int32))]))
  refine w2.ifY (q := 30) d18_9 ((if0 _ _).trans (teq rfl).1) (by decide) (by decide) ?_
  exact w2.retV d18_30 rfl (by decide) (by decide) ⟨rfl, rfl⟩
theorem d22_0 : decode prog_55_method_3_code 0 = .ok (.aload_n 0, 1) := by decide +kernel
theorem d22_1 : decode prog_55_method_3_code 1 = .ok (.invokevirtual 7, 3) := by decide +kernel
theorem d22_4 : decode prog_55_method_3_code 4 = .ok (.i2l, 1) := by decide +kernel
theorem d22_5 : decode prog_55_method_3_code 5 = .ok (.ldc2_w 29, 3) := by decide +kernel
theorem d22_8 : decode prog_55_method_3_code 8 = .ok (.lmul, 1) := by decide +kernel
theorem d22_9 : decode prog_55_method_3_code 9 = .ok (.lreturn, 1) := by decide +kernel
set_option maxRecDepth 65536 in
set_option maxHeartbeats 40000000 in
theorem con_ml (G : Gx) (H : Hyp G) (a : Nat) (cs : List Int32) (h : Heap) (ho : Old G.Z G.n0 h) (S : StrAt G.Z h a 0 cs) :
    Con G (⟨"com/example/versioned_table/versionedtable/Utf8", "mostLength", "(Ljava/lang/String;)J"⟩ : MethodName) prog_55_method_3_code 1 (some .long) [] ({ frames := 2, cells := 0, slots := 0, locals := 25 } : Room) #[(.ref a)] h (vQ fun v h' => v = .long ((Int32.ofNat cs.length).toInt64 * (3 : Int64)) ∧ h = h') := by
  refine Con.intro H.el ho (plainFor_of_name pn17) (Ls := #[.val (.ref a)]) (fun m => by first | (simp [entryFrame, mkF, argsToLocals, Value.category]; done) | rfl) ?_
  intro X vm T w
  refine w.aloadN (q := 1) d22_0 rfl rfl rfl ?_
  refine w.callV (q := 4) d22_1 (H.tw 75 rfl) (H.tw 76 rfl) (notFace_of_selects (C := "java/lang/String") (args := G.a0) (H.tw 78 rfl)) (H.tw 78 rfl) (H.tw 77 rfl) (by decide) S.exa (argsL := []) (rest := []) rfl (lenOf pd13 rfl) rfl (W := 0) (Nat.le_of_eq rfl) (pay_len w H.wln (H.tw 8 rfl) H.cz S (by decide) (by decide)) (by decide) (by decide) rfl fun vm1 T1 h1 v1 w1 q1 => ?_
  obtain ⟨_, rfl, rfl, rfl⟩ := q1
  show Go _ _ _ _ (T1.setTop (mkF X.m 4 #[.val (.ref a)] [(.int (Int32.ofNat cs.length))]))
  refine w1.i2l (q := 5) d22_4 rfl ?_
  refine w1.ldc2J (q := 8) d22_5 (H.tw 130 rfl) rfl ?_
  refine w1.lmul (q := 9) d22_8 rfl ?_
  exact w1.retJ d22_9 rfl (by decide) (by decide) ⟨_, rfl, ⟨rfl, rfl⟩⟩
theorem d23_0 : decode prog_55_method_4_code 0 = .ok (.aload_n 0, 1) := by decide +kernel
theorem d23_1 : decode prog_55_method_4_code 1 = .ok (.invokestatic 31, 3) := by decide +kernel
theorem pd24 : parseMethodDescriptor "(Ljava/lang/String;)J" = some ⟨[(.object "java/lang/String")], some .long⟩ := by decide +kernel
theorem d23_4 : decode prog_55_method_4_code 4 = .ok (.lload_n 1, 1) := by decide +kernel
theorem d23_5 : decode prog_55_method_4_code 5 = .ok (.lcmp, 1) := by decide +kernel
theorem d23_6 : decode prog_55_method_4_code 6 = .ok (.ifCond .le 16, 3) := by decide +kernel
theorem d23_22 : decode prog_55_method_4_code 22 = .ok (.iconst 0, 1) := by decide +kernel
theorem d23_23 : decode prog_55_method_4_code 23 = .ok (.ireturn, 1) := by decide +kernel
set_option maxRecDepth 65536 in
set_option maxHeartbeats 40000000 in
theorem con_io (G : Gx) (H : Hyp G) (a : Nat) (mx : Int64) (cs : List Int32) (h : Heap) (ho : Old G.Z G.n0 h) (S : StrAt G.Z h a 0 cs) (hm : ¬ (0 : Int32) < lcmpW ((Int32.ofNat cs.length).toInt64 * (3 : Int64)) mx) :
    Con G (⟨"com/example/versioned_table/versionedtable/Utf8", "isOver", "(Ljava/lang/String;J)Z"⟩ : MethodName) prog_55_method_4_code 3 (some .boolean) [] ({ frames := 3, cells := 0, slots := 0, locals := 37 } : Room) #[(.ref a), (.long mx)] h (vQ fun v h' => v = .int 0 ∧ h = h') := by
  refine Con.intro H.el ho (plainFor_of_name pn17) (Ls := #[.val (.ref a), .val (.long mx), .second]) (fun m => by first | (simp [entryFrame, mkF, argsToLocals, Value.category]; done) | rfl) ?_
  intro X vm T w
  refine w.aloadN (q := 1) d23_0 rfl rfl rfl ?_
  refine w.callS (q := 4) d23_1 (H.tw 127 rfl) (H.tw 128 rfl) (H.tw 73 rfl) (H.tw 129 rfl) (by decide) (argsL := [(.ref a)]) (rest := []) rfl (lenOf pd24 rfl) rfl (W := 0) (Nat.le_of_eq rfl) ((con_ml G H a cs h ho S).pay w (H.tw 129 rfl) (H.tw 73 rfl) (by decide) (by decide)) (by decide) (by decide) rfl fun vm1 T1 h1 v1 w1 q1 => ?_
  obtain ⟨_, rfl, rfl, rfl⟩ := q1
  show Go _ _ _ _ (T1.setTop (mkF X.m 4 #[.val (.ref a), .val (.long mx), .second] [(.long ((Int32.ofNat cs.length).toInt64 * (3 : Int64)))]))
  refine w1.lloadN (q := 5) d23_4 rfl rfl ?_
  refine w1.lcmp (q := 6) d23_5 rfl ?_
  refine w1.ifY (q := 22) d23_6 ((if0 _ _).trans (flt hm).2.2.2) (by decide) (by decide) ?_
  refine w1.iconst (q := 23) (0 : Int32) d23_22 rfl rfl ?_
  exact w1.retZ d23_23 (t := .boolean) rfl (by decide) rfl (by decide) (by decide) ⟨_, rfl, ⟨rfl, rfl⟩⟩
theorem d25_0 : decode prog_22_method_7_code 0 = .ok (.aload_n 0, 1) := by decide +kernel
theorem d25_1 : decode prog_22_method_7_code 1 = .ok (.aload_n 1, 1) := by decide +kernel
theorem d25_2 : decode prog_22_method_7_code 2 = .ok (.invokedynamic 62, 5) := by decide +kernel
theorem d25_7 : decode prog_22_method_7_code 7 = .ok (.invokestatic 66, 3) := by decide +kernel
theorem pd26 : parseMethodDescriptor "(Ljava/lang/Object;Ljava/util/function/Supplier;)Ljava/lang/Object;" = some ⟨[(.object "java/lang/Object"), (.object "java/util/function/Supplier")], some (.object "java/lang/Object")⟩ := by decide +kernel
theorem d25_10 : decode prog_22_method_7_code 10 = .ok (.pop, 1) := by decide +kernel
theorem d25_11 : decode prog_22_method_7_code 11 = .ok (.aload_n 0, 1) := by decide +kernel
theorem d25_12 : decode prog_22_method_7_code 12 = .ok (.invokevirtual 72, 3) := by decide +kernel
theorem d25_15 : decode prog_22_method_7_code 15 = .ok (.ifCond .eq 17, 3) := by decide +kernel
theorem d25_32 : decode prog_22_method_7_code 32 = .ok (.aload_n 0, 1) := by decide +kernel
theorem d25_33 : decode prog_22_method_7_code 33 = .ok (.aload_n 1, 1) := by decide +kernel
theorem d25_34 : decode prog_22_method_7_code 34 = .ok (.invokestatic 78, 3) := by decide +kernel
theorem pd27 : parseMethodDescriptor "(Ljava/lang/String;Ljava/lang/String;)V" = some ⟨[(.object "java/lang/String"), (.object "java/lang/String")], none⟩ := by decide +kernel
theorem d25_37 : decode prog_22_method_7_code 37 = .ok (.aload_n 0, 1) := by decide +kernel
theorem d25_38 : decode prog_22_method_7_code 38 = .ok (.iload_n 2, 1) := by decide +kernel
theorem d25_39 : decode prog_22_method_7_code 39 = .ok (.i2l, 1) := by decide +kernel
theorem d25_40 : decode prog_22_method_7_code 40 = .ok (.invokestatic 81, 3) := by decide +kernel
theorem pd28 : parseMethodDescriptor "(Ljava/lang/String;J)Z" = some ⟨[(.object "java/lang/String"), .long], some .boolean⟩ := by decide +kernel
theorem d25_43 : decode prog_22_method_7_code 43 = .ok (.ifCond .eq 22, 3) := by decide +kernel
theorem d25_65 : decode prog_22_method_7_code 65 = .ok (.return_, 1) := by decide +kernel
set_option maxRecDepth 65536 in
set_option maxHeartbeats 40000000 in
theorem con_rp (G : Gx) (H : Hyp G) (a nm : Nat) (mx : Int32) (cs : List Int32) (h : Heap) (ho : Old G.Z G.n0 h) (S : StrAt G.Z h a 0 cs) (hk : OkS cs) (hm : ¬ (0 : Int32) < lcmpW ((Int32.ofNat cs.length).toInt64 * (3 : Int64)) mx.toInt64) :
    Con G (⟨"com/example/versioned_table/versionedtable/RecordKey", "requirePart", "(Ljava/lang/String;Ljava/lang/String;I)V"⟩ : MethodName) prog_22_method_7_code 3 none [] ({ frames := 6, cells := 1, slots := 1, locals := 3074 } : Room) #[(.ref a), (.ref nm), (.int mx)] h (nQ fun h' => Ext h h') := by
  refine Con.introN H.el ho (plainFor_of_name pn21) (Ls := #[.val (.ref a), .val (.ref nm), .val (.int mx)]) (fun m => by first | (simp [entryFrame, mkF, argsToLocals, Value.category]; done) | rfl) ?_
  intro X vm T hN w
  refine w.aloadN (q := 1) d25_0 rfl rfl rfl ?_
  refine w.aloadN (q := 2) d25_1 rfl rfl rfl ?_
  refine w.lam (q := 7) (fi := 15) (vals := [(.ref nm)]) (st := [(.ref a)]) hN d25_2 (H.tw 55 rfl) (H.tw 58 rfl) (by decide) (by decide +kernel) rfl (fit1 (t := .object "java/lang/String") rfl rfl) rfl (Nat.le_of_ble_eq_true rfl) (by decide) (Nat.le_of_ble_eq_true rfl) rfl fun T1 h1 b1 cK1 e1 w1 E1 Mk1 Cl1 => ?_
  replace w1 : Wk G _ _ X _ T1 h1 1 1 := w1
  have sz1 : h.size ≤ h1.size := E1.1
  show Go _ _ _ _ (T1.setTop (mkF X.m 7 #[.val (.ref a), .val (.ref nm), .val (.int mx)] [(.ref b1), (.ref a)]))
  replace S := S.ext E1
  refine w1.callS (q := 10) d25_7 (H.tw 59 rfl) (H.tw 60 rfl) (H.tw 61 rfl) (H.tw 62 rfl) (by decide) (argsL := [(.ref a), (.ref b1)]) (rest := []) rfl (lenOf pd26 rfl) rfl (W := 0) (Nat.le_of_eq rfl) ((con_rnn G H a b1 h1 w1.old).pay w1 (H.tw 62 rfl) (H.tw 61 rfl) (by decide) (by decide)) (by decide) (by decide) rfl fun vm2 T2 h2 v2 w2 q2 => ?_
  obtain ⟨_, rfl, rfl, rfl⟩ := q2
  show Go _ _ _ _ (T2.setTop (mkF X.m 10 #[.val (.ref a), .val (.ref nm), .val (.int mx)] [(.ref a)]))
  refine w2.pop (q := 11) d25_10 rfl rfl ?_
  refine w2.aloadN (q := 12) d25_11 rfl rfl rfl ?_
  refine w2.callV (q := 15) d25_12 (H.tw 63 rfl) (H.tw 64 rfl) (notFace_of_selects (C := "java/lang/String") (args := G.a0) (H.tw 66 rfl)) (H.tw 66 rfl) (H.tw 65 rfl) (by decide) S.exa (argsL := []) (rest := []) rfl (lenOf pd20 rfl) rfl (W := 0) (Nat.le_of_eq rfl) (pay_emp0 w2 H.wse (H.tw 8 rfl) S hk (by decide) (by decide)) (by decide) (by decide) rfl fun vm3 T3 h3 v3 w3 q3 => ?_
  obtain ⟨_, rfl, rfl, rfl⟩ := q3
  show Go _ _ _ _ (T3.setTop (mkF X.m 15 #[.val (.ref a), .val (.ref nm), .val (.int mx)] [(.int (0 : Int32))]))
  refine w3.ifY (q := 32) d25_15 ((if0 _ _).trans (teq rfl).1) (by decide) (by decide) ?_
  refine w3.aloadN (q := 33) d25_32 rfl rfl rfl ?_
  refine w3.aloadN (q := 34) d25_33 rfl rfl rfl ?_
  refine w3.callS (q := 37) d25_34 (H.tw 68 rfl) (H.tw 69 rfl) (H.tw 2 rfl) (H.tw 70 rfl) (by decide) (argsL := [(.ref a), (.ref nm)]) (rest := []) rfl (lenOf pd27 rfl) rfl (W := 0) (Nat.le_of_eq rfl) ((con_rwf G H a nm cs h1 w3.old S hk).pay w3 (H.tw 70 rfl) (H.tw 2 rfl) (by decide) (by decide)) (by decide) (by decide) rfl fun vm4 T4 h4 v4 w4 q4 => ?_
  obtain ⟨rfl, rfl⟩ := q4
  show Go _ _ _ _ (T4.setTop (mkF X.m 37 #[.val (.ref a), .val (.ref nm), .val (.int mx)] []))
  refine w4.aloadN (q := 38) d25_37 rfl rfl rfl ?_
  refine w4.iloadN (q := 39) d25_38 rfl rfl ?_
  refine w4.i2l (q := 40) d25_39 rfl ?_
  refine w4.callS (q := 43) d25_40 (H.tw 124 rfl) (H.tw 125 rfl) (H.tw 73 rfl) (H.tw 126 rfl) (by decide) (argsL := [(.ref a), (.long mx.toInt64)]) (rest := []) rfl (lenOf pd28 rfl) rfl (W := 0) (Nat.le_of_eq rfl) ((con_io G H a mx.toInt64 cs h1 w4.old S hm).pay w4 (H.tw 126 rfl) (H.tw 73 rfl) (by decide) (by decide)) (by decide) (by decide) rfl fun vm5 T5 h5 v5 w5 q5 => ?_
  obtain ⟨_, rfl, rfl, rfl⟩ := q5
  show Go _ _ _ _ (T5.setTop (mkF X.m 43 #[.val (.ref a), .val (.ref nm), .val (.int mx)] [(.int (0 : Int32))]))
  refine w5.ifY (q := 65) d25_43 ((if0 _ _).trans (teq rfl).1) (by decide) (by decide) ?_
  exact w5.retV d25_65 rfl (by decide) (by decide) ⟨rfl, E1⟩
theorem d29_0 : decode prog_22_method_5_code 0 = .ok (.aload_n 0, 1) := by decide +kernel
theorem d29_1 : decode prog_22_method_5_code 1 = .ok (.ldc 38, 2) := by decide +kernel
theorem d29_3 : decode prog_22_method_5_code 3 = .ok (.sipush 2048, 3) := by decide +kernel
theorem d29_6 : decode prog_22_method_5_code 6 = .ok (.invokestatic 15, 3) := by decide +kernel
theorem pd30 : parseMethodDescriptor "(Ljava/lang/String;Ljava/lang/String;I)V" = some ⟨[(.object "java/lang/String"), (.object "java/lang/String"), .int], none⟩ := by decide +kernel
theorem d29_9 : decode prog_22_method_5_code 9 = .ok (.return_, 1) := by decide +kernel
set_option maxRecDepth 65536 in
set_option maxHeartbeats 40000000 in
theorem con_rpn (G : Gx) (H : Hyp G) (a : Nat) (cs : List Int32) (h : Heap) (ho : Old G.Z G.n0 h) (S : StrAt G.Z h a 0 cs) (hk : OkS cs) :
    Con G (⟨"com/example/versioned_table/versionedtable/RecordKey", "requirePartition", "(Ljava/lang/String;)V"⟩ : MethodName) prog_22_method_5_code 1 none [] ({ frames := 7, cells := 3, slots := 41, locals := 3088 } : Room) #[(.ref a)] h (nQ fun h' => Ext h h') := by
  refine Con.intro H.el ho (plainFor_of_name pn21) (Ls := #[.val (.ref a)]) (fun m => by first | (simp [entryFrame, mkF, argsToLocals, Value.category]; done) | rfl) ?_
  intro X vm T w
  refine w.aloadN (q := 1) d29_0 rfl rfl rfl ?_
  refine w.ldcO (q := 3) (sz := 36) d29_1 H.wd (H.tw 49 rfl) H.sa (by decide) (by decide) (by decide) (by decide) rfl fun vm1 T1 h1 a1 w1 X1 ch1 => ?_
  have sz1 : h.size ≤ h1.size := X1.1
  refine w1.sipush (q := 6) (2048 : Int32) d29_3 rfl rfl ?_
  refine w1.callS (q := 9) d29_6 (H.tw 52 rfl) (H.tw 53 rfl) (H.tw 2 rfl) (H.tw 54 rfl) (by decide) (argsL := [(.ref a), (.ref a1), (.int (2048 : Int32))]) (rest := []) rfl (lenOf pd30 rfl) rfl (W := 0) (Nat.le_of_eq rfl) ((con_rp G H a a1 (2048 : Int32) cs h1 w1.old (S.ext X1) hk (ok_mx1 hk)).pay w1 (H.tw 54 rfl) (H.tw 2 rfl) (by decide) (by decide)) (by decide) (by decide) rfl fun vm2 T2 h2 v2 w2 q2 => ?_
  obtain ⟨rfl, X2⟩ := q2
  show Go _ _ _ _ (T2.setTop (mkF X.m 9 #[.val (.ref a)] []))
  exact w2.retV d29_9 rfl (by decide) (by decide) ⟨rfl, xtr X1 X2⟩
theorem d31_0 : decode prog_22_method_1_code 0 = .ok (.aload_n 0, 1) := by decide +kernel
theorem d31_1 : decode prog_22_method_1_code 1 = .ok (.invokespecial 1, 3) := by decide +kernel
theorem pd32 : parseMethodDescriptor "()V" = some ⟨[], none⟩ := by decide +kernel
theorem d31_4 : decode prog_22_method_1_code 4 = .ok (.aload_n 1, 1) := by decide +kernel
theorem d31_5 : decode prog_22_method_1_code 5 = .ok (.invokestatic 7, 3) := by decide +kernel
theorem pd33 : parseMethodDescriptor "(Ljava/lang/String;)V" = some ⟨[(.object "java/lang/String")], none⟩ := by decide +kernel
theorem d31_8 : decode prog_22_method_1_code 8 = .ok (.aload_n 2, 1) := by decide +kernel
theorem d31_9 : decode prog_22_method_1_code 9 = .ok (.ldc 13, 2) := by decide +kernel
theorem d31_11 : decode prog_22_method_1_code 11 = .ok (.sipush 1024, 3) := by decide +kernel
theorem d31_14 : decode prog_22_method_1_code 14 = .ok (.invokestatic 15, 3) := by decide +kernel
theorem d31_17 : decode prog_22_method_1_code 17 = .ok (.aload_n 0, 1) := by decide +kernel
theorem d31_18 : decode prog_22_method_1_code 18 = .ok (.aload_n 1, 1) := by decide +kernel
theorem d31_19 : decode prog_22_method_1_code 19 = .ok (.putfield 19, 3) := by decide +kernel
theorem d31_22 : decode prog_22_method_1_code 22 = .ok (.aload_n 0, 1) := by decide +kernel
theorem d31_23 : decode prog_22_method_1_code 23 = .ok (.aload_n 2, 1) := by decide +kernel
theorem d31_24 : decode prog_22_method_1_code 24 = .ok (.putfield 23, 3) := by decide +kernel
theorem d31_27 : decode prog_22_method_1_code 27 = .ok (.return_, 1) := by decide +kernel
set_option maxRecDepth 65536 in
set_option maxHeartbeats 40000000 in
theorem con_rk (G : Gx) (H : Hyp G) (a p s : Nat) (cs ds : List Int32) (h : Heap) (ho : Old G.Z G.n0 h) (E : Exa G.Z h a "com/example/versioned_table/versionedtable/RecordKey") (F0 : Fld G.Z h a "com/example/versioned_table/versionedtable/RecordKey" "partition" "Ljava/lang/String;" .null) (F1 : Fld G.Z h a "com/example/versioned_table/versionedtable/RecordKey" "sort" "Ljava/lang/String;" .null) (g : G.n0 ≤ a) (S : StrAt G.Z h p 0 cs) (S2 : StrAt G.Z h s 0 ds) (hk : OkS cs) (hk2 : OkS ds) :
    Con G (⟨"com/example/versioned_table/versionedtable/RecordKey", "<init>", "(Ljava/lang/String;Ljava/lang/String;)V"⟩ : MethodName) prog_22_method_1_code 3 none [] ({ frames := 8, cells := 6, slots := 62, locals := 3100 } : Room) #[(.ref a), (.ref p), (.ref s)] h (nQ fun h' => Keep h h' [a] ∧ Exa G.Z h' a "com/example/versioned_table/versionedtable/RecordKey" ∧ Fld G.Z h' a "com/example/versioned_table/versionedtable/RecordKey" "partition" "Ljava/lang/String;" (.ref p) ∧ Fld G.Z h' a "com/example/versioned_table/versionedtable/RecordKey" "sort" "Ljava/lang/String;" (.ref s)) := by
  refine Con.intro H.el ho (plainFor_of_name pn21) (Ls := #[.val (.ref a), .val (.ref p), .val (.ref s)]) (fun m => by first | (simp [entryFrame, mkF, argsToLocals, Value.category]; done) | rfl) ?_
  intro X vm T w
  refine w.aloadN (q := 1) d31_0 rfl rfl rfl ?_
  refine w.callC (q := 4) d31_1 rfl (H.tw 40 rfl) (H.tw 41 rfl) (H.tw 44 rfl) (by decide) (a := a) (argsL := []) (rest := []) rfl (lenOf pd32 rfl) rfl (W := 0) (Nat.le_of_eq rfl) ((con_recinit G H a h ho).pay w (H.tw 44 rfl) (H.tw 43 rfl) (by decide) (by decide)) (by decide) (by decide) rfl fun vm1 T1 h1 v1 w1 q1 => ?_
  obtain ⟨rfl, rfl⟩ := q1
  show Go _ _ _ _ (T1.setTop (mkF X.m 4 #[.val (.ref a), .val (.ref p), .val (.ref s)] []))
  refine w1.aloadN (q := 5) d31_4 rfl rfl rfl ?_
  refine w1.callS (q := 8) d31_5 (H.tw 46 rfl) (H.tw 47 rfl) (H.tw 2 rfl) (H.tw 48 rfl) (by decide) (argsL := [(.ref p)]) (rest := []) rfl (lenOf pd33 rfl) rfl (W := 0) (Nat.le_of_eq rfl) ((con_rpn G H p cs h w1.old S hk).pay w1 (H.tw 48 rfl) (H.tw 2 rfl) (by decide) (by decide)) (by decide) (by decide) rfl fun vm2 T2 h2 v2 w2 q2 => ?_
  obtain ⟨rfl, X2⟩ := q2
  show Go _ _ _ _ (T2.setTop (mkF X.m 8 #[.val (.ref a), .val (.ref p), .val (.ref s)] []))
  refine w2.aloadN (q := 9) d31_8 rfl rfl rfl ?_
  refine w2.ldcO (q := 11) (sz := 16) d31_9 H.wd (H.tw 131 rfl) H.sa (by decide) (by decide) (by decide) (by decide) rfl fun vm3 T3 h3 a3 w3 X3 ch3 => ?_
  have sz3 : h2.size ≤ h3.size := X3.1
  refine w3.sipush (q := 14) (1024 : Int32) d31_11 rfl rfl ?_
  refine w3.callS (q := 17) d31_14 (H.tw 52 rfl) (H.tw 53 rfl) (H.tw 2 rfl) (H.tw 54 rfl) (by decide) (argsL := [(.ref s), (.ref a3), (.int (1024 : Int32))]) (rest := []) rfl (lenOf pd30 rfl) rfl (W := 0) (Nat.le_of_eq rfl) ((con_rp G H s a3 (1024 : Int32) ds h3 w3.old ((S2.ext X2).ext X3) hk2 (ok_mx2 hk2)).pay w3 (H.tw 54 rfl) (H.tw 2 rfl) (by decide) (by decide)) (by decide) (by decide) rfl fun vm4 T4 h4 v4 w4 q4 => ?_
  obtain ⟨rfl, X4⟩ := q4
  show Go _ _ _ _ (T4.setTop (mkF X.m 17 #[.val (.ref a), .val (.ref p), .val (.ref s)] []))
  have XX := xtr (xtr X2 X3) X4
  replace E := E.ext XX
  replace F0 := F0.ext XX
  replace F1 := F1.ext XX
  refine w4.aloadN (q := 18) d31_17 rfl rfl rfl ?_
  refine w4.aloadN (q := 19) d31_18 rfl rfl rfl ?_
  refine w4.putF (q := 22) d31_19 (H.tw 132 rfl) Via.refl F0 E (Or.inr ⟨(H.tw 133 rfl), rfl, rfl⟩) (H.tw 1 rfl) (ty := (.object "java/lang/String")) (by decide) rfl rfl g (w4.sfE E (by decide) (by decide)) rfl fun T5 h5 w5 W5 sf5 => ?_
  have sz5 : h4.size ≤ h5.size := (Keep.of_wr W5).1
  replace E := E.wr W5
  replace F1 := F1.other W5 (Or.inr (slot_ne (Or.inr (H.tw 135 rfl)) (Or.inr (H.tw 133 rfl)) (by decide) (t := (.object "java/lang/String")) (t' := (.object "java/lang/String")) (by decide) (by decide)))
  replace F0 := F0.same W5
  refine w5.aloadN (q := 23) d31_22 rfl rfl rfl ?_
  refine w5.aloadN (q := 24) d31_23 rfl rfl rfl ?_
  refine w5.putF (q := 27) d31_24 (H.tw 134 rfl) Via.refl F1 E (Or.inr ⟨(H.tw 135 rfl), rfl, rfl⟩) (H.tw 1 rfl) (ty := (.object "java/lang/String")) (by decide) rfl rfl g (w5.sfE E (by decide) (by decide)) rfl fun T6 h6 w6 W6 sf6 => ?_
  have sz6 : h5.size ≤ h6.size := (Keep.of_wr W6).1
  replace E := E.wr W6
  replace F0 := F0.other W6 (Or.inr (slot_ne (Or.inr (H.tw 133 rfl)) (Or.inr (H.tw 135 rfl)) (by decide) (t := (.object "java/lang/String")) (t' := (.object "java/lang/String")) (by decide) (by decide)))
  replace F1 := F1.same W6
  exact w6.retV d31_27 rfl (by decide) (by decide) ⟨rfl, ((((Keep.refl h [a]).ext XX).wr W5 (Or.inl (List.mem_singleton.mpr rfl))).wr W6 (Or.inl (List.mem_singleton.mpr rfl))), E, F0, F1⟩
theorem d34_0 : decode method_3_code 0 = .ok (.iload_n 0, 1) := by decide +kernel
theorem d34_1 : decode method_3_code 1 = .ok (.iload_n 2, 1) := by decide +kernel
theorem d34_2 : decode method_3_code 2 = .ok (.if_icmp .eq 5, 3) := by decide +kernel
theorem d34_7 : decode method_3_code 7 = .ok (.iload_n 1, 1) := by decide +kernel
theorem d34_8 : decode method_3_code 8 = .ok (.sipush 255, 3) := by decide +kernel
theorem d34_11 : decode method_3_code 11 = .ok (.iand, 1) := by decide +kernel
theorem d34_12 : decode method_3_code 12 = .ok (.iload_n 3, 1) := by decide +kernel
theorem d34_13 : decode method_3_code 13 = .ok (.sipush 255, 3) := by decide +kernel
theorem d34_16 : decode method_3_code 16 = .ok (.iand, 1) := by decide +kernel
theorem d34_17 : decode method_3_code 17 = .ok (.if_icmp .eq 5, 3) := by decide +kernel
theorem d34_22 : decode method_3_code 22 = .ok (.iload_n 0, 1) := by decide +kernel
theorem d34_23 : decode method_3_code 23 = .ok (.iconst 1, 1) := by decide +kernel
theorem d34_24 : decode method_3_code 24 = .ok (.if_icmp .ne 5, 3) := by decide +kernel
theorem d34_27 : decode method_3_code 27 = .ok (.iconst 1, 1) := by decide +kernel
theorem d34_28 : decode method_3_code 28 = .ok (.ireturn, 1) := by decide +kernel
theorem d34_29 : decode method_3_code 29 = .ok (.iload_n 1, 1) := by decide +kernel
theorem d34_30 : decode method_3_code 30 = .ok (.bipush 8, 2) := by decide +kernel
theorem d34_32 : decode method_3_code 32 = .ok (.iushr, 1) := by decide +kernel
theorem d34_33 : decode method_3_code 33 = .ok (.sipush 255, 3) := by decide +kernel
theorem d34_36 : decode method_3_code 36 = .ok (.iand, 1) := by decide +kernel
theorem d34_37 : decode method_3_code 37 = .ok (.iload_n 3, 1) := by decide +kernel
theorem d34_38 : decode method_3_code 38 = .ok (.bipush 8, 2) := by decide +kernel
theorem d34_40 : decode method_3_code 40 = .ok (.iushr, 1) := by decide +kernel
theorem d34_41 : decode method_3_code 41 = .ok (.sipush 255, 3) := by decide +kernel
theorem d34_44 : decode method_3_code 44 = .ok (.iand, 1) := by decide +kernel
theorem d34_45 : decode method_3_code 45 = .ok (.if_icmp .ne 7, 3) := by decide +kernel
theorem d34_48 : decode method_3_code 48 = .ok (.iconst 1, 1) := by decide +kernel
theorem d34_49 : decode method_3_code 49 = .ok (.goto 4, 3) := by decide +kernel
theorem d34_53 : decode method_3_code 53 = .ok (.ireturn, 1) := by decide +kernel
theorem d34_52 : decode method_3_code 52 = .ok (.iconst 0, 1) := by decide +kernel
theorem d34_20 : decode method_3_code 20 = .ok (.iconst 0, 1) := by decide +kernel
theorem d34_21 : decode method_3_code 21 = .ok (.ireturn, 1) := by decide +kernel
theorem d34_5 : decode method_3_code 5 = .ok (.iconst 0, 1) := by decide +kernel
theorem d34_6 : decode method_3_code 6 = .ok (.ireturn, 1) := by decide +kernel
set_option maxRecDepth 65536 in
set_option maxHeartbeats 40000000 in
theorem con_same (G : Gx) (H : Hyp G) (la ca lb cb : Int32) (h : Heap) (ho : Old G.Z G.n0 h) (ha : la = 1 ∨ la = 2) (hb : lb = 1 ∨ lb = 2) :
    Con G (⟨"com/example/versioned_table/versionedtable/RecordKeyEqualsPinLaw", "same", "(IIII)Z"⟩ : MethodName) method_3_code 4 (some .boolean) [] ({ frames := 0, cells := 0, slots := 0, locals := 0 } : Room) #[(.int la), (.int ca), (.int lb), (.int cb)] h (vQ fun v h' => v = .int (if strOf la ca = strOf lb cb then 1 else 0) ∧ h = h') := by
  refine Con.intro H.el ho (plainFor_of_name pn2) (Ls := #[.val (.int la), .val (.int ca), .val (.int lb), .val (.int cb)]) (fun m => by first | (simp [entryFrame, mkF, argsToLocals, Value.category]; done) | rfl) ?_
  intro X vm T w
  refine w.iloadN (q := 1) d34_0 rfl rfl ?_
  refine w.iloadN (q := 2) d34_1 rfl rfl ?_
  by_cases k0 : la = lb
  ·
    refine w.icY (q := 7) d34_2 ((teq k0).1) (by decide) (by decide) ?_
    refine w.iloadN (q := 8) d34_7 rfl rfl ?_
    refine w.sipush (q := 11) (255 : Int32) d34_8 rfl rfl ?_
    refine w.iand (q := 12) d34_11 rfl ?_
    refine w.iloadN (q := 13) d34_12 rfl rfl ?_
    refine w.sipush (q := 16) (255 : Int32) d34_13 rfl rfl ?_
    refine w.iand (q := 17) d34_16 rfl ?_
    by_cases k1 : (ca &&& (255 : Int32)) = (cb &&& (255 : Int32))
    ·
      refine w.icY (q := 22) d34_17 ((teq k1).1) (by decide) (by decide) ?_
      refine w.iloadN (q := 23) d34_22 rfl rfl ?_
      refine w.iconst (q := 24) (1 : Int32) d34_23 rfl rfl ?_
      by_cases k2 : la = (1 : Int32)
      ·
        refine w.icN (q := 27) d34_24 ((teq k2).2) rfl ?_
        refine w.iconst (q := 28) (1 : Int32) d34_27 rfl rfl ?_
        exact w.retZ d34_28 (t := .boolean) rfl (by decide) rfl (by decide) (by decide) ⟨_, rfl, ⟨by rw [if_pos (same_1 k0 k1 k2)], rfl⟩⟩
      ·
        refine w.icY (q := 29) d34_24 ((feq k2).2) (by decide) (by decide) ?_
        refine w.iloadN (q := 30) d34_29 rfl rfl ?_
        refine w.bipush (q := 32) (8 : Int32) d34_30 rfl rfl ?_
        refine w.iushr (q := 33) d34_32 rfl ?_
        refine w.sipush (q := 36) (255 : Int32) d34_33 rfl rfl ?_
        refine w.iand (q := 37) d34_36 rfl ?_
        refine w.iloadN (q := 38) d34_37 rfl rfl ?_
        refine w.bipush (q := 40) (8 : Int32) d34_38 rfl rfl ?_
        refine w.iushr (q := 41) d34_40 rfl ?_
        refine w.sipush (q := 44) (255 : Int32) d34_41 rfl rfl ?_
        refine w.iand (q := 45) d34_44 rfl ?_
        by_cases k3 : (((ca.toUInt32 >>> ((8 : Int32) &&& 31).toUInt32).toInt32) &&& (255 : Int32)) = (((cb.toUInt32 >>> ((8 : Int32) &&& 31).toUInt32).toInt32) &&& (255 : Int32))
        ·
          refine w.icN (q := 48) d34_45 ((teq k3).2) rfl ?_
          refine w.iconst (q := 49) (1 : Int32) d34_48 rfl rfl ?_
          refine w.goto (q := 53) d34_49 (by decide) (by decide) ?_
          exact w.retZ d34_53 (t := .boolean) rfl (by decide) rfl (by decide) (by decide) ⟨_, rfl, ⟨by rw [if_pos (same_2 k0 k1 k2 k3)], rfl⟩⟩
        ·
          refine w.icY (q := 52) d34_45 ((feq k3).2) (by decide) (by decide) ?_
          refine w.iconst (q := 53) (0 : Int32) d34_52 rfl rfl ?_
          exact w.retZ d34_53 (t := .boolean) rfl (by decide) rfl (by decide) (by decide) ⟨_, rfl, ⟨by rw [if_neg (same_3 k0 k2 k3)], rfl⟩⟩
    ·
      refine w.icN (q := 20) d34_17 ((feq k1).1) rfl ?_
      refine w.iconst (q := 21) (0 : Int32) d34_20 rfl rfl ?_
      exact w.retZ d34_21 (t := .boolean) rfl (by decide) rfl (by decide) (by decide) ⟨_, rfl, ⟨by rw [if_neg (same_4 k1)], rfl⟩⟩
  ·
    refine w.icN (q := 5) d34_2 ((feq k0).1) rfl ?_
    refine w.iconst (q := 6) (0 : Int32) d34_5 rfl rfl ?_
    exact w.retZ d34_6 (t := .boolean) rfl (by decide) rfl (by decide) (by decide) ⟨_, rfl, ⟨by rw [if_neg (same_5 ha hb k0)], rfl⟩⟩
theorem d35_0 : decode prog_22_method_3_code 0 = .ok (.aload_n 1, 1) := by decide +kernel
theorem d35_1 : decode prog_22_method_3_code 1 = .ok (.instanceof 8, 3) := by decide +kernel
theorem d35_4 : decode prog_22_method_3_code 4 = .ok (.ifCond .eq 40, 3) := by decide +kernel
theorem d35_44 : decode prog_22_method_3_code 44 = .ok (.iconst 0, 1) := by decide +kernel
theorem d35_45 : decode prog_22_method_3_code 45 = .ok (.ireturn, 1) := by decide +kernel
set_option maxRecDepth 65536 in
set_option maxHeartbeats 40000000 in
theorem con_eqN (G : Gx) (H : Hyp G) (a : Nat) (h : Heap) (ho : Old G.Z G.n0 h)  :
    Con G (⟨"com/example/versioned_table/versionedtable/RecordKey", "equals", "(Ljava/lang/Object;)Z"⟩ : MethodName) prog_22_method_3_code 3 (some .boolean) [] ({ frames := 0, cells := 0, slots := 0, locals := 0 } : Room) #[(.ref a), .null] h (vQ fun v h' => v = .int 0 ∧ h = h') := by
  refine Con.intro H.el ho (plainFor_of_name pn21) (Ls := #[.val (.ref a), .val .null, .unset]) (fun m => by first | (simp [entryFrame, mkF, argsToLocals, Value.category]; done) | rfl) ?_
  intro X vm T w
  refine w.aloadN (q := 1) d35_0 rfl rfl rfl ?_
  refine w.instNull (q := 4) d35_1 rfl ?_
  refine w.ifY (q := 44) d35_4 ((if0 _ _).trans (teq rfl).1) (by decide) (by decide) ?_
  refine w.iconst (q := 45) (0 : Int32) d35_44 rfl rfl ?_
  exact w.retZ d35_45 (t := .boolean) rfl (by decide) rfl (by decide) (by decide) ⟨_, rfl, ⟨rfl, rfl⟩⟩
set_option maxRecDepth 65536 in
set_option maxHeartbeats 40000000 in
theorem con_eqS (G : Gx) (H : Hyp G) (a b : Nat) (h : Heap) (ho : Old G.Z G.n0 h) (E : Exa G.Z h b "java/lang/String") :
    Con G (⟨"com/example/versioned_table/versionedtable/RecordKey", "equals", "(Ljava/lang/Object;)Z"⟩ : MethodName) prog_22_method_3_code 3 (some .boolean) [] ({ frames := 0, cells := 0, slots := 0, locals := 0 } : Room) #[(.ref a), (.ref b)] h (vQ fun v h' => v = .int 0 ∧ h = h') := by
  refine Con.intro H.el ho (plainFor_of_name pn21) (Ls := #[.val (.ref a), .val (.ref b), .unset]) (fun m => by first | (simp [entryFrame, mkF, argsToLocals, Value.category]; done) | rfl) ?_
  intro X vm T w
  refine w.aloadN (q := 1) d35_0 rfl rfl rfl ?_
  refine w.instNo (q := 4) d35_1 (H.tw 144 rfl) E (assign_no (H.tw 154 rfl) (H.tw 155 rfl) (H.tw 1 rfl) (by decide) (by decide)) rfl fun T1 w1 => ?_
  refine w1.ifY (q := 44) d35_4 ((if0 _ _).trans (teq rfl).1) (by decide) (by decide) ?_
  refine w1.iconst (q := 45) (0 : Int32) d35_44 rfl rfl ?_
  exact w1.retZ d35_45 (t := .boolean) rfl (by decide) rfl (by decide) (by decide) ⟨_, rfl, ⟨rfl, rfl⟩⟩
theorem d35_7 : decode prog_22_method_3_code 7 = .ok (.aload_n 1, 1) := by decide +kernel
theorem d35_8 : decode prog_22_method_3_code 8 = .ok (.checkcast 8, 3) := by decide +kernel
theorem d35_11 : decode prog_22_method_3_code 11 = .ok (.astore_n 2, 1) := by decide +kernel
theorem d35_12 : decode prog_22_method_3_code 12 = .ok (.aload_n 0, 1) := by decide +kernel
theorem d35_13 : decode prog_22_method_3_code 13 = .ok (.getfield 19, 3) := by decide +kernel
theorem d35_16 : decode prog_22_method_3_code 16 = .ok (.aload_n 2, 1) := by decide +kernel
theorem d35_17 : decode prog_22_method_3_code 17 = .ok (.getfield 19, 3) := by decide +kernel
theorem d35_20 : decode prog_22_method_3_code 20 = .ok (.invokevirtual 28, 3) := by decide +kernel
theorem pd36 : parseMethodDescriptor "(Ljava/lang/Object;)Z" = some ⟨[(.object "java/lang/Object")], some .boolean⟩ := by decide +kernel
theorem d35_23 : decode prog_22_method_3_code 23 = .ok (.ifCond .eq 21, 3) := by decide +kernel
theorem d35_26 : decode prog_22_method_3_code 26 = .ok (.aload_n 0, 1) := by decide +kernel
theorem d35_27 : decode prog_22_method_3_code 27 = .ok (.getfield 23, 3) := by decide +kernel
theorem d35_30 : decode prog_22_method_3_code 30 = .ok (.aload_n 2, 1) := by decide +kernel
theorem d35_31 : decode prog_22_method_3_code 31 = .ok (.getfield 23, 3) := by decide +kernel
theorem d35_34 : decode prog_22_method_3_code 34 = .ok (.invokevirtual 28, 3) := by decide +kernel
theorem d35_37 : decode prog_22_method_3_code 37 = .ok (.ifCond .eq 7, 3) := by decide +kernel
theorem d35_40 : decode prog_22_method_3_code 40 = .ok (.iconst 1, 1) := by decide +kernel
theorem d35_41 : decode prog_22_method_3_code 41 = .ok (.goto 4, 3) := by decide +kernel
set_option maxRecDepth 65536 in
set_option maxHeartbeats 40000000 in
theorem con_eqK (G : Gx) (H : Hyp G) (a p s b p' s' : Nat) (cs ds cs' ds' : List Int32) (h : Heap) (ho : Old G.Z G.n0 h) (Ea : Exa G.Z h a "com/example/versioned_table/versionedtable/RecordKey") (Pa : Fld G.Z h a "com/example/versioned_table/versionedtable/RecordKey" "partition" "Ljava/lang/String;" (.ref p)) (Qa : Fld G.Z h a "com/example/versioned_table/versionedtable/RecordKey" "sort" "Ljava/lang/String;" (.ref s)) (Eb : Exa G.Z h b "com/example/versioned_table/versionedtable/RecordKey") (Pb : Fld G.Z h b "com/example/versioned_table/versionedtable/RecordKey" "partition" "Ljava/lang/String;" (.ref p')) (Qb : Fld G.Z h b "com/example/versioned_table/versionedtable/RecordKey" "sort" "Ljava/lang/String;" (.ref s')) (S1 : StrAt G.Z h p 0 cs) (S2 : StrAt G.Z h s 0 ds) (S1' : StrAt G.Z h p' 0 cs') (S2' : StrAt G.Z h s' 0 ds') :
    Con G (⟨"com/example/versioned_table/versionedtable/RecordKey", "equals", "(Ljava/lang/Object;)Z"⟩ : MethodName) prog_22_method_3_code 3 (some .boolean) [] ({ frames := 2, cells := 0, slots := 0, locals := 28 } : Room) #[(.ref a), (.ref b)] h (vQ fun v h' => v = .int (if cs = cs' ∧ ds = ds' then 1 else 0) ∧ h = h') := by
  refine Con.intro H.el ho (plainFor_of_name pn21) (Ls := #[.val (.ref a), .val (.ref b), .unset]) (fun m => by first | (simp [entryFrame, mkF, argsToLocals, Value.category]; done) | rfl) ?_
  intro X vm T w
  refine w.aloadN (q := 1) d35_0 rfl rfl rfl ?_
  refine w.instY (q := 4) d35_1 (H.tw 144 rfl) (Ins.self Eb) rfl fun T1 w1 => ?_
  refine w1.ifN (q := 7) d35_4 ((if0 _ _).trans (feq (by decide)).1) rfl ?_
  refine w1.aloadN (q := 8) d35_7 rfl rfl rfl ?_
  refine w1.castY (q := 11) d35_8 (H.tw 144 rfl) (Ins.self Eb) rfl fun T2 w2 => ?_
  refine w2.astoreN (q := 12) (L2 := #[.val (.ref a), .val (.ref b), .val (.ref b)]) d35_11 rfl rfl rfl ?_
  refine w2.aloadN (q := 13) d35_12 rfl rfl rfl ?_
  refine w2.getF (q := 16) d35_13 (H.tw 132 rfl) Via.refl Pa rfl fun T3 w3 => ?_
  refine w3.aloadN (q := 17) d35_16 rfl rfl rfl ?_
  refine w3.getF (q := 20) d35_17 (H.tw 132 rfl) Via.refl Pb rfl fun T4 w4 => ?_
  refine w4.callV (q := 23) d35_20 (H.tw 145 rfl) (H.tw 146 rfl) (notFace_of_selects (C := "java/lang/String") (args := G.a0) (H.tw 148 rfl)) (H.tw 148 rfl) (H.tw 147 rfl) (by decide) S1.exa (argsL := [(.ref p')]) (rest := []) rfl (lenOf pd36 rfl) rfl (W := 0) (Nat.le_of_eq rfl) (pay_eq w4 H.weq (H.tw 8 rfl) H.cz S1 S1' (by decide) (by decide)) (by decide) (by decide) rfl fun vm5 T5 h5 v5 w5 q5 => ?_
  obtain ⟨_, rfl, rfl, rfl⟩ := q5
  show Go _ _ _ _ (T5.setTop (mkF X.m 23 #[.val (.ref a), .val (.ref b), .val (.ref b)] [(.int (if cs = cs' then 1 else 0))]))
  by_cases c1 : (if cs = cs' then 1 else 0) = (0 : Int32)
  ·
    refine w5.ifY (q := 44) d35_23 ((if0 _ _).trans (teq c1).1) (by decide) (by decide) ?_
    refine w5.iconst (q := 45) (0 : Int32) d35_44 rfl rfl ?_
    exact w5.retZ d35_45 (t := .boolean) rfl (by decide) rfl (by decide) (by decide) ⟨_, rfl, ⟨by rw [if_neg (fun q => ite_no c1 q.1)], rfl⟩⟩
  ·
    refine w5.ifN (q := 26) d35_23 ((if0 _ _).trans (feq c1).1) rfl ?_
    refine w5.aloadN (q := 27) d35_26 rfl rfl rfl ?_
    refine w5.getF (q := 30) d35_27 (H.tw 134 rfl) Via.refl Qa rfl fun T6 w6 => ?_
    refine w6.aloadN (q := 31) d35_30 rfl rfl rfl ?_
    refine w6.getF (q := 34) d35_31 (H.tw 134 rfl) Via.refl Qb rfl fun T7 w7 => ?_
    refine w7.callV (q := 37) d35_34 (H.tw 145 rfl) (H.tw 146 rfl) (notFace_of_selects (C := "java/lang/String") (args := G.a0) (H.tw 148 rfl)) (H.tw 148 rfl) (H.tw 147 rfl) (by decide) S2.exa (argsL := [(.ref s')]) (rest := []) rfl (lenOf pd36 rfl) rfl (W := 0) (Nat.le_of_eq rfl) (pay_eq w7 H.weq (H.tw 8 rfl) H.cz S2 S2' (by decide) (by decide)) (by decide) (by decide) rfl fun vm8 T8 h8 v8 w8 q8 => ?_
    obtain ⟨_, rfl, rfl, rfl⟩ := q8
    show Go _ _ _ _ (T8.setTop (mkF X.m 37 #[.val (.ref a), .val (.ref b), .val (.ref b)] [(.int (if ds = ds' then 1 else 0))]))
    by_cases c2 : (if ds = ds' then 1 else 0) = (0 : Int32)
    ·
      refine w8.ifY (q := 44) d35_37 ((if0 _ _).trans (teq c2).1) (by decide) (by decide) ?_
      refine w8.iconst (q := 45) (0 : Int32) d35_44 rfl rfl ?_
      exact w8.retZ d35_45 (t := .boolean) rfl (by decide) rfl (by decide) (by decide) ⟨_, rfl, ⟨by rw [if_neg (fun q => ite_no c2 q.2)], rfl⟩⟩
    ·
      refine w8.ifN (q := 40) d35_37 ((if0 _ _).trans (feq c2).1) rfl ?_
      refine w8.iconst (q := 41) (1 : Int32) d35_40 rfl rfl ?_
      refine w8.goto (q := 45) d35_41 (by decide) (by decide) ?_
      exact w8.retZ d35_45 (t := .boolean) rfl (by decide) rfl (by decide) (by decide) ⟨_, rfl, ⟨by rw [if_pos ⟨ite_yes c1, ite_yes c2⟩], rfl⟩⟩
theorem pd37 : parseMethodDescriptor "(II)Ljava/lang/String;" = some ⟨[.int, .int], some (.object "java/lang/String")⟩ := by decide +kernel
theorem pd38 : parseMethodDescriptor "(IIII)Z" = some ⟨[.int, .int, .int, .int], some .boolean⟩ := by decide +kernel
set_option maxRecDepth 65536 in
set_option maxHeartbeats 40000000 in
theorem con_law (G : Gx) (H : Hyp G) (p s q t mode : Int32) (h : Heap) (ho : Old G.Z G.n0 h)  :
    Con G x code maxLocals ret tables_1 room_1 #[(.int p), (.int s), (.int q), (.int t), (.int mode)] h (vQ fun v h' => v = .int 1) := by
  refine Con.intro H.el ho (plainFor_of_name pn2) (Ls := #[.val (.int p), .val (.int s), .val (.int q), .val (.int t), .val (.int mode), .unset, .unset, .unset, .unset, .unset, .unset, .unset, .unset, .unset, .unset]) (fun m => by first | (simp [entryFrame, mkF, argsToLocals, Value.category, maxLocals]; done) | rfl) ?_
  intro X vm T w
  refine w.iconst (q := 1) (1 : Int32) at_0 rfl rfl ?_
  refine w.iload (q := 3) at_1 rfl rfl ?_
  refine w.iconst (q := 4) (1 : Int32) at_3 rfl rfl ?_
  refine w.iand (q := 5) at_4 rfl ?_
  refine w.iadd (q := 6) at_5 rfl ?_
  refine w.istore (q := 8) (L2 := #[.val (.int p), .val (.int s), .val (.int q), .val (.int t), .val (.int mode), .val (.int ((1 : Int32) + (mode &&& (1 : Int32)))), .unset, .unset, .unset, .unset, .unset, .unset, .unset, .unset, .unset]) at_6 rfl rfl ?_
  refine w.iconst (q := 9) (1 : Int32) at_8 rfl rfl ?_
  refine w.iload (q := 11) at_9 rfl rfl ?_
  refine w.iconst (q := 12) (1 : Int32) at_11 rfl rfl ?_
  refine w.iushr (q := 13) at_12 rfl ?_
  refine w.iconst (q := 14) (1 : Int32) at_13 rfl rfl ?_
  refine w.iand (q := 15) at_14 rfl ?_
  refine w.iadd (q := 16) at_15 rfl ?_
  refine w.istore (q := 18) (L2 := #[.val (.int p), .val (.int s), .val (.int q), .val (.int t), .val (.int mode), .val (.int ((1 : Int32) + (mode &&& (1 : Int32)))), .val (.int ((1 : Int32) + (((mode.toUInt32 >>> ((1 : Int32) &&& 31).toUInt32).toInt32) &&& (1 : Int32)))), .unset, .unset, .unset, .unset, .unset, .unset, .unset, .unset]) at_16 rfl rfl ?_
  refine w.iconst (q := 19) (1 : Int32) at_18 rfl rfl ?_
  refine w.iload (q := 21) at_19 rfl rfl ?_
  refine w.iconst (q := 22) (2 : Int32) at_21 rfl rfl ?_
  refine w.iushr (q := 23) at_22 rfl ?_
  refine w.iconst (q := 24) (1 : Int32) at_23 rfl rfl ?_
  refine w.iand (q := 25) at_24 rfl ?_
  refine w.iadd (q := 26) at_25 rfl ?_
  refine w.istore (q := 28) (L2 := #[.val (.int p), .val (.int s), .val (.int q), .val (.int t), .val (.int mode), .val (.int ((1 : Int32) + (mode &&& (1 : Int32)))), .val (.int ((1 : Int32) + (((mode.toUInt32 >>> ((1 : Int32) &&& 31).toUInt32).toInt32) &&& (1 : Int32)))), .val (.int ((1 : Int32) + (((mode.toUInt32 >>> ((2 : Int32) &&& 31).toUInt32).toInt32) &&& (1 : Int32)))), .unset, .unset, .unset, .unset, .unset, .unset, .unset]) at_26 rfl rfl ?_
  refine w.iconst (q := 29) (1 : Int32) at_28 rfl rfl ?_
  refine w.iload (q := 31) at_29 rfl rfl ?_
  refine w.iconst (q := 32) (3 : Int32) at_31 rfl rfl ?_
  refine w.iushr (q := 33) at_32 rfl ?_
  refine w.iconst (q := 34) (1 : Int32) at_33 rfl rfl ?_
  refine w.iand (q := 35) at_34 rfl ?_
  refine w.iadd (q := 36) at_35 rfl ?_
  refine w.istore (q := 38) (L2 := #[.val (.int p), .val (.int s), .val (.int q), .val (.int t), .val (.int mode), .val (.int ((1 : Int32) + (mode &&& (1 : Int32)))), .val (.int ((1 : Int32) + (((mode.toUInt32 >>> ((1 : Int32) &&& 31).toUInt32).toInt32) &&& (1 : Int32)))), .val (.int ((1 : Int32) + (((mode.toUInt32 >>> ((2 : Int32) &&& 31).toUInt32).toInt32) &&& (1 : Int32)))), .val (.int ((1 : Int32) + (((mode.toUInt32 >>> ((3 : Int32) &&& 31).toUInt32).toInt32) &&& (1 : Int32)))), .unset, .unset, .unset, .unset, .unset, .unset]) at_36 rfl rfl ?_
  refine w.iload (q := 40) at_38 rfl rfl ?_
  refine w.iconst (q := 41) (4 : Int32) at_40 rfl rfl ?_
  refine w.iushr (q := 42) at_41 rfl ?_
  refine w.iconst (q := 43) (3 : Int32) at_42 rfl rfl ?_
  refine w.iand (q := 44) at_43 rfl ?_
  refine w.istore (q := 46) (L2 := #[.val (.int p), .val (.int s), .val (.int q), .val (.int t), .val (.int mode), .val (.int ((1 : Int32) + (mode &&& (1 : Int32)))), .val (.int ((1 : Int32) + (((mode.toUInt32 >>> ((1 : Int32) &&& 31).toUInt32).toInt32) &&& (1 : Int32)))), .val (.int ((1 : Int32) + (((mode.toUInt32 >>> ((2 : Int32) &&& 31).toUInt32).toInt32) &&& (1 : Int32)))), .val (.int ((1 : Int32) + (((mode.toUInt32 >>> ((3 : Int32) &&& 31).toUInt32).toInt32) &&& (1 : Int32)))), .val (.int (((mode.toUInt32 >>> ((4 : Int32) &&& 31).toUInt32).toInt32) &&& (3 : Int32))), .unset, .unset, .unset, .unset, .unset]) at_44 rfl rfl ?_
  refine w.iloadN (q := 47) at_46 rfl rfl ?_
  refine w.iloadN (q := 48) at_47 rfl rfl ?_
  refine w.ixor (q := 49) at_48 rfl ?_
  refine w.istore (q := 51) (L2 := #[.val (.int p), .val (.int s), .val (.int q), .val (.int t), .val (.int mode), .val (.int ((1 : Int32) + (mode &&& (1 : Int32)))), .val (.int ((1 : Int32) + (((mode.toUInt32 >>> ((1 : Int32) &&& 31).toUInt32).toInt32) &&& (1 : Int32)))), .val (.int ((1 : Int32) + (((mode.toUInt32 >>> ((2 : Int32) &&& 31).toUInt32).toInt32) &&& (1 : Int32)))), .val (.int ((1 : Int32) + (((mode.toUInt32 >>> ((3 : Int32) &&& 31).toUInt32).toInt32) &&& (1 : Int32)))), .val (.int (((mode.toUInt32 >>> ((4 : Int32) &&& 31).toUInt32).toInt32) &&& (3 : Int32))), .val (.int (p ^^^ q)), .unset, .unset, .unset, .unset]) at_49 rfl rfl ?_
  refine w.iloadN (q := 52) at_51 rfl rfl ?_
  refine w.iloadN (q := 53) at_52 rfl rfl ?_
  refine w.ixor (q := 54) at_53 rfl ?_
  refine w.istore (q := 56) (L2 := #[.val (.int p), .val (.int s), .val (.int q), .val (.int t), .val (.int mode), .val (.int ((1 : Int32) + (mode &&& (1 : Int32)))), .val (.int ((1 : Int32) + (((mode.toUInt32 >>> ((1 : Int32) &&& 31).toUInt32).toInt32) &&& (1 : Int32)))), .val (.int ((1 : Int32) + (((mode.toUInt32 >>> ((2 : Int32) &&& 31).toUInt32).toInt32) &&& (1 : Int32)))), .val (.int ((1 : Int32) + (((mode.toUInt32 >>> ((3 : Int32) &&& 31).toUInt32).toInt32) &&& (1 : Int32)))), .val (.int (((mode.toUInt32 >>> ((4 : Int32) &&& 31).toUInt32).toInt32) &&& (3 : Int32))), .val (.int (p ^^^ q)), .val (.int (s ^^^ t)), .unset, .unset, .unset]) at_54 rfl rfl ?_
  obtain ⟨lpa, e_lpa⟩ : ∃ z, z = ((1 : Int32) + (mode &&& (1 : Int32))) := ⟨_, rfl⟩
  rw [← e_lpa]
  obtain ⟨lsa, e_lsa⟩ : ∃ z, z = ((1 : Int32) + (((mode.toUInt32 >>> ((1 : Int32) &&& 31).toUInt32).toInt32) &&& (1 : Int32))) := ⟨_, rfl⟩
  rw [← e_lsa]
  obtain ⟨lpb, e_lpb⟩ : ∃ z, z = ((1 : Int32) + (((mode.toUInt32 >>> ((2 : Int32) &&& 31).toUInt32).toInt32) &&& (1 : Int32))) := ⟨_, rfl⟩
  rw [← e_lpb]
  obtain ⟨lsb, e_lsb⟩ : ∃ z, z = ((1 : Int32) + (((mode.toUInt32 >>> ((3 : Int32) &&& 31).toUInt32).toInt32) &&& (1 : Int32))) := ⟨_, rfl⟩
  rw [← e_lsb]
  obtain ⟨kind, e_kind⟩ : ∃ z, z = (((mode.toUInt32 >>> ((4 : Int32) &&& 31).toUInt32).toInt32) &&& (3 : Int32)) := ⟨_, rfl⟩
  rw [← e_kind]
  obtain ⟨pb, e_pb⟩ : ∃ z, z = (p ^^^ q) := ⟨_, rfl⟩
  rw [← e_pb]
  obtain ⟨sb, e_sb⟩ : ∃ z, z = (s ^^^ t) := ⟨_, rfl⟩
  rw [← e_sb]
  have o_lpa : lpa = 1 ∨ lpa = 2 := by rw [e_lpa]; exact one_two _
  have o_lsa : lsa = 1 ∨ lsa = 2 := by rw [e_lsa]; exact one_two _
  have o_lpb : lpb = 1 ∨ lpb = 2 := by rw [e_lpb]; exact one_two _
  have o_lsb : lsb = 1 ∨ lsb = 2 := by rw [e_lsb]; exact one_two _
  show Go _ _ _ _ (T.setTop (mkF X.m 56 #[.val (.int p), .val (.int s), .val (.int q), .val (.int t), .val (.int mode), .val (.int lpa), .val (.int lsa), .val (.int lpb), .val (.int lsb), .val (.int kind), .val (.int pb), .val (.int sb), .unset, .unset, .unset] []))
  refine w.newO (q := 59) at_56 (H.tw 0 rfl) (H.tw 1 rfl) (H.tw 2 rfl) (by decide) (by decide) rfl fun T1 h1 b1 e1 w1 E1 A1 D1 U1 => ?_
  have lt1 : b1 < h1.size := A1.lt
  have sz1 : h.size ≤ h1.size := E1.1
  have F1_partition : Fld G.Z h1 b1 "com/example/versioned_table/versionedtable/RecordKey" "partition" "Ljava/lang/String;" .null := D1 (Or.inr (H.tw 133 rfl)) (ty := (.object "java/lang/String")) (by decide)
  have F1_sort : Fld G.Z h1 b1 "com/example/versioned_table/versionedtable/RecordKey" "sort" "Ljava/lang/String;" .null := D1 (Or.inr (H.tw 135 rfl)) (ty := (.object "java/lang/String")) (by decide)
  have g1 : G.n0 ≤ b1 := by have := ho.2.1; have := ho.1; omega
  refine w1.dup (q := 60) at_59 rfl rfl ?_
  refine w1.iload (q := 62) at_60 rfl rfl ?_
  refine w1.iloadN (q := 63) at_62 rfl rfl ?_
  refine w1.callS (q := 66) at_63 (H.tw 3 rfl) (H.tw 4 rfl) (H.tw 5 rfl) (H.tw 6 rfl) (by decide) (argsL := [(.int lpa), (.int p)]) (rest := [(.ref b1), (.ref b1)]) rfl (lenOf pd37 rfl) rfl (W := 2) (Nat.le_of_eq rfl) ((con_str G H lpa p h1 w1.old).pay w1 (H.tw 6 rfl) (H.tw 5 rfl) (by decide) (by decide)) (by decide) (by decide) rfl fun vm2 T2 h2 v2 w2 q2 => ?_
  obtain ⟨_, rfl, pA, rfl, X2, SpA⟩ := q2
  show Go _ _ _ _ (T2.setTop (mkF X.m 66 #[.val (.int p), .val (.int s), .val (.int q), .val (.int t), .val (.int mode), .val (.int lpa), .val (.int lsa), .val (.int lpb), .val (.int lsb), .val (.int kind), .val (.int pb), .val (.int sb), .unset, .unset, .unset] [(.ref pA), (.ref b1), (.ref b1)]))
  refine w2.iload (q := 68) at_66 rfl rfl ?_
  refine w2.iloadN (q := 69) at_68 rfl rfl ?_
  refine w2.callS (q := 72) at_69 (H.tw 3 rfl) (H.tw 4 rfl) (H.tw 5 rfl) (H.tw 6 rfl) (by decide) (argsL := [(.int lsa), (.int s)]) (rest := [(.ref pA), (.ref b1), (.ref b1)]) rfl (lenOf pd37 rfl) rfl (W := 3) (Nat.le_of_eq rfl) ((con_str G H lsa s h2 w2.old).pay w2 (H.tw 6 rfl) (H.tw 5 rfl) (by decide) (by decide)) (by decide) (by decide) rfl fun vm3 T3 h3 v3 w3 q3 => ?_
  obtain ⟨_, rfl, sA, rfl, X3, SsA⟩ := q3
  show Go _ _ _ _ (T3.setTop (mkF X.m 72 #[.val (.int p), .val (.int s), .val (.int q), .val (.int t), .val (.int mode), .val (.int lpa), .val (.int lsa), .val (.int lpb), .val (.int lsb), .val (.int kind), .val (.int pb), .val (.int sb), .unset, .unset, .unset] [(.ref sA), (.ref pA), (.ref b1), (.ref b1)]))
  have sz_A := (xtr X2 X3).1
  replace SpA := SpA.ext X3
  have XXA := xtr X2 X3
  have ExA := A1.ext XXA
  refine w3.callC (q := 75) at_72 rfl (H.tw 37 rfl) (H.tw 38 rfl) (H.tw 39 rfl) (by decide) (a := b1) (argsL := [(.ref pA), (.ref sA)]) (rest := [(.ref b1)]) rfl (lenOf pd27 rfl) rfl (W := 1) (Nat.le_of_eq rfl) ((con_rk G H b1 pA sA _ _ h3 w3.old ExA (F1_partition.ext XXA) (F1_sort.ext XXA) g1 SpA SsA (okS _ _) (okS _ _)).pay w3 (H.tw 39 rfl) (H.tw 2 rfl) (by decide) (by decide)) (by decide) (by decide) rfl fun vm4 T4 h4 v4 w4 q4 => ?_
  obtain ⟨rfl, K4, EA, PA, QA⟩ := q4
  show Go _ _ _ _ (T4.setTop (mkF X.m 75 #[.val (.int p), .val (.int s), .val (.int q), .val (.int t), .val (.int mode), .val (.int lpa), .val (.int lsa), .val (.int lpb), .val (.int lsb), .val (.int kind), .val (.int pb), .val (.int sb), .unset, .unset, .unset] [(.ref b1)]))
  have sz_A2 := K4.1
  replace SpA := SpA.keepX ExA (by decide) (H.tw 1 rfl) K4
  replace SsA := SsA.keepX ExA (by decide) (H.tw 1 rfl) K4
  have XTA : Ext h h4 := xkp (xtr E1 XXA) K4 (all1 (by omega))
  refine w4.astore (q := 77) (L2 := #[.val (.int p), .val (.int s), .val (.int q), .val (.int t), .val (.int mode), .val (.int lpa), .val (.int lsa), .val (.int lpb), .val (.int lsb), .val (.int kind), .val (.int pb), .val (.int sb), .val (.ref b1), .unset, .unset]) at_75 rfl rfl rfl ?_
  refine w4.iload (q := 79) at_77 rfl rfl ?_
  by_cases k0 : kind = (0 : Int32)
  ·
    refine w4.ifN (q := 82) at_79 ((if0 _ _).trans (teq k0).2) rfl ?_
    refine w4.newO (q := 85) at_82 (H.tw 0 rfl) (H.tw 1 rfl) (H.tw 2 rfl) (by decide) (by decide) rfl fun T5 h5 b5 e5 w5 E5 A5 D5 U5 => ?_
    have lt5 : b5 < h5.size := A5.lt
    have sz5 : h4.size ≤ h5.size := E5.1
    have F5_partition : Fld G.Z h5 b5 "com/example/versioned_table/versionedtable/RecordKey" "partition" "Ljava/lang/String;" .null := D5 (Or.inr (H.tw 133 rfl)) (ty := (.object "java/lang/String")) (by decide)
    have F5_sort : Fld G.Z h5 b5 "com/example/versioned_table/versionedtable/RecordKey" "sort" "Ljava/lang/String;" .null := D5 (Or.inr (H.tw 135 rfl)) (ty := (.object "java/lang/String")) (by decide)
    have g5 : G.n0 ≤ b5 := by have := ho.2.1; have := ho.1; omega
    refine w5.dup (q := 86) at_85 rfl rfl ?_
    refine w5.iload (q := 88) at_86 rfl rfl ?_
    refine w5.iload (q := 90) at_88 rfl rfl ?_
    refine w5.callS (q := 93) at_90 (H.tw 3 rfl) (H.tw 4 rfl) (H.tw 5 rfl) (H.tw 6 rfl) (by decide) (argsL := [(.int lpb), (.int pb)]) (rest := [(.ref b5), (.ref b5)]) rfl (lenOf pd37 rfl) rfl (W := 2) (Nat.le_of_eq rfl) ((con_str G H lpb pb h5 w5.old).pay w5 (H.tw 6 rfl) (H.tw 5 rfl) (by decide) (by decide)) (by decide) (by decide) rfl fun vm6 T6 h6 v6 w6 q6 => ?_
    obtain ⟨_, rfl, pB, rfl, X6, SpB⟩ := q6
    show Go _ _ _ _ (T6.setTop (mkF X.m 93 #[.val (.int p), .val (.int s), .val (.int q), .val (.int t), .val (.int mode), .val (.int lpa), .val (.int lsa), .val (.int lpb), .val (.int lsb), .val (.int kind), .val (.int pb), .val (.int sb), .val (.ref b1), .unset, .unset] [(.ref pB), (.ref b5), (.ref b5)]))
    refine w6.iload (q := 95) at_93 rfl rfl ?_
    refine w6.iload (q := 97) at_95 rfl rfl ?_
    refine w6.callS (q := 100) at_97 (H.tw 3 rfl) (H.tw 4 rfl) (H.tw 5 rfl) (H.tw 6 rfl) (by decide) (argsL := [(.int lsb), (.int sb)]) (rest := [(.ref pB), (.ref b5), (.ref b5)]) rfl (lenOf pd37 rfl) rfl (W := 3) (Nat.le_of_eq rfl) ((con_str G H lsb sb h6 w6.old).pay w6 (H.tw 6 rfl) (H.tw 5 rfl) (by decide) (by decide)) (by decide) (by decide) rfl fun vm7 T7 h7 v7 w7 q7 => ?_
    obtain ⟨_, rfl, sB, rfl, X7, SsB⟩ := q7
    show Go _ _ _ _ (T7.setTop (mkF X.m 100 #[.val (.int p), .val (.int s), .val (.int q), .val (.int t), .val (.int mode), .val (.int lpa), .val (.int lsa), .val (.int lpb), .val (.int lsb), .val (.int kind), .val (.int pb), .val (.int sb), .val (.ref b1), .unset, .unset] [(.ref sB), (.ref pB), (.ref b5), (.ref b5)]))
    have sz_B := (xtr X6 X7).1
    replace SpB := SpB.ext X7
    have XXB := xtr X6 X7
    have ExB := A5.ext XXB
    refine w7.callC (q := 103) at_100 rfl (H.tw 37 rfl) (H.tw 38 rfl) (H.tw 39 rfl) (by decide) (a := b5) (argsL := [(.ref pB), (.ref sB)]) (rest := [(.ref b5)]) rfl (lenOf pd27 rfl) rfl (W := 1) (Nat.le_of_eq rfl) ((con_rk G H b5 pB sB _ _ h7 w7.old ExB (F5_partition.ext XXB) (F5_sort.ext XXB) g5 SpB SsB (okS _ _) (okS _ _)).pay w7 (H.tw 39 rfl) (H.tw 2 rfl) (by decide) (by decide)) (by decide) (by decide) rfl fun vm8 T8 h8 v8 w8 q8 => ?_
    obtain ⟨rfl, K8, EB, PB, QB⟩ := q8
    show Go _ _ _ _ (T8.setTop (mkF X.m 103 #[.val (.int p), .val (.int s), .val (.int q), .val (.int t), .val (.int mode), .val (.int lpa), .val (.int lsa), .val (.int lpb), .val (.int lsb), .val (.int kind), .val (.int pb), .val (.int sb), .val (.ref b1), .unset, .unset] [(.ref b5)]))
    have sz_B2 := K8.1
    replace SpB := SpB.keepX ExB (by decide) (H.tw 1 rfl) K8
    replace SsB := SsB.keepX ExB (by decide) (H.tw 1 rfl) K8
    have XTB : Ext h4 h8 := xkp (xtr E5 XXB) K8 (all1 (by omega))
    refine w8.astore (q := 105) (L2 := #[.val (.int p), .val (.int s), .val (.int q), .val (.int t), .val (.int mode), .val (.int lpa), .val (.int lsa), .val (.int lpb), .val (.int lsb), .val (.int kind), .val (.int pb), .val (.int sb), .val (.ref b1), .val (.ref b5), .unset]) at_103 rfl rfl rfl ?_
    refine w8.iload (q := 107) at_105 rfl rfl ?_
    refine w8.iloadN (q := 108) at_107 rfl rfl ?_
    refine w8.iload (q := 110) at_108 rfl rfl ?_
    refine w8.iload (q := 112) at_110 rfl rfl ?_
    replace EA := EA.ext XTB
    replace PA := PA.ext XTB
    replace QA := QA.ext XTB
    replace SpA := SpA.ext XTB
    replace SsA := SsA.ext XTB
    refine w8.callS (q := 115) at_112 (H.tw 136 rfl) (H.tw 137 rfl) (H.tw 5 rfl) (H.tw 138 rfl) (by decide) (argsL := [(.int lpa), (.int p), (.int lpb), (.int pb)]) (rest := []) rfl (lenOf pd38 rfl) rfl (W := 0) (Nat.le_of_eq rfl) ((con_same G H lpa p lpb pb h8 w8.old o_lpa o_lpb).pay w8 (H.tw 138 rfl) (H.tw 5 rfl) (by decide) (by decide)) (by decide) (by decide) rfl fun vm9 T9 h9 v9 w9 q9 => ?_
    obtain ⟨_, rfl, rfl, rfl⟩ := q9
    show Go _ _ _ _ (T9.setTop (mkF X.m 115 #[.val (.int p), .val (.int s), .val (.int q), .val (.int t), .val (.int mode), .val (.int lpa), .val (.int lsa), .val (.int lpb), .val (.int lsb), .val (.int kind), .val (.int pb), .val (.int sb), .val (.ref b1), .val (.ref b5), .unset] [(.int (if strOf lpa p = strOf lpb pb then 1 else 0))]))
    by_cases c1 : (if strOf lpa p = strOf lpb pb then 1 else 0) = (0 : Int32)
    ·
      refine w9.ifY (q := 135) at_115 ((if0 _ _).trans (teq c1).1) (by decide) (by decide) ?_
      have pq : ¬ (strOf lpa p = strOf lpb pb ∧ strOf lsa s = strOf lsb sb) := fun z => ite_no c1 z.1
      have qp : ¬ (strOf lpb pb = strOf lpa p ∧ strOf lsb sb = strOf lsa s) := fun z => ite_no c1 z.1.symm
      refine w9.iconst (q := 136) (0 : Int32) at_135 rfl rfl ?_
      refine w9.istore (q := 138) (L2 := #[.val (.int p), .val (.int s), .val (.int q), .val (.int t), .val (.int mode), .val (.int lpa), .val (.int lsa), .val (.int lpb), .val (.int lsb), .val (.int kind), .val (.int pb), .val (.int sb), .val (.ref b1), .val (.ref b5), .val (.int (0 : Int32))]) at_136 rfl rfl ?_
      refine w9.aload (q := 140) at_138 rfl rfl rfl ?_
      refine w9.aload (q := 142) at_140 rfl rfl rfl ?_
      refine w9.callV (q := 145) at_142 (H.tw 139 rfl) (H.tw 140 rfl) (notFace_of_selects (C := "com/example/versioned_table/versionedtable/RecordKey") (args := G.a0) (H.tw 142 rfl)) (H.tw 142 rfl) (H.tw 141 rfl) (by decide) EA (argsL := [(.ref b5)]) (rest := []) rfl (lenOf pd36 rfl) rfl (W := 0) (Nat.le_of_eq rfl) ((con_eqK G H b1 pA sA b5 pB sB _ _ _ _ h8 w9.old EA PA QA EB PB QB SpA SsA SpB SsB).pay w9 (H.tw 143 rfl) (H.tw 2 rfl) (by decide) (by decide)) (by decide) (by decide) rfl fun vm10 T10 h10 v10 w10 q10 => ?_
      obtain ⟨_, rfl, rfl, rfl⟩ := q10
      show Go _ _ _ _ (T10.setTop (mkF X.m 145 #[.val (.int p), .val (.int s), .val (.int q), .val (.int t), .val (.int mode), .val (.int lpa), .val (.int lsa), .val (.int lpb), .val (.int lsb), .val (.int kind), .val (.int pb), .val (.int sb), .val (.ref b1), .val (.ref b5), .val (.int (0 : Int32))] [(.int (if strOf lpa p = strOf lpb pb ∧ strOf lsa s = strOf lsb sb then 1 else 0))]))
      refine w10.iload (q := 147) at_145 rfl rfl ?_
      refine w10.icN (q := 150) at_147 ((teq (by rw [if_neg pq])).2) rfl ?_
      refine w10.aload (q := 152) at_150 rfl rfl rfl ?_
      refine w10.aload (q := 154) at_152 rfl rfl rfl ?_
      refine w10.callV (q := 157) at_154 (H.tw 139 rfl) (H.tw 140 rfl) (notFace_of_selects (C := "com/example/versioned_table/versionedtable/RecordKey") (args := G.a0) (H.tw 142 rfl)) (H.tw 142 rfl) (H.tw 141 rfl) (by decide) EB (argsL := [(.ref b1)]) (rest := []) rfl (lenOf pd36 rfl) rfl (W := 0) (Nat.le_of_eq rfl) ((con_eqK G H b5 pB sB b1 pA sA _ _ _ _ h8 w10.old EB PB QB EA PA QA SpB SsB SpA SsA).pay w10 (H.tw 143 rfl) (H.tw 2 rfl) (by decide) (by decide)) (by decide) (by decide) rfl fun vm11 T11 h11 v11 w11 q11 => ?_
      obtain ⟨_, rfl, rfl, rfl⟩ := q11
      show Go _ _ _ _ (T11.setTop (mkF X.m 157 #[.val (.int p), .val (.int s), .val (.int q), .val (.int t), .val (.int mode), .val (.int lpa), .val (.int lsa), .val (.int lpb), .val (.int lsb), .val (.int kind), .val (.int pb), .val (.int sb), .val (.ref b1), .val (.ref b5), .val (.int (0 : Int32))] [(.int (if strOf lpb pb = strOf lpa p ∧ strOf lsb sb = strOf lsa s then 1 else 0))]))
      refine w11.iload (q := 159) at_157 rfl rfl ?_
      refine w11.icN (q := 162) at_159 ((teq (by rw [if_neg qp])).2) rfl ?_
      refine w11.iconst (q := 163) (1 : Int32) at_162 rfl rfl ?_
      refine w11.goto (q := 167) at_163 (by decide) (by decide) ?_
      exact w11.retZ at_167 (t := .boolean) rfl (by decide) rfl (by decide) (by decide) ⟨_, rfl, rfl⟩
    ·
      refine w9.ifN (q := 118) at_115 ((if0 _ _).trans (feq c1).1) rfl ?_
      refine w9.iload (q := 120) at_118 rfl rfl ?_
      refine w9.iloadN (q := 121) at_120 rfl rfl ?_
      refine w9.iload (q := 123) at_121 rfl rfl ?_
      refine w9.iload (q := 125) at_123 rfl rfl ?_
      refine w9.callS (q := 128) at_125 (H.tw 136 rfl) (H.tw 137 rfl) (H.tw 5 rfl) (H.tw 138 rfl) (by decide) (argsL := [(.int lsa), (.int s), (.int lsb), (.int sb)]) (rest := []) rfl (lenOf pd38 rfl) rfl (W := 0) (Nat.le_of_eq rfl) ((con_same G H lsa s lsb sb h8 w9.old o_lsa o_lsb).pay w9 (H.tw 138 rfl) (H.tw 5 rfl) (by decide) (by decide)) (by decide) (by decide) rfl fun vm12 T12 h12 v12 w12 q12 => ?_
      obtain ⟨_, rfl, rfl, rfl⟩ := q12
      show Go _ _ _ _ (T12.setTop (mkF X.m 128 #[.val (.int p), .val (.int s), .val (.int q), .val (.int t), .val (.int mode), .val (.int lpa), .val (.int lsa), .val (.int lpb), .val (.int lsb), .val (.int kind), .val (.int pb), .val (.int sb), .val (.ref b1), .val (.ref b5), .unset] [(.int (if strOf lsa s = strOf lsb sb then 1 else 0))]))
      by_cases c2 : (if strOf lsa s = strOf lsb sb then 1 else 0) = (0 : Int32)
      ·
        refine w12.ifY (q := 135) at_128 ((if0 _ _).trans (teq c2).1) (by decide) (by decide) ?_
        have pq : ¬ (strOf lpa p = strOf lpb pb ∧ strOf lsa s = strOf lsb sb) := fun z => ite_no c2 z.2
        have qp : ¬ (strOf lpb pb = strOf lpa p ∧ strOf lsb sb = strOf lsa s) := fun z => ite_no c2 z.2.symm
        refine w12.iconst (q := 136) (0 : Int32) at_135 rfl rfl ?_
        refine w12.istore (q := 138) (L2 := #[.val (.int p), .val (.int s), .val (.int q), .val (.int t), .val (.int mode), .val (.int lpa), .val (.int lsa), .val (.int lpb), .val (.int lsb), .val (.int kind), .val (.int pb), .val (.int sb), .val (.ref b1), .val (.ref b5), .val (.int (0 : Int32))]) at_136 rfl rfl ?_
        refine w12.aload (q := 140) at_138 rfl rfl rfl ?_
        refine w12.aload (q := 142) at_140 rfl rfl rfl ?_
        refine w12.callV (q := 145) at_142 (H.tw 139 rfl) (H.tw 140 rfl) (notFace_of_selects (C := "com/example/versioned_table/versionedtable/RecordKey") (args := G.a0) (H.tw 142 rfl)) (H.tw 142 rfl) (H.tw 141 rfl) (by decide) EA (argsL := [(.ref b5)]) (rest := []) rfl (lenOf pd36 rfl) rfl (W := 0) (Nat.le_of_eq rfl) ((con_eqK G H b1 pA sA b5 pB sB _ _ _ _ h8 w12.old EA PA QA EB PB QB SpA SsA SpB SsB).pay w12 (H.tw 143 rfl) (H.tw 2 rfl) (by decide) (by decide)) (by decide) (by decide) rfl fun vm13 T13 h13 v13 w13 q13 => ?_
        obtain ⟨_, rfl, rfl, rfl⟩ := q13
        show Go _ _ _ _ (T13.setTop (mkF X.m 145 #[.val (.int p), .val (.int s), .val (.int q), .val (.int t), .val (.int mode), .val (.int lpa), .val (.int lsa), .val (.int lpb), .val (.int lsb), .val (.int kind), .val (.int pb), .val (.int sb), .val (.ref b1), .val (.ref b5), .val (.int (0 : Int32))] [(.int (if strOf lpa p = strOf lpb pb ∧ strOf lsa s = strOf lsb sb then 1 else 0))]))
        refine w13.iload (q := 147) at_145 rfl rfl ?_
        refine w13.icN (q := 150) at_147 ((teq (by rw [if_neg pq])).2) rfl ?_
        refine w13.aload (q := 152) at_150 rfl rfl rfl ?_
        refine w13.aload (q := 154) at_152 rfl rfl rfl ?_
        refine w13.callV (q := 157) at_154 (H.tw 139 rfl) (H.tw 140 rfl) (notFace_of_selects (C := "com/example/versioned_table/versionedtable/RecordKey") (args := G.a0) (H.tw 142 rfl)) (H.tw 142 rfl) (H.tw 141 rfl) (by decide) EB (argsL := [(.ref b1)]) (rest := []) rfl (lenOf pd36 rfl) rfl (W := 0) (Nat.le_of_eq rfl) ((con_eqK G H b5 pB sB b1 pA sA _ _ _ _ h8 w13.old EB PB QB EA PA QA SpB SsB SpA SsA).pay w13 (H.tw 143 rfl) (H.tw 2 rfl) (by decide) (by decide)) (by decide) (by decide) rfl fun vm14 T14 h14 v14 w14 q14 => ?_
        obtain ⟨_, rfl, rfl, rfl⟩ := q14
        show Go _ _ _ _ (T14.setTop (mkF X.m 157 #[.val (.int p), .val (.int s), .val (.int q), .val (.int t), .val (.int mode), .val (.int lpa), .val (.int lsa), .val (.int lpb), .val (.int lsb), .val (.int kind), .val (.int pb), .val (.int sb), .val (.ref b1), .val (.ref b5), .val (.int (0 : Int32))] [(.int (if strOf lpb pb = strOf lpa p ∧ strOf lsb sb = strOf lsa s then 1 else 0))]))
        refine w14.iload (q := 159) at_157 rfl rfl ?_
        refine w14.icN (q := 162) at_159 ((teq (by rw [if_neg qp])).2) rfl ?_
        refine w14.iconst (q := 163) (1 : Int32) at_162 rfl rfl ?_
        refine w14.goto (q := 167) at_163 (by decide) (by decide) ?_
        exact w14.retZ at_167 (t := .boolean) rfl (by decide) rfl (by decide) (by decide) ⟨_, rfl, rfl⟩
      ·
        refine w12.ifN (q := 131) at_128 ((if0 _ _).trans (feq c2).1) rfl ?_
        have pq : strOf lpa p = strOf lpb pb ∧ strOf lsa s = strOf lsb sb := ⟨ite_yes c1, ite_yes c2⟩
        have qp : strOf lpb pb = strOf lpa p ∧ strOf lsb sb = strOf lsa s := ⟨pq.1.symm, pq.2.symm⟩
        refine w12.iconst (q := 132) (1 : Int32) at_131 rfl rfl ?_
        refine w12.goto (q := 136) at_132 (by decide) (by decide) ?_
        refine w12.istore (q := 138) (L2 := #[.val (.int p), .val (.int s), .val (.int q), .val (.int t), .val (.int mode), .val (.int lpa), .val (.int lsa), .val (.int lpb), .val (.int lsb), .val (.int kind), .val (.int pb), .val (.int sb), .val (.ref b1), .val (.ref b5), .val (.int (1 : Int32))]) at_136 rfl rfl ?_
        refine w12.aload (q := 140) at_138 rfl rfl rfl ?_
        refine w12.aload (q := 142) at_140 rfl rfl rfl ?_
        refine w12.callV (q := 145) at_142 (H.tw 139 rfl) (H.tw 140 rfl) (notFace_of_selects (C := "com/example/versioned_table/versionedtable/RecordKey") (args := G.a0) (H.tw 142 rfl)) (H.tw 142 rfl) (H.tw 141 rfl) (by decide) EA (argsL := [(.ref b5)]) (rest := []) rfl (lenOf pd36 rfl) rfl (W := 0) (Nat.le_of_eq rfl) ((con_eqK G H b1 pA sA b5 pB sB _ _ _ _ h8 w12.old EA PA QA EB PB QB SpA SsA SpB SsB).pay w12 (H.tw 143 rfl) (H.tw 2 rfl) (by decide) (by decide)) (by decide) (by decide) rfl fun vm15 T15 h15 v15 w15 q15 => ?_
        obtain ⟨_, rfl, rfl, rfl⟩ := q15
        show Go _ _ _ _ (T15.setTop (mkF X.m 145 #[.val (.int p), .val (.int s), .val (.int q), .val (.int t), .val (.int mode), .val (.int lpa), .val (.int lsa), .val (.int lpb), .val (.int lsb), .val (.int kind), .val (.int pb), .val (.int sb), .val (.ref b1), .val (.ref b5), .val (.int (1 : Int32))] [(.int (if strOf lpa p = strOf lpb pb ∧ strOf lsa s = strOf lsb sb then 1 else 0))]))
        refine w15.iload (q := 147) at_145 rfl rfl ?_
        refine w15.icN (q := 150) at_147 ((teq (by rw [if_pos pq])).2) rfl ?_
        refine w15.aload (q := 152) at_150 rfl rfl rfl ?_
        refine w15.aload (q := 154) at_152 rfl rfl rfl ?_
        refine w15.callV (q := 157) at_154 (H.tw 139 rfl) (H.tw 140 rfl) (notFace_of_selects (C := "com/example/versioned_table/versionedtable/RecordKey") (args := G.a0) (H.tw 142 rfl)) (H.tw 142 rfl) (H.tw 141 rfl) (by decide) EB (argsL := [(.ref b1)]) (rest := []) rfl (lenOf pd36 rfl) rfl (W := 0) (Nat.le_of_eq rfl) ((con_eqK G H b5 pB sB b1 pA sA _ _ _ _ h8 w15.old EB PB QB EA PA QA SpB SsB SpA SsA).pay w15 (H.tw 143 rfl) (H.tw 2 rfl) (by decide) (by decide)) (by decide) (by decide) rfl fun vm16 T16 h16 v16 w16 q16 => ?_
        obtain ⟨_, rfl, rfl, rfl⟩ := q16
        show Go _ _ _ _ (T16.setTop (mkF X.m 157 #[.val (.int p), .val (.int s), .val (.int q), .val (.int t), .val (.int mode), .val (.int lpa), .val (.int lsa), .val (.int lpb), .val (.int lsb), .val (.int kind), .val (.int pb), .val (.int sb), .val (.ref b1), .val (.ref b5), .val (.int (1 : Int32))] [(.int (if strOf lpb pb = strOf lpa p ∧ strOf lsb sb = strOf lsa s then 1 else 0))]))
        refine w16.iload (q := 159) at_157 rfl rfl ?_
        refine w16.icN (q := 162) at_159 ((teq (by rw [if_pos qp])).2) rfl ?_
        refine w16.iconst (q := 163) (1 : Int32) at_162 rfl rfl ?_
        refine w16.goto (q := 167) at_163 (by decide) (by decide) ?_
        exact w16.retZ at_167 (t := .boolean) rfl (by decide) rfl (by decide) (by decide) ⟨_, rfl, rfl⟩
  ·
    refine w4.ifY (q := 168) at_79 ((if0 _ _).trans (feq k0).2) (by decide) (by decide) ?_
    refine w4.iload (q := 170) at_168 rfl rfl ?_
    refine w4.iconst (q := 171) (1 : Int32) at_170 rfl rfl ?_
    by_cases k1 : kind = (1 : Int32)
    ·
      refine w4.icN (q := 174) at_171 ((teq k1).2) rfl ?_
      refine w4.newO (q := 177) at_174 (H.tw 0 rfl) (H.tw 1 rfl) (H.tw 2 rfl) (by decide) (by decide) rfl fun T17 h17 b17 e17 w17 E17 A17 D17 U17 => ?_
      have lt17 : b17 < h17.size := A17.lt
      have sz17 : h4.size ≤ h17.size := E17.1
      have F17_partition : Fld G.Z h17 b17 "com/example/versioned_table/versionedtable/RecordKey" "partition" "Ljava/lang/String;" .null := D17 (Or.inr (H.tw 133 rfl)) (ty := (.object "java/lang/String")) (by decide)
      have F17_sort : Fld G.Z h17 b17 "com/example/versioned_table/versionedtable/RecordKey" "sort" "Ljava/lang/String;" .null := D17 (Or.inr (H.tw 135 rfl)) (ty := (.object "java/lang/String")) (by decide)
      have g17 : G.n0 ≤ b17 := by have := ho.2.1; have := ho.1; omega
      refine w17.dup (q := 178) at_177 rfl rfl ?_
      refine w17.iload (q := 180) at_178 rfl rfl ?_
      refine w17.iloadN (q := 181) at_180 rfl rfl ?_
      refine w17.callS (q := 184) at_181 (H.tw 3 rfl) (H.tw 4 rfl) (H.tw 5 rfl) (H.tw 6 rfl) (by decide) (argsL := [(.int lpa), (.int p)]) (rest := [(.ref b17), (.ref b17)]) rfl (lenOf pd37 rfl) rfl (W := 2) (Nat.le_of_eq rfl) ((con_str G H lpa p h17 w17.old).pay w17 (H.tw 6 rfl) (H.tw 5 rfl) (by decide) (by decide)) (by decide) (by decide) rfl fun vm18 T18 h18 v18 w18 q18 => ?_
      obtain ⟨_, rfl, pB, rfl, X18, SpB⟩ := q18
      show Go _ _ _ _ (T18.setTop (mkF X.m 184 #[.val (.int p), .val (.int s), .val (.int q), .val (.int t), .val (.int mode), .val (.int lpa), .val (.int lsa), .val (.int lpb), .val (.int lsb), .val (.int kind), .val (.int pb), .val (.int sb), .val (.ref b1), .unset, .unset] [(.ref pB), (.ref b17), (.ref b17)]))
      refine w18.iload (q := 186) at_184 rfl rfl ?_
      refine w18.iloadN (q := 187) at_186 rfl rfl ?_
      refine w18.callS (q := 190) at_187 (H.tw 3 rfl) (H.tw 4 rfl) (H.tw 5 rfl) (H.tw 6 rfl) (by decide) (argsL := [(.int lsa), (.int s)]) (rest := [(.ref pB), (.ref b17), (.ref b17)]) rfl (lenOf pd37 rfl) rfl (W := 3) (Nat.le_of_eq rfl) ((con_str G H lsa s h18 w18.old).pay w18 (H.tw 6 rfl) (H.tw 5 rfl) (by decide) (by decide)) (by decide) (by decide) rfl fun vm19 T19 h19 v19 w19 q19 => ?_
      obtain ⟨_, rfl, sB, rfl, X19, SsB⟩ := q19
      show Go _ _ _ _ (T19.setTop (mkF X.m 190 #[.val (.int p), .val (.int s), .val (.int q), .val (.int t), .val (.int mode), .val (.int lpa), .val (.int lsa), .val (.int lpb), .val (.int lsb), .val (.int kind), .val (.int pb), .val (.int sb), .val (.ref b1), .unset, .unset] [(.ref sB), (.ref pB), (.ref b17), (.ref b17)]))
      have sz_B := (xtr X18 X19).1
      replace SpB := SpB.ext X19
      have XXB := xtr X18 X19
      have ExB := A17.ext XXB
      refine w19.callC (q := 193) at_190 rfl (H.tw 37 rfl) (H.tw 38 rfl) (H.tw 39 rfl) (by decide) (a := b17) (argsL := [(.ref pB), (.ref sB)]) (rest := [(.ref b17)]) rfl (lenOf pd27 rfl) rfl (W := 1) (Nat.le_of_eq rfl) ((con_rk G H b17 pB sB _ _ h19 w19.old ExB (F17_partition.ext XXB) (F17_sort.ext XXB) g17 SpB SsB (okS _ _) (okS _ _)).pay w19 (H.tw 39 rfl) (H.tw 2 rfl) (by decide) (by decide)) (by decide) (by decide) rfl fun vm20 T20 h20 v20 w20 q20 => ?_
      obtain ⟨rfl, K20, EB, PB, QB⟩ := q20
      show Go _ _ _ _ (T20.setTop (mkF X.m 193 #[.val (.int p), .val (.int s), .val (.int q), .val (.int t), .val (.int mode), .val (.int lpa), .val (.int lsa), .val (.int lpb), .val (.int lsb), .val (.int kind), .val (.int pb), .val (.int sb), .val (.ref b1), .unset, .unset] [(.ref b17)]))
      have sz_B2 := K20.1
      replace SpB := SpB.keepX ExB (by decide) (H.tw 1 rfl) K20
      replace SsB := SsB.keepX ExB (by decide) (H.tw 1 rfl) K20
      have XTB : Ext h4 h20 := xkp (xtr E17 XXB) K20 (all1 (by omega))
      refine w20.astore (q := 195) (L2 := #[.val (.int p), .val (.int s), .val (.int q), .val (.int t), .val (.int mode), .val (.int lpa), .val (.int lsa), .val (.int lpb), .val (.int lsb), .val (.int kind), .val (.int pb), .val (.int sb), .val (.ref b1), .val (.ref b17), .unset]) at_193 rfl rfl rfl ?_
      refine w20.aload (q := 197) at_195 rfl rfl rfl ?_
      refine w20.aload (q := 199) at_197 rfl rfl rfl ?_
      replace EA := EA.ext XTB
      replace PA := PA.ext XTB
      replace QA := QA.ext XTB
      replace SpA := SpA.ext XTB
      replace SsA := SsA.ext XTB
      refine w20.callV (q := 202) at_199 (H.tw 139 rfl) (H.tw 140 rfl) (notFace_of_selects (C := "com/example/versioned_table/versionedtable/RecordKey") (args := G.a0) (H.tw 142 rfl)) (H.tw 142 rfl) (H.tw 141 rfl) (by decide) EA (argsL := [(.ref b17)]) (rest := []) rfl (lenOf pd36 rfl) rfl (W := 0) (Nat.le_of_eq rfl) ((con_eqK G H b1 pA sA b17 pB sB _ _ _ _ h20 w20.old EA PA QA EB PB QB SpA SsA SpB SsB).pay w20 (H.tw 143 rfl) (H.tw 2 rfl) (by decide) (by decide)) (by decide) (by decide) rfl fun vm21 T21 h21 v21 w21 q21 => ?_
      obtain ⟨_, rfl, rfl, rfl⟩ := q21
      show Go _ _ _ _ (T21.setTop (mkF X.m 202 #[.val (.int p), .val (.int s), .val (.int q), .val (.int t), .val (.int mode), .val (.int lpa), .val (.int lsa), .val (.int lpb), .val (.int lsb), .val (.int kind), .val (.int pb), .val (.int sb), .val (.ref b1), .val (.ref b17), .unset] [(.int (if strOf lpa p = strOf lpa p ∧ strOf lsa s = strOf lsa s then 1 else 0))]))
      refine w21.ifN (q := 205) at_202 ((if0 _ _).trans (feq (by rw [if_pos ⟨rfl, rfl⟩]; decide)).1) rfl ?_
      refine w21.aload (q := 207) at_205 rfl rfl rfl ?_
      refine w21.aload (q := 209) at_207 rfl rfl rfl ?_
      refine w21.callV (q := 212) at_209 (H.tw 139 rfl) (H.tw 140 rfl) (notFace_of_selects (C := "com/example/versioned_table/versionedtable/RecordKey") (args := G.a0) (H.tw 142 rfl)) (H.tw 142 rfl) (H.tw 141 rfl) (by decide) EB (argsL := [(.ref b1)]) (rest := []) rfl (lenOf pd36 rfl) rfl (W := 0) (Nat.le_of_eq rfl) ((con_eqK G H b17 pB sB b1 pA sA _ _ _ _ h20 w21.old EB PB QB EA PA QA SpB SsB SpA SsA).pay w21 (H.tw 143 rfl) (H.tw 2 rfl) (by decide) (by decide)) (by decide) (by decide) rfl fun vm22 T22 h22 v22 w22 q22 => ?_
      obtain ⟨_, rfl, rfl, rfl⟩ := q22
      show Go _ _ _ _ (T22.setTop (mkF X.m 212 #[.val (.int p), .val (.int s), .val (.int q), .val (.int t), .val (.int mode), .val (.int lpa), .val (.int lsa), .val (.int lpb), .val (.int lsb), .val (.int kind), .val (.int pb), .val (.int sb), .val (.ref b1), .val (.ref b17), .unset] [(.int (if strOf lpa p = strOf lpa p ∧ strOf lsa s = strOf lsa s then 1 else 0))]))
      refine w22.ifN (q := 215) at_212 ((if0 _ _).trans (feq (by rw [if_pos ⟨rfl, rfl⟩]; decide)).1) rfl ?_
      refine w22.aload (q := 217) at_215 rfl rfl rfl ?_
      refine w22.aload (q := 219) at_217 rfl rfl rfl ?_
      refine w22.callV (q := 222) at_219 (H.tw 139 rfl) (H.tw 140 rfl) (notFace_of_selects (C := "com/example/versioned_table/versionedtable/RecordKey") (args := G.a0) (H.tw 142 rfl)) (H.tw 142 rfl) (H.tw 141 rfl) (by decide) EA (argsL := [(.ref b1)]) (rest := []) rfl (lenOf pd36 rfl) rfl (W := 0) (Nat.le_of_eq rfl) ((con_eqK G H b1 pA sA b1 pA sA _ _ _ _ h20 w22.old EA PA QA EA PA QA SpA SsA SpA SsA).pay w22 (H.tw 143 rfl) (H.tw 2 rfl) (by decide) (by decide)) (by decide) (by decide) rfl fun vm23 T23 h23 v23 w23 q23 => ?_
      obtain ⟨_, rfl, rfl, rfl⟩ := q23
      show Go _ _ _ _ (T23.setTop (mkF X.m 222 #[.val (.int p), .val (.int s), .val (.int q), .val (.int t), .val (.int mode), .val (.int lpa), .val (.int lsa), .val (.int lpb), .val (.int lsb), .val (.int kind), .val (.int pb), .val (.int sb), .val (.ref b1), .val (.ref b17), .unset] [(.int (if strOf lpa p = strOf lpa p ∧ strOf lsa s = strOf lsa s then 1 else 0))]))
      refine w23.ifN (q := 225) at_222 ((if0 _ _).trans (feq (by rw [if_pos ⟨rfl, rfl⟩]; decide)).1) rfl ?_
      refine w23.iconst (q := 226) (1 : Int32) at_225 rfl rfl ?_
      refine w23.goto (q := 230) at_226 (by decide) (by decide) ?_
      exact w23.retZ at_230 (t := .boolean) rfl (by decide) rfl (by decide) (by decide) ⟨_, rfl, rfl⟩
    ·
      refine w4.icY (q := 231) at_171 ((feq k1).2) (by decide) (by decide) ?_
      refine w4.iload (q := 233) at_231 rfl rfl ?_
      refine w4.iconst (q := 234) (2 : Int32) at_233 rfl rfl ?_
      by_cases k2 : kind = (2 : Int32)
      ·
        refine w4.icN (q := 237) at_234 ((teq k2).2) rfl ?_
        refine w4.aload (q := 239) at_237 rfl rfl rfl ?_
        refine w4.aconst (q := 240) at_239 rfl ?_
        refine w4.callV (q := 243) at_240 (H.tw 139 rfl) (H.tw 140 rfl) (notFace_of_selects (C := "com/example/versioned_table/versionedtable/RecordKey") (args := G.a0) (H.tw 142 rfl)) (H.tw 142 rfl) (H.tw 141 rfl) (by decide) EA (argsL := [.null]) (rest := []) rfl (lenOf pd36 rfl) rfl (W := 0) (Nat.le_of_eq rfl) ((con_eqN G H b1 h4 w4.old).pay w4 (H.tw 143 rfl) (H.tw 2 rfl) (by decide) (by decide)) (by decide) (by decide) rfl fun vm24 T24 h24 v24 w24 q24 => ?_
        obtain ⟨_, rfl, rfl, rfl⟩ := q24
        show Go _ _ _ _ (T24.setTop (mkF X.m 243 #[.val (.int p), .val (.int s), .val (.int q), .val (.int t), .val (.int mode), .val (.int lpa), .val (.int lsa), .val (.int lpb), .val (.int lsb), .val (.int kind), .val (.int pb), .val (.int sb), .val (.ref b1), .unset, .unset] [(.int (0 : Int32))]))
        refine w24.ifN (q := 246) at_243 ((if0 _ _).trans (teq rfl).2) rfl ?_
        refine w24.iconst (q := 247) (1 : Int32) at_246 rfl rfl ?_
        refine w24.goto (q := 251) at_247 (by decide) (by decide) ?_
        exact w24.retZ at_251 (t := .boolean) rfl (by decide) rfl (by decide) (by decide) ⟨_, rfl, rfl⟩
      ·
        refine w4.icY (q := 252) at_234 ((feq k2).2) (by decide) (by decide) ?_
        refine w4.aload (q := 254) at_252 rfl rfl rfl ?_
        refine w4.iload (q := 256) at_254 rfl rfl ?_
        refine w4.iloadN (q := 257) at_256 rfl rfl ?_
        refine w4.callS (q := 260) at_257 (H.tw 3 rfl) (H.tw 4 rfl) (H.tw 5 rfl) (H.tw 6 rfl) (by decide) (argsL := [(.int lpa), (.int p)]) (rest := [(.ref b1)]) rfl (lenOf pd37 rfl) rfl (W := 1) (Nat.le_of_eq rfl) ((con_str G H lpa p h4 w4.old).pay w4 (H.tw 6 rfl) (H.tw 5 rfl) (by decide) (by decide)) (by decide) (by decide) rfl fun vm25 T25 h25 v25 w25 q25 => ?_
        obtain ⟨_, rfl, r, rfl, X25, Sr⟩ := q25
        show Go _ _ _ _ (T25.setTop (mkF X.m 260 #[.val (.int p), .val (.int s), .val (.int q), .val (.int t), .val (.int mode), .val (.int lpa), .val (.int lsa), .val (.int lpb), .val (.int lsb), .val (.int kind), .val (.int pb), .val (.int sb), .val (.ref b1), .unset, .unset] [(.ref r), (.ref b1)]))
        replace EA := EA.ext X25
        refine w25.callV (q := 263) at_260 (H.tw 139 rfl) (H.tw 140 rfl) (notFace_of_selects (C := "com/example/versioned_table/versionedtable/RecordKey") (args := G.a0) (H.tw 142 rfl)) (H.tw 142 rfl) (H.tw 141 rfl) (by decide) EA (argsL := [(.ref r)]) (rest := []) rfl (lenOf pd36 rfl) rfl (W := 0) (Nat.le_of_eq rfl) ((con_eqS G H b1 r h25 w25.old Sr.exa).pay w25 (H.tw 143 rfl) (H.tw 2 rfl) (by decide) (by decide)) (by decide) (by decide) rfl fun vm26 T26 h26 v26 w26 q26 => ?_
        obtain ⟨_, rfl, rfl, rfl⟩ := q26
        show Go _ _ _ _ (T26.setTop (mkF X.m 263 #[.val (.int p), .val (.int s), .val (.int q), .val (.int t), .val (.int mode), .val (.int lpa), .val (.int lsa), .val (.int lpb), .val (.int lsb), .val (.int kind), .val (.int pb), .val (.int sb), .val (.ref b1), .unset, .unset] [(.int (0 : Int32))]))
        refine w26.ifN (q := 266) at_263 ((if0 _ _).trans (teq rfl).2) rfl ?_
        refine w26.iconst (q := 267) (1 : Int32) at_266 rfl rfl ?_
        refine w26.goto (q := 271) at_267 (by decide) (by decide) ?_
        exact w26.retZ at_271 (t := .boolean) rfl (by decide) rfl (by decide) (by decide) ⟨_, rfl, rfl⟩
set_option maxRecDepth 65536 in
set_option maxHeartbeats 40000000 in
theorem comes_1 {Post : Tables → Env → Array Value → State → Outcome → State → Prop} (hpost : ∀ tb e args s v u, (limb_1_1.after args s (.returned v) u = true ∧ limb_1_2.after args s (.returned v) u = true ∧ True) → ReturnedEndW s (.returned v) u (Jvm.fieldLocs frame_1_writes args s ++ Jvm.arrayLocs frame_1_arrays args s ++ Jvm.staticLocs frame_1_statics s) 48 2240 → Post tb e args s (.returned v) u) :
    ArmFor flags0 classFile x code maxLocals ret World_1 tables_1 room_1 Calls_1 rest_1 Pre_1 Post := by
  intro l hfl _ _ p e ha hc hk s m args below hf hA hF happ hP
  obtain ⟨hcalls, hrest, hpre⟩ := hP
  obtain ⟨-, -, -, hnamed, -, -, -, hat⟩ := (Spec.applies_iff hf).mp happ
  obtain ⟨hg, hn⟩ := and_e (Cond.before_iff.mp (show (Jvm.Cond.and given_1 narrow_1).before args s = true from hpre))
  obtain ⟨h1, g0⟩ := and_e hg
  obtain ⟨w0, w1, w2, w3, w4, rfl⟩ : ∃ w0 w1 w2 w3 w4 : Value, args = #[w0, w1, w2, w3, w4] := by
    have hs : args.size = 5 := by simpa [Cond.value, given_1] using h1
    obtain ⟨L⟩ := args
    match L, hs with
    | [w0, w1, w2, w3, w4], _ => exact ⟨w0, w1, w2, w3, w4, rfl⟩
  have hw := fun d (hd : d ∈ tables_1) => atoms_spec (ws := Jvm.Cond.code x code maxLocals ret :: tables_1) hat d (List.mem_cons_of_mem _ hd)
  obtain ⟨hsets, hown0⟩ := atoms_of _ (rest_1_c_eq ▸ (show rest_1_c.before _ s = true from hrest))
  have hfit : Fit s := fun {y c} hc i hi => by
    obtain ⟨ha, rfl⟩ := Array.getElem?_eq_some_iff.mp hc
    have q := List.all_eq_true.mp ((Array.all_eq_true_iff_forall_mem.mp hF) _ (Array.getElem_mem ha)) i (List.mem_range.mpr hi)
    simpa [Array.getElem?_eq_getElem hi] using q
  obtain ⟨q0, g1⟩ := and_e g0
  obtain ⟨x0, e0⟩ := is_v q0
  obtain rfl : w0 = (.int x0) := Option.some.inj e0
  obtain ⟨q1, g2⟩ := and_e g1
  obtain ⟨x1, e1⟩ := is_v q1
  obtain rfl : w1 = (.int x1) := Option.some.inj e1
  obtain ⟨q2, g3⟩ := and_e g2
  obtain ⟨x2, e2⟩ := is_v q2
  obtain rfl : w2 = (.int x2) := Option.some.inj e2
  obtain ⟨q3, g4⟩ := and_e g3
  obtain ⟨x3, e3⟩ := is_v q3
  obtain rfl : w3 = (.int x3) := Option.some.inj e3
  obtain ⟨x4, e4⟩ := is_v g4
  obtain rfl : w4 = (.int x4) := Option.some.inj e4
  obtain ⟨cz, ez⟩ := is_v (Cond.before_iff.mp (hsets _ (List.mem_of_getElem? (i := 1) rfl)))
  have Sz : Sta s s.heap "java/lang/String" "COMPACT_STRINGS" "Z" (.int cz) := Sta.start ez (Or.inl (hsets _ (List.mem_of_getElem? (i := 0) rfl)))
  have nz : ¬ (cz = (0 : Int32)) := gotF (Cond.eq_ints ez (Term.int_eval (0))) (not_v (Cond.before_iff.mp (hsets _ (List.mem_of_getElem? (i := 2) rfl))))
  obtain ⟨vf, ef, rf⟩ := isR_v (Cond.before_iff.mp (hsets _ (List.mem_of_getElem? (i := 8) rfl)))
  have Sf : Sta s s.heap "jdk/internal/util/Preconditions" "SIOOBE_FORMATTER" "Ljava/util/function/BiFunction;" vf := Sta.start ef (Or.inl (hsets _ (List.mem_of_getElem? (i := 7) rfl)))
  have hCH : CHv s ([] : List (String × Nat)) s.vm s.heap := fun p hp => nomatch hp
  obtain ⟨oe, eve⟩ := exa_v (Cond.before_iff.mp (hsets _ (List.mem_of_getElem? (i := 11) rfl)))
  have So : Sta s s.heap "java/util/OptionalInt" "EMPTY" "Ljava/util/OptionalInt;" (.ref oe) := Sta.start eve (Or.inl (hsets _ (List.mem_of_getElem? (i := 10) rfl)))
  have Eo : Exa s s.heap oe "java/util/OptionalInt" := Exa.start eve (Cond.before_iff.mp (hsets _ (List.mem_of_getElem? (i := 11) rfl)))
  have ep := eqv_i (Term.int_eval (0)) (Cond.before_iff.mp (hsets _ (List.mem_of_getElem? (i := 12) rfl)))
  have Fo : Fld s s.heap oe "java/util/OptionalInt" "isPresent" "Z" (.int 0) := Fld.start ((fld_at eve).symm.trans ep)
  let G : Gx := (true, l, s, #[(.int x0), (.int x1), (.int x2), (.int x3), (.int x4)], [], s.heap.size)
  have H : Hyp G := ⟨hw, EW.nil, ⟨cz, nz, Sz⟩, ⟨rfl, rfl⟩, ⟨vf, rf, Sf⟩, oe, So, Eo, Fo⟩
  obtain ⟨n, o, h1, h2, h3, _, L, rfl, ⟨⟨_, rfl, rfl⟩, N, -⟩, -, hq⟩ := con_law G H x0 x1 x2 x3 x4 s.heap (Old.start s) p e ha hc hk s m _ below hf ((Spec.applies_iff_loose hf).mp happ).1 ⟨rfl, State.Warmed39.refl s, rfl, fun _ => hCH⟩ trivial
  refine ⟨n, _, h1, h2, h3, hpost _ _ _ _ _ _ ⟨Cond.after_iff.mpr rfl, Cond.after_iff.mpr (eq_i res_at (Term.int_eval (1)) rfl), trivial⟩ ⟨hq.1.1, hq.1.2.1, hq.1.2.2.1, (hq.1.2.2.2.sift fun y hy => Or.inr (N y hy)).mono (by decide) (by decide)⟩⟩
theorem main_1_1 : Claimed_1_1 := comes_1 fun _ _ _ _ _ _ h hF => ⟨h.1, hF⟩
theorem main_1_2 : Claimed_1_2 := comes_1 fun _ _ _ _ _ _ h hF => ⟨h.2.1, hF⟩
end Jvm.Pilot.@@N@@
namespace Jvm.Pilot.@@N@@
open Jvm Jvm.ClassFile Sem Op Lib Jvm.Free Jvm.Stand Jvm.Pilot.@@N@@.Jvm.D
/-! MADE BY PROGRAM (witnessworld.py) out of the Statement's table words and the real class files: 27 classes; the members and pool entries that the words name. The judged class is class 1, her method 3. -/
namespace start1
open Jvm.ClassFile
def u (s : String) : CpInfo := .utf8 (stringToUtf16 s)
/-- a pool by its gaps: so many unusable entries, then the entry; so many at the end -/
def gap : Nat → List CpInfo → List CpInfo
  | 0, r => r
  | n + 1, r => .unusable :: gap n r
def poolList (es : List (Nat × CpInfo)) (last : Nat) : List CpInfo := es.foldr (fun e r => gap e.1 (e.2 :: r)) (gap last [])
def pool (es : List (Nat × CpInfo)) (last : Nat) : Array CpInfo := ⟨poolList es last⟩
def fileOf (pool : Array CpInfo) (this : Nat) (attrs : Array Attribute := #[]) (ms : Array MethodInfo := #[]) (fl : Nat := 33) (sup : Nat := 0) (ifs : Array Nat := #[]) (fds : Array FieldInfo := #[]) : ClassFile where
  minorVersion := 0
  majorVersion := 65
  constantPool := pool
  accessFlags := fl
  thisClass := this
  superClass := sup
  interfaces := ifs
  fields := fds
  methods := ms
  attributes := attrs
def plain (name : String) (sup : Option ClassId) : Class where
  name := name
  kind := .ordinary
  loader := none
  accessFlags := 33
  super := sup
  interfaces := #[]
  cf := none
  fields := #[]
  methods := #[]
  instanceTypes := #[]
  staticTypes := #[]
  resolved := #[]
  callSites := []
  init := .initialized
  statics := none
  mirror := none

def pool0 : Array CpInfo := pool [(5, u "<init>"), (0, u "()V"), (1, .class_ 10), (1, u "java/lang/Object")] 113

def k0c0 : Code := { maxStack := 0, maxLocals := 1, code := object_method_1_code, exceptionTable := #[], attributes := #[] }
def k0m0 : Method := { name := "<init>", desc := "()V", sig := { parameters := [], returnType := none }, accessFlags := 1, code := some k0c0 }
/-- java/lang/Object -/
def k0 : Class := { plain "java/lang/Object" none with
  accessFlags := 33
  interfaces := #[]
  cf := some (fileOf pool0 8 #[] #[{ accessFlags := 1, nameIndex := 5, descriptorIndex := 6, attributes := #[] }] 33 0 #[] #[])
  fields := #[]
  methods := #[k0m0]
  instanceTypes := #[]
  staticTypes := #[]
  resolved := Array.replicate 124 none
  statics := none }

def pool1 : Array CpInfo := pool [(2, .class_ 4), (1, u "java/lang/Object"), (0, u "<init>"), (0, u "()V"), (0, .class_ 8), (0, u "java/lang/String"), (0, .methodref 7 10), (0, .nameAndType 5 11), (0, u "([C)V"), (0, .class_ 13), (0, u "com/example/versioned_table/versionedtable/RecordKey"), (0, .methodref 15 16), (0, .class_ 17), (0, .nameAndType 18 19), (0, u "com/example/versioned_table/versionedtable/RecordKeyEqualsPinLaw"), (0, u "str"), (0, u "(II)Ljava/lang/String;"), (0, .methodref 12 21), (0, .nameAndType 5 22), (0, u "(Ljava/lang/String;Ljava/lang/String;)V"), (0, .methodref 15 24), (0, .nameAndType 25 26), (0, u "same"), (0, u "(IIII)Z"), (0, .methodref 12 28), (0, .nameAndType 29 30), (0, u "equals"), (0, u "(Ljava/lang/Object;)Z"), (3, u "law"), (0, u "(IIIII)Z")] 2

def k1m0 : Method := { name := "<init>", desc := "()V", sig := { parameters := [], returnType := none }, accessFlags := 1, code := none }
def k1c1 : Code := { maxStack := 7, maxLocals := 2, code := method_2_code, exceptionTable := #[], attributes := #[] }
def k1m1 : Method := { name := "str", desc := "(II)Ljava/lang/String;", sig := { parameters := [.int, .int], returnType := some (.object "java/lang/String") }, accessFlags := 10, code := some k1c1 }
def k1c2 : Code := { maxStack := 3, maxLocals := 4, code := method_3_code, exceptionTable := #[], attributes := #[] }
def k1m2 : Method := { name := "same", desc := "(IIII)Z", sig := { parameters := [.int, .int, .int, .int], returnType := some .boolean }, accessFlags := 10, code := some k1c2 }
def k1c3 : Code := { maxStack := 5, maxLocals := 15, code := code, exceptionTable := #[], attributes := #[] }
def k1m3 : Method := { name := "law", desc := "(IIIII)Z", sig := { parameters := [.int, .int, .int, .int, .int], returnType := some .boolean }, accessFlags := 9, code := some k1c3 }
/-- com/example/versioned_table/versionedtable/RecordKeyEqualsPinLaw -/
def k1 : Class := { plain "com/example/versioned_table/versionedtable/RecordKeyEqualsPinLaw" (some 0) with
  accessFlags := 49
  interfaces := #[]
  cf := some (fileOf pool1 15 #[] #[{ accessFlags := 1, nameIndex := 5, descriptorIndex := 6, attributes := #[] }, { accessFlags := 10, nameIndex := 18, descriptorIndex := 19, attributes := #[] }, { accessFlags := 10, nameIndex := 25, descriptorIndex := 26, attributes := #[] }, { accessFlags := 9, nameIndex := 34, descriptorIndex := 35, attributes := #[] }] 49 2 #[] #[])
  fields := #[]
  methods := #[k1m0, k1m1, k1m2, k1m3]
  instanceTypes := #[]
  staticTypes := #[]
  resolved := Array.replicate 38 none
  statics := none }

def pool2 : Array CpInfo := pool [(1, .methodref 2 3), (0, .class_ 4), (0, .nameAndType 5 6), (0, u "java/lang/Object"), (0, u "<init>"), (0, u "()V"), (0, .class_ 8), (0, u "java/lang/Record")] 13

def k2c0 : Code := { maxStack := 1, maxLocals := 1, code := jdk_30_method_1_code, exceptionTable := #[], attributes := #[] }
def k2m0 : Method := { name := "<init>", desc := "()V", sig := { parameters := [], returnType := none }, accessFlags := 4, code := some k2c0 }
/-- java/lang/Record -/
def k2 : Class := { plain "java/lang/Record" (some 0) with
  accessFlags := 1057
  interfaces := #[]
  cf := some (fileOf pool2 7 #[] #[{ accessFlags := 4, nameIndex := 5, descriptorIndex := 6, attributes := #[] }] 1057 2 #[] #[])
  fields := #[]
  methods := #[k2m0]
  instanceTypes := #[]
  staticTypes := #[]
  resolved := Array.replicate 22 none
  statics := none }

def pool3 : Array CpInfo := pool [(1, .methodref 2 3), (0, .class_ 4), (0, .nameAndType 5 6), (0, u "java/lang/Record"), (0, u "<init>"), (0, u "()V"), (0, .methodref 8 9), (0, .class_ 10), (0, .nameAndType 11 12), (0, u "com/example/versioned_table/versionedtable/RecordKey"), (0, u "requirePartition"), (0, u "(Ljava/lang/String;)V"), (0, .string 14), (0, u "sort"), (0, .methodref 8 16), (0, .nameAndType 17 18), (0, u "requirePart"), (0, u "(Ljava/lang/String;Ljava/lang/String;I)V"), (0, .fieldref 8 20), (0, .nameAndType 21 22), (0, u "partition"), (0, u "Ljava/lang/String;"), (0, .fieldref 8 24), (0, .nameAndType 14 22), (2, u "(Ljava/lang/String;Ljava/lang/String;)V"), (0, .methodref 29 30), (0, .class_ 31), (0, .nameAndType 32 33), (0, u "java/lang/String"), (0, u "equals"), (0, u "(Ljava/lang/Object;)Z"), (4, .string 21), (0, .methodref 40 41), (0, .class_ 42), (0, .nameAndType 43 44), (0, u "com/example/versioned_table/versionedtable/Utf8"), (0, u "unpairedSurrogate"), (0, u "(Ljava/lang/String;)Ljava/util/OptionalInt;"), (0, .methodref 46 47), (0, .class_ 48), (0, .nameAndType 49 50), (0, u "java/util/OptionalInt"), (0, u "isPresent"), (0, u "()Z"), (11, .invokeDynamic 1 63), (0, .nameAndType 64 65), (0, u "get"), (0, u "(Ljava/lang/String;)Ljava/util/function/Supplier;"), (0, .methodref 67 68), (0, .class_ 69), (0, .nameAndType 70 71), (0, u "java/util/Objects"), (0, u "requireNonNull"), (0, u "(Ljava/lang/Object;Ljava/util/function/Supplier;)Ljava/lang/Object;"), (0, .methodref 29 73), (0, .nameAndType 74 50), (0, u "isEmpty"), (2, u "(Ljava/lang/String;)Ljava/lang/String;"), (0, .methodref 8 79), (0, .nameAndType 80 27), (0, u "requireWellFormed"), (0, .methodref 40 82), (0, .nameAndType 83 84), (0, u "isOver"), (0, u "(Ljava/lang/String;J)Z"), (39, u "SORT_ORDER"), (0, u "Ljava/util/Comparator;"), (0, u "MAX_PARTITION_BYTES"), (0, u "I"), (2, u "MAX_SORT_BYTES"), (11, u "()Ljava/lang/String;"), (0, u "lambda$requirePart$0"), (7, .methodType 152), (0, u "()Ljava/lang/Object;"), (0, .methodHandle 6 154), (0, .methodref 8 155), (0, .nameAndType 143 77), (0, .methodType 142), (22, .methodHandle 6 180), (0, .methodref 181 182), (0, .class_ 183), (0, .nameAndType 184 185), (0, u "java/lang/invoke/LambdaMetafactory"), (0, u "metafactory"), (0, u "(Ljava/lang/invoke/MethodHandles$Lookup;Ljava/lang/String;Ljava/lang/invoke/MethodType;Ljava/lang/invoke/MethodType;Ljava/lang/invoke/MethodHandle;Ljava/lang/invoke/MethodType;)Ljava/lang/invoke/CallSite;")] 13

def k3c0 : Code := { maxStack := 3, maxLocals := 3, code := prog_22_method_1_code, exceptionTable := #[], attributes := #[] }
def k3m0 : Method := { name := "<init>", desc := "(Ljava/lang/String;Ljava/lang/String;)V", sig := { parameters := [(.object "java/lang/String"), (.object "java/lang/String")], returnType := none }, accessFlags := 1, code := some k3c0 }
def k3c1 : Code := { maxStack := 2, maxLocals := 3, code := prog_22_method_3_code, exceptionTable := #[], attributes := #[] }
def k3m1 : Method := { name := "equals", desc := "(Ljava/lang/Object;)Z", sig := { parameters := [(.object "java/lang/Object")], returnType := some .boolean }, accessFlags := 1, code := some k3c1 }
def k3c2 : Code := { maxStack := 3, maxLocals := 1, code := prog_22_method_5_code, exceptionTable := #[], attributes := #[] }
def k3m2 : Method := { name := "requirePartition", desc := "(Ljava/lang/String;)V", sig := { parameters := [(.object "java/lang/String")], returnType := none }, accessFlags := 8, code := some k3c2 }
def k3c3 : Code := { maxStack := 4, maxLocals := 3, code := prog_22_method_6_code, exceptionTable := #[], attributes := #[] }
def k3m3 : Method := { name := "requireWellFormed", desc := "(Ljava/lang/String;Ljava/lang/String;)V", sig := { parameters := [(.object "java/lang/String"), (.object "java/lang/String")], returnType := none }, accessFlags := 8, code := some k3c3 }
def k3c4 : Code := { maxStack := 6, maxLocals := 3, code := prog_22_method_7_code, exceptionTable := #[], attributes := #[] }
def k3m4 : Method := { name := "requirePart", desc := "(Ljava/lang/String;Ljava/lang/String;I)V", sig := { parameters := [(.object "java/lang/String"), (.object "java/lang/String"), .int], returnType := none }, accessFlags := 10, code := some k3c4 }
def k3c5 : Code := { maxStack := 1, maxLocals := 1, code := ⟨#[0x2a, 0xba, 0x00, 0x72, 0x00, 0x00, 0xb0]⟩, exceptionTable := #[], attributes := #[] }
def k3m5 : Method := { name := "lambda$requirePart$0", desc := "(Ljava/lang/String;)Ljava/lang/String;", sig := { parameters := [(.object "java/lang/String")], returnType := some (.object "java/lang/String") }, accessFlags := 4106, code := some k3c5 }
/-- com/example/versioned_table/versionedtable/RecordKey -/
def k3 : Class := { plain "com/example/versioned_table/versionedtable/RecordKey" (some 2) with
  accessFlags := 49
  interfaces := #[]
  cf := some (fileOf pool3 8 #[.bootstrapMethods #[⟨0, #[]⟩, ⟨179, #[151, 153, 156]⟩, ⟨0, #[]⟩, ⟨0, #[]⟩, ⟨0, #[]⟩, ⟨0, #[]⟩, ⟨0, #[]⟩]] #[{ accessFlags := 1, nameIndex := 5, descriptorIndex := 27, attributes := #[] }, { accessFlags := 1, nameIndex := 32, descriptorIndex := 33, attributes := #[] }, { accessFlags := 8, nameIndex := 11, descriptorIndex := 12, attributes := #[] }, { accessFlags := 8, nameIndex := 80, descriptorIndex := 27, attributes := #[] }, { accessFlags := 10, nameIndex := 17, descriptorIndex := 18, attributes := #[] }, { accessFlags := 4106, nameIndex := 143, descriptorIndex := 77, attributes := #[] }] 49 2 #[] #[{ accessFlags := 18, nameIndex := 21, descriptorIndex := 22, attributes := #[] }, { accessFlags := 18, nameIndex := 14, descriptorIndex := 22, attributes := #[] }, { accessFlags := 25, nameIndex := 126, descriptorIndex := 127, attributes := #[] }, { accessFlags := 25, nameIndex := 130, descriptorIndex := 127, attributes := #[] }, { accessFlags := 25, nameIndex := 124, descriptorIndex := 125, attributes := #[] }])
  fields := #[{ name := "partition", type := (.object "java/lang/String"), accessFlags := 18, slot := 0, constantValue := 0 }, { name := "sort", type := (.object "java/lang/String"), accessFlags := 18, slot := 1, constantValue := 0 }, { name := "MAX_PARTITION_BYTES", type := .int, accessFlags := 25, slot := 0, constantValue := 0 }, { name := "MAX_SORT_BYTES", type := .int, accessFlags := 25, slot := 1, constantValue := 0 }, { name := "SORT_ORDER", type := (.object "java/util/Comparator"), accessFlags := 25, slot := 2, constantValue := 0 }]
  methods := #[k3m0, k3m1, k3m2, k3m3, k3m4, k3m5]
  instanceTypes := #[(.object "java/lang/String"), (.object "java/lang/String")]
  staticTypes := #[.int, .int, (.object "java/util/Comparator")]
  resolved := Array.replicate 199 none
  callSites := [(4, 2, .makes 26)]
  statics := none }

def pool4 : Array CpInfo := pool [(1, .class_ 2), (0, u "java/io/Serializable"), (0, .class_ 4), (0, u "java/lang/Object")] 2

/-- java/io/Serializable -/
def k4 : Class := { plain "java/io/Serializable" (some 0) with
  accessFlags := 1537
  interfaces := #[]
  cf := some (fileOf pool4 1 #[] #[] 1537 3 #[] #[])
  fields := #[]
  methods := #[]
  instanceTypes := #[]
  staticTypes := #[]
  resolved := Array.replicate 7 none
  statics := none }

def pool5 : Array CpInfo := pool [(1, .class_ 2), (0, u "java/lang/Comparable"), (0, .class_ 4), (0, u "java/lang/Object")] 7

/-- java/lang/Comparable -/
def k5 : Class := { plain "java/lang/Comparable" (some 0) with
  accessFlags := 1537
  interfaces := #[]
  cf := some (fileOf pool5 1 #[] #[] 1537 3 #[] #[])
  fields := #[]
  methods := #[]
  instanceTypes := #[]
  staticTypes := #[]
  resolved := Array.replicate 12 none
  statics := none }

def pool6 : Array CpInfo := pool [(2, .class_ 4), (1, u "java/lang/CharSequence"), (42, .class_ 48), (0, u "java/lang/CharSequence$1CodePointIterator"), (10, .class_ 60), (0, u "java/lang/CharSequence$1CharIterator"), (5, .class_ 67), (0, u "java/lang/Object")] 63

/-- java/lang/CharSequence -/
def k6 : Class := { plain "java/lang/CharSequence" (some 0) with
  accessFlags := 1537
  interfaces := #[]
  cf := some (fileOf pool6 2 #[.nestMembers #[47, 59]] #[] 1537 66 #[] #[])
  fields := #[]
  methods := #[]
  instanceTypes := #[]
  staticTypes := #[]
  resolved := Array.replicate 131 none
  statics := none }

def pool7 : Array CpInfo := pool [(1, .class_ 2), (0, u "java/lang/constant/Constable"), (0, .class_ 4), (0, u "java/lang/Object")] 6

/-- java/lang/constant/Constable -/
def k7 : Class := { plain "java/lang/constant/Constable" (some 0) with
  accessFlags := 1537
  interfaces := #[]
  cf := some (fileOf pool7 1 #[] #[] 1537 3 #[] #[])
  fields := #[]
  methods := #[]
  instanceTypes := #[]
  staticTypes := #[]
  resolved := Array.replicate 11 none
  statics := none }

def pool8 : Array CpInfo := pool [(1, .class_ 2), (0, u "java/lang/constant/ConstantDesc"), (0, .class_ 4), (0, u "java/lang/Object")] 32

/-- java/lang/constant/ConstantDesc -/
def k8 : Class := { plain "java/lang/constant/ConstantDesc" (some 0) with
  accessFlags := 1537
  interfaces := #[]
  cf := some (fileOf pool8 1 #[] #[] 1537 3 #[] #[])
  fields := #[]
  methods := #[]
  instanceTypes := #[]
  staticTypes := #[]
  resolved := Array.replicate 37 none
  statics := none }

def pool9 : Array CpInfo := pool [(1, .methodref 2 3), (0, .class_ 4), (0, .nameAndType 5 6), (0, u "java/lang/Object"), (0, u "<init>"), (0, u "()V"), (2, .fieldref 10 11), (0, .class_ 12), (0, .nameAndType 13 14), (0, u "java/lang/String"), (0, u "value"), (0, u "[B"), (0, .fieldref 10 16), (0, .nameAndType 17 18), (0, u "coder"), (0, u "B"), (2, u "hash"), (0, u "I"), (2, u "hashIsZero"), (0, u "Z"), (0, .methodref 10 28), (0, .nameAndType 5 29), (0, u "([CIILjava/lang/Void;)V"), (8, .fieldref 10 39), (0, .nameAndType 40 26), (0, u "COMPACT_STRINGS"), (1, .class_ 44), (1, u "java/lang/StringUTF16"), (0, u "compress"), (1, .methodref 42 48), (0, .nameAndType 49 50), (0, u "coderFromArrayLen"), (0, u "([BI)B"), (56, .class_ 109), (1, u "java/lang/StringLatin1"), (32, u "()Z"), (34, .methodref 42 178), (0, .nameAndType 45 179), (0, u "([CII)[B"), (154, u "()I"), (0, .methodref 10 336), (0, .nameAndType 17 337), (0, u "()B"), (25, u "([BI)C"), (27, u "(II)V"), (35, u "(I)C"), (64, .methodref 10 493), (0, .nameAndType 494 142), (0, u "isLatin1"), (0, .methodref 107 496), (0, .nameAndType 497 363), (0, u "charAt"), (3, u "checkIndex"), (5, u "length"), (33, .methodref 107 542), (0, .nameAndType 543 544), (0, u "equals"), (0, u "([B[B)Z"), (28, u "(Ljava/lang/Object;)Z"), (1, .class_ 576), (0, u "java/lang/CharSequence"), (22, u "CASE_INSENSITIVE_ORDER"), (0, u "Ljava/util/Comparator;"), (91, u "isEmpty"), (317, u "([C)V"), (42, .fieldref 1054 1055), (0, .class_ 1056), (0, .nameAndType 1057 1058), (0, u "jdk/internal/util/Preconditions"), (0, u "SIOOBE_FORMATTER"), (0, u "Ljava/util/function/BiFunction;"), (0, .methodref 1054 1060), (0, .nameAndType 501 1061), (0, u "(IILjava/util/function/BiFunction;)I"), (39, u "serialPersistentFields"), (0, u "[Ljava/io/ObjectStreamField;"), (0, .class_ 1104), (0, u "java/lang/String$CaseInsensitiveComparator"), (1, .class_ 1107), (0, u "java/io/Serializable"), (0, .class_ 1109), (0, u "java/lang/Comparable"), (0, .class_ 1111), (0, u "java/lang/constant/Constable"), (0, .class_ 1113), (0, u "java/lang/constant/ConstantDesc"), (2, u "serialVersionUID"), (0, u "J"), (3, u "REPL"), (0, u "C"), (2, u "LATIN1"), (1, u "UTF16")] 323

def k9m0 : Method := { name := "<init>", desc := "()V", sig := { parameters := [], returnType := none }, accessFlags := 1, code := none }
def k9c1 : Code := { maxStack := 5, maxLocals := 2, code := jdk_42_method_3_code, exceptionTable := #[], attributes := #[] }
def k9m1 : Method := { name := "<init>", desc := "([C)V", sig := { parameters := [(.array .char)], returnType := none }, accessFlags := 1, code := some k9c1 }
def k9c2 : Code := { maxStack := 2, maxLocals := 1, code := jdk_42_method_54_code, exceptionTable := #[], attributes := #[] }
def k9m2 : Method := { name := "length", desc := "()I", sig := { parameters := [], returnType := some .int }, accessFlags := 1, code := some k9c2 }
def k9c3 : Code := { maxStack := 1, maxLocals := 1, code := jdk_42_method_55_code, exceptionTable := #[], attributes := #[] }
def k9m3 : Method := { name := "isEmpty", desc := "()Z", sig := { parameters := [], returnType := some .boolean }, accessFlags := 1, code := some k9c3 }
def k9c4 : Code := { maxStack := 2, maxLocals := 2, code := jdk_42_method_56_code, exceptionTable := #[], attributes := #[] }
def k9m4 : Method := { name := "charAt", desc := "(I)C", sig := { parameters := [.int], returnType := some .char }, accessFlags := 1, code := some k9c4 }
def k9c5 : Code := { maxStack := 2, maxLocals := 3, code := jdk_42_method_66_code, exceptionTable := #[], attributes := #[] }
def k9m5 : Method := { name := "equals", desc := "(Ljava/lang/Object;)Z", sig := { parameters := [(.object "java/lang/Object")], returnType := some .boolean }, accessFlags := 1, code := some k9c5 }
def k9c6 : Code := { maxStack := 4, maxLocals := 6, code := jdk_42_method_149_code, exceptionTable := #[], attributes := #[] }
def k9m6 : Method := { name := "<init>", desc := "([CIILjava/lang/Void;)V", sig := { parameters := [(.array .char), .int, .int, (.object "java/lang/Void")], returnType := none }, accessFlags := 2, code := some k9c6 }
def k9c7 : Code := { maxStack := 1, maxLocals := 1, code := jdk_42_method_152_code, exceptionTable := #[], attributes := #[] }
def k9m7 : Method := { name := "coder", desc := "()B", sig := { parameters := [], returnType := some .byte }, accessFlags := 0, code := some k9c7 }
def k9c8 : Code := { maxStack := 1, maxLocals := 1, code := jdk_42_method_154_code, exceptionTable := #[], attributes := #[] }
def k9m8 : Method := { name := "isLatin1", desc := "()Z", sig := { parameters := [], returnType := some .boolean }, accessFlags := 0, code := some k9c8 }
def k9c9 : Code := { maxStack := 3, maxLocals := 2, code := jdk_42_method_155_code, exceptionTable := #[], attributes := #[] }
def k9m9 : Method := { name := "checkIndex", desc := "(II)V", sig := { parameters := [.int, .int], returnType := none }, accessFlags := 8, code := some k9c9 }
/-- java/lang/String -/
def k9 : Class := { plain "java/lang/String" (some 0) with
  accessFlags := 49
  interfaces := #[4, 5, 6, 7, 8]
  cf := some (fileOf pool9 10 #[.nestMembers #[1103]] #[{ accessFlags := 1, nameIndex := 5, descriptorIndex := 6, attributes := #[] }, { accessFlags := 1, nameIndex := 5, descriptorIndex := 1010, attributes := #[] }, { accessFlags := 1, nameIndex := 507, descriptorIndex := 334, attributes := #[] }, { accessFlags := 1, nameIndex := 692, descriptorIndex := 142, attributes := #[] }, { accessFlags := 1, nameIndex := 497, descriptorIndex := 427, attributes := #[] }, { accessFlags := 1, nameIndex := 543, descriptorIndex := 573, attributes := #[] }, { accessFlags := 2, nameIndex := 5, descriptorIndex := 29, attributes := #[] }, { accessFlags := 0, nameIndex := 17, descriptorIndex := 337, attributes := #[] }, { accessFlags := 0, nameIndex := 494, descriptorIndex := 142, attributes := #[] }, { accessFlags := 8, nameIndex := 501, descriptorIndex := 391, attributes := #[] }] 49 2 #[1106, 1108, 575, 1110, 1112] #[{ accessFlags := 18, nameIndex := 13, descriptorIndex := 14, attributes := #[] }, { accessFlags := 18, nameIndex := 17, descriptorIndex := 18, attributes := #[] }, { accessFlags := 2, nameIndex := 21, descriptorIndex := 22, attributes := #[] }, { accessFlags := 2, nameIndex := 25, descriptorIndex := 26, attributes := #[] }, { accessFlags := 26, nameIndex := 1116, descriptorIndex := 1117, attributes := #[] }, { accessFlags := 24, nameIndex := 40, descriptorIndex := 26, attributes := #[] }, { accessFlags := 26, nameIndex := 1101, descriptorIndex := 1102, attributes := #[] }, { accessFlags := 26, nameIndex := 1121, descriptorIndex := 1122, attributes := #[] }, { accessFlags := 25, nameIndex := 599, descriptorIndex := 600, attributes := #[] }, { accessFlags := 24, nameIndex := 1125, descriptorIndex := 18, attributes := #[] }, { accessFlags := 24, nameIndex := 1127, descriptorIndex := 18, attributes := #[] }])
  fields := #[{ name := "value", type := (.array .byte), accessFlags := 18, slot := 0, constantValue := 0 }, { name := "coder", type := .byte, accessFlags := 18, slot := 1, constantValue := 0 }, { name := "hash", type := .int, accessFlags := 2, slot := 2, constantValue := 0 }, { name := "hashIsZero", type := .boolean, accessFlags := 2, slot := 3, constantValue := 0 }, { name := "serialVersionUID", type := .long, accessFlags := 26, slot := 0, constantValue := 0 }, { name := "COMPACT_STRINGS", type := .boolean, accessFlags := 24, slot := 1, constantValue := 0 }, { name := "serialPersistentFields", type := (.array (.object "java/io/ObjectStreamField")), accessFlags := 26, slot := 2, constantValue := 0 }, { name := "REPL", type := .char, accessFlags := 26, slot := 3, constantValue := 0 }, { name := "CASE_INSENSITIVE_ORDER", type := (.object "java/util/Comparator"), accessFlags := 25, slot := 4, constantValue := 0 }, { name := "LATIN1", type := .byte, accessFlags := 24, slot := 5, constantValue := 0 }, { name := "UTF16", type := .byte, accessFlags := 24, slot := 6, constantValue := 0 }]
  methods := #[k9m0, k9m1, k9m2, k9m3, k9m4, k9m5, k9m6, k9m7, k9m8, k9m9]
  instanceTypes := #[(.array .byte), .byte, .int, .boolean]
  staticTypes := #[.long, .boolean, (.array (.object "java/io/ObjectStreamField")), .char, (.object "java/util/Comparator"), .byte, .byte]
  resolved := Array.replicate 1451 none
  statics := some 0 }

def pool10 : Array CpInfo := pool [(6, .class_ 8), (1, u "java/lang/Object"), (0, u "<init>"), (0, u "()V"), (1, .class_ 14), (1, u "java/lang/StringUTF16"), (31, u "$assertionsDisabled"), (0, u "Z"), (13, u "HI_BYTE_SHIFT"), (0, u "I"), (2, u "LO_BYTE_SHIFT"), (49, .methodref 12 116), (0, .nameAndType 117 118), (0, u "compress"), (0, u "([CI[BII)I"), (3, u "([CII)[B"), (138, u "coderFromArrayLen"), (0, u "([BI)B"), (106, .class_ 371), (1, u "java/lang/StringUTF16$LinesSpliterator"), (58, u "MAX_LENGTH"), (196, .class_ 628), (0, u "java/lang/StringUTF16$CodePointsSpliterator"), (0, .class_ 630), (0, u "java/lang/StringUTF16$CharsSpliterator")] 4

def k10m0 : Method := { name := "<init>", desc := "()V", sig := { parameters := [], returnType := none }, accessFlags := 0, code := none }
def k10c1 : Code := { maxStack := 2, maxLocals := 2, code := jdk_52_method_15_code, exceptionTable := #[], attributes := #[] }
def k10m1 : Method := { name := "coderFromArrayLen", desc := "([BI)B", sig := { parameters := [(.array .byte), .int], returnType := some .byte }, accessFlags := 8, code := some k10c1 }
def k10c2 : Code := { maxStack := 5, maxLocals := 6, code := jdk_52_method_16_code, exceptionTable := #[], attributes := #[] }
def k10m2 : Method := { name := "compress", desc := "([CII)[B", sig := { parameters := [(.array .char), .int, .int], returnType := some (.array .byte) }, accessFlags := 9, code := some k10c2 }
def k10c3 : Code := { maxStack := 3, maxLocals := 7, code := jdk_52_method_21_code, exceptionTable := #[], attributes := #[] }
def k10m3 : Method := { name := "compress", desc := "([CI[BII)I", sig := { parameters := [(.array .char), .int, (.array .byte), .int, .int], returnType := some .int }, accessFlags := 9, code := some k10c3 }
/-- java/lang/StringUTF16 -/
def k10 : Class := { plain "java/lang/StringUTF16" (some 0) with
  accessFlags := 48
  interfaces := #[]
  cf := some (fileOf pool10 12 #[.nestMembers #[627, 629, 369]] #[{ accessFlags := 0, nameIndex := 9, descriptorIndex := 10, attributes := #[] }, { accessFlags := 8, nameIndex := 261, descriptorIndex := 262, attributes := #[] }, { accessFlags := 9, nameIndex := 117, descriptorIndex := 122, attributes := #[] }, { accessFlags := 9, nameIndex := 117, descriptorIndex := 118, attributes := #[] }] 48 6 #[] #[{ accessFlags := 26, nameIndex := 61, descriptorIndex := 62, attributes := #[] }, { accessFlags := 26, nameIndex := 65, descriptorIndex := 62, attributes := #[] }, { accessFlags := 24, nameIndex := 430, descriptorIndex := 62, attributes := #[] }, { accessFlags := 4120, nameIndex := 46, descriptorIndex := 47, attributes := #[] }])
  fields := #[{ name := "HI_BYTE_SHIFT", type := .int, accessFlags := 26, slot := 0, constantValue := 0 }, { name := "LO_BYTE_SHIFT", type := .int, accessFlags := 26, slot := 1, constantValue := 0 }, { name := "MAX_LENGTH", type := .int, accessFlags := 24, slot := 2, constantValue := 0 }, { name := "$assertionsDisabled", type := .boolean, accessFlags := 4120, slot := 3, constantValue := 0 }]
  methods := #[k10m0, k10m1, k10m2, k10m3]
  instanceTypes := #[]
  staticTypes := #[.int, .int, .int, .boolean]
  resolved := Array.replicate 635 none
  statics := none }

def pool11 : Array CpInfo := pool [(1, .class_ 2), (0, u "java/util/function/Supplier"), (0, .class_ 4), (0, u "java/lang/Object"), (0, u "get"), (0, u "()Ljava/lang/Object;")] 7

def k11m0 : Method := { name := "get", desc := "()Ljava/lang/Object;", sig := { parameters := [], returnType := some (.object "java/lang/Object") }, accessFlags := 1025, code := none }
/-- java/util/function/Supplier -/
def k11 : Class := { plain "java/util/function/Supplier" (some 0) with
  accessFlags := 1537
  interfaces := #[]
  cf := some (fileOf pool11 1 #[] #[{ accessFlags := 1025, nameIndex := 5, descriptorIndex := 6, attributes := #[] }] 1537 3 #[] #[])
  fields := #[]
  methods := #[k11m0]
  instanceTypes := #[]
  staticTypes := #[]
  resolved := Array.replicate 14 none
  statics := none }

def pool12 : Array CpInfo := pool [(2, .class_ 4), (1, u "java/lang/Object"), (0, u "<init>"), (0, u "()V"), (35, .class_ 44), (1, u "java/util/Objects"), (0, u "requireNonNull"), (118, u "(Ljava/lang/Object;Ljava/util/function/Supplier;)Ljava/lang/Object;")] 19

def k12m0 : Method := { name := "<init>", desc := "()V", sig := { parameters := [], returnType := none }, accessFlags := 2, code := none }
def k12c1 : Code := { maxStack := 3, maxLocals := 2, code := jdk_31_method_16_code, exceptionTable := #[], attributes := #[] }
def k12m1 : Method := { name := "requireNonNull", desc := "(Ljava/lang/Object;Ljava/util/function/Supplier;)Ljava/lang/Object;", sig := { parameters := [(.object "java/lang/Object"), (.object "java/util/function/Supplier")], returnType := some (.object "java/lang/Object") }, accessFlags := 9, code := some k12c1 }
/-- java/util/Objects -/
def k12 : Class := { plain "java/util/Objects" (some 0) with
  accessFlags := 49
  interfaces := #[]
  cf := some (fileOf pool12 42 #[] #[{ accessFlags := 2, nameIndex := 5, descriptorIndex := 6, attributes := #[] }, { accessFlags := 9, nameIndex := 45, descriptorIndex := 164, attributes := #[] }] 49 2 #[] #[])
  fields := #[]
  methods := #[k12m0, k12m1]
  instanceTypes := #[]
  staticTypes := #[]
  resolved := Array.replicate 184 none
  statics := none }

def pool13 : Array CpInfo := pool [(2, .class_ 4), (1, u "java/lang/Object"), (0, u "<init>"), (0, u "()V"), (0, .methodref 8 9), (0, .class_ 10), (0, .nameAndType 11 12), (0, u "java/lang/String"), (0, u "length"), (0, u "()I"), (1, .class_ 16), (1, u "com/example/versioned_table/versionedtable/Utf8"), (4, .methodref 8 22), (0, .nameAndType 23 24), (0, u "charAt"), (0, u "(I)C"), (4, .long 3), (1, .methodref 14 32), (0, .nameAndType 33 34), (0, u "mostLength"), (0, u "(Ljava/lang/String;)J"), (2, .methodref 38 39), (0, .class_ 40), (0, .nameAndType 41 42), (0, u "java/lang/Character"), (0, u "isSurrogate"), (0, u "(C)Z"), (1, .class_ 46), (1, u "java/util/OptionalInt"), (2, .methodref 44 50), (0, .nameAndType 51 52), (0, u "empty"), (0, u "()Ljava/util/OptionalInt;"), (6, u "MOST_BYTES_PER_CHAR"), (0, u "I"), (5, u "isOver"), (0, u "(Ljava/lang/String;J)Z"), (0, u "unpairedSurrogate"), (0, u "(Ljava/lang/String;)Ljava/util/OptionalInt;")] 2

def k13m0 : Method := { name := "<init>", desc := "()V", sig := { parameters := [], returnType := none }, accessFlags := 2, code := none }
def k13c1 : Code := { maxStack := 4, maxLocals := 1, code := prog_55_method_3_code, exceptionTable := #[], attributes := #[] }
def k13m1 : Method := { name := "mostLength", desc := "(Ljava/lang/String;)J", sig := { parameters := [(.object "java/lang/String")], returnType := some .long }, accessFlags := 8, code := some k13c1 }
def k13c2 : Code := { maxStack := 4, maxLocals := 3, code := prog_55_method_4_code, exceptionTable := #[], attributes := #[] }
def k13m2 : Method := { name := "isOver", desc := "(Ljava/lang/String;J)Z", sig := { parameters := [(.object "java/lang/String"), .long], returnType := some .boolean }, accessFlags := 8, code := some k13c2 }
def k13c3 : Code := { maxStack := 2, maxLocals := 2, code := prog_55_method_5_code, exceptionTable := #[], attributes := #[] }
def k13m3 : Method := { name := "unpairedSurrogate", desc := "(Ljava/lang/String;)Ljava/util/OptionalInt;", sig := { parameters := [(.object "java/lang/String")], returnType := some (.object "java/util/OptionalInt") }, accessFlags := 8, code := some k13c3 }
/-- com/example/versioned_table/versionedtable/Utf8 -/
def k13 : Class := { plain "com/example/versioned_table/versionedtable/Utf8" (some 0) with
  accessFlags := 48
  interfaces := #[]
  cf := some (fileOf pool13 14 #[] #[{ accessFlags := 2, nameIndex := 5, descriptorIndex := 6, attributes := #[] }, { accessFlags := 8, nameIndex := 33, descriptorIndex := 34, attributes := #[] }, { accessFlags := 8, nameIndex := 66, descriptorIndex := 67, attributes := #[] }, { accessFlags := 8, nameIndex := 68, descriptorIndex := 69, attributes := #[] }] 48 2 #[] #[{ accessFlags := 24, nameIndex := 59, descriptorIndex := 60, attributes := #[] }])
  fields := #[{ name := "MOST_BYTES_PER_CHAR", type := .int, accessFlags := 24, slot := 0, constantValue := 0 }]
  methods := #[k13m0, k13m1, k13m2, k13m3]
  instanceTypes := #[]
  staticTypes := #[.int]
  resolved := Array.replicate 72 none
  statics := none }

def pool14 : Array CpInfo := pool [(1, .class_ 2), (0, u "java/lang/String"), (1, .class_ 6), (1, u "java/lang/Object"), (0, u "<init>"), (0, u "()V"), (0, .methodref 1 10), (0, .nameAndType 11 12), (0, u "checkIndex"), (0, u "(II)V"), (1, .class_ 16), (1, u "java/lang/StringLatin1"), (36, u "([BI)C"), (67, u "$assertionsDisabled"), (0, u "Z"), (98, .class_ 223), (1, u "java/lang/StringLatin1$LinesSpliterator"), (28, u "charAt"), (28, u "equals"), (0, u "([B[B)Z"), (107, .class_ 391), (0, u "java/lang/StringLatin1$CharsSpliterator")] 3

def k14m0 : Method := { name := "<init>", desc := "()V", sig := { parameters := [], returnType := none }, accessFlags := 0, code := none }
def k14c1 : Code := { maxStack := 2, maxLocals := 2, code := jdk_43_method_2_code, exceptionTable := #[], attributes := #[] }
def k14m1 : Method := { name := "charAt", desc := "([BI)C", sig := { parameters := [(.array .byte), .int], returnType := some .char }, accessFlags := 9, code := some k14c1 }
def k14c2 : Code := { maxStack := 3, maxLocals := 3, code := jdk_43_method_13_code, exceptionTable := #[], attributes := #[] }
def k14m2 : Method := { name := "equals", desc := "([B[B)Z", sig := { parameters := [(.array .byte), (.array .byte)], returnType := some .boolean }, accessFlags := 9, code := some k14c2 }
/-- java/lang/StringLatin1 -/
def k14 : Class := { plain "java/lang/StringLatin1" (some 0) with
  accessFlags := 48
  interfaces := #[]
  cf := some (fileOf pool14 14 #[.nestMembers #[390, 221]] #[{ accessFlags := 0, nameIndex := 7, descriptorIndex := 8, attributes := #[] }, { accessFlags := 9, nameIndex := 252, descriptorIndex := 53, attributes := #[] }, { accessFlags := 9, nameIndex := 281, descriptorIndex := 282, attributes := #[] }] 48 4 #[] #[{ accessFlags := 4120, nameIndex := 121, descriptorIndex := 122, attributes := #[] }])
  fields := #[{ name := "$assertionsDisabled", type := .boolean, accessFlags := 4120, slot := 0, constantValue := 0 }]
  methods := #[k14m0, k14m1, k14m2]
  instanceTypes := #[]
  staticTypes := #[.boolean]
  resolved := Array.replicate 395 none
  statics := none }

def pool15 : Array CpInfo := pool [(2, .class_ 4), (1, u "java/lang/Object"), (0, u "<init>"), (0, u "()V"), (17, .class_ 26), (1, u "jdk/internal/util/Preconditions"), (6, u "checkIndex"), (21, .class_ 56), (0, u "jdk/internal/util/Preconditions$4"), (57, .class_ 115), (0, u "jdk/internal/util/Preconditions$1"), (7, u "SIOOBE_FORMATTER"), (0, u "Ljava/util/function/BiFunction;"), (0, .class_ 126), (0, u "jdk/internal/util/Preconditions$2"), (3, u "AIOOBE_FORMATTER"), (0, .class_ 132), (0, u "jdk/internal/util/Preconditions$3"), (3, u "IOOBE_FORMATTER"), (41, u "(IILjava/util/function/BiFunction;)I")] 15

def k15m0 : Method := { name := "<init>", desc := "()V", sig := { parameters := [], returnType := none }, accessFlags := 1, code := none }
def k15c1 : Code := { maxStack := 3, maxLocals := 3, code := jdk_41_method_11_code, exceptionTable := #[], attributes := #[] }
def k15m1 : Method := { name := "checkIndex", desc := "(IILjava/util/function/BiFunction;)I", sig := { parameters := [.int, .int, (.object "java/util/function/BiFunction")], returnType := some .int }, accessFlags := 9, code := some k15c1 }
/-- jdk/internal/util/Preconditions -/
def k15 : Class := { plain "jdk/internal/util/Preconditions" (some 0) with
  accessFlags := 33
  interfaces := #[]
  cf := some (fileOf pool15 24 #[.nestMembers #[55, 131, 125, 114]] #[{ accessFlags := 1, nameIndex := 5, descriptorIndex := 6, attributes := #[] }, { accessFlags := 9, nameIndex := 33, descriptorIndex := 178, attributes := #[] }] 33 2 #[] #[{ accessFlags := 25, nameIndex := 123, descriptorIndex := 124, attributes := #[] }, { accessFlags := 25, nameIndex := 130, descriptorIndex := 124, attributes := #[] }, { accessFlags := 25, nameIndex := 136, descriptorIndex := 124, attributes := #[] }])
  fields := #[{ name := "SIOOBE_FORMATTER", type := (.object "java/util/function/BiFunction"), accessFlags := 25, slot := 0, constantValue := 0 }, { name := "AIOOBE_FORMATTER", type := (.object "java/util/function/BiFunction"), accessFlags := 25, slot := 1, constantValue := 0 }, { name := "IOOBE_FORMATTER", type := (.object "java/util/function/BiFunction"), accessFlags := 25, slot := 2, constantValue := 0 }]
  methods := #[k15m0, k15m1]
  instanceTypes := #[]
  staticTypes := #[(.object "java/util/function/BiFunction"), (.object "java/util/function/BiFunction"), (.object "java/util/function/BiFunction")]
  resolved := Array.replicate 194 none
  statics := some 1 }

def pool16 : Array CpInfo := pool [(1, .class_ 2), (0, u "java/lang/Character"), (18, u "value"), (0, u "C"), (19, .class_ 44), (1, u "java/lang/Object"), (3, .class_ 50), (1, u "java/lang/Character$CharacterCache"), (24, .integer 55296), (5, u "(C)Z"), (202, u "$assertionsDisabled"), (0, u "Z"), (21, .class_ 309), (1, u "java/lang/Character$UnicodeBlock"), (73, u "TYPE"), (0, u "Ljava/lang/Class;"), (0, .class_ 386), (0, u "java/io/Serializable"), (0, .class_ 388), (0, u "java/lang/Comparable"), (0, .class_ 390), (0, u "java/lang/constant/Constable"), (0, u "MIN_RADIX"), (0, u "I"), (2, u "MAX_RADIX"), (1, u "MIN_VALUE"), (1, u "MAX_VALUE"), (3, u "UNASSIGNED"), (0, u "B"), (0, u "UPPERCASE_LETTER"), (1, u "LOWERCASE_LETTER"), (0, u "TITLECASE_LETTER"), (1, u "MODIFIER_LETTER"), (1, u "OTHER_LETTER"), (1, u "NON_SPACING_MARK"), (1, u "ENCLOSING_MARK"), (1, u "COMBINING_SPACING_MARK"), (1, u "DECIMAL_DIGIT_NUMBER"), (1, u "LETTER_NUMBER"), (1, u "OTHER_NUMBER"), (1, u "SPACE_SEPARATOR"), (1, u "LINE_SEPARATOR"), (1, u "PARAGRAPH_SEPARATOR"), (1, u "CONTROL"), (1, u "FORMAT"), (1, u "PRIVATE_USE"), (1, u "SURROGATE"), (1, u "DASH_PUNCTUATION"), (1, u "START_PUNCTUATION"), (1, u "END_PUNCTUATION"), (1, u "CONNECTOR_PUNCTUATION"), (1, u "OTHER_PUNCTUATION"), (1, u "MATH_SYMBOL"), (1, u "CURRENCY_SYMBOL"), (1, u "MODIFIER_SYMBOL"), (1, u "OTHER_SYMBOL"), (1, u "INITIAL_QUOTE_PUNCTUATION"), (1, u "FINAL_QUOTE_PUNCTUATION"), (1, u "ERROR"), (1, u "DIRECTIONALITY_UNDEFINED"), (0, u "DIRECTIONALITY_LEFT_TO_RIGHT"), (0, u "DIRECTIONALITY_RIGHT_TO_LEFT"), (0, u "DIRECTIONALITY_RIGHT_TO_LEFT_ARABIC"), (0, u "DIRECTIONALITY_EUROPEAN_NUMBER"), (0, u "DIRECTIONALITY_EUROPEAN_NUMBER_SEPARATOR"), (0, u "DIRECTIONALITY_EUROPEAN_NUMBER_TERMINATOR"), (0, u "DIRECTIONALITY_ARABIC_NUMBER"), (0, u "DIRECTIONALITY_COMMON_NUMBER_SEPARATOR"), (0, u "DIRECTIONALITY_NONSPACING_MARK"), (0, u "DIRECTIONALITY_BOUNDARY_NEUTRAL"), (0, u "DIRECTIONALITY_PARAGRAPH_SEPARATOR"), (0, u "DIRECTIONALITY_SEGMENT_SEPARATOR"), (0, u "DIRECTIONALITY_WHITESPACE"), (0, u "DIRECTIONALITY_OTHER_NEUTRALS"), (0, u "DIRECTIONALITY_LEFT_TO_RIGHT_EMBEDDING"), (0, u "DIRECTIONALITY_LEFT_TO_RIGHT_OVERRIDE"), (0, u "DIRECTIONALITY_RIGHT_TO_LEFT_EMBEDDING"), (0, u "DIRECTIONALITY_RIGHT_TO_LEFT_OVERRIDE"), (1, u "DIRECTIONALITY_POP_DIRECTIONAL_FORMAT"), (0, u "DIRECTIONALITY_LEFT_TO_RIGHT_ISOLATE"), (0, u "DIRECTIONALITY_RIGHT_TO_LEFT_ISOLATE"), (0, u "DIRECTIONALITY_FIRST_STRONG_ISOLATE"), (0, u "DIRECTIONALITY_POP_DIRECTIONAL_ISOLATE"), (0, u "MIN_HIGH_SURROGATE"), (0, u "MAX_HIGH_SURROGATE"), (1, u "MIN_LOW_SURROGATE"), (0, u "MAX_LOW_SURROGATE"), (1, u "MIN_SURROGATE"), (0, u "MAX_SURROGATE"), (0, u "MIN_SUPPLEMENTARY_CODE_POINT"), (0, u "MIN_CODE_POINT"), (0, u "MAX_CODE_POINT"), (1, u "serialVersionUID"), (0, u "J"), (2, u "SIZE"), (0, u "BYTES"), (24, u "isSurrogate"), (63, .class_ 596), (0, u "java/lang/Character$UnicodeScript"), (0, .class_ 598), (0, u "java/lang/Character$Subset")] 5

def k16c0 : Code := { maxStack := 2, maxLocals := 1, code := jdk_89_method_16_code, exceptionTable := #[], attributes := #[] }
def k16m0 : Method := { name := "isSurrogate", desc := "(C)Z", sig := { parameters := [.char], returnType := some .boolean }, accessFlags := 9, code := some k16c0 }
/-- java/lang/Character -/
def k16 : Class := { plain "java/lang/Character" (some 0) with
  accessFlags := 49
  interfaces := #[4, 5, 7]
  cf := some (fileOf pool16 1 #[.nestMembers #[48, 595, 307, 597]] #[{ accessFlags := 9, nameIndex := 531, descriptorIndex := 81, attributes := #[] }] 49 42 #[385, 387, 389] #[{ accessFlags := 25, nameIndex := 391, descriptorIndex := 392, attributes := #[] }, { accessFlags := 25, nameIndex := 395, descriptorIndex := 392, attributes := #[] }, { accessFlags := 25, nameIndex := 397, descriptorIndex := 22, attributes := #[] }, { accessFlags := 25, nameIndex := 399, descriptorIndex := 22, attributes := #[] }, { accessFlags := 25, nameIndex := 383, descriptorIndex := 384, attributes := #[] }, { accessFlags := 25, nameIndex := 403, descriptorIndex := 404, attributes := #[] }, { accessFlags := 25, nameIndex := 405, descriptorIndex := 404, attributes := #[] }, { accessFlags := 25, nameIndex := 407, descriptorIndex := 404, attributes := #[] }, { accessFlags := 25, nameIndex := 408, descriptorIndex := 404, attributes := #[] }, { accessFlags := 25, nameIndex := 410, descriptorIndex := 404, attributes := #[] }, { accessFlags := 25, nameIndex := 412, descriptorIndex := 404, attributes := #[] }, { accessFlags := 25, nameIndex := 414, descriptorIndex := 404, attributes := #[] }, { accessFlags := 25, nameIndex := 416, descriptorIndex := 404, attributes := #[] }, { accessFlags := 25, nameIndex := 418, descriptorIndex := 404, attributes := #[] }, { accessFlags := 25, nameIndex := 420, descriptorIndex := 404, attributes := #[] }, { accessFlags := 25, nameIndex := 422, descriptorIndex := 404, attributes := #[] }, { accessFlags := 25, nameIndex := 424, descriptorIndex := 404, attributes := #[] }, { accessFlags := 25, nameIndex := 426, descriptorIndex := 404, attributes := #[] }, { accessFlags := 25, nameIndex := 428, descriptorIndex := 404, attributes := #[] }, { accessFlags := 25, nameIndex := 430, descriptorIndex := 404, attributes := #[] }, { accessFlags := 25, nameIndex := 432, descriptorIndex := 404, attributes := #[] }, { accessFlags := 25, nameIndex := 434, descriptorIndex := 404, attributes := #[] }, { accessFlags := 25, nameIndex := 436, descriptorIndex := 404, attributes := #[] }, { accessFlags := 25, nameIndex := 438, descriptorIndex := 404, attributes := #[] }, { accessFlags := 25, nameIndex := 440, descriptorIndex := 404, attributes := #[] }, { accessFlags := 25, nameIndex := 442, descriptorIndex := 404, attributes := #[] }, { accessFlags := 25, nameIndex := 444, descriptorIndex := 404, attributes := #[] }, { accessFlags := 25, nameIndex := 446, descriptorIndex := 404, attributes := #[] }, { accessFlags := 25, nameIndex := 448, descriptorIndex := 404, attributes := #[] }, { accessFlags := 25, nameIndex := 450, descriptorIndex := 404, attributes := #[] }, { accessFlags := 25, nameIndex := 452, descriptorIndex := 404, attributes := #[] }, { accessFlags := 25, nameIndex := 454, descriptorIndex := 404, attributes := #[] }, { accessFlags := 25, nameIndex := 456, descriptorIndex := 404, attributes := #[] }, { accessFlags := 25, nameIndex := 458, descriptorIndex := 404, attributes := #[] }, { accessFlags := 25, nameIndex := 460, descriptorIndex := 404, attributes := #[] }, { accessFlags := 24, nameIndex := 462, descriptorIndex := 392, attributes := #[] }, { accessFlags := 25, nameIndex := 464, descriptorIndex := 404, attributes := #[] }, { accessFlags := 25, nameIndex := 465, descriptorIndex := 404, attributes := #[] }, { accessFlags := 25, nameIndex := 466, descriptorIndex := 404, attributes := #[] }, { accessFlags := 25, nameIndex := 467, descriptorIndex := 404, attributes := #[] }, { accessFlags := 25, nameIndex := 468, descriptorIndex := 404, attributes := #[] }, { accessFlags := 25, nameIndex := 469, descriptorIndex := 404, attributes := #[] }, { accessFlags := 25, nameIndex := 470, descriptorIndex := 404, attributes := #[] }, { accessFlags := 25, nameIndex := 471, descriptorIndex := 404, attributes := #[] }, { accessFlags := 25, nameIndex := 472, descriptorIndex := 404, attributes := #[] }, { accessFlags := 25, nameIndex := 473, descriptorIndex := 404, attributes := #[] }, { accessFlags := 25, nameIndex := 474, descriptorIndex := 404, attributes := #[] }, { accessFlags := 25, nameIndex := 475, descriptorIndex := 404, attributes := #[] }, { accessFlags := 25, nameIndex := 476, descriptorIndex := 404, attributes := #[] }, { accessFlags := 25, nameIndex := 477, descriptorIndex := 404, attributes := #[] }, { accessFlags := 25, nameIndex := 478, descriptorIndex := 404, attributes := #[] }, { accessFlags := 25, nameIndex := 479, descriptorIndex := 404, attributes := #[] }, { accessFlags := 25, nameIndex := 480, descriptorIndex := 404, attributes := #[] }, { accessFlags := 25, nameIndex := 481, descriptorIndex := 404, attributes := #[] }, { accessFlags := 25, nameIndex := 482, descriptorIndex := 404, attributes := #[] }, { accessFlags := 25, nameIndex := 484, descriptorIndex := 404, attributes := #[] }, { accessFlags := 25, nameIndex := 485, descriptorIndex := 404, attributes := #[] }, { accessFlags := 25, nameIndex := 486, descriptorIndex := 404, attributes := #[] }, { accessFlags := 25, nameIndex := 487, descriptorIndex := 404, attributes := #[] }, { accessFlags := 25, nameIndex := 488, descriptorIndex := 404, attributes := #[] }, { accessFlags := 25, nameIndex := 489, descriptorIndex := 22, attributes := #[] }, { accessFlags := 25, nameIndex := 490, descriptorIndex := 22, attributes := #[] }, { accessFlags := 25, nameIndex := 492, descriptorIndex := 22, attributes := #[] }, { accessFlags := 25, nameIndex := 493, descriptorIndex := 22, attributes := #[] }, { accessFlags := 25, nameIndex := 495, descriptorIndex := 22, attributes := #[] }, { accessFlags := 25, nameIndex := 496, descriptorIndex := 22, attributes := #[] }, { accessFlags := 25, nameIndex := 497, descriptorIndex := 392, attributes := #[] }, { accessFlags := 25, nameIndex := 498, descriptorIndex := 392, attributes := #[] }, { accessFlags := 25, nameIndex := 499, descriptorIndex := 392, attributes := #[] }, { accessFlags := 18, nameIndex := 21, descriptorIndex := 22, attributes := #[] }, { accessFlags := 26, nameIndex := 501, descriptorIndex := 502, attributes := #[] }, { accessFlags := 25, nameIndex := 505, descriptorIndex := 392, attributes := #[] }, { accessFlags := 25, nameIndex := 506, descriptorIndex := 392, attributes := #[] }, { accessFlags := 4120, nameIndex := 284, descriptorIndex := 285, attributes := #[] }])
  fields := #[{ name := "MIN_RADIX", type := .int, accessFlags := 25, slot := 0, constantValue := 0 }, { name := "MAX_RADIX", type := .int, accessFlags := 25, slot := 1, constantValue := 0 }, { name := "MIN_VALUE", type := .char, accessFlags := 25, slot := 2, constantValue := 0 }, { name := "MAX_VALUE", type := .char, accessFlags := 25, slot := 3, constantValue := 0 }, { name := "TYPE", type := (.object "java/lang/Class"), accessFlags := 25, slot := 4, constantValue := 0 }, { name := "UNASSIGNED", type := .byte, accessFlags := 25, slot := 5, constantValue := 0 }, { name := "UPPERCASE_LETTER", type := .byte, accessFlags := 25, slot := 6, constantValue := 0 }, { name := "LOWERCASE_LETTER", type := .byte, accessFlags := 25, slot := 7, constantValue := 0 }, { name := "TITLECASE_LETTER", type := .byte, accessFlags := 25, slot := 8, constantValue := 0 }, { name := "MODIFIER_LETTER", type := .byte, accessFlags := 25, slot := 9, constantValue := 0 }, { name := "OTHER_LETTER", type := .byte, accessFlags := 25, slot := 10, constantValue := 0 }, { name := "NON_SPACING_MARK", type := .byte, accessFlags := 25, slot := 11, constantValue := 0 }, { name := "ENCLOSING_MARK", type := .byte, accessFlags := 25, slot := 12, constantValue := 0 }, { name := "COMBINING_SPACING_MARK", type := .byte, accessFlags := 25, slot := 13, constantValue := 0 }, { name := "DECIMAL_DIGIT_NUMBER", type := .byte, accessFlags := 25, slot := 14, constantValue := 0 }, { name := "LETTER_NUMBER", type := .byte, accessFlags := 25, slot := 15, constantValue := 0 }, { name := "OTHER_NUMBER", type := .byte, accessFlags := 25, slot := 16, constantValue := 0 }, { name := "SPACE_SEPARATOR", type := .byte, accessFlags := 25, slot := 17, constantValue := 0 }, { name := "LINE_SEPARATOR", type := .byte, accessFlags := 25, slot := 18, constantValue := 0 }, { name := "PARAGRAPH_SEPARATOR", type := .byte, accessFlags := 25, slot := 19, constantValue := 0 }, { name := "CONTROL", type := .byte, accessFlags := 25, slot := 20, constantValue := 0 }, { name := "FORMAT", type := .byte, accessFlags := 25, slot := 21, constantValue := 0 }, { name := "PRIVATE_USE", type := .byte, accessFlags := 25, slot := 22, constantValue := 0 }, { name := "SURROGATE", type := .byte, accessFlags := 25, slot := 23, constantValue := 0 }, { name := "DASH_PUNCTUATION", type := .byte, accessFlags := 25, slot := 24, constantValue := 0 }, { name := "START_PUNCTUATION", type := .byte, accessFlags := 25, slot := 25, constantValue := 0 }, { name := "END_PUNCTUATION", type := .byte, accessFlags := 25, slot := 26, constantValue := 0 }, { name := "CONNECTOR_PUNCTUATION", type := .byte, accessFlags := 25, slot := 27, constantValue := 0 }, { name := "OTHER_PUNCTUATION", type := .byte, accessFlags := 25, slot := 28, constantValue := 0 }, { name := "MATH_SYMBOL", type := .byte, accessFlags := 25, slot := 29, constantValue := 0 }, { name := "CURRENCY_SYMBOL", type := .byte, accessFlags := 25, slot := 30, constantValue := 0 }, { name := "MODIFIER_SYMBOL", type := .byte, accessFlags := 25, slot := 31, constantValue := 0 }, { name := "OTHER_SYMBOL", type := .byte, accessFlags := 25, slot := 32, constantValue := 0 }, { name := "INITIAL_QUOTE_PUNCTUATION", type := .byte, accessFlags := 25, slot := 33, constantValue := 0 }, { name := "FINAL_QUOTE_PUNCTUATION", type := .byte, accessFlags := 25, slot := 34, constantValue := 0 }, { name := "ERROR", type := .int, accessFlags := 24, slot := 35, constantValue := 0 }, { name := "DIRECTIONALITY_UNDEFINED", type := .byte, accessFlags := 25, slot := 36, constantValue := 0 }, { name := "DIRECTIONALITY_LEFT_TO_RIGHT", type := .byte, accessFlags := 25, slot := 37, constantValue := 0 }, { name := "DIRECTIONALITY_RIGHT_TO_LEFT", type := .byte, accessFlags := 25, slot := 38, constantValue := 0 }, { name := "DIRECTIONALITY_RIGHT_TO_LEFT_ARABIC", type := .byte, accessFlags := 25, slot := 39, constantValue := 0 }, { name := "DIRECTIONALITY_EUROPEAN_NUMBER", type := .byte, accessFlags := 25, slot := 40, constantValue := 0 }, { name := "DIRECTIONALITY_EUROPEAN_NUMBER_SEPARATOR", type := .byte, accessFlags := 25, slot := 41, constantValue := 0 }, { name := "DIRECTIONALITY_EUROPEAN_NUMBER_TERMINATOR", type := .byte, accessFlags := 25, slot := 42, constantValue := 0 }, { name := "DIRECTIONALITY_ARABIC_NUMBER", type := .byte, accessFlags := 25, slot := 43, constantValue := 0 }, { name := "DIRECTIONALITY_COMMON_NUMBER_SEPARATOR", type := .byte, accessFlags := 25, slot := 44, constantValue := 0 }, { name := "DIRECTIONALITY_NONSPACING_MARK", type := .byte, accessFlags := 25, slot := 45, constantValue := 0 }, { name := "DIRECTIONALITY_BOUNDARY_NEUTRAL", type := .byte, accessFlags := 25, slot := 46, constantValue := 0 }, { name := "DIRECTIONALITY_PARAGRAPH_SEPARATOR", type := .byte, accessFlags := 25, slot := 47, constantValue := 0 }, { name := "DIRECTIONALITY_SEGMENT_SEPARATOR", type := .byte, accessFlags := 25, slot := 48, constantValue := 0 }, { name := "DIRECTIONALITY_WHITESPACE", type := .byte, accessFlags := 25, slot := 49, constantValue := 0 }, { name := "DIRECTIONALITY_OTHER_NEUTRALS", type := .byte, accessFlags := 25, slot := 50, constantValue := 0 }, { name := "DIRECTIONALITY_LEFT_TO_RIGHT_EMBEDDING", type := .byte, accessFlags := 25, slot := 51, constantValue := 0 }, { name := "DIRECTIONALITY_LEFT_TO_RIGHT_OVERRIDE", type := .byte, accessFlags := 25, slot := 52, constantValue := 0 }, { name := "DIRECTIONALITY_RIGHT_TO_LEFT_EMBEDDING", type := .byte, accessFlags := 25, slot := 53, constantValue := 0 }, { name := "DIRECTIONALITY_RIGHT_TO_LEFT_OVERRIDE", type := .byte, accessFlags := 25, slot := 54, constantValue := 0 }, { name := "DIRECTIONALITY_POP_DIRECTIONAL_FORMAT", type := .byte, accessFlags := 25, slot := 55, constantValue := 0 }, { name := "DIRECTIONALITY_LEFT_TO_RIGHT_ISOLATE", type := .byte, accessFlags := 25, slot := 56, constantValue := 0 }, { name := "DIRECTIONALITY_RIGHT_TO_LEFT_ISOLATE", type := .byte, accessFlags := 25, slot := 57, constantValue := 0 }, { name := "DIRECTIONALITY_FIRST_STRONG_ISOLATE", type := .byte, accessFlags := 25, slot := 58, constantValue := 0 }, { name := "DIRECTIONALITY_POP_DIRECTIONAL_ISOLATE", type := .byte, accessFlags := 25, slot := 59, constantValue := 0 }, { name := "MIN_HIGH_SURROGATE", type := .char, accessFlags := 25, slot := 60, constantValue := 0 }, { name := "MAX_HIGH_SURROGATE", type := .char, accessFlags := 25, slot := 61, constantValue := 0 }, { name := "MIN_LOW_SURROGATE", type := .char, accessFlags := 25, slot := 62, constantValue := 0 }, { name := "MAX_LOW_SURROGATE", type := .char, accessFlags := 25, slot := 63, constantValue := 0 }, { name := "MIN_SURROGATE", type := .char, accessFlags := 25, slot := 64, constantValue := 0 }, { name := "MAX_SURROGATE", type := .char, accessFlags := 25, slot := 65, constantValue := 0 }, { name := "MIN_SUPPLEMENTARY_CODE_POINT", type := .int, accessFlags := 25, slot := 66, constantValue := 0 }, { name := "MIN_CODE_POINT", type := .int, accessFlags := 25, slot := 67, constantValue := 0 }, { name := "MAX_CODE_POINT", type := .int, accessFlags := 25, slot := 68, constantValue := 0 }, { name := "value", type := .char, accessFlags := 18, slot := 0, constantValue := 0 }, { name := "serialVersionUID", type := .long, accessFlags := 26, slot := 69, constantValue := 0 }, { name := "SIZE", type := .int, accessFlags := 25, slot := 70, constantValue := 0 }, { name := "BYTES", type := .int, accessFlags := 25, slot := 71, constantValue := 0 }, { name := "$assertionsDisabled", type := .boolean, accessFlags := 4120, slot := 72, constantValue := 0 }]
  methods := #[k16m0]
  instanceTypes := #[.char]
  staticTypes := #[.int, .int, .char, .char, (.object "java/lang/Class"), .byte, .byte, .byte, .byte, .byte, .byte, .byte, .byte, .byte, .byte, .byte, .byte, .byte, .byte, .byte, .byte, .byte, .byte, .byte, .byte, .byte, .byte, .byte, .byte, .byte, .byte, .byte, .byte, .byte, .byte, .int, .byte, .byte, .byte, .byte, .byte, .byte, .byte, .byte, .byte, .byte, .byte, .byte, .byte, .byte, .byte, .byte, .byte, .byte, .byte, .byte, .byte, .byte, .byte, .byte, .char, .char, .char, .char, .char, .char, .int, .int, .int, .long, .int, .int, .boolean]
  resolved := Array.replicate 604 none
  statics := none }

def pool17 : Array CpInfo := pool [(2, .class_ 4), (1, u "java/lang/Object"), (0, u "<init>"), (0, u "()V"), (0, .fieldref 8 9), (0, .class_ 10), (0, .nameAndType 11 12), (0, u "java/util/OptionalInt"), (0, u "isPresent"), (0, u "Z"), (2, u "value"), (0, u "I"), (0, .fieldref 8 18), (0, .nameAndType 19 20), (0, u "EMPTY"), (0, u "Ljava/util/OptionalInt;"), (28, u "empty"), (46, u "()Ljava/util/OptionalInt;"), (2, u "()Z")] 36

def k17m0 : Method := { name := "<init>", desc := "()V", sig := { parameters := [], returnType := none }, accessFlags := 2, code := none }
def k17c1 : Code := { maxStack := 1, maxLocals := 0, code := jdk_2649_method_2_code, exceptionTable := #[], attributes := #[] }
def k17m1 : Method := { name := "empty", desc := "()Ljava/util/OptionalInt;", sig := { parameters := [], returnType := some (.object "java/util/OptionalInt") }, accessFlags := 9, code := some k17c1 }
def k17c2 : Code := { maxStack := 1, maxLocals := 1, code := jdk_2649_method_6_code, exceptionTable := #[], attributes := #[] }
def k17m2 : Method := { name := "isPresent", desc := "()Z", sig := { parameters := [], returnType := some .boolean }, accessFlags := 1, code := some k17c2 }
/-- java/util/OptionalInt -/
def k17 : Class := { plain "java/util/OptionalInt" (some 0) with
  accessFlags := 49
  interfaces := #[]
  cf := some (fileOf pool17 8 #[] #[{ accessFlags := 2, nameIndex := 5, descriptorIndex := 6, attributes := #[] }, { accessFlags := 9, nameIndex := 49, descriptorIndex := 96, attributes := #[] }, { accessFlags := 1, nameIndex := 11, descriptorIndex := 99, attributes := #[] }] 49 2 #[] #[{ accessFlags := 26, nameIndex := 19, descriptorIndex := 20, attributes := #[] }, { accessFlags := 18, nameIndex := 11, descriptorIndex := 12, attributes := #[] }, { accessFlags := 18, nameIndex := 15, descriptorIndex := 16, attributes := #[] }])
  fields := #[{ name := "EMPTY", type := (.object "java/util/OptionalInt"), accessFlags := 26, slot := 0, constantValue := 0 }, { name := "isPresent", type := .boolean, accessFlags := 18, slot := 0, constantValue := 0 }, { name := "value", type := .int, accessFlags := 18, slot := 1, constantValue := 0 }]
  methods := #[k17m0, k17m1, k17m2]
  instanceTypes := #[.boolean, .int]
  staticTypes := #[(.object "java/util/OptionalInt")]
  resolved := Array.replicate 136 none
  statics := some 2 }

def pool18 : Array CpInfo := pool [(9, u "<init>"), (6, .class_ 18), (1, u "java/lang/Object"), (0, u "()V"), (1, .class_ 23), (1, u "jdk/internal/util/ArraysSupport"), (0, u "LOG2_ARRAY_LONG_INDEX_SCALE"), (0, u "I"), (2, u "U"), (0, u "Ljdk/internal/misc/Unsafe;"), (8, u "BIG_ENDIAN"), (0, u "Z"), (8, u "LOG2_BYTE_BIT_SIZE"), (4, u "LOG2_ARRAY_INT_INDEX_SCALE"), (54, u "JLA"), (0, u "Ljdk/internal/access/JavaLangAccess;"), (11, u "LOG2_ARRAY_BOOLEAN_INDEX_SCALE"), (9, u "LOG2_ARRAY_BYTE_INDEX_SCALE"), (5, u "LOG2_ARRAY_CHAR_INDEX_SCALE"), (5, u "LOG2_ARRAY_SHORT_INDEX_SCALE"), (18, u "LOG2_ARRAY_FLOAT_INDEX_SCALE"), (24, u "LOG2_ARRAY_DOUBLE_INDEX_SCALE"), (89, u "T_BOOLEAN"), (2, u "T_CHAR"), (1, u "T_FLOAT"), (1, u "T_DOUBLE"), (1, u "T_BYTE"), (1, u "T_SHORT"), (1, u "T_INT"), (1, u "T_LONG"), (1, u "SOFT_MAX_ARRAY_LENGTH")] 83

def k18m0 : Method := { name := "<init>", desc := "()V", sig := { parameters := [], returnType := none }, accessFlags := 2, code := none }
/-- jdk/internal/util/ArraysSupport -/
def k18 : Class := { plain "jdk/internal/util/ArraysSupport" (some 0) with
  accessFlags := 33
  interfaces := #[]
  cf := some (fileOf pool18 21 #[] #[{ accessFlags := 2, nameIndex := 9, descriptorIndex := 19, attributes := #[] }] 33 16 #[] #[{ accessFlags := 24, nameIndex := 28, descriptorIndex := 29, attributes := #[] }, { accessFlags := 26, nameIndex := 38, descriptorIndex := 39, attributes := #[] }, { accessFlags := 25, nameIndex := 121, descriptorIndex := 25, attributes := #[] }, { accessFlags := 25, nameIndex := 131, descriptorIndex := 25, attributes := #[] }, { accessFlags := 25, nameIndex := 137, descriptorIndex := 25, attributes := #[] }, { accessFlags := 25, nameIndex := 143, descriptorIndex := 25, attributes := #[] }, { accessFlags := 25, nameIndex := 53, descriptorIndex := 25, attributes := #[] }, { accessFlags := 25, nameIndex := 24, descriptorIndex := 25, attributes := #[] }, { accessFlags := 25, nameIndex := 162, descriptorIndex := 25, attributes := #[] }, { accessFlags := 25, nameIndex := 187, descriptorIndex := 25, attributes := #[] }, { accessFlags := 26, nameIndex := 48, descriptorIndex := 25, attributes := #[] }, { accessFlags := 25, nameIndex := 277, descriptorIndex := 25, attributes := #[] }, { accessFlags := 25, nameIndex := 280, descriptorIndex := 25, attributes := #[] }, { accessFlags := 25, nameIndex := 282, descriptorIndex := 25, attributes := #[] }, { accessFlags := 25, nameIndex := 284, descriptorIndex := 25, attributes := #[] }, { accessFlags := 25, nameIndex := 286, descriptorIndex := 25, attributes := #[] }, { accessFlags := 25, nameIndex := 288, descriptorIndex := 25, attributes := #[] }, { accessFlags := 25, nameIndex := 290, descriptorIndex := 25, attributes := #[] }, { accessFlags := 25, nameIndex := 292, descriptorIndex := 25, attributes := #[] }, { accessFlags := 26, nameIndex := 108, descriptorIndex := 109, attributes := #[] }, { accessFlags := 25, nameIndex := 294, descriptorIndex := 25, attributes := #[] }])
  fields := #[{ name := "U", type := (.object "jdk/internal/misc/Unsafe"), accessFlags := 24, slot := 0, constantValue := 0 }, { name := "BIG_ENDIAN", type := .boolean, accessFlags := 26, slot := 1, constantValue := 0 }, { name := "LOG2_ARRAY_BOOLEAN_INDEX_SCALE", type := .int, accessFlags := 25, slot := 2, constantValue := 0 }, { name := "LOG2_ARRAY_BYTE_INDEX_SCALE", type := .int, accessFlags := 25, slot := 3, constantValue := 0 }, { name := "LOG2_ARRAY_CHAR_INDEX_SCALE", type := .int, accessFlags := 25, slot := 4, constantValue := 0 }, { name := "LOG2_ARRAY_SHORT_INDEX_SCALE", type := .int, accessFlags := 25, slot := 5, constantValue := 0 }, { name := "LOG2_ARRAY_INT_INDEX_SCALE", type := .int, accessFlags := 25, slot := 6, constantValue := 0 }, { name := "LOG2_ARRAY_LONG_INDEX_SCALE", type := .int, accessFlags := 25, slot := 7, constantValue := 0 }, { name := "LOG2_ARRAY_FLOAT_INDEX_SCALE", type := .int, accessFlags := 25, slot := 8, constantValue := 0 }, { name := "LOG2_ARRAY_DOUBLE_INDEX_SCALE", type := .int, accessFlags := 25, slot := 9, constantValue := 0 }, { name := "LOG2_BYTE_BIT_SIZE", type := .int, accessFlags := 26, slot := 10, constantValue := 0 }, { name := "T_BOOLEAN", type := .int, accessFlags := 25, slot := 11, constantValue := 0 }, { name := "T_CHAR", type := .int, accessFlags := 25, slot := 12, constantValue := 0 }, { name := "T_FLOAT", type := .int, accessFlags := 25, slot := 13, constantValue := 0 }, { name := "T_DOUBLE", type := .int, accessFlags := 25, slot := 14, constantValue := 0 }, { name := "T_BYTE", type := .int, accessFlags := 25, slot := 15, constantValue := 0 }, { name := "T_SHORT", type := .int, accessFlags := 25, slot := 16, constantValue := 0 }, { name := "T_INT", type := .int, accessFlags := 25, slot := 17, constantValue := 0 }, { name := "T_LONG", type := .int, accessFlags := 25, slot := 18, constantValue := 0 }, { name := "JLA", type := (.object "jdk/internal/access/JavaLangAccess"), accessFlags := 26, slot := 19, constantValue := 0 }, { name := "SOFT_MAX_ARRAY_LENGTH", type := .int, accessFlags := 25, slot := 20, constantValue := 0 }]
  methods := #[k18m0]
  instanceTypes := #[]
  staticTypes := #[(.object "jdk/internal/misc/Unsafe"), .boolean, .int, .int, .int, .int, .int, .int, .int, .int, .int, .int, .int, .int, .int, .int, .int, .int, .int, (.object "jdk/internal/access/JavaLangAccess"), .int]
  resolved := Array.replicate 378 none
  statics := none }

def pool19 : Array CpInfo := pool [(1, u "java/lang/Cloneable"), (0, .class_ 1), (0, u "java/lang/Object"), (0, .class_ 3)] 3

/-- java/lang/Cloneable -/
def k19 : Class := { plain "java/lang/Cloneable" (some 0) with
  accessFlags := 1537
  interfaces := #[]
  cf := some (fileOf pool19 2 #[] #[] 1537 4 #[] #[])
  fields := #[]
  methods := #[]
  instanceTypes := #[]
  staticTypes := #[]
  resolved := Array.replicate 8 none
  statics := none }

/-- the primitive byte -/
def k20 : Class := { plain "byte" none with kind := .primitive 'B', accessFlags := 0x411 }
/-- [B -/
def k21 : Class := { plain "[B" (some 0) with kind := .array 20 .byte, interfaces := #[19, 4], accessFlags := 1041 }

/-- the primitive char -/
def k22 : Class := { plain "char" none with kind := .primitive 'C', accessFlags := 0x411 }
/-- [C -/
def k23 : Class := { plain "[C" (some 0) with kind := .array 22 .char, interfaces := #[19, 4], accessFlags := 1041 }

/-- the primitive int -/
def k24 : Class := { plain "int" none with kind := .primitive 'I', accessFlags := 0x411 }
/-- [I -/
def k25 : Class := { plain "[I" (some 0) with kind := .array 24 .int, interfaces := #[19, 4], accessFlags := 1041 }

def classes0 : Array Class := #[k0, k1, k2, k3, k4, k5, k6, k7, k8, k9, k10, k11, k12, k13, k14, k15, k16, k17, k18, k19, k20, k21, k22, k23, k24, k25]
/-- the class that the rule has made for the site at 2 of com/example/versioned_table/versionedtable/RecordKey.requirePart -/
def k26 : Class := Jvm.LamKit.madeRec { classes := classes0 } "com/example/versioned_table/versionedtable/RecordKey" (Jvm.Lambda.Shape.mk "java/util/function/Supplier" "get" (Jvm.ClassFile.MethodDescriptor.mk ([] : List Jvm.ClassFile.FieldType) (Option.some (Jvm.ClassFile.FieldType.object "java/lang/Object"))) ([(Jvm.ClassFile.FieldType.object "java/lang/String")] : List Jvm.ClassFile.FieldType) (6 : Nat) "com/example/versioned_table/versionedtable/RecordKey" "lambda$requirePart$0" (Jvm.ClassFile.MethodDescriptor.mk ([(Jvm.ClassFile.FieldType.object "java/lang/String")] : List Jvm.ClassFile.FieldType) (Option.some (Jvm.ClassFile.FieldType.object "java/lang/String"))) false (Jvm.ClassFile.MethodDescriptor.mk ([] : List Jvm.ClassFile.FieldType) (Option.some (Jvm.ClassFile.FieldType.object "java/lang/String")))) 26

def heap : Heap := #[{ cls := 9, slots := #[.long 0, .int 1, .null, .int 0, .null, .int 0, .int 0], vm := .statics 9 },
  { cls := 15, slots := #[.null, .null, .null], vm := .statics 15 },
  { cls := 17, slots := #[.ref 3], vm := .statics 17 },
  { cls := 17, slots := #[.int 0, .int 0], vm := .none }]
def classes : Array Class := #[k0, k1, k2, k3, k4, k5, k6, k7, k8, k9, k10, k11, k12, k13, k14, k15, k16, k17, k18, k19, k20, k21, k22, k23, k24, k25, k26]
def interned : List (Array UInt16 × Addr) := []
def slotsUsed : Nat := 13
def theMethod : MethodId := ⟨1, 3⟩
def args0 : Array Value := #[.int 5, .int 6, .int 7, .int 8, .int 9]
def aboutOver (below : List Frame) : State where
  vm := { classes := classes, interned := interned.toArray }
  heap := heap
  slotsUsed := slotsUsed
  threads := #[{ frames := .invoking theMethod args0 :: below }]
def below0 : List Frame := [.native { method := ⟨0, 0⟩, args := #[] }]
def about1 : State := aboutOver below0
def p0 : Program := .bare "" "" ""
def e0 : Env := launch0.env 0 0 0
theorem w_frames : about1.frames = Frame.invoking theMethod args0 :: below0 := rfl
set_option maxRecDepth 65536 in
theorem w_args : argsFit about1.vm theMethod args0 = true := by decide +kernel
set_option maxRecDepth 65536 in
theorem w_heap : heapFits about1 = true := by decide +kernel
set_option maxRecDepth 65536 in
theorem w_runnable : about1.curStatus? = some .runnable := by decide +kernel
set_option maxRecDepth 65536 in
theorem w_alone : about1.alone = true := by decide +kernel
set_option maxRecDepth 65536 in
theorem w_named : about1.methodNamed? x = some theMethod := by decide +kernel
set_option maxRecDepth 65536 in
theorem w_hears : about1.hears theMethod below0 = true := by decide +kernel
set_option maxRecDepth 65536 in
theorem w_ripe : about1.ripe theMethod args0 below0 = true := by decide +kernel
theorem w_running : about1.status = .running := rfl
set_option maxRecDepth 65536 in
theorem w_room : about1.hasRoom e0.platform room_1 = true :=
  launch0.hasRoom_least _ room_1 (by decide +kernel) (by decide +kernel) (by decide +kernel) (by decide +kernel) (by decide +kernel) (by decide +kernel)
theorem allAtoms_all (ts : List Jvm.Cond) (a : Array Jvm.Value) (st : Jvm.State) : (allAtoms ts).before a st = ts.all (fun c => c.before a st) := by
  induction ts with
  | nil => rfl
  | cons c t ih =>
    show (Jvm.Cond.and c (allAtoms t)).before a st = _
    rw [Jvm.Cond.before_and, ih, List.all_cons]
def words1 : List Jvm.Cond := Jvm.Cond.code x code maxLocals ret :: tables_1
/-- a 'code' word, met by the world's own term for the bytes: nothing is compared byte by byte -/
theorem code_word {y : MethodName} {bytes : ByteArray} {mx : Nat} {rt : Option FieldType} {a : Array Value} {s : State} {m : MethodId} {meth : Method} {c : Code} (h1 : s.methodNamed? y = some m) (h2 : s.vm.method? m = some meth) (h3 : meth.code = some c) (h4 : c.code = bytes)
    (h5 : (c.maxLocals == mx && c.exceptionTable.isEmpty && decide (c.maxStack ≤ mostOperands) && decide (meth.sig.returnType = rt) && !meth.locks && decide (parseMethodDescriptor y.desc = some meth.sig)) = true) : (Jvm.Cond.code y bytes mx rt).before a s = true := by
  simp only [Bool.and_eq_true, beq_iff_eq, Bool.not_eq_true', decide_eq_true_eq] at h5
  obtain ⟨⟨⟨⟨⟨g1, g2⟩, g3⟩, g4⟩, g5⟩, g6⟩ := h5
  simp [Cond.before, Cond.holds, Cond.value, h1, h2, h3, h4, g1, g2, g3, g4, g5, g6]
def isCode : Jvm.Cond → Bool
  | .code _ _ _ _ => true
  | _ => false
theorem all_split {L : List Jvm.Cond} {P : Jvm.Cond → Bool} (h1 : L.all (fun c => isCode c || P c) = true) (h2 : ∀ c ∈ L.filter isCode, P c = true) : L.all P = true := by
  refine List.all_eq_true.mpr fun c hc => ?_
  have h := List.all_eq_true.mp h1 c hc
  rcases Bool.eq_false_or_eq_true (isCode c) with hi | hi
  · exact h2 c (List.mem_filter.mpr ⟨hc, hi⟩)
  · simpa [hi] using h
set_option maxRecDepth 65536 in
theorem w_c0 : (Jvm.Cond.code x code maxLocals ret).before args0 about1 = true := code_word (m := ⟨1, 3⟩) (meth := k1m3) (c := k1c3) (by decide +kernel) rfl rfl rfl (by decide +kernel)
set_option maxRecDepth 65536 in
theorem w_c1 : (Jvm.Cond.code ({ cls := "com/example/versioned_table/versionedtable/RecordKeyEqualsPinLaw", name := "str", desc := "(II)Ljava/lang/String;" } : Jvm.MethodName) method_2_code (2 : Nat) (Option.some (Jvm.ClassFile.FieldType.object "java/lang/String"))).before args0 about1 = true := code_word (m := ⟨1, 1⟩) (meth := k1m1) (c := k1c1) (by decide +kernel) rfl rfl rfl (by decide +kernel)
set_option maxRecDepth 65536 in
theorem w_c2 : (Jvm.Cond.code ({ cls := "java/lang/String", name := "<init>", desc := "([C)V" } : Jvm.MethodName) jdk_42_method_3_code (2 : Nat) (Option.none : Option Jvm.ClassFile.FieldType)).before args0 about1 = true := code_word (m := ⟨9, 1⟩) (meth := k9m1) (c := k9c1) (by decide +kernel) rfl rfl rfl (by decide +kernel)
set_option maxRecDepth 65536 in
theorem w_c3 : (Jvm.Cond.code ({ cls := "java/lang/String", name := "<init>", desc := "([CIILjava/lang/Void;)V" } : Jvm.MethodName) jdk_42_method_149_code (6 : Nat) (Option.none : Option Jvm.ClassFile.FieldType)).before args0 about1 = true := code_word (m := ⟨9, 6⟩) (meth := k9m6) (c := k9c6) (by decide +kernel) rfl rfl rfl (by decide +kernel)
set_option maxRecDepth 65536 in
theorem w_c4 : (Jvm.Cond.code ({ cls := "java/lang/Object", name := "<init>", desc := "()V" } : Jvm.MethodName) object_method_1_code (1 : Nat) (Option.none : Option Jvm.ClassFile.FieldType)).before args0 about1 = true := code_word (m := ⟨0, 0⟩) (meth := k0m0) (c := k0c0) (by decide +kernel) rfl rfl rfl (by decide +kernel)
set_option maxRecDepth 65536 in
theorem w_c5 : (Jvm.Cond.code ({ cls := "java/lang/StringUTF16", name := "compress", desc := "([CII)[B" } : Jvm.MethodName) jdk_52_method_16_code (6 : Nat) (Option.some (Jvm.ClassFile.FieldType.array Jvm.ClassFile.FieldType.byte))).before args0 about1 = true := code_word (m := ⟨10, 2⟩) (meth := k10m2) (c := k10c2) (by decide +kernel) rfl rfl rfl (by decide +kernel)
set_option maxRecDepth 65536 in
theorem w_c6 : (Jvm.Cond.code ({ cls := "java/lang/StringUTF16", name := "compress", desc := "([CI[BII)I" } : Jvm.MethodName) jdk_52_method_21_code (7 : Nat) (Option.some Jvm.ClassFile.FieldType.int)).before args0 about1 = true := code_word (m := ⟨10, 3⟩) (meth := k10m3) (c := k10c3) (by decide +kernel) rfl rfl rfl (by decide +kernel)
set_option maxRecDepth 65536 in
theorem w_c7 : (Jvm.Cond.code ({ cls := "java/lang/StringUTF16", name := "coderFromArrayLen", desc := "([BI)B" } : Jvm.MethodName) jdk_52_method_15_code (2 : Nat) (Option.some Jvm.ClassFile.FieldType.byte)).before args0 about1 = true := code_word (m := ⟨10, 1⟩) (meth := k10m1) (c := k10c1) (by decide +kernel) rfl rfl rfl (by decide +kernel)
set_option maxRecDepth 65536 in
theorem w_c8 : (Jvm.Cond.code ({ cls := "com/example/versioned_table/versionedtable/RecordKey", name := "<init>", desc := "(Ljava/lang/String;Ljava/lang/String;)V" } : Jvm.MethodName) prog_22_method_1_code (3 : Nat) (Option.none : Option Jvm.ClassFile.FieldType)).before args0 about1 = true := code_word (m := ⟨3, 0⟩) (meth := k3m0) (c := k3c0) (by decide +kernel) rfl rfl rfl (by decide +kernel)
set_option maxRecDepth 65536 in
theorem w_c9 : (Jvm.Cond.code ({ cls := "java/lang/Record", name := "<init>", desc := "()V" } : Jvm.MethodName) jdk_30_method_1_code (1 : Nat) (Option.none : Option Jvm.ClassFile.FieldType)).before args0 about1 = true := code_word (m := ⟨2, 0⟩) (meth := k2m0) (c := k2c0) (by decide +kernel) rfl rfl rfl (by decide +kernel)
set_option maxRecDepth 65536 in
theorem w_c10 : (Jvm.Cond.code ({ cls := "com/example/versioned_table/versionedtable/RecordKey", name := "requirePartition", desc := "(Ljava/lang/String;)V" } : Jvm.MethodName) prog_22_method_5_code (1 : Nat) (Option.none : Option Jvm.ClassFile.FieldType)).before args0 about1 = true := code_word (m := ⟨3, 2⟩) (meth := k3m2) (c := k3c2) (by decide +kernel) rfl rfl rfl (by decide +kernel)
set_option maxRecDepth 65536 in
theorem w_c11 : (Jvm.Cond.code ({ cls := "com/example/versioned_table/versionedtable/RecordKey", name := "requirePart", desc := "(Ljava/lang/String;Ljava/lang/String;I)V" } : Jvm.MethodName) prog_22_method_7_code (3 : Nat) (Option.none : Option Jvm.ClassFile.FieldType)).before args0 about1 = true := code_word (m := ⟨3, 4⟩) (meth := k3m4) (c := k3c4) (by decide +kernel) rfl rfl rfl (by decide +kernel)
set_option maxRecDepth 65536 in
theorem w_c12 : (Jvm.Cond.code ({ cls := "java/util/Objects", name := "requireNonNull", desc := "(Ljava/lang/Object;Ljava/util/function/Supplier;)Ljava/lang/Object;" } : Jvm.MethodName) jdk_31_method_16_code (2 : Nat) (Option.some (Jvm.ClassFile.FieldType.object "java/lang/Object"))).before args0 about1 = true := code_word (m := ⟨12, 1⟩) (meth := k12m1) (c := k12c1) (by decide +kernel) rfl rfl rfl (by decide +kernel)
set_option maxRecDepth 65536 in
theorem w_c13 : (Jvm.Cond.code ({ cls := "java/lang/String", name := "isEmpty", desc := "()Z" } : Jvm.MethodName) jdk_42_method_55_code (1 : Nat) (Option.some Jvm.ClassFile.FieldType.boolean)).before args0 about1 = true := code_word (m := ⟨9, 3⟩) (meth := k9m3) (c := k9c3) (by decide +kernel) rfl rfl rfl (by decide +kernel)
set_option maxRecDepth 65536 in
theorem w_c14 : (Jvm.Cond.code ({ cls := "com/example/versioned_table/versionedtable/RecordKey", name := "requireWellFormed", desc := "(Ljava/lang/String;Ljava/lang/String;)V" } : Jvm.MethodName) prog_22_method_6_code (3 : Nat) (Option.none : Option Jvm.ClassFile.FieldType)).before args0 about1 = true := code_word (m := ⟨3, 3⟩) (meth := k3m3) (c := k3c3) (by decide +kernel) rfl rfl rfl (by decide +kernel)
set_option maxRecDepth 65536 in
theorem w_c15 : (Jvm.Cond.code ({ cls := "com/example/versioned_table/versionedtable/Utf8", name := "unpairedSurrogate", desc := "(Ljava/lang/String;)Ljava/util/OptionalInt;" } : Jvm.MethodName) prog_55_method_5_code (2 : Nat) (Option.some (Jvm.ClassFile.FieldType.object "java/util/OptionalInt"))).before args0 about1 = true := code_word (m := ⟨13, 3⟩) (meth := k13m3) (c := k13c3) (by decide +kernel) rfl rfl rfl (by decide +kernel)
set_option maxRecDepth 65536 in
theorem w_c16 : (Jvm.Cond.code ({ cls := "java/lang/String", name := "length", desc := "()I" } : Jvm.MethodName) jdk_42_method_54_code (1 : Nat) (Option.some Jvm.ClassFile.FieldType.int)).before args0 about1 = true := code_word (m := ⟨9, 2⟩) (meth := k9m2) (c := k9c2) (by decide +kernel) rfl rfl rfl (by decide +kernel)
set_option maxRecDepth 65536 in
theorem w_c17 : (Jvm.Cond.code ({ cls := "java/lang/String", name := "coder", desc := "()B" } : Jvm.MethodName) jdk_42_method_152_code (1 : Nat) (Option.some Jvm.ClassFile.FieldType.byte)).before args0 about1 = true := code_word (m := ⟨9, 7⟩) (meth := k9m7) (c := k9c7) (by decide +kernel) rfl rfl rfl (by decide +kernel)
set_option maxRecDepth 65536 in
theorem w_c18 : (Jvm.Cond.code ({ cls := "java/lang/String", name := "charAt", desc := "(I)C" } : Jvm.MethodName) jdk_42_method_56_code (2 : Nat) (Option.some Jvm.ClassFile.FieldType.char)).before args0 about1 = true := code_word (m := ⟨9, 4⟩) (meth := k9m4) (c := k9c4) (by decide +kernel) rfl rfl rfl (by decide +kernel)
set_option maxRecDepth 65536 in
theorem w_c19 : (Jvm.Cond.code ({ cls := "java/lang/String", name := "isLatin1", desc := "()Z" } : Jvm.MethodName) jdk_42_method_154_code (1 : Nat) (Option.some Jvm.ClassFile.FieldType.boolean)).before args0 about1 = true := code_word (m := ⟨9, 8⟩) (meth := k9m8) (c := k9c8) (by decide +kernel) rfl rfl rfl (by decide +kernel)
set_option maxRecDepth 65536 in
theorem w_c20 : (Jvm.Cond.code ({ cls := "java/lang/StringLatin1", name := "charAt", desc := "([BI)C" } : Jvm.MethodName) jdk_43_method_2_code (2 : Nat) (Option.some Jvm.ClassFile.FieldType.char)).before args0 about1 = true := code_word (m := ⟨14, 1⟩) (meth := k14m1) (c := k14c1) (by decide +kernel) rfl rfl rfl (by decide +kernel)
set_option maxRecDepth 65536 in
theorem w_c21 : (Jvm.Cond.code ({ cls := "java/lang/String", name := "checkIndex", desc := "(II)V" } : Jvm.MethodName) jdk_42_method_155_code (2 : Nat) (Option.none : Option Jvm.ClassFile.FieldType)).before args0 about1 = true := code_word (m := ⟨9, 9⟩) (meth := k9m9) (c := k9c9) (by decide +kernel) rfl rfl rfl (by decide +kernel)
set_option maxRecDepth 65536 in
theorem w_c22 : (Jvm.Cond.code ({ cls := "jdk/internal/util/Preconditions", name := "checkIndex", desc := "(IILjava/util/function/BiFunction;)I" } : Jvm.MethodName) jdk_41_method_11_code (3 : Nat) (Option.some Jvm.ClassFile.FieldType.int)).before args0 about1 = true := code_word (m := ⟨15, 1⟩) (meth := k15m1) (c := k15c1) (by decide +kernel) rfl rfl rfl (by decide +kernel)
set_option maxRecDepth 65536 in
theorem w_c23 : (Jvm.Cond.code ({ cls := "java/lang/Character", name := "isSurrogate", desc := "(C)Z" } : Jvm.MethodName) jdk_89_method_16_code (1 : Nat) (Option.some Jvm.ClassFile.FieldType.boolean)).before args0 about1 = true := code_word (m := ⟨16, 0⟩) (meth := k16m0) (c := k16c0) (by decide +kernel) rfl rfl rfl (by decide +kernel)
set_option maxRecDepth 65536 in
theorem w_c24 : (Jvm.Cond.code ({ cls := "java/util/OptionalInt", name := "empty", desc := "()Ljava/util/OptionalInt;" } : Jvm.MethodName) jdk_2649_method_2_code (0 : Nat) (Option.some (Jvm.ClassFile.FieldType.object "java/util/OptionalInt"))).before args0 about1 = true := code_word (m := ⟨17, 1⟩) (meth := k17m1) (c := k17c1) (by decide +kernel) rfl rfl rfl (by decide +kernel)
set_option maxRecDepth 65536 in
theorem w_c25 : (Jvm.Cond.code ({ cls := "java/util/OptionalInt", name := "isPresent", desc := "()Z" } : Jvm.MethodName) jdk_2649_method_6_code (1 : Nat) (Option.some Jvm.ClassFile.FieldType.boolean)).before args0 about1 = true := code_word (m := ⟨17, 2⟩) (meth := k17m2) (c := k17c2) (by decide +kernel) rfl rfl rfl (by decide +kernel)
set_option maxRecDepth 65536 in
theorem w_c26 : (Jvm.Cond.code ({ cls := "com/example/versioned_table/versionedtable/Utf8", name := "isOver", desc := "(Ljava/lang/String;J)Z" } : Jvm.MethodName) prog_55_method_4_code (3 : Nat) (Option.some Jvm.ClassFile.FieldType.boolean)).before args0 about1 = true := code_word (m := ⟨13, 2⟩) (meth := k13m2) (c := k13c2) (by decide +kernel) rfl rfl rfl (by decide +kernel)
set_option maxRecDepth 65536 in
theorem w_c27 : (Jvm.Cond.code ({ cls := "com/example/versioned_table/versionedtable/Utf8", name := "mostLength", desc := "(Ljava/lang/String;)J" } : Jvm.MethodName) prog_55_method_3_code (1 : Nat) (Option.some Jvm.ClassFile.FieldType.long)).before args0 about1 = true := code_word (m := ⟨13, 1⟩) (meth := k13m1) (c := k13c1) (by decide +kernel) rfl rfl rfl (by decide +kernel)
set_option maxRecDepth 65536 in
theorem w_c28 : (Jvm.Cond.code ({ cls := "com/example/versioned_table/versionedtable/RecordKeyEqualsPinLaw", name := "same", desc := "(IIII)Z" } : Jvm.MethodName) method_3_code (4 : Nat) (Option.some Jvm.ClassFile.FieldType.boolean)).before args0 about1 = true := code_word (m := ⟨1, 2⟩) (meth := k1m2) (c := k1c2) (by decide +kernel) rfl rfl rfl (by decide +kernel)
set_option maxRecDepth 65536 in
theorem w_c29 : (Jvm.Cond.code ({ cls := "com/example/versioned_table/versionedtable/RecordKey", name := "equals", desc := "(Ljava/lang/Object;)Z" } : Jvm.MethodName) prog_22_method_3_code (3 : Nat) (Option.some Jvm.ClassFile.FieldType.boolean)).before args0 about1 = true := code_word (m := ⟨3, 1⟩) (meth := k3m1) (c := k3c1) (by decide +kernel) rfl rfl rfl (by decide +kernel)
set_option maxRecDepth 65536 in
theorem w_c30 : (Jvm.Cond.code ({ cls := "java/lang/String", name := "equals", desc := "(Ljava/lang/Object;)Z" } : Jvm.MethodName) jdk_42_method_66_code (3 : Nat) (Option.some Jvm.ClassFile.FieldType.boolean)).before args0 about1 = true := code_word (m := ⟨9, 5⟩) (meth := k9m5) (c := k9c5) (by decide +kernel) rfl rfl rfl (by decide +kernel)
set_option maxRecDepth 65536 in
theorem w_c31 : (Jvm.Cond.code ({ cls := "java/lang/StringLatin1", name := "equals", desc := "([B[B)Z" } : Jvm.MethodName) jdk_43_method_13_code (3 : Nat) (Option.some Jvm.ClassFile.FieldType.boolean)).before args0 about1 = true := code_word (m := ⟨14, 2⟩) (meth := k14m2) (c := k14c2) (by decide +kernel) rfl rfl rfl (by decide +kernel)
def codes1 : List Jvm.Cond := [Jvm.Cond.code x code maxLocals ret, Jvm.Cond.code ({ cls := "com/example/versioned_table/versionedtable/RecordKeyEqualsPinLaw", name := "str", desc := "(II)Ljava/lang/String;" } : Jvm.MethodName) method_2_code (2 : Nat) (Option.some (Jvm.ClassFile.FieldType.object "java/lang/String")), Jvm.Cond.code ({ cls := "java/lang/String", name := "<init>", desc := "([C)V" } : Jvm.MethodName) jdk_42_method_3_code (2 : Nat) (Option.none : Option Jvm.ClassFile.FieldType), Jvm.Cond.code ({ cls := "java/lang/String", name := "<init>", desc := "([CIILjava/lang/Void;)V" } : Jvm.MethodName) jdk_42_method_149_code (6 : Nat) (Option.none : Option Jvm.ClassFile.FieldType), Jvm.Cond.code ({ cls := "java/lang/Object", name := "<init>", desc := "()V" } : Jvm.MethodName) object_method_1_code (1 : Nat) (Option.none : Option Jvm.ClassFile.FieldType), Jvm.Cond.code ({ cls := "java/lang/StringUTF16", name := "compress", desc := "([CII)[B" } : Jvm.MethodName) jdk_52_method_16_code (6 : Nat) (Option.some (Jvm.ClassFile.FieldType.array Jvm.ClassFile.FieldType.byte)), Jvm.Cond.code ({ cls := "java/lang/StringUTF16", name := "compress", desc := "([CI[BII)I" } : Jvm.MethodName) jdk_52_method_21_code (7 : Nat) (Option.some Jvm.ClassFile.FieldType.int), Jvm.Cond.code ({ cls := "java/lang/StringUTF16", name := "coderFromArrayLen", desc := "([BI)B" } : Jvm.MethodName) jdk_52_method_15_code (2 : Nat) (Option.some Jvm.ClassFile.FieldType.byte), Jvm.Cond.code ({ cls := "com/example/versioned_table/versionedtable/RecordKey", name := "<init>", desc := "(Ljava/lang/String;Ljava/lang/String;)V" } : Jvm.MethodName) prog_22_method_1_code (3 : Nat) (Option.none : Option Jvm.ClassFile.FieldType), Jvm.Cond.code ({ cls := "java/lang/Record", name := "<init>", desc := "()V" } : Jvm.MethodName) jdk_30_method_1_code (1 : Nat) (Option.none : Option Jvm.ClassFile.FieldType), Jvm.Cond.code ({ cls := "com/example/versioned_table/versionedtable/RecordKey", name := "requirePartition", desc := "(Ljava/lang/String;)V" } : Jvm.MethodName) prog_22_method_5_code (1 : Nat) (Option.none : Option Jvm.ClassFile.FieldType), Jvm.Cond.code ({ cls := "com/example/versioned_table/versionedtable/RecordKey", name := "requirePart", desc := "(Ljava/lang/String;Ljava/lang/String;I)V" } : Jvm.MethodName) prog_22_method_7_code (3 : Nat) (Option.none : Option Jvm.ClassFile.FieldType), Jvm.Cond.code ({ cls := "java/util/Objects", name := "requireNonNull", desc := "(Ljava/lang/Object;Ljava/util/function/Supplier;)Ljava/lang/Object;" } : Jvm.MethodName) jdk_31_method_16_code (2 : Nat) (Option.some (Jvm.ClassFile.FieldType.object "java/lang/Object")), Jvm.Cond.code ({ cls := "java/lang/String", name := "isEmpty", desc := "()Z" } : Jvm.MethodName) jdk_42_method_55_code (1 : Nat) (Option.some Jvm.ClassFile.FieldType.boolean), Jvm.Cond.code ({ cls := "com/example/versioned_table/versionedtable/RecordKey", name := "requireWellFormed", desc := "(Ljava/lang/String;Ljava/lang/String;)V" } : Jvm.MethodName) prog_22_method_6_code (3 : Nat) (Option.none : Option Jvm.ClassFile.FieldType), Jvm.Cond.code ({ cls := "com/example/versioned_table/versionedtable/Utf8", name := "unpairedSurrogate", desc := "(Ljava/lang/String;)Ljava/util/OptionalInt;" } : Jvm.MethodName) prog_55_method_5_code (2 : Nat) (Option.some (Jvm.ClassFile.FieldType.object "java/util/OptionalInt")), Jvm.Cond.code ({ cls := "java/lang/String", name := "length", desc := "()I" } : Jvm.MethodName) jdk_42_method_54_code (1 : Nat) (Option.some Jvm.ClassFile.FieldType.int), Jvm.Cond.code ({ cls := "java/lang/String", name := "coder", desc := "()B" } : Jvm.MethodName) jdk_42_method_152_code (1 : Nat) (Option.some Jvm.ClassFile.FieldType.byte), Jvm.Cond.code ({ cls := "java/lang/String", name := "charAt", desc := "(I)C" } : Jvm.MethodName) jdk_42_method_56_code (2 : Nat) (Option.some Jvm.ClassFile.FieldType.char), Jvm.Cond.code ({ cls := "java/lang/String", name := "isLatin1", desc := "()Z" } : Jvm.MethodName) jdk_42_method_154_code (1 : Nat) (Option.some Jvm.ClassFile.FieldType.boolean), Jvm.Cond.code ({ cls := "java/lang/StringLatin1", name := "charAt", desc := "([BI)C" } : Jvm.MethodName) jdk_43_method_2_code (2 : Nat) (Option.some Jvm.ClassFile.FieldType.char), Jvm.Cond.code ({ cls := "java/lang/String", name := "checkIndex", desc := "(II)V" } : Jvm.MethodName) jdk_42_method_155_code (2 : Nat) (Option.none : Option Jvm.ClassFile.FieldType), Jvm.Cond.code ({ cls := "jdk/internal/util/Preconditions", name := "checkIndex", desc := "(IILjava/util/function/BiFunction;)I" } : Jvm.MethodName) jdk_41_method_11_code (3 : Nat) (Option.some Jvm.ClassFile.FieldType.int), Jvm.Cond.code ({ cls := "java/lang/Character", name := "isSurrogate", desc := "(C)Z" } : Jvm.MethodName) jdk_89_method_16_code (1 : Nat) (Option.some Jvm.ClassFile.FieldType.boolean), Jvm.Cond.code ({ cls := "java/util/OptionalInt", name := "empty", desc := "()Ljava/util/OptionalInt;" } : Jvm.MethodName) jdk_2649_method_2_code (0 : Nat) (Option.some (Jvm.ClassFile.FieldType.object "java/util/OptionalInt")), Jvm.Cond.code ({ cls := "java/util/OptionalInt", name := "isPresent", desc := "()Z" } : Jvm.MethodName) jdk_2649_method_6_code (1 : Nat) (Option.some Jvm.ClassFile.FieldType.boolean), Jvm.Cond.code ({ cls := "com/example/versioned_table/versionedtable/Utf8", name := "isOver", desc := "(Ljava/lang/String;J)Z" } : Jvm.MethodName) prog_55_method_4_code (3 : Nat) (Option.some Jvm.ClassFile.FieldType.boolean), Jvm.Cond.code ({ cls := "com/example/versioned_table/versionedtable/Utf8", name := "mostLength", desc := "(Ljava/lang/String;)J" } : Jvm.MethodName) prog_55_method_3_code (1 : Nat) (Option.some Jvm.ClassFile.FieldType.long), Jvm.Cond.code ({ cls := "com/example/versioned_table/versionedtable/RecordKeyEqualsPinLaw", name := "same", desc := "(IIII)Z" } : Jvm.MethodName) method_3_code (4 : Nat) (Option.some Jvm.ClassFile.FieldType.boolean), Jvm.Cond.code ({ cls := "com/example/versioned_table/versionedtable/RecordKey", name := "equals", desc := "(Ljava/lang/Object;)Z" } : Jvm.MethodName) prog_22_method_3_code (3 : Nat) (Option.some Jvm.ClassFile.FieldType.boolean), Jvm.Cond.code ({ cls := "java/lang/String", name := "equals", desc := "(Ljava/lang/Object;)Z" } : Jvm.MethodName) jdk_42_method_66_code (3 : Nat) (Option.some Jvm.ClassFile.FieldType.boolean), Jvm.Cond.code ({ cls := "java/lang/StringLatin1", name := "equals", desc := "([B[B)Z" } : Jvm.MethodName) jdk_43_method_13_code (3 : Nat) (Option.some Jvm.ClassFile.FieldType.boolean)]
set_option maxRecDepth 65536 in
theorem codes_eq : words1.filter isCode = codes1 := rfl
theorem w_codes : ∀ c ∈ words1.filter isCode, c.before args0 about1 = true := by
  rw [codes_eq]
  intro c hc
  simp only [codes1, List.mem_cons, List.not_mem_nil, or_false] at hc
  rcases hc with rfl | rfl | rfl | rfl | rfl | rfl | rfl | rfl | rfl | rfl | rfl | rfl | rfl | rfl | rfl | rfl | rfl | rfl | rfl | rfl | rfl | rfl | rfl | rfl | rfl | rfl | rfl | rfl | rfl | rfl | rfl | rfl
  · exact w_c0
  · exact w_c1
  · exact w_c2
  · exact w_c3
  · exact w_c4
  · exact w_c5
  · exact w_c6
  · exact w_c7
  · exact w_c8
  · exact w_c9
  · exact w_c10
  · exact w_c11
  · exact w_c12
  · exact w_c13
  · exact w_c14
  · exact w_c15
  · exact w_c16
  · exact w_c17
  · exact w_c18
  · exact w_c19
  · exact w_c20
  · exact w_c21
  · exact w_c22
  · exact w_c23
  · exact w_c24
  · exact w_c25
  · exact w_c26
  · exact w_c27
  · exact w_c28
  · exact w_c29
  · exact w_c30
  · exact w_c31
set_option maxRecDepth 65536 in
theorem w_t1 : (words1.take 24).all (fun c => isCode c || c.before args0 about1) = true := by decide +kernel
set_option maxRecDepth 65536 in
theorem w_t2 : ((words1.drop 24).take 24).all (fun c => isCode c || c.before args0 about1) = true := by decide +kernel
set_option maxRecDepth 65536 in
theorem w_t3 : (((words1.drop 24).drop 24).take 24).all (fun c => isCode c || c.before args0 about1) = true := by decide +kernel
set_option maxRecDepth 65536 in
theorem w_t4 : ((((words1.drop 24).drop 24).drop 24).take 24).all (fun c => isCode c || c.before args0 about1) = true := by decide +kernel
set_option maxRecDepth 65536 in
theorem w_t5 : (((((words1.drop 24).drop 24).drop 24).drop 24).take 24).all (fun c => isCode c || c.before args0 about1) = true := by decide +kernel
set_option maxRecDepth 65536 in
theorem w_t6 : ((((((words1.drop 24).drop 24).drop 24).drop 24).drop 24).take 24).all (fun c => isCode c || c.before args0 about1) = true := by decide +kernel
set_option maxRecDepth 65536 in
theorem w_t7 : ((((((words1.drop 24).drop 24).drop 24).drop 24).drop 24).drop 24).all (fun c => isCode c || c.before args0 about1) = true := by decide +kernel
theorem w_tables : (allAtoms (Jvm.Cond.code x code maxLocals ret :: tables_1)).before args0 about1 = true := by
  rw [allAtoms_all]
  show words1.all (fun c => c.before args0 about1) = true
  refine all_split ?_ w_codes
  rw [← List.take_append_drop 24 words1, List.all_append, w_t1, ← List.take_append_drop 24 (words1.drop 24), List.all_append, w_t2, ← List.take_append_drop 24 ((words1.drop 24).drop 24), List.all_append, w_t3, ← List.take_append_drop 24 (((words1.drop 24).drop 24).drop 24), List.all_append, w_t4, ← List.take_append_drop 24 ((((words1.drop 24).drop 24).drop 24).drop 24), List.all_append, w_t5, ← List.take_append_drop 24 (((((words1.drop 24).drop 24).drop 24).drop 24).drop 24), List.all_append, w_t6, w_t7]
  rfl
set_option maxRecDepth 65536 in
theorem w_rest : rest_1_c.before args0 about1 = true := by decide +kernel
set_option maxRecDepth 65536 in
theorem w_case : (Jvm.Cond.and given_1 narrow_1).before args0 about1 = true := by decide +kernel
theorem w_applies : (headSpec (Jvm.Cond.code x code maxLocals ret :: tables_1) room_1).applies x e0.platform about1 = true :=
  (Spec.applies_iff w_frames).mpr ⟨w_running, w_runnable, w_alone, w_named, w_hears, w_ripe, w_room, w_tables⟩
theorem atStart : AtStart classFile x code maxLocals ret World_1 tables_1 room_1 Calls_1 rest_1 Pre_1 launch0 p0 e0 about1 theMethod args0 below0 :=
  ⟨lists_1, trivial, launch0.admits_env _ _ _, launch0.least_env, fairChoices_fair.cas, fairChoices_fair.clock, w_frames, w_args, w_heap, w_applies, trivial, w_rest, w_case⟩
end start1
theorem witness_1 : WitnessClaimed_1 := ⟨start1.p0, start1.e0, start1.about1, start1.theMethod, start1.args0, start1.below0, start1.atStart⟩
end Jvm.Pilot.@@N@@
