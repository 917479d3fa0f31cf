import JvmDerived
import JvmDerived.Pilot.@@N@@Statement
import JvmDerived.Pilot.@@N@@Code
set_option linter.unusedVariables false
set_option linter.unusedSimpArgs false
@@BLOCK:LamKit.lean.txt@@
namespace Jvm.Pilot.@@N@@
namespace Own
open Jvm Jvm.ClassFile Sem Op Lib Jvm.Free Jvm.Stand Jvm.LawKit Jvm.RoadKit
abbrev Gx := Bool × Launch × State × Array Value × List (String × Nat) × Nat
abbrev Gx.wd (G : Gx) : Bool := G.1
abbrev Gx.l (G : Gx) : Launch := G.2.1
abbrev Gx.Z (G : Gx) : State := G.2.2.1
abbrev Gx.a0 (G : Gx) : Array Value := G.2.2.2.1
abbrev Gx.EL (G : Gx) : List (String × Nat) := G.2.2.2.2.1
abbrev Gx.n0 (G : Gx) : Nat := G.2.2.2.2.2
abbrev Md := String × String × ByteArray × Nat × Option FieldType
abbrev Md.own (M : Md) : String := M.1
abbrev Md.nm (M : Md) : String := M.2.1
abbrev Md.code (M : Md) : ByteArray := M.2.2.1
abbrev Md.mx (M : Md) : Nat := M.2.2.2.1
abbrev Md.ret (M : Md) : Option FieldType := M.2.2.2.2
abbrev Cx := Program × Env × State × MethodId × Array Value × List Frame × Method × Code
abbrev Cx.p (X : Cx) : Program := X.1
abbrev Cx.e (X : Cx) : Env := X.2.1
abbrev Cx.s (X : Cx) : State := X.2.2.1
abbrev Cx.m (X : Cx) : MethodId := X.2.2.2.1
abbrev Cx.args (X : Cx) : Array Value := X.2.2.2.2.1
abbrev Cx.below (X : Cx) : List Frame := X.2.2.2.2.2.1
abbrev Cx.meth (X : Cx) : Method := X.2.2.2.2.2.2.1
abbrev Cx.c (X : Cx) : Code := X.2.2.2.2.2.2.2
def EndW (wd : Bool) (s : State) (o : Outcome) (t : State) (L : List Loc) (k n : Nat) : Prop := ReturnedEndW s o t L k n ∧ (wd = false → FrameEnd s o t L k n)
def Fix (G : Gx) (M : Md) (X : Cx) : Prop := X.p.tables.exec = Jvm.exec ∧ X.c.code = M.code ∧ X.c.maxLocals = M.mx ∧ X.meth.sig.returnType = M.ret ∧ X.meth.locks = false ∧ X.meth.name = M.nm ∧ EW G.Z G.a0 G.EL
def Wk (G : Gx) (M : Md) (R : Room) (X : Cx) (vm : Vm) (T : State) (h : Heap) (k n : Nat) : Prop :=
  Fix G M X ∧ ∃ (k0 : Nat) (L : List Loc), Stand X.p G.l X.e R (X.s.setVm vm) X.m X.args X.below X.meth X.c T L k n ∧ T.heap = h ∧ X.s.Since vm k0 ∧ k0 ≤ h.size ∧ G.Z.Warmed39 vm ∧ vm.findClass M.own = some X.m.cls ∧ Fr G.n0 L ∧ Old G.Z G.n0 h ∧ (G.wd = true → CHr G.Z G.EL X.s.vm X.s.heap vm h) ∧ (G.wd = false → vm = X.s.vm)
def Go (G : Gx) (R : Room) (X : Cx) (Q : Option Value → Heap → Prop) (S : State) : Prop :=
  ∃ (t : State) (o : Outcome), Steps X.p.tables X.e X.below S t ∧ t.status = .running ∧ Ended t X.below o ∧ ∃ (v : Option Value) (L : List Loc), o = .returned v ∧ (Q v t.heap ∧ Fr G.n0 L ∧ Old G.Z G.n0 t.heap) ∧ (G.wd = true → CHr G.Z G.EL X.s.vm X.s.heap t.vm t.heap) ∧ EndW G.wd X.s o t L R.cells R.slots
def Con (G : Gx) (y : MethodName) (bytes : ByteArray) (maxL : Nat) (ret : Option FieldType) (ws : List Cond) (rm : Room) (as : Array Value) (h : Heap) (Q : Option Value → Heap → Prop) : Prop :=
  MetFree G.l y (head1 (Cond.code y bytes maxL ret :: ws) rm) (fun a U => a = as ∧ G.Z.Warmed39 U.vm ∧ U.heap = h ∧ (G.wd = true → CHv G.Z G.EL U.vm h)) (fun _ _ _ _ _ => True)
    (fun _ U o U' => ∃ (v : Option Value) (L : List Loc), o = .returned v ∧ (Q v U'.heap ∧ Fr G.n0 L ∧ Old G.Z G.n0 U'.heap) ∧ (G.wd = true → CHr G.Z G.EL U.vm U.heap U'.vm U'.heap) ∧ EndW G.wd U o U' L rm.cells rm.slots)
def vQ (Q : Value → Heap → Prop) : Option Value → Heap → Prop := fun v h => ∃ x, v = some x ∧ Q x h
def nQ (Q : Heap → Prop) : Option Value → Heap → Prop := fun v h => v = none ∧ Q h
section Lay
variable {G : Gx} {M : Md} {R : Room} {X : Cx} {vm : Vm} {T : State} {h : Heap} {k n : Nat} {Q : Option Value → Heap → Prop}
theorem Go.of {S S' : State} (f : ∀ t, Steps X.p.tables X.e X.below S' t → Steps X.p.tables X.e X.below S t) (g : Go G R X Q S') : Go G R X Q S := by
  obtain ⟨t, o, h1, r⟩ := g; exact ⟨t, o, f t h1, r⟩
theorem Wk.hx (w : Wk G M R X vm T h k n) : X.p.tables.exec = Jvm.exec := w.1.1
theorem Wk.by_ (w : Wk G M R X vm T h k n) : X.c.code = M.code := w.1.2.1
theorem Wk.hml (w : Wk G M R X vm T h k n) : X.c.maxLocals = M.mx := w.1.2.2.1
theorem Wk.hret (w : Wk G M R X vm T h k n) : X.meth.sig.returnType = M.ret := w.1.2.2.2.1
theorem Wk.hlk (w : Wk G M R X vm T h k n) : X.meth.locks = false := w.1.2.2.2.2.1
theorem Wk.hnm (w : Wk G M R X vm T h k n) : X.meth.name = M.nm := w.1.2.2.2.2.2.1
theorem Wk.hEL (w : Wk G M R X vm T h k n) : EW G.Z G.a0 G.EL := w.1.2.2.2.2.2.2
theorem Wk.here (w : Wk G M R X vm T h k n) : At T X.m X.c X.below := by obtain ⟨-, k0, L, S, -⟩ := w; exact S.here
theorem Wk.heap (w : Wk G M R X vm T h k n) : T.heap = h := by obtain ⟨-, k0, L, S, e, -⟩ := w; exact e
theorem Wk.old (w : Wk G M R X vm T h k n) : Old G.Z G.n0 h := by obtain ⟨-, k0, L, -, -, -, -, -, -, -, q, -⟩ := w; exact q
theorem Wk.ch (w : Wk G M R X vm T h k n) : G.wd = true → CHr G.Z G.EL X.s.vm X.s.heap vm h := by obtain ⟨-, k0, L, -, -, -, -, -, -, -, -, q, -⟩ := w; exact q
theorem Wk.wz (w : Wk G M R X vm T h k n) : G.Z.Warmed39 vm := by obtain ⟨-, k0, L, -, -, -, -, q, -⟩ := w; exact q
theorem Wk.n0le (w : Wk G M R X vm T h k n) : G.n0 ≤ h.size := by have := w.old; rw [← this.1]; exact this.2.1
theorem Wk.sta (w : Wk G M R X vm T h k n) {C f d : String} {v : Value} (S : Sta G.Z G.Z.heap C f d v) : Sta G.Z h C f d v := S.ext w.old.2
theorem Wk.mono (w : Wk G M R X vm T h k n) {k' n' : Nat} (hk : k ≤ k') (hn : n ≤ n') : Wk G M R X vm T h k' n' := by
  obtain ⟨a, k0, L, S, r⟩ := w; exact ⟨a, k0, L, S.mono hk hn, r⟩
theorem Wk.aloadN (w : Wk G M R X vm T h k n) {pc q : Nat} {Ls : Array Slot} {st : List Value} {j : Fin 4} {v : Value} (hd : decode M.code pc = .ok (.aload_n j, 1)) (hl : Ls[j.val]? = some (.val v)) (hv : v.isRef = true) (hq : pc + 1 = q) (go : Go G R X Q (T.setTop (mkF X.m q Ls (v :: st)))) : Go G R X Q (T.setTop (mkF X.m pc Ls st)) := by
  subst hq
  exact go.of fun t r => XS.aloadN w.here w.hx rfl (hb w.by_ hd) hl hv r
theorem Wk.aload (w : Wk G M R X vm T h k n) {pc q : Nat} {Ls : Array Slot} {st : List Value} {j : Nat} {v : Value} (hd : decode M.code pc = .ok (.aload j, 2)) (hl : Ls[j]? = some (.val v)) (hv : v.isRef = true) (hq : pc + 2 = q) (go : Go G R X Q (T.setTop (mkF X.m q Ls (v :: st)))) : Go G R X Q (T.setTop (mkF X.m pc Ls st)) := by
  subst hq
  exact go.of fun t r => XS.aload w.here w.hx rfl (hb w.by_ hd) hl hv r
theorem Wk.iloadN (w : Wk G M R X vm T h k n) {pc q : Nat} {Ls : Array Slot} {st : List Value} {j : Fin 4} {v : Int32} (hd : decode M.code pc = .ok (.iload_n j, 1)) (hl : Ls[j.val]? = some (.val (.int v))) (hq : pc + 1 = q) (go : Go G R X Q (T.setTop (mkF X.m q Ls (.int v :: st)))) : Go G R X Q (T.setTop (mkF X.m pc Ls st)) := by
  subst hq
  exact go.of fun t r => XS.iloadN w.here w.hx rfl (hb w.by_ hd) hl r
theorem Wk.iload (w : Wk G M R X vm T h k n) {pc q : Nat} {Ls : Array Slot} {st : List Value} {j : Nat} {v : Int32} (hd : decode M.code pc = .ok (.iload j, 2)) (hl : Ls[j]? = some (.val (.int v))) (hq : pc + 2 = q) (go : Go G R X Q (T.setTop (mkF X.m q Ls (.int v :: st)))) : Go G R X Q (T.setTop (mkF X.m pc Ls st)) := by
  subst hq
  exact go.of fun t r => XS.iload w.here w.hx rfl (hb w.by_ hd) hl r
theorem Wk.lloadN (w : Wk G M R X vm T h k n) {pc q : Nat} {Ls : Array Slot} {st : List Value} {j : Fin 4} {v : Int64} (hd : decode M.code pc = .ok (.lload_n j, 1)) (hl : Ls[j.val]? = some (.val (.long v))) (hq : pc + 1 = q) (go : Go G R X Q (T.setTop (mkF X.m q Ls (.long v :: st)))) : Go G R X Q (T.setTop (mkF X.m pc Ls st)) := by
  subst hq
  exact go.of fun t r => XS.lloadN w.here w.hx rfl (hb w.by_ hd) hl r
theorem Wk.lload (w : Wk G M R X vm T h k n) {pc q : Nat} {Ls : Array Slot} {st : List Value} {j : Nat} {v : Int64} (hd : decode M.code pc = .ok (.lload j, 2)) (hl : Ls[j]? = some (.val (.long v))) (hq : pc + 2 = q) (go : Go G R X Q (T.setTop (mkF X.m q Ls (.long v :: st)))) : Go G R X Q (T.setTop (mkF X.m pc Ls st)) := by
  subst hq
  exact go.of fun t r => XS.lload w.here w.hx rfl (hb w.by_ hd) hl r
theorem Wk.istoreN (w : Wk G M R X vm T h k n) {pc q : Nat} {Ls : Array Slot} {st : List Value} {j : Fin 4} {x : Int32} {L2 : Array Slot} (hd : decode M.code pc = .ok (.istore_n j, 1)) (hl : storeLocals Ls j.val (.int x) = some L2) (hq : pc + 1 = q) (go : Go G R X Q (T.setTop (mkF X.m q L2 st))) : Go G R X Q (T.setTop (mkF X.m pc Ls (.int x :: st))) := by
  subst hq
  exact go.of fun t r => XS.istoreN w.here w.hx rfl (hb w.by_ hd) rfl hl r
theorem Wk.istore (w : Wk G M R X vm T h k n) {pc q : Nat} {Ls : Array Slot} {st : List Value} {j : Nat} {x : Int32} {L2 : Array Slot} (hd : decode M.code pc = .ok (.istore j, 2)) (hl : storeLocals Ls j (.int x) = some L2) (hq : pc + 2 = q) (go : Go G R X Q (T.setTop (mkF X.m q L2 st))) : Go G R X Q (T.setTop (mkF X.m pc Ls (.int x :: st))) := by
  subst hq
  exact go.of fun t r => XS.istore w.here w.hx rfl (hb w.by_ hd) rfl hl r
theorem Wk.lstoreN (w : Wk G M R X vm T h k n) {pc q : Nat} {Ls : Array Slot} {st : List Value} {j : Fin 4} {x : Int64} {L2 : Array Slot} (hd : decode M.code pc = .ok (.lstore_n j, 1)) (hl : storeLocals Ls j.val (.long x) = some L2) (hq : pc + 1 = q) (go : Go G R X Q (T.setTop (mkF X.m q L2 st))) : Go G R X Q (T.setTop (mkF X.m pc Ls (.long x :: st))) := by
  subst hq
  exact go.of fun t r => XS.lstoreN w.here w.hx rfl (hb w.by_ hd) rfl hl r
theorem Wk.lstore (w : Wk G M R X vm T h k n) {pc q : Nat} {Ls : Array Slot} {st : List Value} {j : Nat} {x : Int64} {L2 : Array Slot} (hd : decode M.code pc = .ok (.lstore j, 2)) (hl : storeLocals Ls j (.long x) = some L2) (hq : pc + 2 = q) (go : Go G R X Q (T.setTop (mkF X.m q L2 st))) : Go G R X Q (T.setTop (mkF X.m pc Ls (.long x :: st))) := by
  subst hq
  exact go.of fun t r => XS.lstore w.here w.hx rfl (hb w.by_ hd) rfl hl r
theorem Wk.astoreN (w : Wk G M R X vm T h k n) {pc q : Nat} {Ls : Array Slot} {st : List Value} {j : Fin 4} {x : Value} {L2 : Array Slot} (hd : decode M.code pc = .ok (.astore_n j, 1)) (hv : x.isRef = true) (hl : storeLocals Ls j.val x = some L2) (hq : pc + 1 = q) (go : Go G R X Q (T.setTop (mkF X.m q L2 st))) : Go G R X Q (T.setTop (mkF X.m pc Ls (x :: st))) := by
  subst hq
  exact go.of fun t r => XS.astoreN w.here w.hx rfl (hb w.by_ hd) rfl hv hl r
theorem Wk.astore (w : Wk G M R X vm T h k n) {pc q : Nat} {Ls : Array Slot} {st : List Value} {j : Nat} {x : Value} {L2 : Array Slot} (hd : decode M.code pc = .ok (.astore j, 2)) (hv : x.isRef = true) (hl : storeLocals Ls j x = some L2) (hq : pc + 2 = q) (go : Go G R X Q (T.setTop (mkF X.m q L2 st))) : Go G R X Q (T.setTop (mkF X.m pc Ls (x :: st))) := by
  subst hq
  exact go.of fun t r => XS.astore w.here w.hx rfl (hb w.by_ hd) rfl hv hl r
theorem Wk.aconst (w : Wk G M R X vm T h k n) {pc q : Nat} {Ls : Array Slot} {st : List Value} (hd : decode M.code pc = .ok (.aconst_null, 1)) (hq : pc + 1 = q) (go : Go G R X Q (T.setTop (mkF X.m q Ls (.null :: st)))) : Go G R X Q (T.setTop (mkF X.m pc Ls st)) := by
  subst hq
  exact go.of fun t r => XS.aconstNull w.here w.hx rfl (hb w.by_ hd) r
theorem Wk.iconst (w : Wk G M R X vm T h k n) {pc q : Nat} {Ls : Array Slot} {st : List Value} {i : Int} (v : Int32) (hd : decode M.code pc = .ok (.iconst i, 1)) (hv : Int32.ofInt i = v) (hq : pc + 1 = q) (go : Go G R X Q (T.setTop (mkF X.m q Ls (.int v :: st)))) : Go G R X Q (T.setTop (mkF X.m pc Ls st)) := by
  subst hq hv
  exact go.of fun t r => XS.iconst w.here w.hx rfl (hb w.by_ hd) r
theorem Wk.bipush (w : Wk G M R X vm T h k n) {pc q : Nat} {Ls : Array Slot} {st : List Value} {i : Int} (v : Int32) (hd : decode M.code pc = .ok (.bipush i, 2)) (hv : (Int8.ofInt i).toInt32 = v) (hq : pc + 2 = q) (go : Go G R X Q (T.setTop (mkF X.m q Ls (.int v :: st)))) : Go G R X Q (T.setTop (mkF X.m pc Ls st)) := by
  subst hq hv
  exact go.of fun t r => XS.bipush w.here w.hx rfl (hb w.by_ hd) r
theorem Wk.sipush (w : Wk G M R X vm T h k n) {pc q : Nat} {Ls : Array Slot} {st : List Value} {i : Int} (v : Int32) (hd : decode M.code pc = .ok (.sipush i, 3)) (hv : (Int16.ofInt i).toInt32 = v) (hq : pc + 3 = q) (go : Go G R X Q (T.setTop (mkF X.m q Ls (.int v :: st)))) : Go G R X Q (T.setTop (mkF X.m pc Ls st)) := by
  subst hq hv
  exact go.of fun t r => XS.sipush w.here w.hx rfl (hb w.by_ hd) r
theorem Wk.lconst (w : Wk G M R X vm T h k n) {pc q : Nat} {Ls : Array Slot} {st : List Value} {i : Fin 2} (v : Int64) (hd : decode M.code pc = .ok (.lconst i, 1)) (hv : Int64.ofNat i = v) (hq : pc + 1 = q) (go : Go G R X Q (T.setTop (mkF X.m q Ls (.long v :: st)))) : Go G R X Q (T.setTop (mkF X.m pc Ls st)) := by
  subst hq hv
  exact go.of fun t r => XS.lconst w.here w.hx rfl (hb w.by_ hd) r
theorem Wk.iadd (w : Wk G M R X vm T h k n) {pc q : Nat} {Ls : Array Slot} {st : List Value} {x y : Int32} (hd : decode M.code pc = .ok (.iadd, 1)) (hq : pc + 1 = q) (go : Go G R X Q (T.setTop (mkF X.m q Ls (.int (x + y) :: st)))) : Go G R X Q (T.setTop (mkF X.m pc Ls (.int y :: .int x :: st))) := by
  subst hq
  exact go.of fun t r => XS.iadd w.here w.hx rfl (hb w.by_ hd) rfl r
theorem Wk.isub (w : Wk G M R X vm T h k n) {pc q : Nat} {Ls : Array Slot} {st : List Value} {x y : Int32} (hd : decode M.code pc = .ok (.isub, 1)) (hq : pc + 1 = q) (go : Go G R X Q (T.setTop (mkF X.m q Ls (.int (x - y) :: st)))) : Go G R X Q (T.setTop (mkF X.m pc Ls (.int y :: .int x :: st))) := by
  subst hq
  exact go.of fun t r => XS.isub w.here w.hx rfl (hb w.by_ hd) rfl r
theorem Wk.imul (w : Wk G M R X vm T h k n) {pc q : Nat} {Ls : Array Slot} {st : List Value} {x y : Int32} (hd : decode M.code pc = .ok (.imul, 1)) (hq : pc + 1 = q) (go : Go G R X Q (T.setTop (mkF X.m q Ls (.int (x * y) :: st)))) : Go G R X Q (T.setTop (mkF X.m pc Ls (.int y :: .int x :: st))) := by
  subst hq
  exact go.of fun t r => XS.imul w.here w.hx rfl (hb w.by_ hd) rfl r
theorem Wk.iand (w : Wk G M R X vm T h k n) {pc q : Nat} {Ls : Array Slot} {st : List Value} {x y : Int32} (hd : decode M.code pc = .ok (.iand, 1)) (hq : pc + 1 = q) (go : Go G R X Q (T.setTop (mkF X.m q Ls (.int (x &&& y) :: st)))) : Go G R X Q (T.setTop (mkF X.m pc Ls (.int y :: .int x :: st))) := by
  subst hq
  exact go.of fun t r => XS.iand w.here w.hx rfl (hb w.by_ hd) rfl r
theorem Wk.ior (w : Wk G M R X vm T h k n) {pc q : Nat} {Ls : Array Slot} {st : List Value} {x y : Int32} (hd : decode M.code pc = .ok (.ior, 1)) (hq : pc + 1 = q) (go : Go G R X Q (T.setTop (mkF X.m q Ls (.int (x ||| y) :: st)))) : Go G R X Q (T.setTop (mkF X.m pc Ls (.int y :: .int x :: st))) := by
  subst hq
  exact go.of fun t r => XS.ior w.here w.hx rfl (hb w.by_ hd) rfl r
theorem Wk.ixor (w : Wk G M R X vm T h k n) {pc q : Nat} {Ls : Array Slot} {st : List Value} {x y : Int32} (hd : decode M.code pc = .ok (.ixor, 1)) (hq : pc + 1 = q) (go : Go G R X Q (T.setTop (mkF X.m q Ls (.int (x ^^^ y) :: st)))) : Go G R X Q (T.setTop (mkF X.m pc Ls (.int y :: .int x :: st))) := by
  subst hq
  exact go.of fun t r => XS.ixor w.here w.hx rfl (hb w.by_ hd) rfl r
theorem Wk.ishl (w : Wk G M R X vm T h k n) {pc q : Nat} {Ls : Array Slot} {st : List Value} {x y : Int32} (hd : decode M.code pc = .ok (.ishl, 1)) (hq : pc + 1 = q) (go : Go G R X Q (T.setTop (mkF X.m q Ls (.int (x <<< (y &&& 31)) :: st)))) : Go G R X Q (T.setTop (mkF X.m pc Ls (.int y :: .int x :: st))) := by
  subst hq
  exact go.of fun t r => XS.ishl w.here w.hx rfl (hb w.by_ hd) rfl r
theorem Wk.ishr (w : Wk G M R X vm T h k n) {pc q : Nat} {Ls : Array Slot} {st : List Value} {x y : Int32} (hd : decode M.code pc = .ok (.ishr, 1)) (hq : pc + 1 = q) (go : Go G R X Q (T.setTop (mkF X.m q Ls (.int (x >>> (y &&& 31)) :: st)))) : Go G R X Q (T.setTop (mkF X.m pc Ls (.int y :: .int x :: st))) := by
  subst hq
  exact go.of fun t r => XS.ishr w.here w.hx rfl (hb w.by_ hd) rfl r
theorem Wk.iushr (w : Wk G M R X vm T h k n) {pc q : Nat} {Ls : Array Slot} {st : List Value} {x y : Int32} (hd : decode M.code pc = .ok (.iushr, 1)) (hq : pc + 1 = q) (go : Go G R X Q (T.setTop (mkF X.m q Ls (.int ((x.toUInt32 >>> (y &&& 31).toUInt32).toInt32) :: st)))) : Go G R X Q (T.setTop (mkF X.m pc Ls (.int y :: .int x :: st))) := by
  subst hq
  exact go.of fun t r => XS.iushr w.here w.hx rfl (hb w.by_ hd) rfl r
theorem Wk.ladd (w : Wk G M R X vm T h k n) {pc q : Nat} {Ls : Array Slot} {st : List Value} {x y : Int64} (hd : decode M.code pc = .ok (.ladd, 1)) (hq : pc + 1 = q) (go : Go G R X Q (T.setTop (mkF X.m q Ls (.long (x + y) :: st)))) : Go G R X Q (T.setTop (mkF X.m pc Ls (.long y :: .long x :: st))) := by
  subst hq
  exact go.of fun t r => XS.ladd w.here w.hx rfl (hb w.by_ hd) rfl r
theorem Wk.lsub (w : Wk G M R X vm T h k n) {pc q : Nat} {Ls : Array Slot} {st : List Value} {x y : Int64} (hd : decode M.code pc = .ok (.lsub, 1)) (hq : pc + 1 = q) (go : Go G R X Q (T.setTop (mkF X.m q Ls (.long (x - y) :: st)))) : Go G R X Q (T.setTop (mkF X.m pc Ls (.long y :: .long x :: st))) := by
  subst hq
  exact go.of fun t r => XS.lsub w.here w.hx rfl (hb w.by_ hd) rfl r
theorem Wk.lmul (w : Wk G M R X vm T h k n) {pc q : Nat} {Ls : Array Slot} {st : List Value} {x y : Int64} (hd : decode M.code pc = .ok (.lmul, 1)) (hq : pc + 1 = q) (go : Go G R X Q (T.setTop (mkF X.m q Ls (.long (x * y) :: st)))) : Go G R X Q (T.setTop (mkF X.m pc Ls (.long y :: .long x :: st))) := by
  subst hq
  exact go.of fun t r => XS.lmul w.here w.hx rfl (hb w.by_ hd) rfl r
theorem Wk.land (w : Wk G M R X vm T h k n) {pc q : Nat} {Ls : Array Slot} {st : List Value} {x y : Int64} (hd : decode M.code pc = .ok (.land, 1)) (hq : pc + 1 = q) (go : Go G R X Q (T.setTop (mkF X.m q Ls (.long (x &&& y) :: st)))) : Go G R X Q (T.setTop (mkF X.m pc Ls (.long y :: .long x :: st))) := by
  subst hq
  exact go.of fun t r => XS.land w.here w.hx rfl (hb w.by_ hd) rfl r
theorem Wk.lor (w : Wk G M R X vm T h k n) {pc q : Nat} {Ls : Array Slot} {st : List Value} {x y : Int64} (hd : decode M.code pc = .ok (.lor, 1)) (hq : pc + 1 = q) (go : Go G R X Q (T.setTop (mkF X.m q Ls (.long (x ||| y) :: st)))) : Go G R X Q (T.setTop (mkF X.m pc Ls (.long y :: .long x :: st))) := by
  subst hq
  exact go.of fun t r => XS.lor w.here w.hx rfl (hb w.by_ hd) rfl r
theorem Wk.lxor (w : Wk G M R X vm T h k n) {pc q : Nat} {Ls : Array Slot} {st : List Value} {x y : Int64} (hd : decode M.code pc = .ok (.lxor, 1)) (hq : pc + 1 = q) (go : Go G R X Q (T.setTop (mkF X.m q Ls (.long (x ^^^ y) :: st)))) : Go G R X Q (T.setTop (mkF X.m pc Ls (.long y :: .long x :: st))) := by
  subst hq
  exact go.of fun t r => XS.lxor w.here w.hx rfl (hb w.by_ hd) rfl r
theorem Wk.lshl (w : Wk G M R X vm T h k n) {pc q : Nat} {Ls : Array Slot} {st : List Value} {x : Int64} {y : Int32} (hd : decode M.code pc = .ok (.lshl, 1)) (hq : pc + 1 = q) (go : Go G R X Q (T.setTop (mkF X.m q Ls (.long (x <<< (y &&& 0x3f).toInt64) :: st)))) : Go G R X Q (T.setTop (mkF X.m pc Ls (.int y :: .long x :: st))) := by
  subst hq
  exact go.of fun t r => XS.lshl w.here w.hx rfl (hb w.by_ hd) rfl r
theorem Wk.lshr (w : Wk G M R X vm T h k n) {pc q : Nat} {Ls : Array Slot} {st : List Value} {x : Int64} {y : Int32} (hd : decode M.code pc = .ok (.lshr, 1)) (hq : pc + 1 = q) (go : Go G R X Q (T.setTop (mkF X.m q Ls (.long (x >>> (y &&& 0x3f).toInt64) :: st)))) : Go G R X Q (T.setTop (mkF X.m pc Ls (.int y :: .long x :: st))) := by
  subst hq
  exact go.of fun t r => XS.lshr w.here w.hx rfl (hb w.by_ hd) rfl r
theorem Wk.lushr (w : Wk G M R X vm T h k n) {pc q : Nat} {Ls : Array Slot} {st : List Value} {x : Int64} {y : Int32} (hd : decode M.code pc = .ok (.lushr, 1)) (hq : pc + 1 = q) (go : Go G R X Q (T.setTop (mkF X.m q Ls (.long ((x.toUInt64 >>> (y &&& 0x3f).toInt64.toUInt64).toInt64) :: st)))) : Go G R X Q (T.setTop (mkF X.m pc Ls (.int y :: .long x :: st))) := by
  subst hq
  exact go.of fun t r => XS.lushr w.here w.hx rfl (hb w.by_ hd) rfl r
theorem Wk.lcmp (w : Wk G M R X vm T h k n) {pc q : Nat} {Ls : Array Slot} {st : List Value} {x y : Int64} (hd : decode M.code pc = .ok (.lcmp, 1)) (hq : pc + 1 = q) (go : Go G R X Q (T.setTop (mkF X.m q Ls (.int (lcmpW x y) :: st)))) : Go G R X Q (T.setTop (mkF X.m pc Ls (.long y :: .long x :: st))) := by
  subst hq
  exact go.of fun t r => XS.lcmp w.here w.hx rfl (hb w.by_ hd) rfl r
theorem Wk.idiv (w : Wk G M R X vm T h k n) {pc q : Nat} {Ls : Array Slot} {st : List Value} {x y : Int32} (hd : decode M.code pc = .ok (.idiv, 1)) (hy : y ≠ 0) (hq : pc + 1 = q) (go : Go G R X Q (T.setTop (mkF X.m q Ls (.int (x / y) :: st)))) : Go G R X Q (T.setTop (mkF X.m pc Ls (.int y :: .int x :: st))) := by
  subst hq
  exact go.of fun t r => XS.idiv w.here w.hx rfl (hb w.by_ hd) rfl hy r
theorem Wk.irem (w : Wk G M R X vm T h k n) {pc q : Nat} {Ls : Array Slot} {st : List Value} {x y : Int32} (hd : decode M.code pc = .ok (.irem, 1)) (hy : y ≠ 0) (hq : pc + 1 = q) (go : Go G R X Q (T.setTop (mkF X.m q Ls (.int (x % y) :: st)))) : Go G R X Q (T.setTop (mkF X.m pc Ls (.int y :: .int x :: st))) := by
  subst hq
  refine go.of fun t r => XS.irem w.here w.hx rfl (hb w.by_ hd) rfl hy ?_
  rw [irem_eq_mod]; exact r
theorem Wk.ineg (w : Wk G M R X vm T h k n) {pc q : Nat} {Ls : Array Slot} {st : List Value} {x : Int32} (hd : decode M.code pc = .ok (.ineg, 1)) (hq : pc + 1 = q) (go : Go G R X Q (T.setTop (mkF X.m q Ls (.int (-x) :: st)))) : Go G R X Q (T.setTop (mkF X.m pc Ls (.int x :: st))) := by
  subst hq
  exact go.of fun t r => XS.ineg w.here w.hx rfl (hb w.by_ hd) rfl r
theorem Wk.lneg (w : Wk G M R X vm T h k n) {pc q : Nat} {Ls : Array Slot} {st : List Value} {x : Int64} (hd : decode M.code pc = .ok (.lneg, 1)) (hq : pc + 1 = q) (go : Go G R X Q (T.setTop (mkF X.m q Ls (.long (-x) :: st)))) : Go G R X Q (T.setTop (mkF X.m pc Ls (.long x :: st))) := by
  subst hq
  exact go.of fun t r => XS.lneg w.here w.hx rfl (hb w.by_ hd) rfl r
theorem Wk.i2l (w : Wk G M R X vm T h k n) {pc q : Nat} {Ls : Array Slot} {st : List Value} {x : Int32} (hd : decode M.code pc = .ok (.i2l, 1)) (hq : pc + 1 = q) (go : Go G R X Q (T.setTop (mkF X.m q Ls (.long x.toInt64 :: st)))) : Go G R X Q (T.setTop (mkF X.m pc Ls (.int x :: st))) := by
  subst hq
  exact go.of fun t r => XS.i2l w.here w.hx rfl (hb w.by_ hd) rfl r
theorem Wk.i2b (w : Wk G M R X vm T h k n) {pc q : Nat} {Ls : Array Slot} {st : List Value} {x : Int32} (hd : decode M.code pc = .ok (.i2b, 1)) (hq : pc + 1 = q) (go : Go G R X Q (T.setTop (mkF X.m q Ls (.int x.toInt8.toInt32 :: st)))) : Go G R X Q (T.setTop (mkF X.m pc Ls (.int x :: st))) := by
  subst hq
  exact go.of fun t r => XS.i2b w.here w.hx rfl (hb w.by_ hd) rfl r
theorem Wk.i2c (w : Wk G M R X vm T h k n) {pc q : Nat} {Ls : Array Slot} {st : List Value} {x : Int32} (hd : decode M.code pc = .ok (.i2c, 1)) (hq : pc + 1 = q) (go : Go G R X Q (T.setTop (mkF X.m q Ls (.int x.toUInt32.toUInt16.toUInt32.toInt32 :: st)))) : Go G R X Q (T.setTop (mkF X.m pc Ls (.int x :: st))) := by
  subst hq
  exact go.of fun t r => XS.i2c w.here w.hx rfl (hb w.by_ hd) rfl r
theorem Wk.i2s (w : Wk G M R X vm T h k n) {pc q : Nat} {Ls : Array Slot} {st : List Value} {x : Int32} (hd : decode M.code pc = .ok (.i2s, 1)) (hq : pc + 1 = q) (go : Go G R X Q (T.setTop (mkF X.m q Ls (.int x.toInt16.toInt32 :: st)))) : Go G R X Q (T.setTop (mkF X.m pc Ls (.int x :: st))) := by
  subst hq
  exact go.of fun t r => XS.i2s w.here w.hx rfl (hb w.by_ hd) rfl r
theorem Wk.l2i (w : Wk G M R X vm T h k n) {pc q : Nat} {Ls : Array Slot} {st : List Value} {x : Int64} (hd : decode M.code pc = .ok (.l2i, 1)) (hq : pc + 1 = q) (go : Go G R X Q (T.setTop (mkF X.m q Ls (.int x.toInt32 :: st)))) : Go G R X Q (T.setTop (mkF X.m pc Ls (.long x :: st))) := by
  subst hq
  exact go.of fun t r => XS.l2i w.here w.hx rfl (hb w.by_ hd) rfl r
theorem Wk.dup (w : Wk G M R X vm T h k n) {pc q : Nat} {Ls : Array Slot} {st : List Value} {x : Value} (hd : decode M.code pc = .ok (.dup, 1)) (hc : x.category = 1) (hq : pc + 1 = q) (go : Go G R X Q (T.setTop (mkF X.m q Ls (x :: x :: st)))) : Go G R X Q (T.setTop (mkF X.m pc Ls (x :: st))) := by
  subst hq
  exact go.of fun t r => XS.dup w.here w.hx rfl (hb w.by_ hd) rfl hc r
theorem Wk.pop (w : Wk G M R X vm T h k n) {pc q : Nat} {Ls : Array Slot} {st : List Value} {x : Value} (hd : decode M.code pc = .ok (.pop, 1)) (hc : x.category = 1) (hq : pc + 1 = q) (go : Go G R X Q (T.setTop (mkF X.m q Ls st))) : Go G R X Q (T.setTop (mkF X.m pc Ls (x :: st))) := by
  subst hq
  exact go.of fun t r => XS.pop w.here w.hx rfl (hb w.by_ hd) rfl hc r
theorem Wk.dupX1 (w : Wk G M R X vm T h k n) {pc q : Nat} {Ls : Array Slot} {st : List Value} {x y : Value} (hd : decode M.code pc = .ok (.dup_x1, 1)) (hc : x.category = 1) (hc2 : y.category = 1) (hq : pc + 1 = q) (go : Go G R X Q (T.setTop (mkF X.m q Ls (x :: y :: x :: st)))) : Go G R X Q (T.setTop (mkF X.m pc Ls (x :: y :: st))) := by
  subst hq
  exact go.of fun t r => XS.dupX1 w.here w.hx rfl (hb w.by_ hd) rfl hc hc2 r
theorem Wk.dup2 (w : Wk G M R X vm T h k n) {pc q : Nat} {Ls : Array Slot} {st : List Value} {x y : Value} (hd : decode M.code pc = .ok (.dup2, 1)) (hc : x.category = 1) (hc2 : y.category = 1) (hq : pc + 1 = q) (go : Go G R X Q (T.setTop (mkF X.m q Ls (x :: y :: x :: y :: st)))) : Go G R X Q (T.setTop (mkF X.m pc Ls (x :: y :: st))) := by
  subst hq
  exact go.of fun t r => XT.dup2 w.here w.hx rfl (hb w.by_ hd) rfl hc hc2 r
theorem Wk.dup2L (w : Wk G M R X vm T h k n) {pc q : Nat} {Ls : Array Slot} {st : List Value} {x : Int64} (hd : decode M.code pc = .ok (.dup2, 1)) (hq : pc + 1 = q) (go : Go G R X Q (T.setTop (mkF X.m q Ls (.long x :: .long x :: st)))) : Go G R X Q (T.setTop (mkF X.m pc Ls (.long x :: st))) := by
  subst hq
  exact go.of fun t r => XT.dup2L w.here w.hx rfl (hb w.by_ hd) rfl r
theorem Wk.iinc (w : Wk G M R X vm T h k n) {pc q : Nat} {Ls L2 : Array Slot} {st : List Value} {j : Nat} {cst : Int} {x : Int32} (v : Int32) (hd : decode M.code pc = .ok (.iinc j cst, 3)) (hv : Int32.ofInt cst = v) (hl : Ls[j]? = some (.val (.int x))) (hl2 : storeLocals Ls j (.int (x + v)) = some L2) (hq : pc + 3 = q) (go : Go G R X Q (T.setTop (mkF X.m q L2 st))) : Go G R X Q (T.setTop (mkF X.m pc Ls st)) := by
  subst hq hv
  exact go.of fun t r => XS.iinc w.here w.hx rfl (hb w.by_ hd) hl hl2 r
theorem Wk.goto (w : Wk G M R X vm T h k n) {pc q : Nat} {Ls : Array Slot} {st : List Value} {o : Int} (hd : decode M.code pc = .ok (.goto o, 3)) (ho : 0 ≤ (pc : Int) + o) (hq : ((pc : Int) + o).toNat = q) (go : Go G R X Q (T.setTop (mkF X.m q Ls st))) : Go G R X Q (T.setTop (mkF X.m pc Ls st)) := by
  exact go.of fun t r => XS.goto w.here w.hx rfl (pc0 := pc) rfl (hb w.by_ hd) ho hq r
theorem Wk.ifY (w : Wk G M R X vm T h k n) {pc q : Nat} {Ls : Array Slot} {st : List Value} {cd : ClassFile.Cond} {x : Int32} {o : Int} (hd : decode M.code pc = .ok (.ifCond cd o, 3)) (hc : ifCond.holds cd x = true) (ho : 0 ≤ (pc : Int) + o) (hq : ((pc : Int) + o).toNat = q) (go : Go G R X Q (T.setTop (mkF X.m q Ls st))) : Go G R X Q (T.setTop (mkF X.m pc Ls (.int x :: st))) := by
  exact go.of fun t r => XS.ifYes w.here w.hx rfl (pc0 := pc) rfl (hb w.by_ hd) rfl hc ho hq r
theorem Wk.ifN (w : Wk G M R X vm T h k n) {pc q : Nat} {Ls : Array Slot} {st : List Value} {cd : ClassFile.Cond} {x : Int32} {o : Int} (hd : decode M.code pc = .ok (.ifCond cd o, 3)) (hc : ifCond.holds cd x = false) (hq : pc + 3 = q) (go : Go G R X Q (T.setTop (mkF X.m q Ls st))) : Go G R X Q (T.setTop (mkF X.m pc Ls (.int x :: st))) := by
  subst hq
  exact go.of fun t r => XS.ifNo w.here w.hx rfl (hb w.by_ hd) rfl hc r
theorem Wk.icY (w : Wk G M R X vm T h k n) {pc q : Nat} {Ls : Array Slot} {st : List Value} {cd : ClassFile.Cond} {x y : Int32} {o : Int} (hd : decode M.code pc = .ok (.if_icmp cd o, 3)) (hc : if_icmp.holds cd x y = true) (ho : 0 ≤ (pc : Int) + o) (hq : ((pc : Int) + o).toNat = q) (go : Go G R X Q (T.setTop (mkF X.m q Ls st))) : Go G R X Q (T.setTop (mkF X.m pc Ls (.int y :: .int x :: st))) := by
  exact go.of fun t r => XS.icmpYes w.here w.hx rfl (pc0 := pc) rfl (hb w.by_ hd) rfl hc ho hq r
theorem Wk.icN (w : Wk G M R X vm T h k n) {pc q : Nat} {Ls : Array Slot} {st : List Value} {cd : ClassFile.Cond} {x y : Int32} {o : Int} (hd : decode M.code pc = .ok (.if_icmp cd o, 3)) (hc : if_icmp.holds cd x y = false) (hq : pc + 3 = q) (go : Go G R X Q (T.setTop (mkF X.m q Ls st))) : Go G R X Q (T.setTop (mkF X.m pc Ls (.int y :: .int x :: st))) := by
  subst hq
  exact go.of fun t r => XS.icmpNo w.here w.hx rfl (hb w.by_ hd) rfl hc r
theorem Wk.nuY (w : Wk G M R X vm T h k n) {pc q : Nat} {Ls : Array Slot} {st : List Value} {o : Int} (hd : decode M.code pc = .ok (.ifnull o, 3)) (ho : 0 ≤ (pc : Int) + o) (hq : ((pc : Int) + o).toNat = q) (go : Go G R X Q (T.setTop (mkF X.m q Ls st))) : Go G R X Q (T.setTop (mkF X.m pc Ls (.null :: st))) := by
  exact go.of fun t r => XS.ifnullYes w.here w.hx rfl (pc0 := pc) rfl (hb w.by_ hd) rfl ho hq r
theorem Wk.nuN (w : Wk G M R X vm T h k n) {pc q : Nat} {Ls : Array Slot} {st : List Value} {b : Addr} {o : Int} (hd : decode M.code pc = .ok (.ifnull o, 3)) (hq : pc + 3 = q) (go : Go G R X Q (T.setTop (mkF X.m q Ls st))) : Go G R X Q (T.setTop (mkF X.m pc Ls (.ref b :: st))) := by
  subst hq
  exact go.of fun t r => XS.ifnullNo w.here w.hx rfl (hb w.by_ hd) rfl r
theorem Wk.nnY (w : Wk G M R X vm T h k n) {pc q : Nat} {Ls : Array Slot} {st : List Value} {b : Addr} {o : Int} (hd : decode M.code pc = .ok (.ifnonnull o, 3)) (ho : 0 ≤ (pc : Int) + o) (hq : ((pc : Int) + o).toNat = q) (go : Go G R X Q (T.setTop (mkF X.m q Ls st))) : Go G R X Q (T.setTop (mkF X.m pc Ls (.ref b :: st))) := by
  exact go.of fun t r => XS.ifnonnullYes w.here w.hx rfl (pc0 := pc) rfl (hb w.by_ hd) rfl ho hq r
theorem Wk.nnN (w : Wk G M R X vm T h k n) {pc q : Nat} {Ls : Array Slot} {st : List Value} {o : Int} (hd : decode M.code pc = .ok (.ifnonnull o, 3)) (hq : pc + 3 = q) (go : Go G R X Q (T.setTop (mkF X.m q Ls st))) : Go G R X Q (T.setTop (mkF X.m pc Ls (.null :: st))) := by
  subst hq
  exact go.of fun t r => XS.ifnonnullNo w.here w.hx rfl (hb w.by_ hd) rfl r
theorem Wk.acY (w : Wk G M R X vm T h k n) {pc q : Nat} {Ls : Array Slot} {st : List Value} {cd : ClassFile.ACond} {x y : Value} {o : Int} (hd : decode M.code pc = .ok (.if_acmp cd o, 3)) (hx : x.isRef = true) (hy : y.isRef = true) (hc : Jvm.Free.XT.acmp cd x y = true) (ho : 0 ≤ (pc : Int) + o) (hq : ((pc : Int) + o).toNat = q) (go : Go G R X Q (T.setTop (mkF X.m q Ls st))) : Go G R X Q (T.setTop (mkF X.m pc Ls (y :: x :: st))) := by
  exact go.of fun t r => XT.acmpYes w.here w.hx rfl (pc0 := pc) rfl (hb w.by_ hd) rfl hx hy hc ho hq r
theorem Wk.acN (w : Wk G M R X vm T h k n) {pc q : Nat} {Ls : Array Slot} {st : List Value} {cd : ClassFile.ACond} {x y : Value} {o : Int} (hd : decode M.code pc = .ok (.if_acmp cd o, 3)) (hx : x.isRef = true) (hy : y.isRef = true) (hc : Jvm.Free.XT.acmp cd x y = false) (hq : pc + 3 = q) (go : Go G R X Q (T.setTop (mkF X.m q Ls st))) : Go G R X Q (T.setTop (mkF X.m pc Ls (y :: x :: st))) := by
  subst hq
  exact go.of fun t r => XT.acmpNo w.here w.hx rfl (hb w.by_ hd) rfl hx hy hc r
theorem xrfl (h : Heap) : Ext h h := ⟨Nat.le_refl _, fun _ _ q => q⟩
theorem xtr {h h' h2 : Heap} (A : Ext h h') (B : Ext h' h2) : Ext h h2 := ⟨Nat.le_trans A.1 B.1, fun a c q => B.2 a c (A.2 a c q)⟩
theorem xkp {h0 h h' : Heap} {ws : List Addr} (E : Ext h0 h) (K : Keep h h' ws) (q : ∀ x ∈ ws, h0.size ≤ x) : Ext h0 h' := ⟨Nat.le_trans E.1 K.1, fun a c r => K.2.1 a c (E.2 a c r) fun z => absurd (Array.getElem?_eq_some_iff.mp r).1 (Nat.not_lt.mpr (q a z))⟩
theorem xkeep {h h' : Heap} (E : Ext h h') : Keep h h' [] := (Keep.refl h []).ext E
theorem sta_uniq {Z : State} {h : Heap} {C n d : String} {a b : Addr} (F : Sta Z h C n d (.ref a)) (E : Sta Z h C n d (.ref b)) : a = b := by
  obtain ⟨cf, i, k, f, st, cell, h1, h2, h3, h4, h5, h6, h7⟩ := F
  obtain ⟨cf', i', k', f', st', cell', g1, g2, g3, g4, g5, g6, g7⟩ := E
  cases h1.symm.trans g1
  cases h4.symm.trans g4
  cases h5.symm.trans g5
  cases h7.symm.trans g7
  rfl
theorem nin1 {x y : Nat} (q : x ≠ y) : x ∉ ([y] : List Addr) := fun z => q (List.mem_singleton.mp z)
theorem all1 {P : Addr → Prop} {a : Addr} (q : P a) : ∀ x ∈ [a], P x := fun x hx => by cases List.mem_singleton.mp hx; exact q
theorem Wk.sfE (w : Wk G M R X vm T h k n) {a : Addr} {C : String} (E : Exa G.Z h a C) (h1 : C ≠ "java/lang/String") (h2 : C ≠ "[B") : G.wd = true → Safe G.Z G.EL vm h a := fun _ => Safe.exa w.wz.alike E h1 h2
theorem Wk.sfA (w : Wk G M R X vm T h k n) {a : Addr} {kc : ClassId} {ty : FieldType} {N : Int32} {vs : List Value} {dv : Value} (A : Arv G.Z h a kc ty N vs dv) (ht : ty ≠ .byte) : G.wd = true → Safe G.Z G.EL vm h a := fun _ => Safe.arv w.wz.alike A ht
theorem Wk.sfN (w : Wk G M R X vm T h k n) {a : Addr} (q : h.size ≤ a) : G.wd = true → Safe G.Z G.EL vm h a := fun _ => Safe.new q
theorem blank_safe {Z : State} {EL : List (String × Nat)} {vm : Vm} {h : Heap} {x : Addr} (hal : Z.vm.Alike vm) (E : Exa Z h x "java/lang/String") (V : Fld Z h x "java/lang/String" "value" "[B" .null) : Safe Z EL vm h x := fun B => by
  obtain ⟨cell, kx, e1, e2, e3, e4, e5⟩ := E
  obtain ⟨cellV, cf, kf, i, f, v1, v2, v3, v4, v5, v6, v7⟩ := V
  cases e1.symm.trans v1
  obtain ⟨p, -, u, a, -, q, -, F, hy⟩ := B
  obtain ⟨cS, ⟨⟨s1, s2, s3, ⟨cv, kv, iv, s4, s4'⟩, -, s6, s7, s8, s9, s10, s11, -⟩, hfS, hcS⟩, -, hB, -⟩ := F
  rcases hy with rfl | rfl
  · cases e1.symm.trans (show h[q.sa]? = some q.sC from s1)
    obtain ⟨kz, z4⟩ := ff_back (U := Wst Z vm h) hal s4
    have := v2.symm.trans z4
    simp only [Option.some.injEq, Prod.mk.injEq] at this
    rw [this.2.2.2] at v7
    rw [s8] at v7
    cases v7
  · cases e1.symm.trans (show h[q.sd]? = some q.SA from s10)
    obtain ⟨-, k9, hk9, comp, hkind⟩ := s11
    have hB' : vm.findClass "[B" = some q.SA.cls := hB
    rw [hal.findClass] at hB'
    obtain ⟨k1, a1, a2⟩ := Vm.findClass_spec hB'
    obtain ⟨k2, b1, b2⟩ := Vm.findClass_spec e2
    cases a1.symm.trans b1
    rw [a2] at b2
    exact absurd b2 (by decide)
theorem Wk.sfB (w : Wk G M R X vm T h k n) {a : Addr} (E : Exa G.Z h a "java/lang/String") (V : Fld G.Z h a "java/lang/String" "value" "[B" .null) : G.wd = true → Safe G.Z G.EL vm h a := fun _ => blank_safe w.wz.alike E V
theorem Wk.newO (w : Wk G M R X vm T h k n) {pc q : Nat} {Ls : Array Slot} {st : List Value} {C : String} {index sz : Nat} (hd : decode M.code pc = .ok (.new index, 3)) (w1 : (Jvm.Cond.classLink M.own index C).before G.a0 G.Z = true) (w2 : (Jvm.Cond.instantiable C sz).before G.a0 G.Z = true) (w3 : (Jvm.Cond.initialized C).before G.a0 G.Z = true) (hc : k + 1 ≤ R.cells) (hl : n + sz ≤ R.slots) (hq : pc + 3 = q)
    (go : ∀ (T' : State) (h' : Heap) (b : Nat), b = h.size → Wk G M R X vm T' h' (k + 1) (n + sz) → Ext h h' → Exa G.Z h' b C → (∀ {O nm d : String} {ty : FieldType}, Laid G.Z G.a0 C O nm d → parseFieldDescriptor d = some ty → Fld G.Z h' b O nm d (defaultValue ty)) → Unt h' b → Go G R X Q (T'.setTop (mkF X.m q Ls (.ref b :: st)))) : Go G R X Q (T.setTop (mkF X.m pc Ls st)) := by
  subst hq
  obtain ⟨fx, k0, L, S, eh, hS, hk, hZ, hown, hF, ho, hch, hnw⟩ := w
  obtain ⟨T', h', X', e', E, A, D, U, st'⟩ := Jvm.RoadKit.newO S fx.1 hZ hown w1 w2 w3 eh (g := mkF X.m pc Ls st) rfl (hb fx.2.1 hd) hc hl
  exact (go T' h' h.size rfl ⟨fx, k0, L, X', e', hS, Nat.le_trans hk E.1, hZ, hown, hF, ho.ext E, fun b => (hch b).trans (CHr.ext E (hch b).1), hnw⟩ E A D U).of st'
theorem Wk.newP (w : Wk G M R X vm T h k n) {pc q : Nat} {Ls : Array Slot} {st : List Value} {aty : ArrayType} {N : Int32} (cap : Nat) (hd : decode M.code pc = .ok (.newarray aty, 2)) (w1 : (Jvm.Cond.arrayClass (newarray.typeOf aty)).before G.a0 G.Z = true) (hN : ¬ N < 0) (hcap : N.toNatClampNeg ≤ cap) (hb8 : cap * 8 ≤ 536870912) (hc : k + 1 ≤ R.cells) (hl : n + cap ≤ R.slots) (hq : pc + 2 = q)
    (go : ∀ (T' : State) (h' : Heap) (b : Nat) (kc : ClassId), b = h.size → Wk G M R X vm T' h' (k + 1) (n + cap) → Ext h h' → Arv G.Z h' b kc (newarray.typeOf aty) N [] (defaultValue (newarray.typeOf aty)) → Go G R X Q (T'.setTop (mkF X.m q Ls (.ref b :: st)))) : Go G R X Q (T.setTop (mkF X.m pc Ls (.int N :: st))) := by
  subst hq
  obtain ⟨fx, k0, L, S, eh, hS, hk, hZ, hown, hF, ho, hch, hnw⟩ := w
  obtain ⟨T', h', kc, X', e', E, A, st'⟩ := Jvm.RoadKit.newP S fx.1 hZ w1 eh (g := mkF X.m pc Ls (.int N :: st)) rfl (hb fx.2.1 hd) rfl hN (cap := cap) hcap hb8 hc hl
  exact (go T' h' h.size kc rfl ⟨fx, k0, L, X', e', hS, Nat.le_trans hk E.1, hZ, hown, hF, ho.ext E, fun b => (hch b).trans (CHr.ext E (hch b).1), hnw⟩ E (Arv.new A hN)).of st'
theorem Wk.newR (w : Wk G M R X vm T h k n) {pc q : Nat} {Ls : Array Slot} {st : List Value} {C : String} {index : Nat} {N : Int32} (cap : Nat) (hd : decode M.code pc = .ok (.anewarray index, 3)) (w1 : (Jvm.Cond.classLink M.own index C).before G.a0 G.Z = true) (w2 : (Jvm.Cond.arrayOver (.object C)).before G.a0 G.Z = true) (hN : ¬ N < 0) (hcap : N.toNatClampNeg ≤ cap) (hb8 : cap * 8 ≤ 536870912) (hc : k + 1 ≤ R.cells) (hl : n + cap ≤ R.slots) (hq : pc + 3 = q)
    (go : ∀ (T' : State) (h' : Heap) (b : Nat) (kc : ClassId), b = h.size → Wk G M R X vm T' h' (k + 1) (n + cap) → Ext h h' → Arv G.Z h' b kc (.object C) N [] .null → Ovr G.Z kc C → Go G R X Q (T'.setTop (mkF X.m q Ls (.ref b :: st)))) : Go G R X Q (T.setTop (mkF X.m pc Ls (.int N :: st))) := by
  subst hq
  obtain ⟨fx, k0, L, S, eh, hS, hk, hZ, hown, hF, ho, hch, hnw⟩ := w
  obtain ⟨T', h', kc, X', e', E, A, O, st'⟩ := Jvm.RoadKit.newR S fx.1 hZ hown w1 w2 eh (g := mkF X.m pc Ls (.int N :: st)) rfl (hb fx.2.1 hd) rfl hN (cap := cap) hcap hb8 hc hl
  exact (go T' h' h.size kc rfl ⟨fx, k0, L, X', e', hS, Nat.le_trans hk E.1, hZ, hown, hF, ho.ext E, fun b => (hch b).trans (CHr.ext E (hch b).1), hnw⟩ E (Arv.new A hN) O).of st'
theorem Wk.castore (w : Wk G M R X vm T h k n) {pc q : Nat} {Ls : Array Slot} {st : List Value} {b : Addr} {kc : ClassId} {N j x : Int32} {vs : List Value} {dv : Value} (i : Nat) (hd : decode M.code pc = .ok (.castore, 1)) (A : Arv G.Z h b kc .char N vs dv) (h0 : G.n0 ≤ b) (hj : ¬ j < 0 ∧ j < N) (hi : j.toNatClampNeg = i) (hlen : i < vs.length) (hq : pc + 1 = q)
    (go : ∀ (T' : State) (h' : Heap), Wk G M R X vm T' h' k n → Keep h h' [b] → Arv G.Z h' b kc .char N (vs.set i (.int (nar .char x))) dv → Go G R X Q (T'.setTop (mkF X.m q Ls st))) : Go G R X Q (T.setTop (mkF X.m pc Ls (.int x :: .int j :: .ref b :: st))) := by
  subst hq
  have sf := w.sfA A (by decide)
  obtain ⟨fx, k0, L, S, eh, hS, hk, hZ, hown, hF, ho, hch, hnw⟩ := w
  obtain ⟨cl, Ar, r1, r2, r3, H, Gf⟩ := A
  obtain ⟨T', h', X', e', W, st'⟩ := Jvm.RoadKit.stC S fx.1 hZ eh Ar (j := j) (x := x) (inb_of r2 hj) (g := mkF X.m pc Ls (.int x :: .int j :: .ref b :: st)) rfl rfl (hb fx.2.1 hd)
  have K := Keep.of_wr W
  exact (go T' h' ⟨fx, k0, _, X', e', hS, Nat.le_trans hk K.1, hZ, hown, Fr.snoc X' hF h0, ho.wr W h0, fun b' => (hch b').trans (CHr.wr W (sf b') (hch b').1), hnw⟩ K (Arv.set Ar r1 r2 r3 H Gf (fits_nar_char _) W i hi hlen)).of st'
theorem Wk.iastore (w : Wk G M R X vm T h k n) {pc q : Nat} {Ls : Array Slot} {st : List Value} {b : Addr} {kc : ClassId} {N j x : Int32} {vs : List Value} {dv : Value} (i : Nat) (hd : decode M.code pc = .ok (.iastore, 1)) (A : Arv G.Z h b kc .int N vs dv) (h0 : G.n0 ≤ b) (hj : ¬ j < 0 ∧ j < N) (hi : j.toNatClampNeg = i) (hlen : i < vs.length) (hq : pc + 1 = q)
    (go : ∀ (T' : State) (h' : Heap), Wk G M R X vm T' h' k n → Keep h h' [b] → Arv G.Z h' b kc .int N (vs.set i (.int x)) dv → Go G R X Q (T'.setTop (mkF X.m q Ls st))) : Go G R X Q (T.setTop (mkF X.m pc Ls (.int x :: .int j :: .ref b :: st))) := by
  subst hq
  have sf := w.sfA A (by decide)
  obtain ⟨fx, k0, L, S, eh, hS, hk, hZ, hown, hF, ho, hch, hnw⟩ := w
  obtain ⟨cl, Ar, r1, r2, r3, H, Gf⟩ := A
  obtain ⟨T', h', X', e', W, st'⟩ := Jvm.RoadKit.stI S fx.1 hZ eh Ar (j := j) (x := x) (inb_of r2 hj) (g := mkF X.m pc Ls (.int x :: .int j :: .ref b :: st)) rfl rfl (hb fx.2.1 hd)
  have K := Keep.of_wr W
  exact (go T' h' ⟨fx, k0, _, X', e', hS, Nat.le_trans hk K.1, hZ, hown, Fr.snoc X' hF h0, ho.wr W h0, fun b' => (hch b').trans (CHr.wr W (sf b') (hch b').1), hnw⟩ K (Arv.set Ar r1 r2 r3 H Gf rfl W i hi hlen)).of st'
theorem Wk.bastore (w : Wk G M R X vm T h k n) {pc q : Nat} {Ls : Array Slot} {st : List Value} {b : Addr} {kc : ClassId} {N j x : Int32} {vs : List Value} {dv : Value} (i : Nat) (hd : decode M.code pc = .ok (.bastore, 1)) (A : Arv G.Z h b kc .byte N vs dv) (h0 : G.n0 ≤ b) (sf : G.wd = true → Safe G.Z G.EL vm h b) (hj : ¬ j < 0 ∧ j < N) (hi : j.toNatClampNeg = i) (hlen : i < vs.length) (hq : pc + 1 = q)
    (go : ∀ (T' : State) (h' : Heap), Wk G M R X vm T' h' k n → Keep h h' [b] → (G.wd = true → Safe G.Z G.EL vm h' b) → Arv G.Z h' b kc .byte N (vs.set i (.int x.toInt8.toInt32)) dv → Go G R X Q (T'.setTop (mkF X.m q Ls st))) : Go G R X Q (T.setTop (mkF X.m pc Ls (.int x :: .int j :: .ref b :: st))) := by
  subst hq
  obtain ⟨fx, k0, L, S, eh, hS, hk, hZ, hown, hF, ho, hch, hnw⟩ := w
  obtain ⟨cl, Ar, r1, r2, r3, H, Gf⟩ := A
  obtain ⟨T', h', X', e', W, st'⟩ := Jvm.RoadKit.stB S fx.1 hZ eh Ar (j := j) (x := x) (inb_of r2 hj) (g := mkF X.m pc Ls (.int x :: .int j :: .ref b :: st)) rfl rfl (hb fx.2.1 hd)
  have K := Keep.of_wr W
  exact (go T' h' ⟨fx, k0, _, X', e', hS, Nat.le_trans hk K.1, hZ, hown, Fr.snoc X' hF h0, ho.wr W h0, fun b' => (hch b').trans (CHr.wr W (sf b') (hch b').1), hnw⟩ K (fun b' => (CHr.wr W (sf b') (hch b').1).safe Ar.lt (sf b')) (Arv.set Ar r1 r2 r3 H Gf (fits_nar_byte _) W i hi hlen)).of st'
theorem Wk.aastore (w : Wk G M R X vm T h k n) {pc q : Nat} {Ls : Array Slot} {st : List Value} {b : Addr} {kc : ClassId} {ty : FieldType} {N j : Int32} {v : Value} {vs : List Value} {dv : Value} (i : Nat) (hd : decode M.code pc = .ok (.aastore, 1)) (A : Arv G.Z h b kc ty N vs dv) (hty : ty.isReference = true) (F : Sto G.Z h b v) (hv : v.isRef = true) (h0 : G.n0 ≤ b) (hj : ¬ j < 0 ∧ j < N) (hi : j.toNatClampNeg = i) (hlen : i < vs.length) (hq : pc + 1 = q)
    (go : ∀ (T' : State) (h' : Heap), Wk G M R X vm T' h' k n → Keep h h' [b] → Arv G.Z h' b kc ty N (vs.set i v) dv → Go G R X Q (T'.setTop (mkF X.m q Ls st))) : Go G R X Q (T.setTop (mkF X.m pc Ls (v :: .int j :: .ref b :: st))) := by
  subst hq
  have hnb : ty ≠ .byte := fun e => by rw [e] at hty; cases hty
  have sf := w.sfA A hnb
  have hfit : fits ty v = true := by cases ty <;> first | (cases hty; done) | (rcases ref_cases hv with rfl | ⟨_, rfl⟩ <;> rfl)
  obtain ⟨fx, k0, L, S, eh, hS, hk, hZ, hown, hF, ho, hch, hnw⟩ := w
  obtain ⟨cl, Ar, r1, r2, r3, H, Gf⟩ := A
  obtain ⟨T', h', X', e', W, st'⟩ := Jvm.RoadKit.stR S fx.1 hZ eh Ar (j := j) (v := v) (inb_of r2 hj) hty F (g := mkF X.m pc Ls (v :: .int j :: .ref b :: st)) rfl rfl (hb fx.2.1 hd)
  have K := Keep.of_wr W
  exact (go T' h' ⟨fx, k0, _, X', e', hS, Nat.le_trans hk K.1, hZ, hown, Fr.snoc X' hF h0, ho.wr W h0, fun b' => (hch b').trans (CHr.wr W (sf b') (hch b').1), hnw⟩ K (Arv.set Ar r1 r2 r3 H Gf hfit W i hi hlen)).of st'
theorem Wk.getF (w : Wk G M R X vm T h k n) {pc q : Nat} {Ls : Array Slot} {st : List Value} {R0 O f d : String} {index : Nat} {a : Addr} {v : Value} (hd : decode M.code pc = .ok (.getfield index, 3)) (w1 : (Jvm.Cond.fieldLink M.own index R0 f d).before G.a0 G.Z = true) (via : Via G.Z R0 O f d) (F : Fld G.Z h a O f d v) (hq : pc + 3 = q)
    (go : ∀ T' : State, Wk G M R X vm T' h k n → Go G R X Q (T'.setTop (mkF X.m q Ls (v :: st)))) : Go G R X Q (T.setTop (mkF X.m pc Ls (.ref a :: st))) := by
  subst hq
  obtain ⟨fx, k0, L, S, eh, hS, hk, hZ, hown, r⟩ := w
  obtain ⟨T', X', e', st'⟩ := Jvm.RoadKit.getF (host := "") S fx.1 hZ hown (Or.inl w1) via eh F (g := mkF X.m pc Ls (.ref a :: st)) rfl rfl (hb fx.2.1 hd)
  exact (go T' ⟨fx, k0, L, X', e', hS, hk, hZ, hown, r⟩).of st'
theorem Wk.getS (w : Wk G M R X vm T h k n) {pc q : Nat} {Ls : Array Slot} {st : List Value} {R0 O f d : String} {index : Nat} {v : Value} (hd : decode M.code pc = .ok (.getstatic index, 3)) (w1 : (Jvm.Cond.fieldLink M.own index R0 f d).before G.a0 G.Z = true) (via : Via G.Z R0 O f d) (F : Sta G.Z G.Z.heap O f d v) (hq : pc + 3 = q)
    (go : ∀ T' : State, Wk G M R X vm T' h k n → Go G R X Q (T'.setTop (mkF X.m q Ls (v :: st)))) : Go G R X Q (T.setTop (mkF X.m pc Ls st)) := by
  subst hq
  have F' := w.sta F
  obtain ⟨fx, k0, L, S, eh, hS, hk, hZ, hown, r⟩ := w
  obtain ⟨T', X', e', st'⟩ := Jvm.RoadKit.getS (host := "") S fx.1 hZ hown w1 via eh F' (g := mkF X.m pc Ls st) rfl (hb fx.2.1 hd)
  exact (go T' ⟨fx, k0, L, X', e', hS, hk, hZ, hown, r⟩).of st'
theorem Wk.putF (w : Wk G M R X vm T h k n) {pc q : Nat} {Ls : Array Slot} {st : List Value} {R0 O f d C : String} {index kk : Nat} {ty : FieldType} {a : Addr} {v old : Value} (hd : decode M.code pc = .ok (.putfield index, 3)) (w1 : (Jvm.Cond.fieldLink M.own index R0 f d).before G.a0 G.Z = true) (via : Via G.Z R0 O f d) (F : Fld G.Z h a O f d old) (E : Exa G.Z h a C) (hlay : (Jvm.Cond.lays C O f d).before G.a0 G.Z = true ∨ ((Jvm.Cond.laysFinal C O f d).before G.a0 G.Z = true ∧ M.own = O ∧ M.nm = "<init>")) (wi : (Jvm.Cond.instantiable C kk).before G.a0 G.Z = true)
    (hty : parseFieldDescriptor d = some ty) (hn : narrow ty v = v) (hf : fits ty v = true) (h0 : G.n0 ≤ a) (sf : G.wd = true → Safe G.Z G.EL vm h a) (hq : pc + 3 = q)
    (go : ∀ (T' : State) (h' : Heap), Wk G M R X vm T' h' k n → Wr h h' a (Jvm.RoadKit.slotOf G.Z O f d) v → (G.wd = true → Safe G.Z G.EL vm h' a) → Go G R X Q (T'.setTop (mkF X.m q Ls st))) : Go G R X Q (T.setTop (mkF X.m pc Ls (v :: .ref a :: st))) := by
  subst hq
  have hnm := w.hnm
  obtain ⟨fx, k0, L, S, eh, hS, hk, hZ, hown, hF, ho, hch, hnw⟩ := w
  obtain ⟨T', h', X', e', W, st'⟩ := Jvm.RoadKit.putF (host := "") S fx.1 hZ hown (Or.inl w1) via eh F E (hlay.imp id fun z => ⟨z.1, z.2.1, hnm.trans z.2.2⟩) wi hty hn hf (g := mkF X.m pc Ls (v :: .ref a :: st)) rfl rfl (hb fx.2.1 hd)
  have K := Keep.of_wr W
  exact (go T' h' ⟨fx, k0, _, X', e', hS, Nat.le_trans hk K.1, hZ, hown, Fr.snoc X' hF h0, ho.wr W h0, fun b' => (hch b').trans (CHr.wr W (sf b') (hch b').1), hnw⟩ W (fun b' => (CHr.wr W (sf b') (hch b').1).safe F.lt (sf b'))).of st'
theorem Wk.castY (w : Wk G M R X vm T h k n) {pc q : Nat} {Ls : Array Slot} {st : List Value} {K : String} {index : Nat} {a : Addr} (hd : decode M.code pc = .ok (.checkcast index, 3)) (w1 : (Jvm.Cond.classLink M.own index K).before G.a0 G.Z = true) (F : Ins G.Z h a K true) (hq : pc + 3 = q)
    (go : ∀ T' : State, Wk G M R X vm T' h k n → Go G R X Q (T'.setTop (mkF X.m q Ls (.ref a :: st)))) : Go G R X Q (T.setTop (mkF X.m pc Ls (.ref a :: st))) := by
  subst hq
  obtain ⟨fx, k0, L, S, eh, hS, hk, hZ, hown, r⟩ := w
  obtain ⟨T', X', e', st'⟩ := Jvm.RoadKit.castY S fx.1 hZ hown w1 eh F (g := mkF X.m pc Ls (.ref a :: st)) rfl rfl (hb fx.2.1 hd)
  exact (go T' ⟨fx, k0, L, X', e', hS, hk, hZ, hown, r⟩).of st'
theorem Wk.instY (w : Wk G M R X vm T h k n) {pc q : Nat} {Ls : Array Slot} {st : List Value} {K : String} {index : Nat} {a : Addr} (hd : decode M.code pc = .ok (.instanceof index, 3)) (w1 : (Jvm.Cond.classLink M.own index K).before G.a0 G.Z = true) (F : Ins G.Z h a K true) (hq : pc + 3 = q)
    (go : ∀ T' : State, Wk G M R X vm T' h k n → Go G R X Q (T'.setTop (mkF X.m q Ls (.int 1 :: st)))) : Go G R X Q (T.setTop (mkF X.m pc Ls (.ref a :: st))) := by
  subst hq
  obtain ⟨fx, k0, L, S, eh, hS, hk, hZ, hown, r⟩ := w
  obtain ⟨T', X', e', st'⟩ := Jvm.RoadKit.instY S fx.1 hZ hown w1 eh F (g := mkF X.m pc Ls (.ref a :: st)) rfl rfl (hb fx.2.1 hd)
  exact (go T' ⟨fx, k0, L, X', e', hS, hk, hZ, hown, r⟩).of st'
theorem Wk.initO (w : Wk G M R X vm T h k n) {pc q : Nat} {Ls : Array Slot} {st : List Value} {index W : Nat} {a : Addr} (hd : decode M.code pc = .ok (.invokespecial index, 3)) (w1 : (Jvm.Cond.methodLink M.own index Lib.objectInit).before G.a0 G.Z = true) (w2 : (Jvm.Cond.instanceMethod Lib.objectInit).before G.a0 G.Z = true) (w3 : (Jvm.Cond.code Lib.objectInit ⟨#[0xb1]⟩ 1 none).before G.a0 G.Z = true) (hsz : Ls.size = M.mx) (hfr : 1 ≤ R.frames) (hW : (st.map fun v => v.category).sum ≤ W) (hlo : W + 12 ≤ R.locals) (hq : pc + 3 = q)
    (go : ∀ T' : State, Wk G M R X vm T' h k n → Go G R X Q (T'.setTop (mkF X.m q Ls st))) : Go G R X Q (T.setTop (mkF X.m pc Ls (.ref a :: st))) := by
  subst hq
  obtain ⟨fx, k0, L, S, eh, hS, hk, hZ, hown, r⟩ := w
  obtain ⟨T', X', e', st'⟩ := Jvm.RoadKit.initO S fx.1 hZ hown w1 w2 w3 eh (g := mkF X.m pc Ls (.ref a :: st)) rfl (hsz.trans fx.2.2.1.symm) rfl (hb fx.2.1 hd) hfr (W := W) (by show 2 * 0 + _ ≤ _; omega) hlo
  exact (go T' ⟨fx, k0, L, X', e', hS, hk, hZ, hown, r⟩).of st'
theorem Wk.ldcI (w : Wk G M R X vm T h k n) {pc q : Nat} {Ls : Array Slot} {st : List Value} {index : Nat} {v : Int32} (hd : decode M.code pc = .ok (.ldc index, 2)) (w1 : (Jvm.Cond.constant M.own index v).before G.a0 G.Z = true) (hq : pc + 2 = q) (go : Go G R X Q (T.setTop (mkF X.m q Ls (.int v :: st)))) : Go G R X Q (T.setTop (mkF X.m pc Ls st)) := by
  subst hq
  obtain ⟨fx, k0, L, S, eh, hS, hk, hZ, hown, r⟩ := w
  exact go.of fun t z => S.ldcI fx.1 hown (mv (s := X.s.setVm vm) hZ w1) (g := mkF X.m pc Ls st) rfl (hb fx.2.1 hd) z
theorem Wk.ldc2J (w : Wk G M R X vm T h k n) {pc q : Nat} {Ls : Array Slot} {st : List Value} {index : Nat} {v : Int64} (hd : decode M.code pc = .ok (.ldc2_w index, 3)) (w1 : (Jvm.Cond.constantLong M.own index v).before G.a0 G.Z = true) (hq : pc + 3 = q) (go : Go G R X Q (T.setTop (mkF X.m q Ls (.long v :: st)))) : Go G R X Q (T.setTop (mkF X.m pc Ls st)) := by
  subst hq
  obtain ⟨fx, k0, L, S, eh, hS, hk, hZ, hown, r⟩ := w
  exact go.of fun t z => S.ldc2J fx.1 hown (mv (s := X.s.setVm vm) hZ w1) (g := mkF X.m pc Ls st) rfl (hb fx.2.1 hd) z
theorem Wk.alen (w : Wk G M R X vm T h k n) {pc q : Nat} {Ls : Array Slot} {st : List Value} {b : Addr} {kc : ClassId} {ty : FieldType} {N : Int32} {vs : List Value} {dv : Value} (hd : decode M.code pc = .ok (.arraylength, 1)) (A : Arv G.Z h b kc ty N vs dv) (hq : pc + 1 = q) (go : Go G R X Q (T.setTop (mkF X.m q Ls (.int N :: st)))) : Go G R X Q (T.setTop (mkF X.m pc Ls (.ref b :: st))) := by
  subst hq
  obtain ⟨fx, k0, L, S, eh, hS, hk, hZ, hown, r⟩ := w
  obtain ⟨cl, Ar, r1, r2, r3, H, Gf⟩ := A
  refine go.of fun t z => S.arraylength fx.1 (by rw [eh]; exact Ar.1) (State.isArrayOf_alike hZ.alike Ar.2.1) (g := mkF X.m pc Ls (.ref b :: st)) rfl rfl (hb fx.2.1 hd) _ ?_
  rw [len_of r2 r3]; exact z
theorem Wk.aaload (w : Wk G M R X vm T h k n) {pc q : Nat} {Ls : Array Slot} {st : List Value} {b : Addr} {kc : ClassId} {ty : FieldType} {N j : Int32} {v : Value} {vs : List Value} {dv : Value} (hd : decode M.code pc = .ok (.aaload, 1)) (A : Arv G.Z h b kc ty N vs dv) (hty : ty.isReference = true) (hj : ¬ j < 0 ∧ j < N) (hv : vs.getD j.toNatClampNeg dv = v) (hq : pc + 1 = q) (go : Go G R X Q (T.setTop (mkF X.m q Ls (v :: st)))) : Go G R X Q (T.setTop (mkF X.m pc Ls (.int j :: .ref b :: st))) := by
  subst hq
  obtain ⟨fx, k0, L, S, eh, hS, hk, hZ, hown, r⟩ := w
  obtain ⟨cl, Ar, r1, r2, r3, H, Gf⟩ := A
  exact go.of fun t z => S.aaload fx.1 (j := j) (v := v) (by rw [eh]; exact Ar.1) (State.isArrayOf_alike hZ.alike Ar.2.1) hty Ar.2.2 (inb_of r2 hj) (H.at (inb_of r2 hj) hv) (g := mkF X.m pc Ls (.int j :: .ref b :: st)) rfl rfl (hb fx.2.1 hd) _ z
theorem Wk.caload (w : Wk G M R X vm T h k n) {pc q : Nat} {Ls : Array Slot} {st : List Value} {b : Addr} {kc : ClassId} {N j x : Int32} {vs : List Value} {dv : Value} (hd : decode M.code pc = .ok (.caload, 1)) (A : Arv G.Z h b kc .char N vs dv) (hj : ¬ j < 0 ∧ j < N) (hv : vs.getD j.toNatClampNeg dv = .int x) (hq : pc + 1 = q) (go : Go G R X Q (T.setTop (mkF X.m q Ls (.int x :: st)))) : Go G R X Q (T.setTop (mkF X.m pc Ls (.int j :: .ref b :: st))) := by
  subst hq
  obtain ⟨fx, k0, L, S, eh, hS, hk, hZ, hown, r⟩ := w
  obtain ⟨cl, Ar, r1, r2, r3, H, Gf⟩ := A
  exact go.of fun t z => S.caload fx.1 (j := j) (v := .int x) (by rw [eh]; exact Ar.1) (State.isArrayOf_alike hZ.alike Ar.2.1) Ar.2.2 (inb_of r2 hj) (H.at (inb_of r2 hj) hv) (g := mkF X.m pc Ls (.int j :: .ref b :: st)) rfl rfl (hb fx.2.1 hd) _ z
theorem Wk.baload (w : Wk G M R X vm T h k n) {pc q : Nat} {Ls : Array Slot} {st : List Value} {b : Addr} {kc : ClassId} {N j x : Int32} {vs : List Value} {dv : Value} (hd : decode M.code pc = .ok (.baload, 1)) (A : Arv G.Z h b kc .byte N vs dv) (hj : ¬ j < 0 ∧ j < N) (hv : vs.getD j.toNatClampNeg dv = .int x) (hq : pc + 1 = q) (go : Go G R X Q (T.setTop (mkF X.m q Ls (.int x :: st)))) : Go G R X Q (T.setTop (mkF X.m pc Ls (.int j :: .ref b :: st))) := by
  subst hq
  obtain ⟨fx, k0, L, S, eh, hS, hk, hZ, hown, r⟩ := w
  obtain ⟨cl, Ar, r1, r2, r3, H, Gf⟩ := A
  exact go.of fun t z => S.baloadBytes fx.1 (j := j) (v := .int x) (by rw [eh]; exact Ar.1) (State.isArrayOf_alike hZ.alike Ar.2.1) Ar.2.2 (inb_of r2 hj) (H.at (inb_of r2 hj) hv) (g := mkF X.m pc Ls (.int j :: .ref b :: st)) rfl rfl (hb fx.2.1 hd) _ z
theorem arv_sto {Z : State} {h : Heap} {b y : Addr} {kc : ClassId} {ty : FieldType} {N : Int32} {vs : List Value} {dv : Value} {C : String} (A : Arv Z h b kc ty N vs dv) (O : Ovr Z kc C) (I : Ins Z h y C true) : Sto Z h b (.ref y) := by
  obtain ⟨c, Ar, r1, -⟩ := A; exact Sto.ofV Ar r1 O I
def PayN (G : Gx) (R : Room) (X : Cx) (y : MethodName) (len W : Nat) (as : Array Value) (h : Heap) (k1 n1 : Nat) (Q1 : Option Value → Heap → Prop) (vm : Vm) : Prop :=
  Back G.l R X.p X.e X.below (X.s.setVm vm) X.args y len W (fun P a => a = as ∧ P.U.heap = h ∧ P.cells + k1 ≤ R.cells ∧ P.slots + n1 ≤ R.slots)
    (fun P _ v B => ∃ L, (Q1 v B.U.heap ∧ Fr G.n0 L ∧ Old G.Z G.n0 B.U.heap ∧ h.size ≤ B.U.heap.size ∧ (G.wd = true → CHr G.Z G.EL vm h vm B.U.heap)) ∧ B.locs = P.locs ++ L ∧ B.cells = P.cells + k1 ∧ B.slots = P.slots + n1)
def PayW (G : Gx) (R : Room) (X : Cx) (y : MethodName) (len W : Nat) (as : Array Value) (h : Heap) (k1 n1 : Nat) (Q1 : Option Value → Heap → Prop) (vm : Vm) : Prop :=
  G.wd = true ∧ BackS G.l R X.p X.e X.below (X.s.setVm vm) X.args y len W (fun P a => a = as ∧ P.U.heap = h ∧ P.cells + k1 ≤ R.cells ∧ P.slots + n1 ≤ R.slots)
    (fun P _ v B => ∃ L, (Q1 v B.U.heap ∧ Fr G.n0 L ∧ Old G.Z G.n0 B.U.heap ∧ (G.wd = true → CHr G.Z G.EL vm h B.U.vm B.U.heap)) ∧ B.locs = P.locs ++ L ∧ B.cells = P.cells + k1 ∧ B.slots = P.slots + n1)
def Pay (G : Gx) (R : Room) (X : Cx) (y : MethodName) (len W : Nat) (as : Array Value) (h : Heap) (k1 n1 : Nat) (Q1 : Option Value → Heap → Prop) (vm : Vm) : Prop := PayN G R X y len W as h k1 n1 Q1 vm ∨ PayW G R X y len W as h k1 n1 Q1 vm
theorem finN {k0 k1 n1 : Nat} {L : List Loc} {Q1 : Option Value → Heap → Prop} (fx : Fix G M X) (hS : X.s.Since vm k0) (hk : k0 ≤ h.size) (hZ : G.Z.Warmed39 vm) (hown : vm.findClass M.own = some X.m.cls) (hF : Fr G.n0 L) (hch : G.wd = true → CHr G.Z G.EL X.s.vm X.s.heap vm h) (hnw : G.wd = false → vm = X.s.vm)
    {v : Option Value} {B : Pt} (X' : Stand X.p G.l X.e R (X.s.setVm vm) X.m X.args X.below X.meth X.c B.U B.locs B.cells B.slots) (post : ∃ L', (Q1 v B.U.heap ∧ Fr G.n0 L' ∧ Old G.Z G.n0 B.U.heap ∧ h.size ≤ B.U.heap.size ∧ (G.wd = true → CHr G.Z G.EL vm h vm B.U.heap)) ∧ B.locs = L ++ L' ∧ B.cells = k + k1 ∧ B.slots = n + n1) :
    Wk G M R X vm B.U B.U.heap (k + k1) (n + n1) ∧ Q1 v B.U.heap := by
  obtain ⟨U, Lb, c, s⟩ := B
  obtain ⟨L', ⟨q1, q2, q3, q4, q5⟩, h1, h2, h3⟩ := post
  dsimp only [Pt.U, Pt.locs, Pt.cells, Pt.slots] at *
  subst h1 h2 h3
  exact ⟨⟨fx, k0, _, X', rfl, hS, Nat.le_trans hk q4, hZ, hown, Fr.app hF q2, q3, fun b => (hch b).trans (q5 b), hnw⟩, q1⟩
theorem finW {k0 k1 n1 : Nat} {L : List Loc} {Q1 : Option Value → Heap → Prop} (hwd : G.wd = true) (fx : Fix G M X) (hS : X.s.Since vm k0) (hk : k0 ≤ h.size) (hZ : G.Z.Warmed39 vm) (hown : vm.findClass M.own = some X.m.cls) (hF : Fr G.n0 L) (hch : G.wd = true → CHr G.Z G.EL X.s.vm X.s.heap vm h)
    {v : Option Value} {B : Pt} (X' : Stand X.p G.l X.e R ((X.s.setVm vm).setVm B.U.vm) X.m X.args X.below X.meth X.c B.U B.locs B.cells B.slots) (hS' : (X.s.setVm vm).Since B.U.vm B.U.heap.size) (hgr : h.size ≤ B.U.heap.size) (post : ∃ L', (Q1 v B.U.heap ∧ Fr G.n0 L' ∧ Old G.Z G.n0 B.U.heap ∧ (G.wd = true → CHr G.Z G.EL vm h B.U.vm B.U.heap)) ∧ B.locs = L ++ L' ∧ B.cells = k + k1 ∧ B.slots = n + n1) :
    Wk G M R X B.U.vm B.U B.U.heap (k + k1) (n + n1) ∧ Q1 v B.U.heap := by
  obtain ⟨U, Lb, c, s⟩ := B
  obtain ⟨L', ⟨q1, q2, q3, q5⟩, h1, h2, h3⟩ := post
  dsimp only [Pt.U, Pt.locs, Pt.cells, Pt.slots] at *
  subst h1 h2 h3
  exact ⟨⟨fx, U.heap.size, _, X', rfl, hS.trans hS' (Nat.le_trans hk hgr), Nat.le_refl _, State.Warmed39.trans (t := X.s.setVm vm) hZ hS'.1, by rw [hS'.1.alike.findClass]; exact hown, Fr.app hF q2, q3, fun b => (hch b).trans (q5 b), fun z => absurd (z.symm.trans hwd) (by decide)⟩, q1⟩
theorem Wk.callS (w : Wk G M R X vm T h k n) {pc q : Nat} {Ls : Array Slot} {st : List Value} {y : MethodName} {bytes : ByteArray} {maxL : Nat} {ret : Option FieldType} {index W k1 n1 : Nat} {argsL rest : List Value} {Q1 : Option Value → Heap → Prop} (hd : decode M.code pc = .ok (.invokestatic index, 3)) (w1 : (Jvm.Cond.methodLink M.own index y).before G.a0 G.Z = true) (w2 : (Jvm.Cond.static y).before G.a0 G.Z = true) (w3 : (Jvm.Cond.initialized y.cls).before G.a0 G.Z = true) (w4 : (Jvm.Cond.code y bytes maxL ret).before G.a0 G.Z = true) (hy : y.cls ≠ "java/lang/invoke/MethodHandle" ∧ y.cls ≠ "java/lang/invoke/VarHandle")
    (hst : st = argsL.reverse ++ rest) (hlen : ∀ sig, parseMethodDescriptor y.desc = some sig → argsL.length = sig.parameters.length) (hsz : Ls.size = M.mx) (hW : (rest.map fun v => v.category).sum ≤ W) (pay : Pay G R X y 3 W argsL.toArray h k1 n1 Q1 vm) (hc : k + k1 ≤ R.cells) (hl : n + n1 ≤ R.slots) (hq : pc + 3 = q)
    (go : ∀ (vm' : Vm) (T' : State) (h' : Heap) (v : Option Value), Wk G M R X vm' T' h' (k + k1) (n + n1) → Q1 v h' → Go G R X Q (T'.setTop (mkF X.m q Ls (v.toList ++ rest)))) : Go G R X Q (T.setTop (mkF X.m pc Ls st)) := by
  subst hst hq
  obtain ⟨fx, k0, L, S, eh, hS, hk, hZ, hown, hF, ho, hch, hnw⟩ := w
  rcases pay with pay | ⟨hwd, pay⟩
  · obtain ⟨v, vm₁, B, -, X', post, st'⟩ := Jvm.LawKit.callS S fx.1 hown (mv (s := X.s.setVm vm) hZ w1) (mv (s := X.s.setVm vm) hZ w2) (mv (s := X.s.setVm vm) hZ w3) (mv (s := X.s.setVm vm) hZ w4) hy pay (g := mkF X.m pc Ls (argsL.reverse ++ rest)) rfl (hsz.trans fx.2.2.1.symm) hlen rfl (by show 2 * 0 + _ ≤ _; omega) (hb fx.2.1 hd) (fun _ _ => ⟨rfl, eh, hc, hl⟩)
    obtain ⟨w2, q1⟩ := finN fx hS hk hZ hown hF hch hnw X' post
    exact (go _ _ _ v w2 q1).of st'
  · obtain ⟨v, vm₁, B, -, X', hS', hgr, post, st'⟩ := Jvm.RoadKit.callSS S fx.1 hown (mv (s := X.s.setVm vm) hZ w1) (mv (s := X.s.setVm vm) hZ w2) (mv (s := X.s.setVm vm) hZ w3) (mv (s := X.s.setVm vm) hZ w4) hy pay (g := mkF X.m pc Ls (argsL.reverse ++ rest)) rfl (hsz.trans fx.2.2.1.symm) hlen rfl (by show 2 * 0 + _ ≤ _; omega) (hb fx.2.1 hd) (fun _ _ => ⟨rfl, eh, hc, hl⟩)
    obtain ⟨w2, q1⟩ := finW hwd fx hS hk hZ hown hF hch X' hS' (by rw [← eh]; exact hgr) post
    exact (go _ _ _ v w2 q1).of fun t z => st'.trans z
theorem Wk.callC (w : Wk G M R X vm T h k n) {pc q : Nat} {Ls : Array Slot} {st : List Value} {y : MethodName} {bytes : ByteArray} {maxL : Nat} {index W k1 n1 : Nat} {a : Addr} {argsL rest : List Value} {Q1 : Option Value → Heap → Prop} (hd : decode M.code pc = .ok (.invokespecial index, 3)) (hy1 : y.name = "<init>") (w1 : (Jvm.Cond.methodLink M.own index y).before G.a0 G.Z = true) (w2 : (Jvm.Cond.instanceMethod y).before G.a0 G.Z = true) (w4 : (Jvm.Cond.code y bytes maxL none).before G.a0 G.Z = true) (hy : y.cls ≠ "java/lang/invoke/MethodHandle" ∧ y.cls ≠ "java/lang/invoke/VarHandle")
    (hst : st = argsL.reverse ++ .ref a :: rest) (hlen : ∀ sig, parseMethodDescriptor y.desc = some sig → argsL.length = sig.parameters.length) (hsz : Ls.size = M.mx) (hW : (rest.map fun v => v.category).sum ≤ W) (pay : Pay G R X y 3 W (.ref a :: argsL).toArray h k1 n1 Q1 vm) (hc : k + k1 ≤ R.cells) (hl : n + n1 ≤ R.slots) (hq : pc + 3 = q)
    (go : ∀ (vm' : Vm) (T' : State) (h' : Heap) (v : Option Value), Wk G M R X vm' T' h' (k + k1) (n + n1) → Q1 v h' → Go G R X Q (T'.setTop (mkF X.m q Ls (v.toList ++ rest)))) : Go G R X Q (T.setTop (mkF X.m pc Ls st)) := by
  subst hst hq
  obtain ⟨fx, k0, L, S, eh, hS, hk, hZ, hown, hF, ho, hch, hnw⟩ := w
  rcases pay with pay | ⟨hwd, pay⟩
  · obtain ⟨v, vm₁, B, -, X', post, st'⟩ := S.specialBack fx.1 hy1 hown (mv (s := X.s.setVm vm) hZ w1) (mv (s := X.s.setVm vm) hZ w2) (mv (s := X.s.setVm vm) hZ w4) hy pay (g := mkF X.m pc Ls (argsL.reverse ++ .ref a :: rest)) rfl (hsz.trans fx.2.2.1.symm) (Steps.refl _) (a := a) hlen rfl (by show 2 * 0 + _ ≤ _; omega) (hb fx.2.1 hd) (fun _ _ => ⟨rfl, eh, hc, hl⟩)
    obtain ⟨w2, q1⟩ := finN fx hS hk hZ hown hF hch hnw X' post
    exact (go _ _ _ v w2 q1).of fun t z => st'.trans z
  · obtain ⟨v, vm₁, B, -, X', hS', hgr, post, st'⟩ := S.specialBackS fx.1 hy1 hown (mv (s := X.s.setVm vm) hZ w1) (mv (s := X.s.setVm vm) hZ w2) (mv (s := X.s.setVm vm) hZ w4) hy pay (g := mkF X.m pc Ls (argsL.reverse ++ .ref a :: rest)) rfl (hsz.trans fx.2.2.1.symm) (Steps.refl _) (a := a) hlen rfl (by show 2 * 0 + _ ≤ _; omega) (hb fx.2.1 hd) (fun _ _ => ⟨rfl, eh, hc, hl⟩)
    obtain ⟨w2, q1⟩ := finW hwd fx hS hk hZ hown hF hch X' hS' (by rw [← eh]; exact hgr) post
    exact (go _ _ _ v w2 q1).of fun t z => st'.trans z
theorem Wk.callV (w : Wk G M R X vm T h k n) {pc q : Nat} {Ls : Array Slot} {st : List Value} {C : String} {y z : MethodName} {index W k1 n1 : Nat} {a : Addr} {argsL rest : List Value} {Q1 : Option Value → Heap → Prop} (hd : decode M.code pc = .ok (.invokevirtual index, 3)) (w1 : (Jvm.Cond.methodLink M.own index y).before G.a0 G.Z = true) (w2 : (Jvm.Cond.declares y).before G.a0 G.Z = true) (hnf : NotFace G.Z y) (w3 : (Jvm.Cond.selects C y z).before G.a0 G.Z = true) (w4 : (Jvm.Cond.instanceMethod z).before G.a0 G.Z = true) (hy : y.cls ≠ "java/lang/invoke/MethodHandle" ∧ y.cls ≠ "java/lang/invoke/VarHandle") (E : Exa G.Z h a C)
    (hst : st = argsL.reverse ++ .ref a :: rest) (hlen : ∀ sig, parseMethodDescriptor y.desc = some sig → argsL.length = sig.parameters.length) (hsz : Ls.size = M.mx) (hW : (rest.map fun v => v.category).sum ≤ W) (pay : Pay G R X z 3 W (.ref a :: argsL).toArray h k1 n1 Q1 vm) (hc : k + k1 ≤ R.cells) (hl : n + n1 ≤ R.slots) (hq : pc + 3 = q)
    (go : ∀ (vm' : Vm) (T' : State) (h' : Heap) (v : Option Value), Wk G M R X vm' T' h' (k + k1) (n + n1) → Q1 v h' → Go G R X Q (T'.setTop (mkF X.m q Ls (v.toList ++ rest)))) : Go G R X Q (T.setTop (mkF X.m pc Ls st)) := by
  subst hst hq
  obtain ⟨fx, k0, L, S, eh, hS, hk, hZ, hown, hF, ho, hch, hnw⟩ := w
  have hnf' : NotFace (X.s.setVm vm) y := fun r0 h0 => by
    have q0 : G.Z.methodNamed? y = some r0 := by
      have := State.methodNamed?_setVm (s := G.Z) (vm' := vm) hZ.alike (x := y)
      rw [← this]; exact h0
    obtain ⟨kr, g1, g2⟩ := hnf r0 q0
    obtain ⟨kr', g3, g4⟩ := hZ.alike.2.2 _ _ g1
    exact ⟨kr', g3, by rw [g4]; exact g2⟩
  obtain ⟨cB, kB, b1, b2, b3⟩ := isOf (s := X.s.setVm vm) hZ eh E
  rcases pay with pay | ⟨hwd, pay⟩
  · obtain ⟨v, vm₁, B, -, X', post, st'⟩ := S.virtualBack fx.1 hown (mv (s := X.s.setVm vm) hZ w1) (mv (s := X.s.setVm vm) hZ w2) hnf' (mv (s := X.s.setVm vm) hZ w3) (mv (s := X.s.setVm vm) hZ w4) hy pay b1 b3 (g := mkF X.m pc Ls (argsL.reverse ++ .ref a :: rest)) rfl (hsz.trans fx.2.2.1.symm) (Steps.refl _) hlen rfl (by show 2 * 0 + _ ≤ _; omega) (hb fx.2.1 hd) (fun _ _ => ⟨rfl, eh, hc, hl⟩)
    obtain ⟨w2, q1⟩ := finN fx hS hk hZ hown hF hch hnw X' post
    exact (go _ _ _ v w2 q1).of fun t z => st'.trans z
  · obtain ⟨v, vm₁, B, -, X', hS', hgr, post, st'⟩ := S.virtualBackS fx.1 hown (mv (s := X.s.setVm vm) hZ w1) (mv (s := X.s.setVm vm) hZ w2) hnf' (mv (s := X.s.setVm vm) hZ w3) (mv (s := X.s.setVm vm) hZ w4) hy pay b1 b3 (g := mkF X.m pc Ls (argsL.reverse ++ .ref a :: rest)) rfl (hsz.trans fx.2.2.1.symm) (Steps.refl _) hlen rfl (by show 2 * 0 + _ ≤ _; omega) (hb fx.2.1 hd) (fun _ _ => ⟨rfl, eh, hc, hl⟩)
    obtain ⟨w2, q1⟩ := finW hwd fx hS hk hZ hown hF hch X' hS' (by rw [← eh]; exact hgr) post
    exact (go _ _ _ v w2 q1).of fun t z => st'.trans z
theorem Wk.callI (w : Wk G M R X vm T h k n) {pc q : Nat} {Ls : Array Slot} {st : List Value} {C : String} {xi y : MethodName} {index count W k1 n1 : Nat} {a : Addr} {argsL rest : List Value} {Q1 : Option Value → Heap → Prop} (hd : decode M.code pc = .ok (.invokeinterface index count, 5)) (w1 : (Jvm.Cond.methodLink M.own index xi).before G.a0 G.Z = true) (w2 : (Jvm.Cond.declares xi).before G.a0 G.Z = true) (w3 : (Jvm.Cond.interfaceMethod xi.cls xi.cls xi.name xi.desc).before G.a0 G.Z = true) (w4 : (Jvm.Cond.selects C xi y).before G.a0 G.Z = true) (w5 : (Jvm.Cond.instanceMethod y).before G.a0 G.Z = true) (w6 : (Jvm.Cond.publicMethod y).before G.a0 G.Z = true) (w7 : (Jvm.Cond.unhidden C xi.name xi.desc).before G.a0 G.Z = true) (w8 : (Jvm.Cond.castable C xi.cls).before G.a0 G.Z = true) (hy : xi.cls ≠ "java/lang/invoke/MethodHandle" ∧ xi.cls ≠ "java/lang/invoke/VarHandle") (E : Exa G.Z h a C)
    (hst : st = argsL.reverse ++ .ref a :: rest) (hlen : ∀ sig, parseMethodDescriptor xi.desc = some sig → argsL.length = sig.parameters.length) (hsz : Ls.size = M.mx) (hW : (rest.map fun v => v.category).sum ≤ W) (pay : Pay G R X y 5 W (.ref a :: argsL).toArray h k1 n1 Q1 vm) (hc : k + k1 ≤ R.cells) (hl : n + n1 ≤ R.slots) (hq : pc + 5 = q)
    (go : ∀ (vm' : Vm) (T' : State) (h' : Heap) (v : Option Value), Wk G M R X vm' T' h' (k + k1) (n + n1) → Q1 v h' → Go G R X Q (T'.setTop (mkF X.m q Ls (v.toList ++ rest)))) : Go G R X Q (T.setTop (mkF X.m pc Ls st)) := by
  subst hst hq
  obtain ⟨fx, k0, L, S, eh, hS, hk, hZ, hown, hF, ho, hch, hnw⟩ := w
  obtain ⟨cB, kB, b1, b2, b3⟩ := isOf (s := X.s.setVm vm) hZ eh E
  rcases pay with pay | ⟨hwd, pay⟩
  · obtain ⟨v, vm₁, B, -, X', post, st'⟩ := S.interfaceBack fx.1 hown (mv (s := X.s.setVm vm) hZ w1) (mv (s := X.s.setVm vm) hZ w2) (mv (s := X.s.setVm vm) hZ w3 (by simp [Cond.onTables, Cond.keepsFace, Cond.keeps, Cond.steady, Cond.faceAtom]; exact hy)) (mv (s := X.s.setVm vm) hZ w4) (mv (s := X.s.setVm vm) hZ w5) (mv (s := X.s.setVm vm) hZ w6) (mv (s := X.s.setVm vm) hZ w7) (mv (s := X.s.setVm vm) hZ w8) hy pay b1 b2 b3 (g := mkF X.m pc Ls (argsL.reverse ++ .ref a :: rest)) rfl (hsz.trans fx.2.2.1.symm) (Steps.refl _) hlen rfl (by show 2 * 0 + _ ≤ _; omega) (hb fx.2.1 hd) (fun _ _ => ⟨rfl, eh, hc, hl⟩)
    obtain ⟨w2, q1⟩ := finN fx hS hk hZ hown hF hch hnw X' post
    exact (go _ _ _ v w2 q1).of fun t z => st'.trans z
  · obtain ⟨v, vm₁, B, -, X', hS', hgr, post, st'⟩ := S.interfaceBackS fx.1 hown (mv (s := X.s.setVm vm) hZ w1) (mv (s := X.s.setVm vm) hZ w2) (mv (s := X.s.setVm vm) hZ w3 (by simp [Cond.onTables, Cond.keepsFace, Cond.keeps, Cond.steady, Cond.faceAtom]; exact hy)) (mv (s := X.s.setVm vm) hZ w4) (mv (s := X.s.setVm vm) hZ w5) (mv (s := X.s.setVm vm) hZ w6) (mv (s := X.s.setVm vm) hZ w7) (mv (s := X.s.setVm vm) hZ w8) hy pay b1 b2 b3 (g := mkF X.m pc Ls (argsL.reverse ++ .ref a :: rest)) rfl (hsz.trans fx.2.2.1.symm) (Steps.refl _) hlen rfl (by show 2 * 0 + _ ≤ _; omega) (hb fx.2.1 hd) (fun _ _ => ⟨rfl, eh, hc, hl⟩)
    obtain ⟨w2, q1⟩ := finW hwd fx hS hk hZ hown hF hch X' hS' (by rw [← eh]; exact hgr) post
    exact (go _ _ _ v w2 q1).of fun t z => st'.trans z
theorem Con.pay {y : MethodName} {bytes : ByteArray} {maxL : Nat} {ret : Option FieldType} {rm : Room} {as : Array Value} {Q1 : Option Value → Heap → Prop} {len W : Nat} (H : Con G y bytes maxL ret [] rm as h Q1) (w : Wk G M R X vm T h k n) (wc : (Jvm.Cond.code y bytes maxL ret).before G.a0 G.Z = true) (wz : (Jvm.Cond.initialized y.cls).before G.a0 G.Z = true) (hf : rm.frames + 1 ≤ R.frames) (hl : W + (maxL + 11) + rm.locals ≤ R.locals) : Pay G R X y len W as h rm.cells rm.slots Q1 vm := by
  have hZ := w.wz
  have hEL := w.hEL
  have hch := w.ch
  cases hwd : G.wd with
  | false =>
    exact Or.inl (Back.of_free (bytes := bytes) (maxL := maxL) (ret := ret) (E := fun _ first o t L k n => k = rm.cells ∧ n = rm.slots ∧ first.heap.size ≤ t.heap.size ∧ ∃ v, o = .returned v ∧ (Q1 v t.heap ∧ Fr G.n0 L ∧ Old G.Z G.n0 t.heap)) H hf hl
      (fun m meth c A a Y hp => have hU : G.Z.Warmed39 A.U.vm := wtrans (s := X.s.setVm vm) hZ Y.warmed
        ⟨by show (Jvm.Cond.and _ .tt).before a A.U = true; rw [Cond.before_and, mv hU wc]; rfl, mv hU wc, mv hU wz, hp.2.2.1, hp.2.2.2⟩)
      (fun m meth c A a g mk Y hp => ⟨hp.1, wtrans (s := X.s.setVm vm) hZ Y.warmed, hp.2.1, fun b => absurd (hwd.symm.trans b) (by decide)⟩) (fun _ _ _ _ _ _ _ _ _ => trivial)
      (fun _ _ _ _ ⟨v, L, h1, h2, h3, h4⟩ => ⟨L, _, _, h4.2 hwd, rfl, rfl, (h4.1.2.2.2).2.1, v, h1, h2⟩)
      (fun m meth c A a g mk v t L k n Y hp _ _ ⟨e1, e2, e0, v', e3, e4⟩ => by
        cases e3; subst e1 e2
        refine ⟨L, ⟨e4.1, e4.2.1, e4.2.2, ?_, fun b => absurd (hwd.symm.trans b) (by decide)⟩, rfl, rfl, rfl⟩
        rw [← hp.2.1]; exact e0))
  | true =>
    refine Or.inr ⟨hwd, BackS.of_freeW (bytes := bytes) (maxL := maxL) (ret := ret) (E := fun _ first o t L k n => k = rm.cells ∧ n = rm.slots ∧ CHr G.Z G.EL first.vm first.heap t.vm t.heap ∧ ∃ v, o = .returned v ∧ (Q1 v t.heap ∧ Fr G.n0 L ∧ Old G.Z G.n0 t.heap)) H hf hl
      (fun m meth c A a Y hp => have hU : G.Z.Warmed39 A.U.vm := wtrans (s := X.s.setVm vm) hZ Y.warmed
        ⟨by show (Jvm.Cond.and _ .tt).before a A.U = true; rw [Cond.before_and, mv hU wc]; rfl, mv hU wc, mv hU wz, hp.2.2.1, hp.2.2.2⟩)
      (fun m meth c A a g mk Y hp => ⟨hp.1, wtrans (s := X.s.setVm vm) hZ Y.warmed, hp.2.1, fun b => (CHv.at Y hZ hEL (hch b).1).1⟩) (fun _ _ _ _ _ _ _ _ _ => trivial)
      (fun _ _ _ _ ⟨v, L, h1, h2, h3, h4⟩ => ⟨L, _, _, h4.1, rfl, rfl, h3 hwd, v, h1, h2⟩)
      (fun m meth c A a g mk v t L k n Y hp _ _ ⟨e1, e2, e0, v', e3, e4⟩ => by
        cases e3; subst e1 e2
        refine ⟨L, ⟨e4.1, e4.2.1, e4.2.2, fun b => (CHv.at Y hZ hEL (hch b).1).trans ?_⟩, rfl, rfl, rfl⟩
        rw [← hp.2.1]; exact e0)⟩
theorem Pay.pure {y : MethodName} {as : Array Value} {len W : Nat} {P : Option Value → Prop} (w : Wk G M R X vm T h k n) (H : Back G.l R X.p X.e X.below (X.s.setVm vm) X.args y len W (fun P a => a = as ∧ P.U.heap = h ∧ P.cells + 0 ≤ R.cells ∧ P.slots + 0 ≤ R.slots) (fun A _ v B => ∃ L, (P v ∧ L = [] ∧ B.U.heap = h) ∧ B.locs = A.locs ++ L ∧ B.cells = A.cells + 0 ∧ B.slots = A.slots + 0)) : Pay G R X y len W as h 0 0 (fun v h' => P v ∧ h = h') vm := by
  refine Or.inl (Back.mono H (fun P a hp => hp) (fun A a v B hp hq => ?_))
  obtain ⟨L, ⟨q1, rfl, q3⟩, r⟩ := hq
  exact ⟨[], ⟨⟨q1, q3.symm⟩, Fr.nil _, by rw [q3]; exact w.old, by rw [q3]; exact Nat.le_refl _, fun b => by rw [q3]; exact CHr.refl (w.ch b).1⟩, r⟩
theorem Pay.pureV {y : MethodName} {as : Array Value} {len W : Nat} {P : Value → Prop} (w : Wk G M R X vm T h k n) (H : Pay G R X y len W as h 0 0 (fun v h' => (∃ x, v = some x ∧ P x) ∧ h = h') vm) : Pay G R X y len W as h 0 0 (vQ fun x h' => P x ∧ h = h') vm := by
  have e : (vQ fun x h' => P x ∧ h = h') = (fun (v : Option Value) (h' : Heap) => (∃ x, v = some x ∧ P x) ∧ h = h') := by
    funext v h'
    apply propext
    exact ⟨fun ⟨x, a, b, c⟩ => ⟨⟨x, a, b⟩, c⟩, fun ⟨⟨x, a, b⟩, c⟩ => ⟨x, a, b, c⟩⟩
  rw [e]; exact H
theorem Con.intro {y : MethodName} {bytes : ByteArray} {maxL : Nat} {ret : Option FieldType} {ws : List Jvm.Cond} {rm : Room} {as : Array Value} {Ls : Array Slot} (hE : EW G.Z G.a0 G.EL) (ho : Old G.Z G.n0 h) (hpl : plainFor y = true) (hef : ∀ m, entryFrame m as maxL = mkF m 0 Ls [])
    (body : ∀ (X : Cx) (vm : Vm) (T : State), Wk G (y.cls, y.name, bytes, maxL, ret) rm X vm T h 0 0 → Go G rm X Q (T.setTop (mkF X.m 0 Ls []))) : Con G y bytes maxL ret ws rm as h Q := by
  refine MetFree.of_bodySF hpl hisR ?_
  intro p e s m args below meth c s₁ Bd hml0 hP hK
  obtain ⟨rfl, hZ, hh, hc⟩ := hP
  have X0 : Stand p G.l e rm s m args below meth c s₁ [] 0 0 := Stand.of_body Bd
  have e0 : s₁.heap = h := by rw [← hh, Bd.state]; rfl
  have w : Wk G (y.cls, y.name, bytes, maxL, ret) rm (p, e, s, m, args, below, meth, c) s.vm s₁ h 0 0 :=
    ⟨⟨Bd.exec, Bd.bytes, hml0, Bd.returns, Bd.notSynchronized, (name_of_methodNamed Bd.named Bd.method).1, hE⟩, 0, [], X0, e0, (State.WarmedH.refl s).since 0, Nat.zero_le _, hZ, findClass_of_methodNamed Bd.named, Fr.nil _, ho, fun b => by show CHr G.Z G.EL s.vm s.heap s.vm h; rw [hh]; exact CHr.refl (hc b), fun _ => rfl⟩
  obtain ⟨t, o, h1, h2, h3, h4⟩ := body _ _ _ w
  exact ⟨t, o, castTop (hef m) h1, h2, h3, h4⟩
theorem Wk.leave' (w : Wk G M R X vm T h k n) {v : Option Value} (hv : M.ret = none → v = none) (hk' : k ≤ R.cells) (hn' : n ≤ R.slots) (hQ : Q v h) {S0 : State} (f : ∀ fs, (∀ (f : JFrame) (acts : List Action), f.method = X.m → f.locked = none → f.entered = [] → (doReturn X.e (T.setTop f) acts v).1 = T.setFrames fs) → ∀ L, Stand X.p G.l X.e R (X.s.setVm vm) X.m X.args X.below X.meth X.c T L k n → Steps X.p.tables X.e X.below S0 (T.setFrames fs)) : Go G R X Q S0 := by
  have hEL := w.hEL
  obtain ⟨fx, k0, L, S, eh, hS, hk, hZ, hown, hF, ho, hch, hnw⟩ := w
  obtain ⟨fs, hr, hrun, hended, hW, hsame⟩ := S.leave (v := v) (fun z => hv (fx.2.2.2.1.symm.trans z)) fx.2.2.2.2.1
  obtain ⟨a, b, c⟩ := hS.ended (U := T.setFrames fs) hW (by show k0 ≤ T.heap.size; rw [eh]; exact hk) hsame
  refine ⟨T.setFrames fs, .returned v, f fs hr L S, hrun, hended, v, L, rfl, ⟨by show Q v T.heap; rw [eh]; exact hQ, hF, by show Old G.Z G.n0 T.heap; rw [eh]; exact ho⟩, fun z => ?_, ⟨⟨v, rfl⟩, a, b, c.mono hk' hn'⟩, fun z => ?_⟩
  · show CHr G.Z G.EL X.s.vm X.s.heap T.vm T.heap
    rw [eh]; exact (hch z).trans (CHv.at S hZ hEL (hch z).1)
  · have e := hnw z
    subst e
    exact ⟨⟨v, rfl⟩, hW, c.mono hk' hn'⟩
theorem Wk.retV (w : Wk G M R X vm T h k n) {pc : Nat} {Ls : Array Slot} (hd : decode M.code pc = .ok (.return_, 1)) (hret : M.ret = none) (hk' : k ≤ R.cells) (hn' : n ≤ R.slots) (hQ : Q none h) : Go G R X Q (T.setTop (mkF X.m pc Ls [])) := by
  have fx := w.1
  exact w.leave' (v := none) (fun _ => rfl) hk' hn' hQ fun fs hr L S => S.returnOut fx.1 (fx.2.2.2.1.trans hret) (hb fx.2.1 hd) hr
theorem Wk.ret (w : Wk G M R X vm T h k n) {pc : Nat} {Ls : Array Slot} {st : List Value} {v : Value} {t : FieldType} {i : Instr} (hd : decode M.code pc = .ok (i, 1)) (hret : M.ret = some t) (hn : narrow t v = v)
    (hi : (i = .ireturn ∧ (t = .int ∨ t = .boolean ∨ t = .byte ∨ t = .char ∨ t = .short) ∧ ∃ z, v = .int z) ∨ (i = .lreturn ∧ t = .long ∧ ∃ z, v = .long z) ∨ (i = .dreturn ∧ t = .double ∧ ∃ z, v = .double z) ∨ (i = .freturn ∧ t = .float ∧ ∃ z, v = .float z) ∨ (i = .areturn ∧ t.isReference = true ∧ v.isRef = true))
    (hk' : k ≤ R.cells) (hn' : n ≤ R.slots) (hQ : Q (some v) h) : Go G R X Q (T.setTop (mkF X.m pc Ls (v :: st))) := by
  have fx := w.1
  exact w.leave' (v := some v) (fun z => by rw [hret] at z; cases z) hk' hn' hQ fun fs hr L S => retOut S fx.1 (fx.2.2.2.1.trans hret) hn hi (hb fx.2.1 hd) hr
theorem Wk.retI (w : Wk G M R X vm T h k n) {pc : Nat} {Ls : Array Slot} {st : List Value} {z : Int32} (hd : decode M.code pc = .ok (.ireturn, 1)) (hret : M.ret = some .int) (hk' : k ≤ R.cells) (hn' : n ≤ R.slots) (hQ : Q (some (.int z)) h) : Go G R X Q (T.setTop (mkF X.m pc Ls (.int z :: st))) :=
  w.ret hd hret rfl (Or.inl ⟨rfl, Or.inl rfl, z, rfl⟩) hk' hn' hQ
theorem Wk.retZ (w : Wk G M R X vm T h k n) {pc : Nat} {Ls : Array Slot} {st : List Value} {z : Int32} {t : FieldType} (hd : decode M.code pc = .ok (.ireturn, 1)) (hret : M.ret = some t) (ht : t = .boolean ∨ t = .byte ∨ t = .char ∨ t = .short) (hn : narrow t (.int z) = .int z) (hk' : k ≤ R.cells) (hn' : n ≤ R.slots) (hQ : Q (some (.int z)) h) : Go G R X Q (T.setTop (mkF X.m pc Ls (.int z :: st))) :=
  w.ret hd hret hn (Or.inl ⟨rfl, Or.inr ht, z, rfl⟩) hk' hn' hQ
theorem Wk.retA (w : Wk G M R X vm T h k n) {pc : Nat} {Ls : Array Slot} {st : List Value} {v : Value} {t : FieldType} (hd : decode M.code pc = .ok (.areturn, 1)) (hret : M.ret = some t) (ht : t.isReference = true) (hv : v.isRef = true) (hk' : k ≤ R.cells) (hn' : n ≤ R.slots) (hQ : Q (some v) h) : Go G R X Q (T.setTop (mkF X.m pc Ls (v :: st))) :=
  w.ret hd hret (by cases t <;> first | (cases ht; done) | (rcases ref_cases hv with rfl | ⟨_, rfl⟩ <;> rfl)) (Or.inr (Or.inr (Or.inr (Or.inr ⟨rfl, ht, hv⟩)))) hk' hn' hQ
theorem Wk.retJ (w : Wk G M R X vm T h k n) {pc : Nat} {Ls : Array Slot} {st : List Value} {z : Int64} (hd : decode M.code pc = .ok (.lreturn, 1)) (hret : M.ret = some .long) (hk' : k ≤ R.cells) (hn' : n ≤ R.slots) (hQ : Q (some (.long z)) h) : Go G R X Q (T.setTop (mkF X.m pc Ls (.long z :: st))) :=
  w.ret hd hret rfl (Or.inr (Or.inl ⟨rfl, rfl, z, rfl⟩)) hk' hn' hQ
theorem Wk.ldcS (w : Wk G M R X vm T h k n) {pc q : Nat} {Ls : Array Slot} {st : List Value} {index sz : Nat} {text : String} {vs : List Value} {z : Int32} (hd : decode M.code pc = .ok (.ldc index, 2)) (hwd : G.wd = true) (w1 : (Jvm.Cond.stringLink M.own index text).before G.a0 G.Z = true) (wS : ∀ a ∈ Bundle.stringAtoms, a.before G.a0 G.Z = true) (hmem : (M.own, index) ∈ G.EL) (ht : (∀ c ∈ text.toList, c.toNat < 256) ∧ text.toList.map (fun c => Value.int (Jvm.Lit.byteI c.toNat.toUInt16)) = vs) (hz : ¬ z < 0) (hlz : z.toNatClampNeg = vs.length) (hn : 4 * text.toList.length ≤ sz) (hbig : sz ≤ 536870912) (hc : k + 2 ≤ R.cells) (hl : n + (sz + 4) ≤ R.slots) (hq : pc + 2 = q)
    (go : ∀ (vm' : Vm) (T' : State) (h' : Heap) (a b : Addr) (kb : ClassId), Wk G M R X vm' T' h' (k + 2) (n + (sz + 4)) → Ext h h' → CHr G.Z G.EL vm h vm' h' → Exa G.Z h' a "java/lang/String" → Fld G.Z h' a "java/lang/String" "coder" "B" (.int 0) → Fld G.Z h' a "java/lang/String" "value" "[B" (.ref b) → Arv G.Z h' b kb .byte z vs (.int 0) → Go G R X Q (T'.setTop (mkF X.m q Ls (.ref a :: st)))) : Go G R X Q (T.setTop (mkF X.m pc Ls st)) := by
  subst hq
  have hEL := w.hEL
  obtain ⟨fx, k0, L, S, eh, hS, hk, hZ, hown, hF, ho, hch, hnw⟩ := w
  obtain ⟨a, T', h', k1, b, kb, X', e', E, hS', hk', hZ', hown', A1, A2, A3, A4, -, -, hC, -, -, st'⟩ := ldcCH S fx.1 hZ hown w1 wS eh hS hk hEL hmem (hch hwd).1 ht hz hlz (g := mkF X.m pc Ls st) rfl (hb fx.2.1 hd) hn hbig hc hl
  exact (go T'.vm T' h' a b kb ⟨fx, k1, L, X', e', hS', hk', hZ', hown', hF, ho.ext E, fun z => (hch z).trans hC, fun z => absurd (z.symm.trans hwd) (by decide)⟩ E hC A1 A2 A3 A4).of st'
theorem Wk.ldcO (w : Wk G M R X vm T h k n) {pc q : Nat} {Ls : Array Slot} {st : List Value} {index sz : Nat} {text : String} (hd : decode M.code pc = .ok (.ldc index, 2)) (hwd : G.wd = true) (w1 : (Jvm.Cond.stringLink M.own index text).before G.a0 G.Z = true) (wS : ∀ a ∈ Bundle.stringAtoms, a.before G.a0 G.Z = true) (hn : 4 * text.toList.length ≤ sz) (hbig : sz ≤ 536870912) (hc : k + 2 ≤ R.cells) (hl : n + (sz + 4) ≤ R.slots) (hq : pc + 2 = q)
    (go : ∀ (vm' : Vm) (T' : State) (h' : Heap) (a : Addr), Wk G M R X vm' T' h' (k + 2) (n + (sz + 4)) → Ext h h' → CHr G.Z G.EL vm h vm' h' → Go G R X Q (T'.setTop (mkF X.m q Ls (.ref a :: st)))) : Go G R X Q (T.setTop (mkF X.m pc Ls st)) := by
  subst hq
  have hEL := w.hEL
  obtain ⟨fx, k0, L, S, eh, hS, hk, hZ, hown, hF, ho, hch, hnw⟩ := w
  obtain ⟨a, T', h', k1, X', e', E, hS', hk', hZ', hown', hC, -, st'⟩ := ldcOH S fx.1 hZ hown w1 wS eh hS hk hEL (hch hwd).1 (g := mkF X.m pc Ls st) rfl (hb fx.2.1 hd) hn hbig hc hl
  exact (go T'.vm T' h' a ⟨fx, k1, L, X', e', hS', hk', hZ', hown', hF, ho.ext E, fun z => (hch z).trans hC, fun z => absurd (z.symm.trans hwd) (by decide)⟩ E hC).of st'
end Lay
end Own
end Jvm.Pilot.@@N@@
namespace Jvm.Pilot.@@N@@
namespace Own
open Jvm Jvm.ClassFile Sem Op Lib Jvm.Free Jvm.Stand Jvm.LawKit Jvm.RoadKit
section Lay
variable {G : Gx} {M : Md} {R : Room} {X : Cx} {vm : Vm} {T : State} {h : Heap} {k n : Nat} {Q : Option Value → Heap → Prop}
theorem mvMN {Z s : State} {a0 args : Array Value} {own host : String} {y : MethodName} {index : Nat} (hZ : Z.Warmed39 s.vm) (w : (Jvm.Cond.methodLinkNest own index y host).before a0 Z = true) : (Jvm.Cond.methodLinkNest own index y host).before args s = true := (Cond.methodLinkNest_wide hZ w :)
theorem Wk.newRX (w : Wk G M R X vm T h k n) {pc q : Nat} {Ls : Array Slot} {st : List Value} {C : String} {index : Nat} {N : Int32} {ad : String} (cap : Nat) (hd : decode M.code pc = .ok (.anewarray index, 3)) (w1 : (Jvm.Cond.classLink M.own index C).before G.a0 G.Z = true) (w2 : (Jvm.Cond.arrayOver (.object C)).before G.a0 G.Z = true) (had : "[" ++ (FieldType.object C).toString = ad) (hN : ¬ N < 0) (hcap : N.toNatClampNeg ≤ cap) (hb8 : cap * 8 ≤ 536870912) (hc : k + 1 ≤ R.cells) (hl : n + cap ≤ R.slots) (hq : pc + 3 = q)
    (go : ∀ (T' : State) (h' : Heap) (b : Nat) (kc : ClassId), b = h.size → Wk G M R X vm T' h' (k + 1) (n + cap) → Ext h h' → Arv G.Z h' b kc (.object C) N [] .null → Ovr G.Z kc C → Exa G.Z h' b ad → Go G R X Q (T'.setTop (mkF X.m q Ls (.ref b :: st)))) : Go G R X Q (T.setTop (mkF X.m pc Ls (.int N :: st))) := by
  subst hq
  obtain ⟨fx, k0, L, S, eh, hS, hk, hZ, hown, hF, ho, hch, hnw⟩ := w
  obtain ⟨T', h', kc, X', e', E, A, Ea, O, st'⟩ := Jvm.RoadKit.newRE S fx.1 hZ hown w1 w2 eh (g := mkF X.m pc Ls (.int N :: st)) rfl (hb fx.2.1 hd) rfl hN (cap := cap) hcap hb8 hc hl had
  exact (go T' h' h.size kc rfl ⟨fx, k0, L, X', e', hS, Nat.le_trans hk E.1, hZ, hown, hF, ho.ext E, fun b => (hch b).trans (CHr.ext E (hch b).1), hnw⟩ E (Arv.new A hN) O Ea).of st'
theorem Wk.getSN (w : Wk G M R X vm T h k n) {pc q : Nat} {Ls : Array Slot} {st : List Value} {R0 O f d host : String} {index : Nat} {v : Value} (hd : decode M.code pc = .ok (.getstatic index, 3)) (w1 : (Jvm.Cond.fieldLinkNest M.own index R0 f d host).before G.a0 G.Z = true) (via : Via G.Z R0 O f d) (F : Sta G.Z G.Z.heap O f d v) (hq : pc + 3 = q)
    (go : ∀ T' : State, Wk G M R X vm T' h k n → Go G R X Q (T'.setTop (mkF X.m q Ls (v :: st)))) : Go G R X Q (T.setTop (mkF X.m pc Ls st)) := by
  subst hq
  have F' := w.sta F
  obtain ⟨fx, k0, L, S, eh, hS, hk, hZ, hown, r⟩ := w
  obtain ⟨T', X', e', st'⟩ := Jvm.RoadKit.getS2 (host := host) S fx.1 hZ hown (Or.inr w1) via eh F' (g := mkF X.m pc Ls st) rfl (hb fx.2.1 hd)
  exact (go T' ⟨fx, k0, L, X', e', hS, hk, hZ, hown, r⟩).of st'
theorem Wk.getFN (w : Wk G M R X vm T h k n) {pc q : Nat} {Ls : Array Slot} {st : List Value} {R0 O f d host : String} {index : Nat} {a : Addr} {v : Value} (hd : decode M.code pc = .ok (.getfield index, 3)) (w1 : (Jvm.Cond.fieldLinkNest M.own index R0 f d host).before G.a0 G.Z = true) (via : Via G.Z R0 O f d) (F : Fld G.Z h a O f d v) (hq : pc + 3 = q)
    (go : ∀ T' : State, Wk G M R X vm T' h k n → Go G R X Q (T'.setTop (mkF X.m q Ls (v :: st)))) : Go G R X Q (T.setTop (mkF X.m pc Ls (.ref a :: st))) := by
  subst hq
  obtain ⟨fx, k0, L, S, eh, hS, hk, hZ, hown, r⟩ := w
  obtain ⟨T', X', e', st'⟩ := Jvm.RoadKit.getF (host := host) S fx.1 hZ hown (Or.inr w1) via eh F (g := mkF X.m pc Ls (.ref a :: st)) rfl rfl (hb fx.2.1 hd)
  exact (go T' ⟨fx, k0, L, X', e', hS, hk, hZ, hown, r⟩).of st'
theorem Wk.callCN (w : Wk G M R X vm T h k n) {pc q : Nat} {Ls : Array Slot} {st : List Value} {y : MethodName} {host : String} {bytes : ByteArray} {maxL : Nat} {index W k1 n1 : Nat} {a : Addr} {argsL rest : List Value} {Q1 : Option Value → Heap → Prop} (hd : decode M.code pc = .ok (.invokespecial index, 3)) (hy1 : y.name = "<init>") (w1 : (Jvm.Cond.methodLinkNest M.own index y host).before G.a0 G.Z = true) (w2 : (Jvm.Cond.instanceMethod y).before G.a0 G.Z = true) (w4 : (Jvm.Cond.code y bytes maxL none).before G.a0 G.Z = true) (hy : y.cls ≠ "java/lang/invoke/MethodHandle" ∧ y.cls ≠ "java/lang/invoke/VarHandle")
    (hst : st = argsL.reverse ++ .ref a :: rest) (hlen : ∀ sig, parseMethodDescriptor y.desc = some sig → argsL.length = sig.parameters.length) (hsz : Ls.size = M.mx) (hW : (rest.map fun v => v.category).sum ≤ W) (pay : Pay G R X y 3 W (.ref a :: argsL).toArray h k1 n1 Q1 vm) (hc : k + k1 ≤ R.cells) (hl : n + n1 ≤ R.slots) (hq : pc + 3 = q)
    (go : ∀ (vm' : Vm) (T' : State) (h' : Heap) (v : Option Value), Wk G M R X vm' T' h' (k + k1) (n + n1) → Q1 v h' → Go G R X Q (T'.setTop (mkF X.m q Ls (v.toList ++ rest)))) : Go G R X Q (T.setTop (mkF X.m pc Ls st)) := by
  subst hst hq
  obtain ⟨fx, k0, L, S, eh, hS, hk, hZ, hown, hF, ho, hch, hnw⟩ := w
  rcases pay with pay | ⟨hwd, pay⟩
  · obtain ⟨v, vm₁, B, -, X', post, st'⟩ := S.specialBackNest fx.1 hy1 hown (mvMN (s := X.s.setVm vm) hZ w1) (mv (s := X.s.setVm vm) hZ w2) (mv (s := X.s.setVm vm) hZ w4) hy pay (g := mkF X.m pc Ls (argsL.reverse ++ .ref a :: rest)) rfl (hsz.trans fx.2.2.1.symm) (Steps.refl _) (a := a) hlen rfl (by show 2 * 0 + _ ≤ _; omega) (hb fx.2.1 hd) (fun _ _ => ⟨rfl, eh, hc, hl⟩)
    obtain ⟨w2, q1⟩ := finN fx hS hk hZ hown hF hch hnw X' post
    exact (go _ _ _ v w2 q1).of fun t z => st'.trans z
  · obtain ⟨v, vm₁, B, -, X', hS', hgr, post, st'⟩ := S.specialBackNestS fx.1 hy1 hown (mvMN (s := X.s.setVm vm) hZ w1) (mv (s := X.s.setVm vm) hZ w2) (mv (s := X.s.setVm vm) hZ w4) hy pay (g := mkF X.m pc Ls (argsL.reverse ++ .ref a :: rest)) rfl (hsz.trans fx.2.2.1.symm) (Steps.refl _) (a := a) hlen rfl (by show 2 * 0 + _ ≤ _; omega) (hb fx.2.1 hd) (fun _ _ => ⟨rfl, eh, hc, hl⟩)
    obtain ⟨w2, q1⟩ := finW hwd fx hS hk hZ hown hF hch X' hS' (by rw [← eh]; exact hgr) post
    exact (go _ _ _ v w2 q1).of fun t z => st'.trans z
theorem Wk.tswI (w : Wk G M R X vm T h k n) {pc q : Nat} {Ls : Array Slot} {st : List Value} {dflt low high : Int} {offs : Array Int} {len : Nat} {o : Int} {i : Int32} (hd : decode M.code pc = .ok (.tableswitch dflt low high offs, len)) (hin : ¬ (i.toInt < low ∨ i.toInt > high)) (hoff : offs[(i.toInt - low).toNat]? = some o) (ho : 0 ≤ (pc : Int) + o) (hq : ((pc : Int) + o).toNat = q) (go : Go G R X Q (T.setTop (mkF X.m q Ls st))) : Go G R X Q (T.setTop (mkF X.m pc Ls (.int i :: st))) :=
  go.of fun t r => XS.tswIn w.here w.hx rfl (pc0 := pc) rfl (hb w.by_ hd) rfl hin hoff ho hq r
theorem Wk.tswO (w : Wk G M R X vm T h k n) {pc q : Nat} {Ls : Array Slot} {st : List Value} {dflt low high : Int} {offs : Array Int} {len : Nat} {i : Int32} (hd : decode M.code pc = .ok (.tableswitch dflt low high offs, len)) (hout : i.toInt < low ∨ i.toInt > high) (ho : 0 ≤ (pc : Int) + dflt) (hq : ((pc : Int) + dflt).toNat = q) (go : Go G R X Q (T.setTop (mkF X.m q Ls st))) : Go G R X Q (T.setTop (mkF X.m pc Ls (.int i :: st))) :=
  go.of fun t r => XS.tswOut w.here w.hx rfl (pc0 := pc) rfl (hb w.by_ hd) rfl hout ho hq r
end Lay
end Own
end Jvm.Pilot.@@N@@

namespace Jvm.Pilot.@@N@@
namespace Own
open Jvm Jvm.ClassFile Sem Op Lib Jvm.Free Jvm.Stand Jvm.LawKit Jvm.RoadKit

section Lam
open Jvm.Lambda
variable {G : Gx} {M : Md} {R : Room} {X : Cx} {vm : Vm} {T : State} {h : Heap} {k n : Nat} {Q : Option Value → Heap → Prop}
theorem Con.introN {y : MethodName} {bytes : ByteArray} {maxL : Nat} {ret : Option FieldType} {ws : List Jvm.Cond} {rm : Room} {as : Array Value} {Ls : Array Slot} (hE : EW G.Z G.a0 G.EL) (ho : Old G.Z G.n0 h) (hpl : plainFor y = true) (hef : ∀ m, entryFrame m as maxL = mkF m 0 Ls [])
    (body : ∀ (X : Cx) (vm : Vm) (T : State), G.Z.methodNamed? y = some X.m → Wk G (y.cls, y.name, bytes, maxL, ret) rm X vm T h 0 0 → Go G rm X Q (T.setTop (mkF X.m 0 Ls []))) : Con G y bytes maxL ret ws rm as h Q := by
  refine MetFree.of_bodySF hpl hisR ?_
  intro p e s m args below meth c s₁ Bd hml0 hP hK
  obtain ⟨rfl, hZ, hh, hc⟩ := hP
  have X0 : Stand p G.l e rm s m args below meth c s₁ [] 0 0 := Stand.of_body Bd
  have e0 : s₁.heap = h := by rw [← hh, Bd.state]; rfl
  have w : Wk G (y.cls, y.name, bytes, maxL, ret) rm (p, e, s, m, args, below, meth, c) s.vm s₁ h 0 0 :=
    ⟨⟨Bd.exec, Bd.bytes, hml0, Bd.returns, Bd.notSynchronized, (name_of_methodNamed Bd.named Bd.method).1, hE⟩, 0, [], X0, e0, (State.WarmedH.refl s).since 0, Nat.zero_le _, hZ, findClass_of_methodNamed Bd.named, Fr.nil _, ho, fun b => by show CHr G.Z G.EL s.vm s.heap s.vm h; rw [hh]; exact CHr.refl (hc b), fun _ => rfl⟩
  have hN : G.Z.methodNamed? y = some m := by
    have q := State.methodNamed?_setVm (s := G.Z) hZ.alike y
    rw [← q]; exact Bd.named
  obtain ⟨t, o, h1, h2, h3, h4⟩ := body _ _ _ hN w
  exact ⟨t, o, castTop (hef m) h1, h2, h3, h4⟩
theorem push_ext (h : Heap) (c : Cell) : Ext h (h.push c) := ⟨by simp, fun a x q => by rw [Array.getElem?_push_lt (Array.getElem?_eq_some_iff.mp q).1]; exact (Array.getElem?_eq_getElem _).symm.trans q⟩
theorem Wk.lam (w : Wk G M R X vm T h k n) {y : MethodName} {pc q index fi : Nat} {σ : Lambda.Shape} {Ls : Array Slot} {st vals : List Value} (hN : G.Z.methodNamed? y = some X.m) (hd : decode M.code pc = .ok (.invokedynamic index, 5))
    (ws : (Jvm.Cond.lambdaSite y pc index σ).before G.a0 G.Z = true) (wO : (Jvm.Cond.instantiable "java/lang/Object" 0).before G.a0 G.Z = true) (hcap : σ.captured ≠ []) (hok : Jvm.LamKit.capOK σ y.cls fi 0 = true)
    (hlen : vals.length = σ.captured.length) (hfit : ∀ (i : Nat) t v, σ.captured[i]? = some t → vals[i]? = some v → narrow t v = v ∧ fits t v = true) (hls : Ls.size = M.mx)
    (hwords : ((vals.reverse ++ st).map fun v => v.category).sum + 3072 ≤ R.locals) (hc : k + 1 ≤ R.cells) (hl : n + vals.length ≤ R.slots) (hq : pc + 5 = q)
    (go : ∀ (T' : State) (h' : Heap) (b : Nat) (cK : ClassId), b = h.size → Wk G M R X vm T' h' (k + 1) (n + vals.length) → Ext h h' → Jvm.LamKit.Made G.Z y.cls σ cK → h'[b]? = some { cls := cK, slots := vals.toArray, vm := .none } → Go G R X Q (T'.setTop (mkF X.m q Ls (.ref b :: st)))) : Go G R X Q (T.setTop (mkF X.m pc Ls (vals.reverse ++ st))) := by
  subst hq
  have hml := w.hml
  obtain ⟨fx, k0, L, S, eh, hS, hk, hZ, hown, hF, ho, hch, hnw⟩ := w
  obtain ⟨cK, one, hat⟩ := Cond.lambdaSite_spec ws
  obtain ⟨mD, kD, cfD, i0, p0, lk, hmD, hkD, hcfD, hsh, -, hfind, hmade, hcan, hlk⟩ := State.lambdaAt?_spec hat
  cases hN.symm.trans hmD
  obtain ⟨kD', hkD', hnameD⟩ := className_of_methodNamed hN
  cases hkD.symm.trans hkD'
  rcases hlk with ⟨a, cell, -, -, hc0, -⟩ | ⟨rfl, -, -⟩
  · exact absurd hc0 hcap
  · obtain ⟨b, nt, desc, site, h1, h2, h3, h4⟩ := shapeOf?_site hsh
    obtain ⟨kc, f, hkc, hkind, hty, -⟩ := Jvm.LamKit.made_cap hok hkD hnameD hmade (Jvm.LamKit.noFields wO (State.WarmedH.refl G.Z))
    obtain ⟨kE, hkE, heE⟩ := hZ.alike.2.2 _ _ hkD
    obtain ⟨kF, hkF, heF⟩ := hZ.alike.2.2 _ _ hkc
    have tyF : kF.instanceTypes = σ.captured.toArray := by rw [heF]; exact hty
    have kindF : kF.kind = .ordinary := by rw [heF]; exact hkind
    have hz : ((kF.instanceTypes.toList.zip vals).map fun (t, v) => narrow t v) = vals := by rw [tyF]; exact Jvm.LamKit.zip_narrow _ _ hlen fun i t v a b => (hfit i t v a b).1
    have hw : X.e.platform.lambdaLinkWords = 3072 := by rw [S.admits.platform]
    have q := S.lambdaMakes fx.1 (g := mkF X.m pc Ls (vals.reverse ++ st)) rfl (by show Ls.size = X.c.maxLocals; rw [hls]; exact hml.symm) (hb fx.2.1 hd) (vals := vals) (rest := st) (k := kE) (kc := kF) (i0 := i0) (p0 := p0) (cK := cK) hkE (by rw [heE]; exact hfind) (by rw [heE]; exact hcfD) h1 h2 (parseLong_of_parse h3) (by rw [h4]; exact hlen) rfl hkF
      (by rw [hw]; simpa [mkF, JFrame.monitorRoom] using hwords) hc (by rw [hz]; exact hl)
      (fun i v hv => by
        rw [hz] at hv
        have hv' : vals[i]? = some v := by simpa using hv
        have hi : i < σ.captured.length := by rw [← hlen]; exact (List.getElem?_eq_some_iff.mp hv').1
        have := (hfit i _ v (List.getElem?_eq_getElem hi) hv').2
        have hkF' : vm.classes[cK]? = some kF := hkF
        simp [State.fitsSlot, State.slotType?, hkF', kindF, tyF, List.getElem?_eq_getElem hi, this])
    rw [hz] at q
    have E : Ext h (h.push { cls := cK, slots := vals.toArray, vm := .none }) := push_ext _ _
    refine (go _ (h.push { cls := cK, slots := vals.toArray, vm := .none }) h.size cK rfl ⟨fx, k0, L, by simpa using q.1, by rw [← eh]; rfl, hS, Nat.le_trans hk E.1, hZ, hown, hF, ho.ext E, fun b => (hch b).trans (CHr.ext E (hch b).1), hnw⟩ E ⟨_, kD, hkD, hnameD, hmade, hcan⟩ (by simp)).of ?_
    intro t ht
    refine q.2 t ?_
    rw [eh]; exact ht
end Lam

section WbLay
variable {G : Gx} {M : Md} {R : Room} {X : Cx} {vm : Vm} {T : State} {h : Heap} {k n : Nat} {Q : Option Value → Heap → Prop}
def Wb (G : Gx) (M : Md) (R : Room) (X : Cx) (vm : Vm) (T : State) (h : Heap) (k n : Nat) : Prop :=
  Fix G M X ∧ ∃ (k0 : Nat) (L : List Loc), Stand X.p G.l X.e R (X.s.setVm vm) X.m X.args X.below X.meth X.c T L k n ∧ T.heap = h ∧ X.s.Since vm k0 ∧ k0 ≤ h.size ∧ G.Z.Warmed39 vm ∧ True ∧ Fr G.n0 L ∧ Old G.Z G.n0 h ∧ (G.wd = true → CHr G.Z G.EL X.s.vm X.s.heap vm h) ∧ (G.wd = false → vm = X.s.vm)
theorem Wb.hx (w : Wb G M R X vm T h k n) : X.p.tables.exec = Jvm.exec := w.1.1
theorem Wb.by_ (w : Wb G M R X vm T h k n) : X.c.code = M.code := w.1.2.1
theorem Wb.hml (w : Wb G M R X vm T h k n) : X.c.maxLocals = M.mx := w.1.2.2.1
theorem Wb.hret (w : Wb G M R X vm T h k n) : X.meth.sig.returnType = M.ret := w.1.2.2.2.1
theorem Wb.hlk (w : Wb G M R X vm T h k n) : X.meth.locks = false := w.1.2.2.2.2.1
theorem Wb.hnm (w : Wb G M R X vm T h k n) : X.meth.name = M.nm := w.1.2.2.2.2.2.1
theorem Wb.hEL (w : Wb G M R X vm T h k n) : EW G.Z G.a0 G.EL := w.1.2.2.2.2.2.2
theorem Wb.here (w : Wb G M R X vm T h k n) : At T X.m X.c X.below := by obtain ⟨-, k0, L, S, -⟩ := w; exact S.here
theorem Wb.heap (w : Wb G M R X vm T h k n) : T.heap = h := by obtain ⟨-, k0, L, S, e, -⟩ := w; exact e
theorem Wb.old (w : Wb G M R X vm T h k n) : Old G.Z G.n0 h := by obtain ⟨-, k0, L, -, -, -, -, -, -, -, q, -⟩ := w; exact q
theorem Wb.ch (w : Wb G M R X vm T h k n) : G.wd = true → CHr G.Z G.EL X.s.vm X.s.heap vm h := by obtain ⟨-, k0, L, -, -, -, -, -, -, -, -, q, -⟩ := w; exact q
theorem Wb.wz (w : Wb G M R X vm T h k n) : G.Z.Warmed39 vm := by obtain ⟨-, k0, L, -, -, -, -, q, -⟩ := w; exact q
theorem Wb.aloadN (w : Wb G M R X vm T h k n) {pc q : Nat} {Ls : Array Slot} {st : List Value} {j : Fin 4} {v : Value} (hd : decode M.code pc = .ok (.aload_n j, 1)) (hl : Ls[j.val]? = some (.val v)) (hv : v.isRef = true) (hq : pc + 1 = q) (go : Go G R X Q (T.setTop (mkF X.m q Ls (v :: st)))) : Go G R X Q (T.setTop (mkF X.m pc Ls st)) := by
  subst hq
  exact go.of fun t r => XS.aloadN w.here w.hx rfl (hb w.by_ hd) hl hv r
theorem fbN {k0 k1 n1 : Nat} {L : List Loc} {Q1 : Option Value → Heap → Prop} (fx : Fix G M X) (hS : X.s.Since vm k0) (hk : k0 ≤ h.size) (hZ : G.Z.Warmed39 vm) (hown : True) (hF : Fr G.n0 L) (hch : G.wd = true → CHr G.Z G.EL X.s.vm X.s.heap vm h) (hnw : G.wd = false → vm = X.s.vm)
    {v : Option Value} {B : Pt} (X' : Stand X.p G.l X.e R (X.s.setVm vm) X.m X.args X.below X.meth X.c B.U B.locs B.cells B.slots) (post : ∃ L', (Q1 v B.U.heap ∧ Fr G.n0 L' ∧ Old G.Z G.n0 B.U.heap ∧ h.size ≤ B.U.heap.size ∧ (G.wd = true → CHr G.Z G.EL vm h vm B.U.heap)) ∧ B.locs = L ++ L' ∧ B.cells = k + k1 ∧ B.slots = n + n1) :
    Wb G M R X vm B.U B.U.heap (k + k1) (n + n1) ∧ Q1 v B.U.heap := by
  obtain ⟨U, Lb, c, s⟩ := B
  obtain ⟨L', ⟨q1, q2, q3, q4, q5⟩, h1, h2, h3⟩ := post
  dsimp only [Pt.U, Pt.locs, Pt.cells, Pt.slots] at *
  subst h1 h2 h3
  exact ⟨⟨fx, k0, _, X', rfl, hS, Nat.le_trans hk q4, hZ, hown, Fr.app hF q2, q3, fun b => (hch b).trans (q5 b), hnw⟩, q1⟩
theorem fbW {k0 k1 n1 : Nat} {L : List Loc} {Q1 : Option Value → Heap → Prop} (hwd : G.wd = true) (fx : Fix G M X) (hS : X.s.Since vm k0) (hk : k0 ≤ h.size) (hZ : G.Z.Warmed39 vm) (hown : True) (hF : Fr G.n0 L) (hch : G.wd = true → CHr G.Z G.EL X.s.vm X.s.heap vm h)
    {v : Option Value} {B : Pt} (X' : Stand X.p G.l X.e R ((X.s.setVm vm).setVm B.U.vm) X.m X.args X.below X.meth X.c B.U B.locs B.cells B.slots) (hS' : (X.s.setVm vm).Since B.U.vm B.U.heap.size) (hgr : h.size ≤ B.U.heap.size) (post : ∃ L', (Q1 v B.U.heap ∧ Fr G.n0 L' ∧ Old G.Z G.n0 B.U.heap ∧ (G.wd = true → CHr G.Z G.EL vm h B.U.vm B.U.heap)) ∧ B.locs = L ++ L' ∧ B.cells = k + k1 ∧ B.slots = n + n1) :
    Wb G M R X B.U.vm B.U B.U.heap (k + k1) (n + n1) ∧ Q1 v B.U.heap := by
  obtain ⟨U, Lb, c, s⟩ := B
  obtain ⟨L', ⟨q1, q2, q3, q5⟩, h1, h2, h3⟩ := post
  dsimp only [Pt.U, Pt.locs, Pt.cells, Pt.slots] at *
  subst h1 h2 h3
  exact ⟨⟨fx, U.heap.size, _, X', rfl, hS.trans hS' (Nat.le_trans hk hgr), Nat.le_refl _, State.Warmed39.trans (t := X.s.setVm vm) hZ hS'.1, trivial, Fr.app hF q2, q3, fun b => (hch b).trans (q5 b), fun z => absurd (z.symm.trans hwd) (by decide)⟩, q1⟩
theorem Con.payb {y : MethodName} {bytes : ByteArray} {maxL : Nat} {ret : Option FieldType} {rm : Room} {as : Array Value} {Q1 : Option Value → Heap → Prop} {len W : Nat} (H : Con G y bytes maxL ret [] rm as h Q1) (w : Wb G M R X vm T h k n) (wc : (Jvm.Cond.code y bytes maxL ret).before G.a0 G.Z = true) (wz : (Jvm.Cond.initialized y.cls).before G.a0 G.Z = true) (hf : rm.frames + 1 ≤ R.frames) (hl : W + (maxL + 11) + rm.locals ≤ R.locals) : Pay G R X y len W as h rm.cells rm.slots Q1 vm := by
  have hZ := w.wz
  have hEL := w.hEL
  have hch := w.ch
  cases hwd : G.wd with
  | false =>
    exact Or.inl (Back.of_free (bytes := bytes) (maxL := maxL) (ret := ret) (E := fun _ first o t L k n => k = rm.cells ∧ n = rm.slots ∧ first.heap.size ≤ t.heap.size ∧ ∃ v, o = .returned v ∧ (Q1 v t.heap ∧ Fr G.n0 L ∧ Old G.Z G.n0 t.heap)) H hf hl
      (fun m meth c A a Y hp => have hU : G.Z.Warmed39 A.U.vm := wtrans (s := X.s.setVm vm) hZ Y.warmed
        ⟨by show (Jvm.Cond.and _ .tt).before a A.U = true; rw [Cond.before_and, mv hU wc]; rfl, mv hU wc, mv hU wz, hp.2.2.1, hp.2.2.2⟩)
      (fun m meth c A a g mk Y hp => ⟨hp.1, wtrans (s := X.s.setVm vm) hZ Y.warmed, hp.2.1, fun b => absurd (hwd.symm.trans b) (by decide)⟩) (fun _ _ _ _ _ _ _ _ _ => trivial)
      (fun _ _ _ _ ⟨v, L, h1, h2, h3, h4⟩ => ⟨L, _, _, h4.2 hwd, rfl, rfl, (h4.1.2.2.2).2.1, v, h1, h2⟩)
      (fun m meth c A a g mk v t L k n Y hp _ _ ⟨e1, e2, e0, v', e3, e4⟩ => by
        cases e3; subst e1 e2
        refine ⟨L, ⟨e4.1, e4.2.1, e4.2.2, ?_, fun b => absurd (hwd.symm.trans b) (by decide)⟩, rfl, rfl, rfl⟩
        rw [← hp.2.1]; exact e0))
  | true =>
    refine Or.inr ⟨hwd, BackS.of_freeW (bytes := bytes) (maxL := maxL) (ret := ret) (E := fun _ first o t L k n => k = rm.cells ∧ n = rm.slots ∧ CHr G.Z G.EL first.vm first.heap t.vm t.heap ∧ ∃ v, o = .returned v ∧ (Q1 v t.heap ∧ Fr G.n0 L ∧ Old G.Z G.n0 t.heap)) H hf hl
      (fun m meth c A a Y hp => have hU : G.Z.Warmed39 A.U.vm := wtrans (s := X.s.setVm vm) hZ Y.warmed
        ⟨by show (Jvm.Cond.and _ .tt).before a A.U = true; rw [Cond.before_and, mv hU wc]; rfl, mv hU wc, mv hU wz, hp.2.2.1, hp.2.2.2⟩)
      (fun m meth c A a g mk Y hp => ⟨hp.1, wtrans (s := X.s.setVm vm) hZ Y.warmed, hp.2.1, fun b => (CHv.at Y hZ hEL (hch b).1).1⟩) (fun _ _ _ _ _ _ _ _ _ => trivial)
      (fun _ _ _ _ ⟨v, L, h1, h2, h3, h4⟩ => ⟨L, _, _, h4.1, rfl, rfl, h3 hwd, v, h1, h2⟩)
      (fun m meth c A a g mk v t L k n Y hp _ _ ⟨e1, e2, e0, v', e3, e4⟩ => by
        cases e3; subst e1 e2
        refine ⟨L, ⟨e4.1, e4.2.1, e4.2.2, fun b => (CHv.at Y hZ hEL (hch b).1).trans ?_⟩, rfl, rfl, rfl⟩
        rw [← hp.2.1]; exact e0)⟩
theorem Wb.leave' (w : Wb G M R X vm T h k n) {v : Option Value} (hv : M.ret = none → v = none) (hk' : k ≤ R.cells) (hn' : n ≤ R.slots) (hQ : Q v h) {S0 : State} (f : ∀ fs, (∀ (f : JFrame) (acts : List Action), f.method = X.m → f.locked = none → f.entered = [] → (doReturn X.e (T.setTop f) acts v).1 = T.setFrames fs) → ∀ L, Stand X.p G.l X.e R (X.s.setVm vm) X.m X.args X.below X.meth X.c T L k n → Steps X.p.tables X.e X.below S0 (T.setFrames fs)) : Go G R X Q S0 := by
  have hEL := w.hEL
  obtain ⟨fx, k0, L, S, eh, hS, hk, hZ, hown, hF, ho, hch, hnw⟩ := w
  obtain ⟨fs, hr, hrun, hended, hW, hsame⟩ := S.leave (v := v) (fun z => hv (fx.2.2.2.1.symm.trans z)) fx.2.2.2.2.1
  obtain ⟨a, b, c⟩ := hS.ended (U := T.setFrames fs) hW (by show k0 ≤ T.heap.size; rw [eh]; exact hk) hsame
  refine ⟨T.setFrames fs, .returned v, f fs hr L S, hrun, hended, v, L, rfl, ⟨by show Q v T.heap; rw [eh]; exact hQ, hF, by show Old G.Z G.n0 T.heap; rw [eh]; exact ho⟩, fun z => ?_, ⟨⟨v, rfl⟩, a, b, c.mono hk' hn'⟩, fun z => ?_⟩
  · show CHr G.Z G.EL X.s.vm X.s.heap T.vm T.heap
    rw [eh]; exact (hch z).trans (CHv.at S hZ hEL (hch z).1)
  · have e := hnw z
    subst e
    exact ⟨⟨v, rfl⟩, hW, c.mono hk' hn'⟩
theorem Wb.ret (w : Wb G M R X vm T h k n) {pc : Nat} {Ls : Array Slot} {st : List Value} {v : Value} {t : FieldType} {i : Instr} (hd : decode M.code pc = .ok (i, 1)) (hret : M.ret = some t) (hn : narrow t v = v)
    (hi : (i = .ireturn ∧ (t = .int ∨ t = .boolean ∨ t = .byte ∨ t = .char ∨ t = .short) ∧ ∃ z, v = .int z) ∨ (i = .lreturn ∧ t = .long ∧ ∃ z, v = .long z) ∨ (i = .dreturn ∧ t = .double ∧ ∃ z, v = .double z) ∨ (i = .freturn ∧ t = .float ∧ ∃ z, v = .float z) ∨ (i = .areturn ∧ t.isReference = true ∧ v.isRef = true))
    (hk' : k ≤ R.cells) (hn' : n ≤ R.slots) (hQ : Q (some v) h) : Go G R X Q (T.setTop (mkF X.m pc Ls (v :: st))) := by
  have fx := w.1
  exact w.leave' (v := some v) (fun z => by rw [hret] at z; cases z) hk' hn' hQ fun fs hr L S => retOut S fx.1 (fx.2.2.2.1.trans hret) hn hi (hb fx.2.1 hd) hr
theorem Wb.retI (w : Wb G M R X vm T h k n) {pc : Nat} {Ls : Array Slot} {st : List Value} {z : Int32} (hd : decode M.code pc = .ok (.ireturn, 1)) (hret : M.ret = some .int) (hk' : k ≤ R.cells) (hn' : n ≤ R.slots) (hQ : Q (some (.int z)) h) : Go G R X Q (T.setTop (mkF X.m pc Ls (.int z :: st))) :=
  w.ret hd hret rfl (Or.inl ⟨rfl, Or.inl rfl, z, rfl⟩) hk' hn' hQ
theorem Wb.retZ (w : Wb G M R X vm T h k n) {pc : Nat} {Ls : Array Slot} {st : List Value} {z : Int32} {t : FieldType} (hd : decode M.code pc = .ok (.ireturn, 1)) (hret : M.ret = some t) (ht : t = .boolean ∨ t = .byte ∨ t = .char ∨ t = .short) (hn : narrow t (.int z) = .int z) (hk' : k ≤ R.cells) (hn' : n ≤ R.slots) (hQ : Q (some (.int z)) h) : Go G R X Q (T.setTop (mkF X.m pc Ls (.int z :: st))) :=
  w.ret hd hret hn (Or.inl ⟨rfl, Or.inr ht, z, rfl⟩) hk' hn' hQ
theorem Wb.retA (w : Wb G M R X vm T h k n) {pc : Nat} {Ls : Array Slot} {st : List Value} {v : Value} {t : FieldType} (hd : decode M.code pc = .ok (.areturn, 1)) (hret : M.ret = some t) (ht : t.isReference = true) (hv : v.isRef = true) (hk' : k ≤ R.cells) (hn' : n ≤ R.slots) (hQ : Q (some v) h) : Go G R X Q (T.setTop (mkF X.m pc Ls (v :: st))) :=
  w.ret hd hret (by cases t <;> first | (cases ht; done) | (rcases ref_cases hv with rfl | ⟨_, rfl⟩ <;> rfl)) (Or.inr (Or.inr (Or.inr (Or.inr ⟨rfl, ht, hv⟩)))) hk' hn' hQ
theorem Wb.retJ (w : Wb G M R X vm T h k n) {pc : Nat} {Ls : Array Slot} {st : List Value} {z : Int64} (hd : decode M.code pc = .ok (.lreturn, 1)) (hret : M.ret = some .long) (hk' : k ≤ R.cells) (hn' : n ≤ R.slots) (hQ : Q (some (.long z)) h) : Go G R X Q (T.setTop (mkF X.m pc Ls (.long z :: st))) :=
  w.ret hd hret rfl (Or.inr (Or.inl ⟨rfl, rfl, z, rfl⟩)) hk' hn' hQ
end WbLay

section Fwd
open Jvm.Lambda Jvm.Free.HMW
variable {G : Gx} {M : Md} {R : Room} {X : Cx} {vm : Vm} {T : State} {h : Heap} {k n : Nat} {Q : Option Value → Heap → Prop}
/-- the same setting with the narrow frame -/
def Gx.nar (G : Gx) : Gx := (false, G.l, G.Z, G.a0, [], G.n0)
/-- the forwarder's record, as one check -/
def fwdK (σ : Lambda.Shape) (host : String) (fcode : ByteArray) (fml : Nat) (fret : Option FieldType) : Bool :=
  plainName (host ++ "$$Lambda") &&
  match σ.file host with
  | none => false
  | some D =>
    match (layoutMethods D).bind (·[1]?) with
    | some f => decide ((f.code.map fun c => (c.code.data, c.maxLocals)) = some (fcode.data, fml)) && decide (f.accessFlags = 1) && decide (f.sig.returnType = fret)
    | none => false
theorem made_fwd {st : Setting} {v : Vm} {d c : ClassId} {dk : Class} {σ : Lambda.Shape} {host : String} {fcode : ByteArray} {fml : Nat} {fret : Option FieldType} (hok : fwdK σ host fcode fml fret = true) (hd : v.classes[d]? = some dk) (hname : dk.name = host) (hm : isMade st v d σ c = true) :
    ∃ (kK : Class) (methk : Method) (ck : Code), v.classes[c]? = some kK ∧ plainName kK.name = true ∧ v.method? ⟨c, 1⟩ = some methk ∧ methk.code = some ck ∧ ck.code = fcode ∧ ck.maxLocals = fml ∧ methk.locks = false ∧ methk.accessFlags = 1 ∧ methk.sig.returnType = fret := by
  obtain ⟨dk', kK, ok, tk, file, cf, object, iface, toy, lay, methods, target, found, hd', hk, hfile, hcf, -, -, -, -, hms, -, -, -, -, hrec, -, -, -, -, -, hmeth, -⟩ := isMade_spec hm
  cases hd.symm.trans hd'
  rw [hname] at hcf
  unfold fwdK at hok
  rw [hcf, Bool.and_eq_true] at hok
  obtain ⟨hpn, hok⟩ := hok
  dsimp only at hok
  cases hf : (layoutMethods cf).bind (·[1]?) with
  | none => rw [hf] at hok; cases hok
  | some f =>
    rw [hf] at hok
    simp only [Bool.and_eq_true, decide_eq_true_eq] at hok
    obtain ⟨⟨fc, ffl⟩, fr⟩ := hok
    rw [hms] at hf
    obtain ⟨b, hb', hsame⟩ := hmeth 1 f hf
    obtain ⟨-, -, hsig, hfl, x, y, hx, hy, -, hml, hcd, -⟩ := sameMethod_spec hsame
    rw [hx] at fc
    simp only [Option.map_some, Option.some.injEq, Prod.mk.injEq] at fc
    refine ⟨kK, b, y, hk, by rw [hrec.1, hname]; exact hpn, by simp [Vm.method?, hk, hb'], hy, ?_, by rw [hml]; exact fc.2, ?_, by rw [hfl]; exact ffl, by rw [hsig]; exact fr⟩
    · rw [hcd]; exact ByteArray.ext fc.1
    · simp [Method.locks, Method.isSynchronized, hfl, ffl, hasFlag, Acc.synchronized]
/-- a class entry of the made class -/
def clsK (σ : Lambda.Shape) (host : String) (ci : Nat) (name : String) : Bool :=
  match σ.file host with
  | none => false
  | some D => match D.constantPool[ci]? with
    | some (.class_ n) => decide (D.constantPool.string? n = some name) && decide (ci ≠ D.thisClass)
    | _ => false
theorem made_cls {st : Setting} {v : Vm} {d c x : ClassId} {dk : Class} {σ : Lambda.Shape} {host name : String} {ci : Nat} (hok : clsK σ host ci name = true) (hd : v.classes[d]? = some dk) (hname : dk.name = host) (hm : isMade st v d σ c = true) (hx : v.findClass name = some x) : v.classReady c ci x := by
  obtain ⟨dk', kK, ok, tk, file, cf, object, iface, toy, lay, methods, target, found, hd', hk, hfile, hcf, -, -, -, -, -, -, -, -, -, -, -, -, -, -, -, -, -, -, hres, -⟩ := isMade_spec hm
  cases hd.symm.trans hd'
  rw [hname] at hcf
  unfold clsK at hok
  rw [hcf] at hok
  dsimp only at hok
  split at hok
  · rename_i n hci
    simp only [Bool.and_eq_true, decide_eq_true_eq] at hok
    exact ⟨kK, hk, hres ci _ (resolvedOf_class hci hok.2 hok.1 hx)⟩
  · cases hok
/-- the made class's reference to its target, an interface's method -/
def refK (σ : Lambda.Shape) (host : String) (idx ci : Nat) : Bool :=
  match σ.file host with
  | none => false
  | some D => match D.constantPool[idx]? with
    | some (.interfaceMethodref ci' nt) => decide (ci' = ci) && decide (D.constantPool.className? ci = some σ.implClass) && decide (D.constantPool.nameAndType? nt = some (σ.implName, σ.implDesc.toString))
    | _ => false
theorem resolvedOf_iface {e : Setting} {v : Vm} {cf : ClassFile} {fields : Array Field} {self : ClassId} {i ci nt : Nat} {cn name desc : String} {owner : ClassId} {kk : Class} {m : MethodId} (hi : cf.constantPool[i]? = some (.interfaceMethodref ci nt)) (hc : cf.constantPool.className? ci = some cn)
    (hf : v.findClass cn = some owner) (hk : v.classes[owner]? = some kk) (hnt : cf.constantPool.nameAndType? nt = some (name, desc)) (hl : ((methodIn owner name desc kk.isInterface none).ask e v).1 = .ok m) :
    (resolvedOf e v cf fields self)[i]? = some (some (.method m)) := by
  simp [resolvedOf, Array.getElem?_mapIdx, hi, hc, hf, hk, hnt, hl]
theorem made_iface {st : Setting} {v : Vm} {d c : ClassId} {dk : Class} {σ : Lambda.Shape} {host : String} {idx ci : Nat} (hok : refK σ host idx ci = true) (hd : v.classes[d]? = some dk) (hname : dk.name = host) (hm : isMade st v d σ c = true) :
    ∃ (kK tk : Class) (file : ClassFile) (toy : ClassId) (t : MethodId) (nt : Nat), v.classes[c]? = some kK ∧ kK.cf = some file ∧ file.constantPool[idx]? = some (.interfaceMethodref ci nt) ∧ v.findClass σ.implClass = some toy ∧ v.classes[toy]? = some tk ∧ ((methodIn toy σ.implName σ.implDesc.toString tk.isInterface none).ask st v).1 = .ok t ∧ v.methodReady c idx t := by
  obtain ⟨dk', kK, ok, tk, file, cf, object, iface, toy, lay, methods, target, found, hd', hk, hfile, hcf, -, -, -, -, -, ht, htk, hg, -, -, -, -, -, -, hpool, -, -, -, hres, -⟩ := isMade_spec hm
  cases hd.symm.trans hd'
  rw [hname] at hcf
  unfold refK at hok
  rw [hcf] at hok
  dsimp only at hok
  split at hok
  · rename_i ci' nt hidx
    simp only [Bool.and_eq_true, decide_eq_true_eq] at hok
    obtain ⟨⟨rfl, hcn⟩, hnt⟩ := hok
    exact ⟨kK, tk, file, toy, target, nt, hk, hfile, by rw [hpool.2.1]; exact hidx, ht, htk, hg, kK, hk, hres idx _ (resolvedOf_iface hidx hcn ht htk hnt hg)⟩
  · cases hok
/-- what is resolved stays resolved -/
theorem res39 {Z : State} {v : Vm} (hZ : Z.Warmed39 v) {c : ClassId} {kc : Class} {i : Nat} {r : Resolved} (hk : Z.vm.classes[c]? = some kc) (hr : kc.resolved[i]? = some (some r)) : ∃ k', v.classes[c]? = some k' ∧ k'.resolved[i]? = some (some r) ∧ k'.cf = kc.cf ∧ k'.fields = kc.fields := by
  obtain ⟨k', hk', he⟩ := hZ.alike.2.2 _ _ hk
  refine ⟨k', hk', ?_, by rw [he], by rw [he]⟩
  rcases hZ.entry hk hk' i with q | ⟨q, -⟩
  · rw [q]; exact hr
  · rw [hr] at q; cases q
theorem field39 {Z : State} {v : Vm} (hZ : Z.Warmed39 v) {c c' : ClassId} {i : Nat} {f : Field} (hr : Z.vm.fieldReady c i c' f) : v.fieldReady c i c' f := by
  obtain ⟨kk, j, kc, h1, h2, h3, h4⟩ := hr
  obtain ⟨k', a1, a2, -, -⟩ := res39 hZ h1 h2
  obtain ⟨k2, b1, b2⟩ := hZ.alike.2.2 _ _ h3
  exact ⟨k', j, k2, a1, a2, b1, by rw [b2]; exact h4⟩
theorem Wb.wT (w : Wb G M R X vm T h k n) : G.Z.Warmed39 T.vm := by
  obtain ⟨-, k0, L, S, -, -, -, hZ, -⟩ := w
  exact wtrans (s := X.s.setVm vm) hZ S.warmed
theorem Wb.getCap (w : Wb G M R X vm T h k n) {host : String} {σ : Lambda.Shape} {cK : ClassId} {fi i pc q : Nat} {Ls : Array Slot} {st : List Value} {a : Addr} {cell : Cell} {v : Value} (hm : X.m = ⟨cK, 1⟩) (hmd : Jvm.LamKit.Made G.Z host σ cK) (hok : Jvm.LamKit.capOK σ host fi i = true) (wO : (Jvm.Cond.instantiable "java/lang/Object" 0).before G.a0 G.Z = true)
    (hcell : h[a]? = some cell) (hvm : cell.vm = .none) (hv : cell.slots[i]? = some v) (hd : decode M.code pc = .ok (.getfield fi, 3)) (hq : pc + 3 = q) (go : Go G R X Q (T.setTop (mkF X.m q Ls (v :: st)))) : Go G R X Q (T.setTop (mkF X.m pc Ls (.ref a :: st))) := by
  subst hq
  have hx := w.hx
  have hd' := hb w.by_ hd
  have hh := w.here
  have hT := w.wT
  have eh := w.heap
  obtain ⟨d, dk, hd0, hdn, hmade, -⟩ := hmd
  obtain ⟨kc, f, -, -, -, hready, hst, hsl⟩ := Jvm.LamKit.made_cap hok hd0 hdn hmade (Jvm.LamKit.noFields wO (State.WarmedH.refl G.Z))
  have hr := field39 hT hready
  refine go.of fun t ht => ?_
  unfold mkF at ht ⊢
  jvm_step hh [hx, hd', getfield.wp_ready (e := X.e) (s := T) (f := { method := X.m, pc := pc, locals := Ls, stack := .ref a :: st, locked := none }) (c := cK) (field := f) (a := a) (rest := st) (cell := cell) (v := v) hh.top (by rw [hm]; exact hr) hst rfl (by rw [eh]; exact hcell) (by rw [hvm]; decide) (by rw [hsl]; exact hv)]
  exact ht
theorem Wb.castM (w : Wb G M R X vm T h k n) {host C : String} {σ : Lambda.Shape} {cK : ClassId} {ci pc q : Nat} {Ls : Array Slot} {st : List Value} {a : Addr} (hm : X.m = ⟨cK, 1⟩) (hmd : Jvm.LamKit.Made G.Z host σ cK) (hok : clsK σ host ci C = true) (I : Exa G.Z h a C) (wc : (Jvm.Cond.castable C C).before G.a0 G.Z = true)
    (hd : decode M.code pc = .ok (.checkcast ci, 3)) (hq : pc + 3 = q) (go : Go G R X Q (T.setTop (mkF X.m q Ls (.ref a :: st)))) : Go G R X Q (T.setTop (mkF X.m pc Ls (.ref a :: st))) := by
  subst hq
  have hx := w.hx
  have hd' := hb w.by_ hd
  have hh := w.here
  have hT := w.wT
  have eh := w.heap
  obtain ⟨d, dk, hd0, hdn, hmade, -⟩ := hmd
  obtain ⟨cC, tC, w1, w2, w3⟩ := Cond.castable_spec wc
  cases w1.symm.trans w2
  obtain ⟨kk, k1, k2⟩ := made_cls hok hd0 hdn hmade w1
  obtain ⟨k', r1, r2, -, -⟩ := res39 hT k1 k2
  obtain ⟨cell, ke, e1, e2, e3, e4, -⟩ := I
  cases w1.symm.trans e2
  obtain ⟨k3, q1, -⟩ := hT.alike.2.2 _ _ e3
  refine go.of fun t ht => ?_
  unfold mkF at ht ⊢
  jvm_step hh [hx, hd', checkcast.wp_ready (e := X.e) (s := T) (f := { method := X.m, pc := pc, locals := Ls, stack := .ref a :: st, locked := none }) (index := ci) (c := cell.cls) (x := .ref a) (rest := st) hh.top (by rw [hm]; exact ⟨k', r1, r2⟩) rfl]
  refine ⟨cell, by rw [eh]; exact e1, by first | exact e4 | (intro z; rw [e4]; exact VmData.noConfusion) | (intro z zz; rw [zz] at e4; cases e4), k3, q1, k3, q1, ?_⟩
  rw [if_pos (by rw [hT.alike.assignable]; exact w3)]
  exact ht
theorem Wb.callRaw (w : Wb G M R X vm T h k n) {pc q len W k1 n1 : Nat} {ig : Instr} {Ls : Array Slot} {st rest : List Value} {y : MethodName} {mk : MethodId} {as : Array Value} {Q1 : Option Value → Heap → Prop}
    (hd : decode M.code pc = .ok (ig, len)) (hn : G.Z.methodNamed? y = some mk) (hsz : Ls.size = M.mx) (hW : (rest.map fun v => v.category).sum ≤ W)
    (hraw : ∀ target, (∀ acts, Steps X.p.tables X.e X.below (doInvoke X.e (T.setTop (mkF X.m pc Ls rest)) acts mk as).1 target) → Steps X.p.tables X.e X.below (T.setTop (mkF X.m pc Ls st)) target)
    (pay : Pay G R X y len W as h k1 n1 Q1 vm) (hc : k + k1 ≤ R.cells) (hl : n + n1 ≤ R.slots) (hq : pc + len = q)
    (go : ∀ (vm' : Vm) (T' : State) (h' : Heap) (v : Option Value), Wb G M R X vm' T' h' (k + k1) (n + n1) → Q1 v h' → Go G R X Q (T'.setTop (mkF X.m q Ls (v.toList ++ rest)))) : Go G R X Q (T.setTop (mkF X.m pc Ls st)) := by
  subst hq
  have hT := w.wT
  have hn' : T.methodNamed? y = some mk := by
    have := State.methodNamed?_setVm (s := G.Z) (vm' := T.vm) hT.alike (x := y)
    rw [hn] at this; exact this
  obtain ⟨fx, k0, L, S, eh, hS, hk, hZ, hown, hF, ho, hch, hnw⟩ := w
  rcases pay with pay | ⟨hwd, pay⟩
  · obtain ⟨v, B, X', post, st'⟩ := pay X.m X.meth X.c ⟨T, L, k, n⟩ (mkF X.m pc Ls rest) ig mk as S rfl (hsz.trans fx.2.2.1.symm) (hb fx.2.1 hd) (by show 2 * 0 + _ ≤ _; simpa using hW) hn' ⟨rfl, eh, hc, hl⟩
    obtain ⟨w2, q1⟩ := fbN fx hS hk hZ hown hF hch hnw X' post
    exact (go _ _ _ v w2 q1).of fun t z => hraw t fun acts => by rw [doInvoke_state]; exact st'.trans z
  · obtain ⟨v, B, X', hS', hgr, post, st'⟩ := pay X.m X.meth X.c ⟨T, L, k, n⟩ (mkF X.m pc Ls rest) ig mk as S rfl (hsz.trans fx.2.2.1.symm) (hb fx.2.1 hd) (by show 2 * 0 + _ ≤ _; simpa using hW) hn' ⟨rfl, eh, hc, hl⟩
    obtain ⟨w2, q1⟩ := fbW hwd fx hS hk hZ hown hF hch X' hS' (by rw [← eh]; exact hgr) post
    exact (go _ _ _ v w2 q1).of fun t z => hraw t fun acts => by rw [doInvoke_state]; exact st'.trans z
/-- the forwarder's invokeinterface of its target xi on an object of class C, which selects y -/
theorem Wb.callItf (w : Wb G M R X vm T h k n) {host C : String} {σ : Lambda.Shape} {cK : ClassId} {xi y : MethodName} {idx ci count pc q W k1 n1 : Nat} {Ls : Array Slot} {st argsL rest : List Value} {a : Addr} {Q1 : Option Value → Heap → Prop} (hm : X.m = ⟨cK, 1⟩) (hmd : Jvm.LamKit.Made G.Z host σ cK)
    (hok : refK σ host idx ci = true) (hok2 : clsK σ host ci xi.cls = true) (hxi : xi.cls = σ.implClass ∧ xi.name = σ.implName ∧ xi.desc = σ.implDesc.toString)
    (w2 : (Jvm.Cond.declares xi).before G.a0 G.Z = true) (w3 : (Jvm.Cond.interfaceMethod xi.cls xi.cls xi.name xi.desc).before G.a0 G.Z = true) (w4 : (Jvm.Cond.selects C xi y).before G.a0 G.Z = true) (w5 : (Jvm.Cond.instanceMethod y).before G.a0 G.Z = true) (w6 : (Jvm.Cond.publicMethod y).before G.a0 G.Z = true) (w7 : (Jvm.Cond.unhidden C xi.name xi.desc).before G.a0 G.Z = true) (w8 : (Jvm.Cond.castable C xi.cls).before G.a0 G.Z = true) (E : Exa G.Z h a C)
    (hd : decode M.code pc = .ok (.invokeinterface idx count, 5)) (hst : st = argsL.reverse ++ .ref a :: rest) (hlen : ∀ sig, parseMethodDescriptor xi.desc = some sig → argsL.length = sig.parameters.length) (hsz : Ls.size = M.mx) (hW : (rest.map fun v => v.category).sum ≤ W)
    (pay : Pay G R X y 5 W (.ref a :: argsL).toArray h k1 n1 Q1 vm) (hc : k + k1 ≤ R.cells) (hl : n + n1 ≤ R.slots) (hq : pc + 5 = q)
    (go : ∀ (vm' : Vm) (T' : State) (h' : Heap) (v : Option Value), Wb G M R X vm' T' h' (k + k1) (n + n1) → Q1 v h' → Go G R X Q (T'.setTop (mkF X.m q Ls (v.toList ++ rest)))) : Go G R X Q (T.setTop (mkF X.m pc Ls st)) := by
  subst hst
  have hx := w.hx
  have hd' := hb w.by_ hd
  have hh := w.here
  have hT := w.wT
  have eh := w.heap
  have had : ∃ L, Stand X.p G.l X.e R (X.s.setVm vm) X.m X.args X.below X.meth X.c T L k n := by obtain ⟨-, k0, L, S, -⟩ := w; exact ⟨L, S⟩
  obtain ⟨_, S0⟩ := had
  have al := hT.alike
  obtain ⟨d, dk, hd0, hdn, hmade, -⟩ := hmd
  obtain ⟨r0, r, hn, hrm, hstR, hsigR⟩ := Cond.declares_spec w2
  obtain ⟨cL, kL, r1, hcL, hkL, hiL, hfoundL, hn1⟩ := Cond.interfaceMethod_spec w3
  cases hn.symm.trans hn1
  have hr0cls : r0.cls = cL := Option.some.inj ((findClass_of_methodNamed hn).symm.trans hcL)
  obtain ⟨hnameR, hdescR⟩ := name_of_methodNamed hn hrm
  obtain ⟨kK, tk, file, toy, t0, nt, hkK, hfile, hidx, htoy, htk, hlook, hready⟩ := made_iface hok hd0 hdn hmade
  obtain ⟨x1, x2, x3⟩ := hxi
  rw [← x1] at htoy
  cases hcL.symm.trans htoy
  cases hkL.symm.trans htk
  have ht0 : t0 = r0 := by
    have h1 : G.Z.methodFound? xi.cls xi.name xi.desc = some r0 := hfoundL
    simp only [State.methodFound?, hcL, hkL, Option.bind_eq_bind, Option.bind_some] at h1
    rw [x2, x3, hlook] at h1
    exact Option.some.inj h1
  subst ht0
  obtain ⟨kk1, a1, a2⟩ := made_cls hok2 hd0 hdn hmade hcL
  cases hkK.symm.trans a1
  obtain ⟨k', b1, b2, b3, -⟩ := res39 hT hkK a2
  obtain ⟨kk2, c1, c2⟩ := hready
  obtain ⟨k'', c3, c4, -, -⟩ := res39 hT c1 c2
  obtain ⟨mk, methM, hnamed, hmethM, -, habM⟩ := Cond.instanceMethod_spec w5
  obtain ⟨c5, r5, m5, q1, q2, q3, q4, -⟩ := Cond.selects_spec w4
  cases hfoundL.symm.trans q2
  cases hnamed.symm.trans q3
  have hpubM : hasFlag methM.accessFlags Acc.public_ = true := Cond.publicMethod_spec hnamed hmethM w6
  have hunh := Cond.unhidden_spec q1 w7
  obtain ⟨c6, t6, v1, v2, v3⟩ := Cond.castable_spec w8
  cases q1.symm.trans v1
  cases hcL.symm.trans v2
  obtain ⟨cell, ke, e1, e2, e3, e4, -⟩ := E
  cases q1.symm.trans e2
  obtain ⟨k9, g1, -⟩ := al.2.2 _ _ e3
  obtain ⟨kL', hkL', heL⟩ := al.2.2 _ _ hkL
  refine w.callRaw (y := y) (mk := mk) (as := (.ref a :: argsL).toArray) (rest := rest) hd hnamed hsz hW (fun target hrest => ?_) pay hc hl hq go
  unfold mkF at hrest ⊢
  jvm_step hh [hx, hd', invokeinterface.wp_ready (e := X.e) (s := T) (f := { method := X.m, pc := pc, locals := Ls, stack := argsL.reverse ++ .ref a :: rest, locked := none }) (index := idx) (count := count) (ci := ci) (nt := nt) (r0 := t0) (m := mk) (named := cL) (ck := k') (nk := kL') (kcell := k9) (cf := file) (r := r) (meth := methM) (args := argsL) (rest := rest) (cell := cell) (a := a)
    hh.top (by rw [hm]; exact ⟨k'', c3, c4⟩) (by rw [al.method?]; exact hrm) hstR (hlen _ hsigR) rfl (by rw [eh]; exact e1) (by first | exact e4 | (intro z zz; rw [zz] at e4; cases e4)) g1 (by rw [hm]; exact b1) (by rw [b3]; exact hfile) hidx b2 hkL' (by rw [heL]; exact hiL)
    (by rw [al.assignable]; exact v3) (by rw [al.selectMethod, Launch.admits_selectMethod S0.admits]; exact q4) (by rw [al.method?]; exact hmethM)
    (Or.inr (Or.inr (by rw [hnameR, hdescR, al.superclasses]; simp only [al.declaredIn]; exact hunh))) (Or.inl hpubM) habM]
  exact fun acts => hrest acts
/-- **invokeinterface ON A FUNCTION OBJECT**: its forwarder runs, in the narrow frame -/
theorem Wk.callLam (w : Wk G M R X vm T h k n) {pc q index count W fml : Nat} {Ls L0 : Array Slot} {st argsL rest : List Value} {xi : MethodName} {σ : Lambda.Shape} {host : String} {cK : ClassId} {a : Addr} {cell : Cell} {R' : Room} {fcode : ByteArray} {fret : Option FieldType} {Q1 : Option Value → Heap → Prop}
    (hd : decode M.code pc = .ok (.invokeinterface index count, 5)) (w1 : (Jvm.Cond.methodLink M.own index xi).before G.a0 G.Z = true) (w2 : (Jvm.Cond.declares xi).before G.a0 G.Z = true) (w3 : (Jvm.Cond.interfaceMethod xi.cls xi.cls xi.name xi.desc).before G.a0 G.Z = true) (hpoly : xi.cls ≠ "java/lang/invoke/MethodHandle" ∧ xi.cls ≠ "java/lang/invoke/VarHandle")
    (hxi : σ.iface = xi.cls ∧ σ.name = xi.name ∧ σ.sam.toString = xi.desc) (hmd : Jvm.LamKit.Made G.Z host σ cK) (hcell : h[a]? = some cell) (hcls : cell.cls = cK) (hvm : cell.vm = .none) (hok : fwdK σ host fcode fml fret = true)
    (hst : st = argsL.reverse ++ .ref a :: rest) (hlen : ∀ sig, parseMethodDescriptor xi.desc = some sig → argsL.length = sig.parameters.length) (hsz : Ls.size = M.mx) (hW : (rest.map fun v => v.category).sum ≤ W) (hL0 : ∀ mk, entryFrame mk (.ref a :: argsL).toArray fml = mkF mk 0 L0 [])
    (hfr : R'.frames + 1 ≤ R.frames) (hlo : W + (fml + 11) + R'.locals ≤ R.locals) (hc : k + R'.cells ≤ R.cells) (hl : n + R'.slots ≤ R.slots) (hq : pc + 5 = q) (hext : ∀ v h', Q1 v h' → Ext h h')
    (body : ∀ (X' : Cx) (T' : State), X'.m = ⟨cK, 1⟩ → Wb G.nar ("", X'.meth.name, fcode, fml, fret) R' X' X'.s.vm T' h 0 0 → Go G.nar R' X' Q1 (T'.setTop (mkF X'.m 0 L0 [])))
    (go : ∀ (vm' : Vm) (T' : State) (h' : Heap) (v : Option Value), Wk G M R X vm' T' h' (k + R'.cells) (n + R'.slots) → Q1 v h' → Go G R X Q (T'.setTop (mkF X.m q Ls (v.toList ++ rest)))) : Go G R X Q (T.setTop (mkF X.m pc Ls st)) := by
  subst hst hq
  obtain ⟨fx, k0, L, S, eh, hS, hk, hZ, hown, hF, ho, hch, hnw⟩ := w
  have al := hZ.alike
  obtain ⟨d, dk, hd0, hdn, hmade, hcan⟩ := hmd
  obtain ⟨kK, methk, ck, f1, f2, f3, f4, f5, f6, f7, f8, f9⟩ := made_fwd hok hd0 hdn hmade
  obtain ⟨kF, methK, g1, g2, g3, g4, g5⟩ := FnX.of_site hmade hcan hxi.1 hxi.2.1 hxi.2.2 w3 f1 f3 f8
  cases f3.symm.trans g2
  obtain ⟨r0, r, hn, hrm, hstR, hsigR⟩ := Cond.declares_spec w2
  obtain ⟨cL, kL, r1, hcL, hkL, hiL, -, hn1⟩ := Cond.interfaceMethod_spec w3
  cases hn.symm.trans hn1
  have hr0cls : r0.cls = cL := Option.some.inj ((findClass_of_methodNamed hn).symm.trans hcL)
  obtain ⟨hasg, hsel, hway⟩ := g5 r0 r hn hrm
  obtain ⟨kL', hkL', heL⟩ := al.2.2 _ _ hkL
  obtain ⟨kK', hkK', heK⟩ := al.2.2 _ _ f1
  subst hcls
  have hn' : (X.s.setVm vm).methodNamed? xi = some r0 := by
    have := State.methodNamed?_setVm (s := G.Z) (vm' := vm) al (x := xi)
    rw [hn] at this; exact this
  obtain ⟨vm₁, X₁, hstep⟩ := S.invokeinterface fx.1 hown (mv (s := X.s.setVm vm) hZ w1) hn' (by show vm.method? r0 = some r; rw [al.method?]; exact hrm) hstR (ki := kL') (by show vm.classes[r0.cls]? = some kL'; rw [hr0cls]; exact hkL') (by rw [heL]; exact hiL) hpoly (a := a) (cell := cell) (kcell := kK') (by rw [eh]; exact hcell) (fun z q => by rw [hvm] at q; cases q) hkK'
    (by show vm.assignable cell.cls r0.cls = true; rw [al.assignable]; exact hasg) (m' := ⟨cell.cls, 1⟩) (meth' := methk) (by show selectMethod X.e.platform vm cell.cls r0 = _; rw [al.selectMethod, Launch.admits_selectMethod S.admits]; exact hsel) (by show vm.method? _ = some methk; rw [al.method?]; exact f3)
    (by show ((cell.cls :: vm.superclasses cell.cls).any fun k => (declaredIn vm r.name r.desc k).any fun (_, y) => y.isPrivate || y.isStatic) = false; rw [al.superclasses]; simp only [al.declaredIn]; exact hway) g3 g4 (g := mkF X.m pc Ls (argsL.reverse ++ .ref a :: rest)) rfl (argsL := argsL) (rest := rest) (hlen _ hsigR) rfl (hb fx.2.1 hd)
  have hZ1 : G.Z.Warmed39 vm₁ := wtrans (s := X.s.setVm vm) (U := T.setVm vm₁) hZ X₁.warmed
  have al1 := hZ1.alike
  obtain ⟨k1', hk1', he1⟩ := al1.2.2 _ _ f1
  obtain ⟨Y₀, hin⟩ := X₁.into (g := mkF X.m pc Ls rest) rfl (hsz.trans fx.2.2.1.symm) (hb fx.2.1 hd) (mk := ⟨cell.cls, 1⟩) (methk := methk) (ck := ck) (.ref a :: argsL).toArray (R' := R') (by show vm₁.method? _ = some methk; rw [al1.method?]; exact f3) f4 f7
    (State.plainMethod.of_name (fun k' hk' => by cases hk1'.symm.trans hk'; rw [he1]; exact f2)) hfr (by rw [f6]; show 2 * 0 + _ + (fml + 11) + R'.locals ≤ _; have : ((mkF X.m pc Ls rest).stack.map fun v => v.category).sum ≤ W := hW; omega) hc hl
  rw [f6, hL0] at Y₀ hin
  generalize hU : ((T.setVm vm₁).setTop (mkF X.m pc Ls rest)).pushFrame (.java (mkF ⟨cell.cls, 1⟩ 0 L0 [])) = U at Y₀ hin
  have hheapU : U.heap = h := by rw [← hU, ← eh]; rfl
  have hvmU : U.vm = vm₁ := by rw [← hU]; rfl
  have wb : Wb G.nar ("", methk.name, fcode, fml, fret) R' (X.p, X.e, (T.setVm vm₁).calling (mkF X.m pc Ls rest) ⟨cell.cls, 1⟩ (.ref a :: argsL).toArray, ⟨cell.cls, 1⟩, (.ref a :: argsL).toArray, .java (mkF X.m pc Ls rest) :: X.below, methk, ck) ((T.setVm vm₁).calling (mkF X.m pc Ls rest) ⟨cell.cls, 1⟩ (.ref a :: argsL).toArray).vm U h 0 0 :=
    ⟨⟨fx.1, f5, f6, f9, f7, rfl, EW.nil⟩, 0, [], Y₀, hheapU, (State.WarmedH.refl _).since 0, Nat.zero_le _, hZ1, trivial, Fr.nil _, ho, fun b => Bool.noConfusion (show false = true from b), fun _ => rfl⟩
  obtain ⟨t, o, hs1, hrun, hend, v, Lb, rfl, ⟨hq1, hF', ho'⟩, -, hEnd⟩ := body _ U rfl wb
  obtain ⟨-, hWe, hsame⟩ := hEnd.2 rfl
  obtain ⟨T', X2, -, -, ht⟩ := X₁.outOf (g := mkF X.m pc Ls rest) rfl (hb fx.2.1 hd) hend hWe hsame
  have hheap' : T'.heap = t.heap := (congrArg State.heap ht).symm
  have E := hext v t.heap hq1
  have wk : Wk G M R X vm T' t.heap (k + R'.cells) (n + R'.slots) := ⟨fx, k0, _, X2, hheap', hS, Nat.le_trans hk E.1, hZ, hown, Fr.app hF hF', ho', fun b => (hch b).trans (CHr.ext E (hch b).1), hnw⟩
  refine (go vm T' t.heap v wk hq1).of fun tt z => hstep tt fun acts => ?_
  rw [show ({ mkF X.m pc Ls (argsL.reverse ++ .ref a :: rest) with stack := rest } : JFrame) = mkF X.m pc Ls rest from rfl, hin acts]
  refine (Steps.weaken (mid := [.java (mkF X.m pc Ls rest)]) hs1).trans ?_
  rw [ht]; exact z
end Fwd

section Direct
variable {G : Gx} {M : Md} {R : Room} {X : Cx} {vm : Vm} {T : State} {h : Heap} {k n : Nat} {Q : Option Value → Heap → Prop}
/-- a call paid by the callee's own walk in the narrow frame: no word on its class's initialisation is asked -/
theorem Pay.direct (w : Wk G M R X vm T h k n) {y : MethodName} {bytes : ByteArray} {maxL len W : Nat} {ret : Option FieldType} {R' : Room} {as : Array Value} {L0 : Array Slot} {Q1 : Option Value → Heap → Prop} (wc : (Jvm.Cond.code y bytes maxL ret).before G.a0 G.Z = true) (hpn : plainFor y = true) (hL0 : ∀ mk, entryFrame mk as maxL = mkF mk 0 L0 [])
    (hfr : R'.frames + 1 ≤ R.frames) (hlo : W + (maxL + 11) + R'.locals ≤ R.locals) (hext : ∀ v h', Q1 v h' → Ext h h')
    (body : ∀ (X' : Cx) (T' : State), Wk G.nar (y.cls, y.name, bytes, maxL, ret) R' X' X'.s.vm T' h 0 0 → Go G.nar R' X' Q1 (T'.setTop (mkF X'.m 0 L0 []))) : Pay G R X y len W as h R'.cells R'.slots Q1 vm := by
  have hZ := w.wz
  have ho := w.old
  have hch := w.ch
  have hx := w.hx
  refine Or.inl ?_
  intro m meth c A g ig mk a S hg hsz hd hW hn hp
  obtain ⟨U, Ls, c0, s0⟩ := A
  dsimp only [Pt.U, Pt.locs, Pt.cells, Pt.slots] at S hn hp ⊢
  obtain ⟨rfl, eh, hc, hl⟩ := hp
  have hU : G.Z.Warmed39 U.vm := wtrans (s := X.s.setVm vm) hZ S.warmed
  have wc' := mv (s := U) (args := a) hU wc
  obtain ⟨methY, cY, hmY, hcY, hbY, hlY, hrY, hkY, -⟩ := Cond.code_spec hn wc'
  obtain ⟨kY, hkY', hnY⟩ := className_of_methodNamed hn
  obtain ⟨Y₀, hin⟩ := S.into hg hsz hd a (mk := mk) (methk := methY) (ck := cY) (R' := R') hmY hcY hkY (State.plainMethod.of_named hpn hn hmY) hfr (by rw [hlY]; omega) hc hl
  rw [hlY, hL0] at Y₀ hin
  generalize hUU : (U.setTop g).pushFrame (.java (mkF mk 0 L0 [])) = V at Y₀ hin
  have hheapV : V.heap = h := by rw [← hUU, ← eh]; rfl
  have wk : Wk G.nar (y.cls, y.name, bytes, maxL, ret) R' (X.p, X.e, U.calling g mk a, mk, a, .java g :: X.below, methY, cY) (U.calling g mk a).vm V h 0 0 :=
    ⟨⟨hx, hbY, hlY, hrY, hkY, (name_of_methodNamed hn hmY).1, EW.nil⟩, 0, [], Y₀, hheapV, (State.WarmedH.refl _).since 0, Nat.zero_le _, hU, findClass_of_methodNamed hn, Fr.nil _, ho, fun b => Bool.noConfusion (show false = true from b), fun _ => rfl⟩
  obtain ⟨t, o, hs1, hrun, hend, v, Lb, rfl, ⟨hq1, hF', ho'⟩, -, hEnd⟩ := body _ V wk
  obtain ⟨-, hWe, hsame⟩ := hEnd.2 rfl
  obtain ⟨T', X2, -, -, ht⟩ := S.outOf hg hd hend hWe hsame
  have hheap' : T'.heap = t.heap := (congrArg State.heap ht).symm
  have E := hext v t.heap hq1
  refine ⟨v, ⟨T', Ls ++ Lb, c0 + R'.cells, s0 + R'.slots⟩, X2, ⟨Lb, ⟨?_, hF', ?_, ?_, fun b => ?_⟩, rfl, rfl, rfl⟩, ?_⟩
  · show Q1 v T'.heap; rw [hheap']; exact hq1
  · show Old G.Z G.n0 T'.heap; rw [hheap']; exact ho'
  · show h.size ≤ T'.heap.size; rw [hheap']; exact E.1
  · show CHr G.Z G.EL vm h vm T'.heap; rw [hheap']; exact CHr.ext E (hch b).1
  · show Steps X.p.tables X.e X.below _ (T'.setTop _)
    rw [hin [], ← ht]
    exact Steps.weaken (mid := [.java g]) hs1
end Direct

section More2
open Jvm.Lambda
variable {G : Gx} {M : Md} {R : Room} {X : Cx} {vm : Vm} {T : State} {h : Heap} {k n : Nat} {Q : Option Value → Heap → Prop}
theorem Wk.ldiv (w : Wk G M R X vm T h k n) {pc q : Nat} {Ls : Array Slot} {st : List Value} {x y : Int64} (hd : decode M.code pc = .ok (.ldiv, 1)) (hy : y ≠ 0) (hq : pc + 1 = q) (go : Go G R X Q (T.setTop (mkF X.m q Ls (.long (x / y) :: st)))) : Go G R X Q (T.setTop (mkF X.m pc Ls (.long y :: .long x :: st))) := by
  subst hq
  have hx := w.hx
  have hd' := hb w.by_ hd
  have hh := w.here
  refine go.of fun t ht => ?_
  unfold mkF at ht ⊢
  jvm_step hh [hx, hd', hh.top, hy]
  exact ht
theorem Wk.pop2L (w : Wk G M R X vm T h k n) {pc q : Nat} {Ls : Array Slot} {st : List Value} {x : Int64} (hd : decode M.code pc = .ok (.pop2, 1)) (hq : pc + 1 = q) (go : Go G R X Q (T.setTop (mkF X.m q Ls st))) : Go G R X Q (T.setTop (mkF X.m pc Ls (.long x :: st))) := by
  subst hq
  have hx := w.hx
  have hd' := hb w.by_ hd
  have hh := w.here
  refine go.of fun t ht => ?_
  unfold mkF at ht ⊢
  jvm_step hh [hx, hd', hh.top, Value.category]
  exact ht
/-- an element of a table of boxes that stood before the law -/
theorem Wk.aaBox (w : Wk G M R X vm T h k n) {pc q : Nat} {Ls : Array Slot} {st : List Value} {b : Addr} {c : Cell} {K d : String} {z j : Int32} {val : Int32 → Value} (hd : decode M.code pc = .ok (.aaload, 1)) (B : Bxs G.Z b c K d z val) (hj : ¬ j < 0 ∧ j < z) (hq : pc + 1 = q)
    (go : ∀ r : Nat, Exa G.Z h r K → Fld G.Z h r K "value" d (val j) → Go G R X Q (T.setTop (mkF X.m q Ls (.ref r :: st)))) : Go G R X Q (T.setTop (mkF X.m pc Ls (.int j :: .ref b :: st))) := by
  subst hq
  have hold := w.old
  obtain ⟨fx, k0, L, S, eh, hS, hk, hZ, hown, r⟩ := w
  have hin : ¬ (j < 0 ∨ c.slots.size ≤ j.toNatClampNeg) := inb_of B.2.1 hj
  obtain ⟨x, e1, e2, e3⟩ := B.2.2.2 j hin
  have A := B.1.ext hold.2
  exact (go x (e2.ext hold.2) (e3.ext hold.2)).of fun t zz => S.aaload fx.1 (j := j) (v := .ref x) (by rw [eh]; exact A.1) (State.isArrayOf_alike hZ.alike A.2.1) rfl A.2.2 hin e1 (g := mkF X.m pc Ls (.int j :: .ref b :: st)) rfl rfl (hb fx.2.1 hd) _ zz
/-- invokevirtual of a private method -/
theorem Wk.callP (w : Wk G M R X vm T h k n) {pc q : Nat} {Ls : Array Slot} {st : List Value} {C : String} {y : MethodName} {bytes : ByteArray} {maxL nn : Nat} {ret : Option FieldType} {index W k1 n1 : Nat} {a : Addr} {argsL rest : List Value} {Q1 : Option Value → Heap → Prop} (hd : decode M.code pc = .ok (.invokevirtual index, 3)) (w1 : (Jvm.Cond.methodLink M.own index y).before G.a0 G.Z = true) (w2 : (Jvm.Cond.instanceMethod y).before G.a0 G.Z = true) (w3 : (Jvm.Cond.privateMethod y).before G.a0 G.Z = true) (w4 : (Jvm.Cond.code y bytes maxL ret).before G.a0 G.Z = true) (w5 : (Jvm.Cond.instantiable y.cls nn).before G.a0 G.Z = true) (hy : y.cls ≠ "java/lang/invoke/MethodHandle" ∧ y.cls ≠ "java/lang/invoke/VarHandle") (E : Exa G.Z h a C)
    (hst : st = argsL.reverse ++ .ref a :: rest) (hlen : ∀ sig, parseMethodDescriptor y.desc = some sig → argsL.length = sig.parameters.length) (hsz : Ls.size = M.mx) (hW : (rest.map fun v => v.category).sum ≤ W) (pay : Pay G R X y 3 W (.ref a :: argsL).toArray h k1 n1 Q1 vm) (hc : k + k1 ≤ R.cells) (hl : n + n1 ≤ R.slots) (hq : pc + 3 = q)
    (go : ∀ (vm' : Vm) (T' : State) (h' : Heap) (v : Option Value), Wk G M R X vm' T' h' (k + k1) (n + n1) → Q1 v h' → Go G R X Q (T'.setTop (mkF X.m q Ls (v.toList ++ rest)))) : Go G R X Q (T.setTop (mkF X.m pc Ls st)) := by
  subst hst hq
  obtain ⟨fx, k0, L, S, eh, hS, hk, hZ, hown, hF, ho, hch, hnw⟩ := w
  obtain ⟨cc, kk, i1, i2, -, i4, -, -⟩ := Cond.instantiable_spec (mv (s := X.s.setVm vm) (args := X.args) hZ w5)
  have hni : kk.isInterface = false := (Bool.or_eq_false_iff.mp i4).1
  have hpriv := Cond.privateMethod_at (mvP (s := X.s.setVm vm) (args := X.args) hZ w3)
  have hinst := mv (s := X.s.setVm vm) (args := X.args) hZ w2
  have hsel := Jvm.Stand.selects_self_of_private i1 i2 hni hpriv hinst hy
  obtain ⟨cell, c1, c2⟩ := E.cell
  rcases pay with pay | ⟨hwd, pay⟩
  · obtain ⟨v, vm₁, B, -, X', post, st'⟩ := S.privateBack fx.1 hown (mv (s := X.s.setVm vm) hZ w1) hinst hsel hpriv (mv (s := X.s.setVm vm) hZ w4) hy pay (g := mkF X.m pc Ls (argsL.reverse ++ .ref a :: rest)) rfl (hsz.trans fx.2.2.1.symm) (Steps.refl _) (a := a) (cell := cell) (by rw [eh]; exact c1) c2 hlen rfl (by show 2 * 0 + _ ≤ _; omega) (hb fx.2.1 hd) (fun _ _ => ⟨rfl, eh, hc, hl⟩)
    obtain ⟨w2, q1⟩ := finN fx hS hk hZ hown hF hch hnw X' post
    exact (go _ _ _ v w2 q1).of fun t z => st'.trans z
  · obtain ⟨v, vm₁, B, -, X', hS', hgr, post, st'⟩ := S.privateBackS fx.1 hown (mv (s := X.s.setVm vm) hZ w1) hinst hsel hpriv (mv (s := X.s.setVm vm) hZ w4) hy pay (g := mkF X.m pc Ls (argsL.reverse ++ .ref a :: rest)) rfl (hsz.trans fx.2.2.1.symm) (Steps.refl _) (a := a) (cell := cell) (by rw [eh]; exact c1) c2 hlen rfl (by show 2 * 0 + _ ≤ _; omega) (hb fx.2.1 hd) (fun _ _ => ⟨rfl, eh, hc, hl⟩)
    obtain ⟨w2, q1⟩ := finW hwd fx hS hk hZ hown hF hch X' hS' (by rw [← eh]; exact hgr) post
    exact (go _ _ _ v w2 q1).of fun t z => st'.trans z
/-- the made class's reference to its target, a class's method -/
def refM (σ : Lambda.Shape) (host : String) (idx ci : Nat) : Bool :=
  match σ.file host with
  | none => false
  | some D => match D.constantPool[idx]? with
    | some (.methodref ci' nt) => decide (ci' = ci) && decide (D.constantPool.className? ci = some σ.implClass) && decide (D.constantPool.nameAndType? nt = some (σ.implName, σ.implDesc.toString))
    | _ => false
theorem made_mref {st : Setting} {v : Vm} {d c : ClassId} {dk : Class} {σ : Lambda.Shape} {host : String} {idx ci : Nat} (hok : refM σ host idx ci = true) (hd : v.classes[d]? = some dk) (hname : dk.name = host) (hm : isMade st v d σ c = true) :
    ∃ (kK tk : Class) (file : ClassFile) (toy : ClassId) (t : MethodId) (nt : Nat), v.classes[c]? = some kK ∧ kK.cf = some file ∧ file.constantPool[idx]? = some (.methodref ci nt) ∧ file.constantPool.nameAndType? nt = some (σ.implName, σ.implDesc.toString) ∧ v.findClass σ.implClass = some toy ∧ v.classes[toy]? = some tk ∧ ((methodIn toy σ.implName σ.implDesc.toString tk.isInterface none).ask st v).1 = .ok t ∧ v.methodReady c idx t := by
  obtain ⟨dk', kK, ok, tk, file, cf, object, iface, toy, lay, methods, target, found, hd', hk, hfile, hcf, -, -, -, -, -, ht, htk, hg, -, -, -, -, -, -, hpool, -, -, -, hres, -⟩ := isMade_spec hm
  cases hd.symm.trans hd'
  rw [hname] at hcf
  unfold refM at hok
  rw [hcf] at hok
  dsimp only at hok
  split at hok
  · rename_i ci' nt hidx
    simp only [Bool.and_eq_true, decide_eq_true_eq] at hok
    obtain ⟨⟨rfl, hcn⟩, hnt⟩ := hok
    exact ⟨kK, tk, file, toy, target, nt, hk, hfile, by rw [hpool.2.1]; exact hidx, by rw [hpool.2.1]; exact hnt, ht, htk, hg, kK, hk, hres idx _ (resolvedOf_method hidx hcn ht htk hnt hg)⟩
  · cases hok
/-- the target that a method reference of the made class is resolved to is the method that the word names -/
theorem tgt_named {Z : State} {y : MethodName} {mT t : MethodId} {tk : Class} (hn : Z.methodNamed? y = some mT) (hp : y.cls ≠ "java/lang/invoke/MethodHandle" ∧ y.cls ≠ "java/lang/invoke/VarHandle") (htk : Z.vm.classes[mT.cls]? = some tk) (hl : ((methodIn mT.cls y.name y.desc tk.isInterface none).ask { classPath := fun _ => none } Z.vm).1 = .ok t) : t = mT := by
  have h1 := State.methodFound?_of_named hn hp
  have hf := findClass_of_methodNamed hn
  simp only [State.methodFound?, hf, htk, Option.bind_eq_bind, Option.bind_some] at h1
  rw [hl] at h1
  exact Option.some.inj h1
theorem Wb.callSt (w : Wb G M R X vm T h k n) {host : String} {σ : Lambda.Shape} {cK : ClassId} {y : MethodName} {bytes : ByteArray} {maxL : Nat} {ret : Option FieldType} {idx ci pc q W k1 n1 : Nat} {Ls : Array Slot} {st argsL rest : List Value} {Q1 : Option Value → Heap → Prop} (hm : X.m = ⟨cK, 1⟩) (hmd : Jvm.LamKit.Made G.Z host σ cK)
    (hok : refM σ host idx ci = true) (hok2 : clsK σ host ci y.cls = true) (hy : y.cls = σ.implClass ∧ y.name = σ.implName ∧ y.desc = σ.implDesc.toString) (hp : y.cls ≠ "java/lang/invoke/MethodHandle" ∧ y.cls ≠ "java/lang/invoke/VarHandle")
    (w1 : (Jvm.Cond.static y).before G.a0 G.Z = true) (w2 : (Jvm.Cond.initialized y.cls).before G.a0 G.Z = true) (w3 : (Jvm.Cond.code y bytes maxL ret).before G.a0 G.Z = true)
    (hd : decode M.code pc = .ok (.invokestatic idx, 3)) (hst : st = argsL.reverse ++ rest) (hlen : ∀ sig, parseMethodDescriptor y.desc = some sig → argsL.length = sig.parameters.length) (hsz : Ls.size = M.mx) (hW : (rest.map fun v => v.category).sum ≤ W)
    (pay : Pay G R X y 3 W argsL.toArray h k1 n1 Q1 vm) (hc : k + k1 ≤ R.cells) (hl : n + n1 ≤ R.slots) (hq : pc + 3 = q)
    (go : ∀ (vm' : Vm) (T' : State) (h' : Heap) (v : Option Value), Wb G M R X vm' T' h' (k + k1) (n + n1) → Q1 v h' → Go G R X Q (T'.setTop (mkF X.m q Ls (v.toList ++ rest)))) : Go G R X Q (T.setTop (mkF X.m pc Ls st)) := by
  subst hst
  have hx := w.hx
  have hd' := hb w.by_ hd
  have hh := w.here
  have hT := w.wT
  have al := hT.alike
  obtain ⟨d, dk, hd0, hdn, hmade, -⟩ := hmd
  obtain ⟨mT, hmT⟩ := Cond.code_named w3
  obtain ⟨methT, cT, hmethT, hcT, -, hlocT, -, -, -, hsigT⟩ := Cond.code_spec hmT w3
  have hstaticT : methT.isStatic = true := Cond.static_spec hmT hmethT w1
  obtain ⟨kT, hkT, hnameT⟩ := className_of_methodNamed hmT
  have hfT := findClass_of_methodNamed hmT
  have hinitK : kT.init = .initialized := Cond.initialized_spec hfT hkT w2
  obtain ⟨kK, tk, file, toy, t0, nt, hkK, hfile, hidx, hnt, htoy, htk, hlook, hready⟩ := made_mref hok hd0 hdn hmade
  obtain ⟨x1, x2, x3⟩ := hy
  rw [← x1] at htoy
  cases hfT.symm.trans htoy
  cases hkT.symm.trans htk
  rw [← x2, ← x3] at hlook
  have ht0 := tgt_named hmT hp hkT hlook
  subst ht0
  obtain ⟨kk1, a1, a2⟩ := made_cls hok2 hd0 hdn hmade hfT
  cases hkK.symm.trans a1
  obtain ⟨k', b1, b2, b3, -⟩ := res39 hT hkK a2
  obtain ⟨kk2, c1, c2⟩ := hready
  obtain ⟨k'', c3, c4, -, -⟩ := res39 hT c1 c2
  obtain ⟨kT', hkT', heT⟩ := al.2.2 _ _ hkT
  obtain ⟨b, hmem⟩ := memberRef_ask' (e := X.e) (vm := T.vm) (d := cK) (index := idx) b1 (by rw [b3]; exact hfile) (Or.inl hidx) hnt
  have hsp : ∀ z : Method, signaturePolymorphic kT' z = false := fun z => by
    have hn' : kT'.name = y.cls := by rw [heT]; exact hnameT
    simp [signaturePolymorphic, hn', hp.1, hp.2]
  refine w.callRaw (y := y) (mk := t0) (as := argsL.toArray) (rest := rest) hd hmT hsz hW (fun target hrest => ?_) pay hc hl hq go
  unfold mkF at hrest ⊢
  jvm_step hh [hx, hd', invokestatic.wp_ready (e := X.e) (s := T) (m := t0) (k := kT') (meth := methT) (args := argsL) (rest := rest) (f := { method := X.m, pc := pc, locals := Ls, stack := argsL.reverse ++ rest, locked := none }) hh.top (by rw [hm]; exact ⟨ci, _, _, b, t0.cls, kT', hmem, ⟨k', b1, b2⟩, hkT', by simp [hsp]⟩) (by rw [hm]; exact ⟨k'', c3, c4⟩) hkT' (by rw [al.method?]; exact hmethT) (hsp _) hstaticT (by rw [heT]; exact hinitK) (hlen _ hsigT) rfl]
  exact fun acts => hrest _
theorem Wb.callVp (w : Wb G M R X vm T h k n) {host C : String} {σ : Lambda.Shape} {cK : ClassId} {y : MethodName} {bytes : ByteArray} {maxL nn : Nat} {ret : Option FieldType} {idx ci pc q W k1 n1 : Nat} {Ls : Array Slot} {st argsL rest : List Value} {a : Addr} {Q1 : Option Value → Heap → Prop} (hm : X.m = ⟨cK, 1⟩) (hmd : Jvm.LamKit.Made G.Z host σ cK)
    (hok : refM σ host idx ci = true) (hok2 : clsK σ host ci y.cls = true) (hy : y.cls = σ.implClass ∧ y.name = σ.implName ∧ y.desc = σ.implDesc.toString) (hp : y.cls ≠ "java/lang/invoke/MethodHandle" ∧ y.cls ≠ "java/lang/invoke/VarHandle")
    (w1 : (Jvm.Cond.instanceMethod y).before G.a0 G.Z = true) (w2 : (Jvm.Cond.privateMethod y).before G.a0 G.Z = true) (w3 : (Jvm.Cond.code y bytes maxL ret).before G.a0 G.Z = true) (w5 : (Jvm.Cond.instantiable y.cls nn).before G.a0 G.Z = true) (E : Exa G.Z h a C)
    (hd : decode M.code pc = .ok (.invokevirtual idx, 3)) (hst : st = argsL.reverse ++ .ref a :: rest) (hlen : ∀ sig, parseMethodDescriptor y.desc = some sig → argsL.length = sig.parameters.length) (hsz : Ls.size = M.mx) (hW : (rest.map fun v => v.category).sum ≤ W)
    (pay : Pay G R X y 3 W (.ref a :: argsL).toArray h k1 n1 Q1 vm) (hc : k + k1 ≤ R.cells) (hl : n + n1 ≤ R.slots) (hq : pc + 3 = q)
    (go : ∀ (vm' : Vm) (T' : State) (h' : Heap) (v : Option Value), Wb G M R X vm' T' h' (k + k1) (n + n1) → Q1 v h' → Go G R X Q (T'.setTop (mkF X.m q Ls (v.toList ++ rest)))) : Go G R X Q (T.setTop (mkF X.m pc Ls st)) := by
  subst hst
  have hx := w.hx
  have hd' := hb w.by_ hd
  have hh := w.here
  have hT := w.wT
  have eh := w.heap
  have al := hT.alike
  obtain ⟨d, dk, hd0, hdn, hmade, -⟩ := hmd
  obtain ⟨mT, methT, hmT, hmethT, hstM, habM⟩ := Cond.instanceMethod_spec w1
  obtain ⟨methT', cT, hmethT', -, -, -, -, -, -, hsigT⟩ := Cond.code_spec hmT w3
  cases hmethT.symm.trans hmethT'
  have hpriv : methT.isPrivate = true := Cond.privateMethod_at w2 mT methT hmT hmethT
  obtain ⟨kT, hkT, hnameT⟩ := className_of_methodNamed hmT
  have hfT := findClass_of_methodNamed hmT
  obtain ⟨cc, kk, i1, i2, -, i4, -, -⟩ := Cond.instantiable_spec w5
  cases hfT.symm.trans i1
  cases hkT.symm.trans i2
  have hni : kT.isInterface = false := (Bool.or_eq_false_iff.mp i4).1
  obtain ⟨kK, tk, file, toy, t0, nt, hkK, hfile, hidx, hnt, htoy, htk, hlook, hready⟩ := made_mref hok hd0 hdn hmade
  obtain ⟨x1, x2, x3⟩ := hy
  rw [← x1] at htoy
  cases hfT.symm.trans htoy
  cases hkT.symm.trans htk
  rw [← x2, ← x3] at hlook
  have ht0 := tgt_named hmT hp hkT hlook
  subst ht0
  obtain ⟨kk1, a1, a2⟩ := made_cls hok2 hd0 hdn hmade hfT
  cases hkK.symm.trans a1
  obtain ⟨k', b1, b2, b3, -⟩ := res39 hT hkK a2
  obtain ⟨kk2, c1, c2⟩ := hready
  obtain ⟨k'', c3, c4, -, -⟩ := res39 hT c1 c2
  obtain ⟨kT', hkT', heT⟩ := al.2.2 _ _ hkT
  have hni' : kT'.isInterface = false := by rw [heT]; exact hni
  have hsp : ∀ z : Method, signaturePolymorphic kT' z = false := fun z => by
    have hn' : kT'.name = y.cls := by rw [heT]; exact hnameT
    simp [signaturePolymorphic, hn', hp.1, hp.2]
  obtain ⟨cell, g1, g2⟩ := E.cell
  have hmT' : T.vm.method? t0 = some methT := by rw [al.method?]; exact hmethT
  refine w.callRaw (y := y) (mk := t0) (as := (.ref a :: argsL).toArray) (rest := rest) hd hmT hsz hW (fun target hrest => ?_) pay hc hl hq go
  unfold mkF at hrest ⊢
  jvm_step hh [hx, hd', invokevirtual.wp_ready (e := X.e) (s := T) (r := t0) (m := t0) (k := kT') (mk := kT') (rmeth := methT) (meth := methT) (args := argsL) (rest := rest) (cell := cell) (a := a) (f := { method := X.m, pc := pc, locals := Ls, stack := argsL.reverse ++ .ref a :: rest, locked := none }) hh.top (by rw [hm]; exact ⟨k', file, ci, nt, t0.cls, kT', b1, by rw [b3]; exact hfile, hidx, ⟨k', b1, b2⟩, hkT', hni'⟩) (by rw [hm]; exact ⟨k'', c3, c4⟩) hkT' hmT' (hsp _) hstM (hlen _ hsigT) rfl (by rw [eh]; exact g1) g2 (selectMethod_private hmT' hpriv) hmT' habM hkT' hni']
  exact fun acts => hrest _
end More2

end Own
end Jvm.Pilot.@@N@@
namespace Jvm.Pilot.@@N@@
open Jvm Jvm.ClassFile Sem Op Lib Jvm.Free Jvm.Stand Jvm.LawKit Jvm.RoadKit Bundle Jvm.Pilot.@@N@@.Jvm.D Own

def Opt (Z : State) (h : Heap) (a : Nat) (v : Value) : Prop := Exa Z h a "java/util/Optional" ∧ Fld Z h a "java/util/Optional" "value" "Ljava/lang/Object;" v
def LongAt (Z : State) (h : Heap) (a : Nat) (x : Int64) : Prop := Exa Z h a "java/lang/Long" ∧ Fld Z h a "java/lang/Long" "value" "J" (.long x)
def S1 (Z : State) (h : Heap) (a : Nat) (c : Int32) : Prop := ∃ (b : Nat) (kb : ClassId), Exa Z h a "java/lang/String" ∧ Fld Z h a "java/lang/String" "value" "[B" (.ref b) ∧ Fld Z h a "java/lang/String" "coder" "B" (.int 0) ∧ Arv Z h b kb .byte 1 [.int c] (.int 0)
section
variable {Z : State} {h h' : Heap} {a k : Nat} {v : Value} {x : Int64} {c : Int32} {Cn : String}
theorem Opt.ext (O : Opt Z h a v) (E : Ext h h') : Opt Z h' a v := ⟨O.1.ext E, O.2.ext E⟩
theorem LongAt.ext (O : LongAt Z h a x) (E : Ext h h') : LongAt Z h' a x := ⟨O.1.ext E, O.2.ext E⟩
theorem S1.ext (O : S1 Z h a c) (E : Ext h h') : S1 Z h' a c := by obtain ⟨b, kb, s1, s2, s3, s4⟩ := O; exact ⟨b, kb, s1.ext E, s2.ext E, s3.ext E, s4.ext E⟩
theorem Opt.keep (O : Opt Z h a v) (E : Exa Z h k Cn) (hn : Cn ≠ "java/util/Optional") (K : Keep h h' [k]) : Opt Z h' a v := ⟨O.1.keep K, O.2.keep K fun q => E.ne O.1 hn (List.mem_singleton.mp q).symm⟩
theorem LongAt.keep (O : LongAt Z h a x) (E : Exa Z h k Cn) (hn : Cn ≠ "java/lang/Long") (K : Keep h h' [k]) : LongAt Z h' a x := ⟨O.1.keep K, O.2.keep K fun q => E.ne O.1 hn (List.mem_singleton.mp q).symm⟩
end
def cv (c : Int32) : Int32 := (c &&& (255 : Int32)).toUInt32.toUInt16.toUInt32.toInt32
def Hyp (G : Gx) : Prop := (∀ d ∈ tables_1, d.before G.a0 G.Z = true) ∧ EW G.Z G.a0 G.EL ∧ (∃ z : Int32, ¬ z = 0 ∧ Sta G.Z G.Z.heap "java/lang/String" "COMPACT_STRINGS" "Z" (.int z)) ∧ (G.wd = true ∧ G.EL = consts_1) ∧ (∃ (lc : Nat) (lcell : Cell), Sta G.Z G.Z.heap "java/lang/Long$LongCache" "cache" "[Ljava/lang/Long;" (.ref lc) ∧ Bxs G.Z lc lcell "java/lang/Long" "J" 256 (fun j => .long (j - 128).toInt64)) ∧ (∃ fm : Value, fm.isRef = true ∧ Sta G.Z G.Z.heap "jdk/internal/util/Preconditions" "SIOOBE_FORMATTER" "Ljava/util/function/BiFunction;" fm) ∧ (∃ (oi : Nat), Sta G.Z G.Z.heap "java/util/OptionalInt" "EMPTY" "Ljava/util/OptionalInt;" (.ref oi) ∧ Exa G.Z G.Z.heap oi "java/util/OptionalInt" ∧ Fld G.Z G.Z.heap oi "java/util/OptionalInt" "isPresent" "Z" (.int 0)) ∧ ∃ (oe : Nat), Sta G.Z G.Z.heap "java/util/Optional" "EMPTY" "Ljava/util/Optional;" (.ref oe) ∧ Opt G.Z G.Z.heap oe .null
theorem Hyp.tw {G : Gx} (H : Hyp G) {d : Jvm.Cond} (i : Nat) (q : tables_1[i]? = some d) : d.before G.a0 G.Z = true := H.1 d (List.mem_of_getElem? q)
theorem Hyp.el {G : Gx} (H : Hyp G) : EW G.Z G.a0 G.EL := H.2.1
theorem Hyp.cz {G : Gx} (H : Hyp G) : ∃ z : Int32, ¬ z = 0 ∧ Sta G.Z G.Z.heap "java/lang/String" "COMPACT_STRINGS" "Z" (.int z) := H.2.2.1
theorem Hyp.sa {G : Gx} (H : Hyp G) : ∀ d ∈ Bundle.stringAtoms, d.before G.a0 G.Z = true := fun d hd => H.1 d ((by decide +kernel : ∀ d ∈ Bundle.stringAtoms, d ∈ tables_1) d hd)
theorem Hyp.wd {G : Gx} (H : Hyp G) : G.wd = true := H.2.2.2.1.1
theorem Hyp.mem {G : Gx} (H : Hyp G) {p : String × Nat} (q : p ∈ consts_1) : p ∈ G.EL := H.2.2.2.1.2 ▸ q
theorem Hyp.mo {G : Gx} (H : Hyp G) : (∃ (lc : Nat) (lcell : Cell), Sta G.Z G.Z.heap "java/lang/Long$LongCache" "cache" "[Ljava/lang/Long;" (.ref lc) ∧ Bxs G.Z lc lcell "java/lang/Long" "J" 256 (fun j => .long (j - 128).toInt64)) ∧ (∃ fm : Value, fm.isRef = true ∧ Sta G.Z G.Z.heap "jdk/internal/util/Preconditions" "SIOOBE_FORMATTER" "Ljava/util/function/BiFunction;" fm) ∧ (∃ (oi : Nat), Sta G.Z G.Z.heap "java/util/OptionalInt" "EMPTY" "Ljava/util/OptionalInt;" (.ref oi) ∧ Exa G.Z G.Z.heap oi "java/util/OptionalInt" ∧ Fld G.Z G.Z.heap oi "java/util/OptionalInt" "isPresent" "Z" (.int 0)) ∧ ∃ (oe : Nat), Sta G.Z G.Z.heap "java/util/Optional" "EMPTY" "Ljava/util/Optional;" (.ref oe) ∧ Opt G.Z G.Z.heap oe .null := H.2.2.2.2

def HypN (G : Gx) : Prop := (∀ d ∈ tables_1, d.before G.a0 G.Z = true) ∧ EW G.Z G.a0 G.EL ∧ (∃ z : Int32, ¬ z = 0 ∧ Sta G.Z G.Z.heap "java/lang/String" "COMPACT_STRINGS" "Z" (.int z)) ∧ (∃ (lc : Nat) (lcell : Cell), Sta G.Z G.Z.heap "java/lang/Long$LongCache" "cache" "[Ljava/lang/Long;" (.ref lc) ∧ Bxs G.Z lc lcell "java/lang/Long" "J" 256 (fun j => .long (j - 128).toInt64))
theorem HypN.tw {G : Gx} (H : HypN G) {d : Jvm.Cond} (i : Nat) (q : tables_1[i]? = some d) : d.before G.a0 G.Z = true := H.1 d (List.mem_of_getElem? q)
theorem HypN.el {G : Gx} (H : HypN G) : EW G.Z G.a0 G.EL := H.2.1
theorem HypN.cz {G : Gx} (H : HypN G) : ∃ z : Int32, ¬ z = 0 ∧ Sta G.Z G.Z.heap "java/lang/String" "COMPACT_STRINGS" "Z" (.int z) := H.2.2.1
theorem HypN.mo {G : Gx} (H : HypN G) : (∃ (lc : Nat) (lcell : Cell), Sta G.Z G.Z.heap "java/lang/Long$LongCache" "cache" "[Ljava/lang/Long;" (.ref lc) ∧ Bxs G.Z lc lcell "java/lang/Long" "J" 256 (fun j => .long (j - 128).toInt64)) := H.2.2.2
theorem Hyp.n {G : Gx} (H : Hyp G) : HypN G := ⟨H.1, H.2.1, H.2.2.1, H.mo.1⟩
theorem Hyp.nar {G : Gx} (H : Hyp G) : HypN G.nar := ⟨H.1, EW.nil, H.2.2.1, H.mo.1⟩
theorem HypN.nar {G : Gx} (H : HypN G) : HypN G.nar := ⟨H.1, EW.nil, H.2.2.1, H.mo⟩
theorem div1 (x : Int64) : x / (1 : Int32).toInt64 = x := by show x / 1 = x; simp
theorem one_mul64 (x : Int64) : 1 * x = x := by simp
theorem zero_add64 (x : Int64) : 0 + x = x := by simp
theorem ite_no {p : Prop} [Decidable p] (c : (if p then (1 : Int32) else 0) = 0) : ¬ p := fun q => by rw [if_pos q] at c; exact absurd c (by decide)
theorem ite_yes {p : Prop} [Decidable p] (c : ¬ (if p then (1 : Int32) else 0) = 0) : p := Classical.byContradiction fun q => c (if_neg q)
theorem nar_ite (p : Prop) [Decidable p] : narrow .boolean (.int (if p then (1 : Int32) else 0)) = .int (if p then (1 : Int32) else 0) := by by_cases q : p <;> simp only [q, if_true, if_false] <;> rfl
theorem fit1 {t : FieldType} {v : Value} (h1 : narrow t v = v) (h2 : fits t v = true) : ∀ (i : Nat) t' v', [t][i]? = some t' → [v][i]? = some v' → narrow t' v' = v' ∧ fits t' v' = true := by
  intro i t' v' a b
  match i with
  | 0 => cases a; cases b; exact ⟨h1, h2⟩
  | n + 1 => simp at a
theorem fit2 {t t2 : FieldType} {v v2 : Value} (h1 : narrow t v = v) (h2 : fits t v = true) (h3 : narrow t2 v2 = v2) (h4 : fits t2 v2 = true) : ∀ (i : Nat) t' v', [t, t2][i]? = some t' → [v, v2][i]? = some v' → narrow t' v' = v' ∧ fits t' v' = true := by
  intro i t' v' a b
  match i with
  | 0 => cases a; cases b; exact ⟨h1, h2⟩
  | 1 => cases a; cases b; exact ⟨h3, h4⟩
  | n + 2 => simp at a

theorem mask36 (x : Int64) : 0 ≤ (x &&& 68719476735).toInt ∧ (x &&& 68719476735).toInt ≤ 68719476735 := by
  rw [c_maskL x 68719476735 36 (by decide) (by decide)]
  have : ((2 ^ 36 : Nat) : Int) = 68719476736 := by decide
  rw [this]; omega
theorem mask43 (x : Int64) : 0 ≤ (x &&& 8796093022207).toInt ∧ (x &&& 8796093022207).toInt ≤ 8796093022207 := by
  rw [c_maskL x 8796093022207 43 (by decide) (by decide)]
  have : ((2 ^ 43 : Nat) : Int) = 8796093022208 := by decide
  rw [this]; omega
theorem shr_bd (x : Int64) : 0 ≤ ((x.toUInt64 >>> ((36 : Int32) &&& 0x3f).toInt64.toUInt64).toInt64).toInt ∧ ((x.toUInt64 >>> ((36 : Int32) &&& 0x3f).toInt64.toUInt64).toInt64).toInt < 268435456 := by
  have h : (x.toUInt64 >>> ((36 : Int32) &&& 0x3f).toInt64.toUInt64).toNat < 268435456 := by
    have e : ((36 : Int32) &&& 0x3f).toInt64.toUInt64 = 36 := by decide
    rw [e, UInt64.toNat_shiftRight]
    have := x.toUInt64.toNat_lt
    have e2 : (36 : UInt64).toNat % 64 = 36 := rfl
    rw [e2, Nat.shiftRight_eq_div_pow]
    omega
  generalize (x.toUInt64 >>> ((36 : Int32) &&& 0x3f).toInt64.toUInt64) = z at h
  have e : z.toInt64.toInt = z.toBitVec.toInt := rfl
  have e3 : z.toBitVec.toNat = z.toNat := rfl
  rw [e, BitVec.toInt_eq_toNat_cond, e3]
  split <;> omega
theorem p_bd {lg na : Int64} (h1 : 0 ≤ lg.toInt ∧ lg.toInt ≤ 68719476735) (h2 : 0 ≤ na.toInt ∧ na.toInt < 268435456) : 0 ≤ ((4 : Int64) * (lg + na)).toInt ∧ ((4 : Int64) * (lg + na)).toInt < 1099511627776 := by
  have e : (4 : Int64).toInt = 4 := rfl
  have e2 : (lg + na).toInt = lg.toInt + na.toInt := by rw [Int64.toInt_add]; simp only [Int.bmod_def]; omega
  have e3 : ((4 : Int64) * (lg + na)).toInt = 4 * (lg.toInt + na.toInt) := by rw [Int64.toInt_mul, e2, e]; simp only [Int.bmod_def]; omega
  rw [e3]; omega
theorem neg_i {tz ga gb p : Int64} (hb : 0 ≤ gb.toInt ∧ gb.toInt ≤ 8796093022207) (hp : 0 ≤ p.toInt ∧ p.toInt < 1099511627776) (c : lcmpW ((tz + (ga + gb)) - ((tz + ga) + p)) (0 : Int64) < 0) (y : Int64) : lcmpW (y - (y + p)) (0 : Int64) < 0 := by
  rw [lw_lt] at c ⊢
  rw [show (tz + (ga + gb)) - ((tz + ga) + p) = gb - p by grind] at c
  rw [show y - (y + p) = 0 - p by grind]
  rw [Int64.lt_iff_toInt_lt] at c ⊢
  have e0 : (0 : Int64).toInt = 0 := rfl
  rw [e0] at c ⊢
  rw [Int64.toInt_sub] at c ⊢
  rw [e0]
  simp only [Int.bmod_def] at c ⊢
  omega
theorem eqv_n {Z : State} {args : Array Value} {X : Term} (h : (Jvm.Cond.eq X .null).value args Z none Z [] = some true) : X.eval args Z none [] Z = some .null := by
  obtain ⟨x, y, e1, e2, k1, k2⟩ := cmp_v (Or.inl h)
  cases (null_at (args := args) (first := Z) (s := Z) (o := none) (idx := [])).symm.trans e2
  simp only [Cond.value, e1, null_at] at h
  cases x <;> simp at h <;> first | exact e1 | skip
theorem sub_at {Z : State} {args : Array Value} {X Y : Term} {idx : List Nat} {x y : Int32} (hx : X.eval args Z none idx Z = some (.int x)) (hy : Y.eval args Z none idx Z = some (.int y)) : (Term.sub X Y).eval args Z none idx Z = some (.int (x - y)) := by simp [Term.eval, hx, hy]
theorem len_box {Z : State} {args : Array Value} {t : Term} {a : Addr} {cl : Cell} {ty : FieldType} (A : Arr Z Z.heap a cl ty) (ev : t.eval args Z none [] Z = some (.ref a)) (hl : (Term.length t).eval args Z none [] Z = some (.int 256)) : cl.slots.size < 2 ^ 31 ∧ cl.slots.size.toInt32 = 256 := by
  obtain ⟨x, c2, e1, e2, e3⟩ := Term.length_spec hl
  cases ev.symm.trans e1
  have hA := Arr.fin (Vm.Alike.refl _) A
  cases hA.symm.trans e2
  have h31 := Jvm.Free.SBG.length_lt e1 e2 hl
  refine ⟨h31, ?_⟩
  have e4 := (len_f e1 e2 h31).symm.trans hl
  simpa using e4
theorem lc_ok {x : Int64} (c0 : ¬ lcmpW x (-128 : Int64) < 0) (c1 : ¬ (0 : Int32) < lcmpW x (127 : Int64)) : (¬ (x.toInt32 + (128 : Int32)) < 0 ∧ (x.toInt32 + (128 : Int32)) < 256) ∧ ((x.toInt32 + (128 : Int32)) - 128).toInt64 = x := by
  rw [lw_lt] at c0
  rw [lw_gt] at c1
  rw [Int64.lt_iff_toInt_lt] at c0 c1
  have e1 : (-128 : Int64).toInt = -128 := by decide
  have e2 : (127 : Int64).toInt = 127 := by decide
  rw [e1] at c0
  rw [e2] at c1
  have e3 : (128 : Int32).toInt = 128 := rfl
  have e4 : (x.toInt32 + 128).toInt = x.toInt + 128 := by
    rw [Int32.toInt_add, Int64.toInt_toInt32, e3]
    simp only [Int.bmod_def]
    omega
  refine ⟨⟨?_, ?_⟩, ?_⟩
  · rw [Int32.lt_iff_toInt_lt, e4]
    have : (0 : Int32).toInt = 0 := rfl
    omega
  · rw [Int32.lt_iff_toInt_lt, e4]
    have : (256 : Int32).toInt = 256 := rfl
    omega
  · apply Int64.toInt_inj.mp
    rw [Int32.toInt_toInt64, Int32.toInt_sub, e4, e3]
    simp only [Int.bmod_def]
    omega

theorem d0_0 : decode jdk_42_method_55_code 0 = .ok (.aload_n 0, 1) := by decide +kernel
theorem d0_1 : decode jdk_42_method_55_code 1 = .ok (.getfield 9, 3) := by decide +kernel
theorem d0_4 : decode jdk_42_method_55_code 4 = .ok (.arraylength, 1) := by decide +kernel
theorem d0_5 : decode jdk_42_method_55_code 5 = .ok (.ifCond .ne 7, 3) := by decide +kernel
theorem d0_12 : decode jdk_42_method_55_code 12 = .ok (.iconst 0, 1) := by decide +kernel
theorem d0_13 : decode jdk_42_method_55_code 13 = .ok (.ireturn, 1) := by decide +kernel
theorem pn1 : plainName "java/lang/String" = true := by first | (simp [plainName, overriddenIn]; done) | decide +kernel
set_option maxRecDepth 65536 in
set_option maxHeartbeats 40000000 in
theorem con_emp (G : Gx) (H : Hyp G) (a : Nat) (c : Int32) (h : Heap) (ho : Old G.Z G.n0 h) (S : S1 G.Z h a c) :
    Con G (⟨"java/lang/String", "isEmpty", "()Z"⟩ : MethodName) jdk_42_method_55_code 1 (some .boolean) [] ({ frames := 0, cells := 0, slots := 0, locals := 0 } : Room) #[(.ref a)] h (vQ fun v h' => v = .int 0 ∧ h = h') := by
  refine Con.intro H.el ho (plainFor_of_name pn1) (Ls := #[.val (.ref a)]) (fun m => by first | (simp [entryFrame, mkF, argsToLocals, Value.category]; done) | rfl) ?_
  intro X vm T w
  obtain ⟨b, kb, s1, s2, s3, s4⟩ := S
  refine w.aloadN (q := 1) d0_0 rfl rfl rfl ?_
  refine w.getF (q := 4) d0_1 (H.tw 46 rfl) Via.refl s2 rfl fun T1 w1 => ?_
  refine w1.alen (q := 5) d0_4 s4 rfl ?_
  refine w1.ifY (q := 12) d0_5 ((if0 _ _).trans (feq (by decide)).2) (by decide) (by decide) ?_
  refine w1.iconst (q := 13) (0 : Int32) d0_12 rfl rfl ?_
  exact w1.retZ d0_13 (t := .boolean) rfl (by decide) rfl (by decide) (by decide) ⟨_, rfl, ⟨rfl, rfl⟩⟩
theorem d2_0 : decode jdk_42_method_152_code 0 = .ok (.getstatic 38, 3) := by decide +kernel
theorem d2_3 : decode jdk_42_method_152_code 3 = .ok (.ifCond .eq 10, 3) := by decide +kernel
theorem d2_6 : decode jdk_42_method_152_code 6 = .ok (.aload_n 0, 1) := by decide +kernel
theorem d2_7 : decode jdk_42_method_152_code 7 = .ok (.getfield 15, 3) := by decide +kernel
theorem d2_10 : decode jdk_42_method_152_code 10 = .ok (.goto 4, 3) := by decide +kernel
theorem d2_14 : decode jdk_42_method_152_code 14 = .ok (.ireturn, 1) := by decide +kernel
set_option maxRecDepth 65536 in
set_option maxHeartbeats 40000000 in
theorem con_coder (G : Gx) (H : Hyp G) (a : Nat) (c : Int32) (h : Heap) (ho : Old G.Z G.n0 h) (S : S1 G.Z h a c) :
    Con G (⟨"java/lang/String", "coder", "()B"⟩ : MethodName) jdk_42_method_152_code 1 (some .byte) [] ({ frames := 0, cells := 0, slots := 0, locals := 0 } : Room) #[(.ref a)] h (vQ fun v h' => v = .int 0 ∧ h = h') := by
  refine Con.intro H.el ho (plainFor_of_name pn1) (Ls := #[.val (.ref a)]) (fun m => by first | (simp [entryFrame, mkF, argsToLocals, Value.category]; done) | rfl) ?_
  intro X vm T w
  obtain ⟨b, kb, s1, s2, s3, s4⟩ := S
  obtain ⟨z, nz, Sz⟩ := H.cz
  refine w.getS (q := 3) d2_0 (H.tw 64 rfl) Via.refl Sz rfl fun T1 w1 => ?_
  refine w1.ifN (q := 6) d2_3 ((if0 _ _).trans (feq nz).1) rfl ?_
  refine w1.aloadN (q := 7) d2_6 rfl rfl rfl ?_
  refine w1.getF (q := 10) d2_7 (H.tw 65 rfl) Via.refl s3 rfl fun T2 w2 => ?_
  refine w2.goto (q := 14) d2_10 (by decide) (by decide) ?_
  exact w2.retZ d2_14 (t := .byte) rfl (by decide) rfl (by decide) (by decide) ⟨_, rfl, ⟨rfl, rfl⟩⟩
theorem d3_0 : decode jdk_42_method_54_code 0 = .ok (.aload_n 0, 1) := by decide +kernel
theorem d3_1 : decode jdk_42_method_54_code 1 = .ok (.getfield 9, 3) := by decide +kernel
theorem d3_4 : decode jdk_42_method_54_code 4 = .ok (.arraylength, 1) := by decide +kernel
theorem d3_5 : decode jdk_42_method_54_code 5 = .ok (.aload_n 0, 1) := by decide +kernel
theorem d3_6 : decode jdk_42_method_54_code 6 = .ok (.invokevirtual 335, 3) := by decide +kernel
theorem pd4 : parseMethodDescriptor "()B" = some ⟨[], some .byte⟩ := by decide +kernel
theorem d3_9 : decode jdk_42_method_54_code 9 = .ok (.ishr, 1) := by decide +kernel
theorem d3_10 : decode jdk_42_method_54_code 10 = .ok (.ireturn, 1) := by decide +kernel
set_option maxRecDepth 65536 in
set_option maxHeartbeats 40000000 in
theorem con_len (G : Gx) (H : Hyp G) (a : Nat) (c : Int32) (h : Heap) (ho : Old G.Z G.n0 h) (S : S1 G.Z h a c) :
    Con G (⟨"java/lang/String", "length", "()I"⟩ : MethodName) jdk_42_method_54_code 1 (some .int) [] ({ frames := 1, cells := 0, slots := 0, locals := 13 } : Room) #[(.ref a)] h (vQ fun v h' => v = .int 1 ∧ h = h') := by
  refine Con.intro H.el ho (plainFor_of_name pn1) (Ls := #[.val (.ref a)]) (fun m => by first | (simp [entryFrame, mkF, argsToLocals, Value.category]; done) | rfl) ?_
  intro X vm T w
  have S0 := S
  obtain ⟨b, kb, s1, s2, s3, s4⟩ := S
  refine w.aloadN (q := 1) d3_0 rfl rfl rfl ?_
  refine w.getF (q := 4) d3_1 (H.tw 46 rfl) Via.refl s2 rfl fun T1 w1 => ?_
  refine w1.alen (q := 5) d3_4 s4 rfl ?_
  refine w1.aloadN (q := 6) d3_5 rfl rfl rfl ?_
  refine w1.callV (q := 9) d3_6 (H.tw 59 rfl) (H.tw 60 rfl) (notFace_of_selects (C := "java/lang/String") (args := G.a0) (H.tw 62 rfl)) (H.tw 62 rfl) (H.tw 61 rfl) (by decide) s1 (argsL := []) (rest := [(.int (1 : Int32))]) rfl (lenOf pd4 rfl) rfl (W := 1) (Nat.le_of_eq rfl) ((con_coder G H a c h ho S0).pay w1 (H.tw 63 rfl) (H.tw 7 rfl) (by decide) (by decide)) (by decide) (by decide) rfl fun vm2 T2 h2 v2 w2 q2 => ?_
  obtain ⟨_, rfl, rfl, rfl⟩ := q2
  show Go _ _ _ _ (T2.setTop (mkF X.m 9 #[.val (.ref a)] [(.int (0 : Int32)), (.int (1 : Int32))]))
  refine w2.ishr (q := 10) d3_9 rfl ?_
  exact w2.retI d3_10 rfl (by decide) (by decide) ⟨_, rfl, ⟨rfl, rfl⟩⟩
theorem d5_0 : decode jdk_42_method_154_code 0 = .ok (.getstatic 38, 3) := by decide +kernel
theorem d5_3 : decode jdk_42_method_154_code 3 = .ok (.ifCond .eq 14, 3) := by decide +kernel
theorem d5_6 : decode jdk_42_method_154_code 6 = .ok (.aload_n 0, 1) := by decide +kernel
theorem d5_7 : decode jdk_42_method_154_code 7 = .ok (.getfield 15, 3) := by decide +kernel
theorem d5_10 : decode jdk_42_method_154_code 10 = .ok (.ifCond .ne 7, 3) := by decide +kernel
theorem d5_13 : decode jdk_42_method_154_code 13 = .ok (.iconst 1, 1) := by decide +kernel
theorem d5_14 : decode jdk_42_method_154_code 14 = .ok (.goto 4, 3) := by decide +kernel
theorem d5_18 : decode jdk_42_method_154_code 18 = .ok (.ireturn, 1) := by decide +kernel
set_option maxRecDepth 65536 in
set_option maxHeartbeats 40000000 in
theorem con_lat (G : Gx) (H : Hyp G) (a : Nat) (c : Int32) (h : Heap) (ho : Old G.Z G.n0 h) (S : S1 G.Z h a c) :
    Con G (⟨"java/lang/String", "isLatin1", "()Z"⟩ : MethodName) jdk_42_method_154_code 1 (some .boolean) [] ({ frames := 0, cells := 0, slots := 0, locals := 0 } : Room) #[(.ref a)] h (vQ fun v h' => v = .int 1 ∧ h = h') := by
  refine Con.intro H.el ho (plainFor_of_name pn1) (Ls := #[.val (.ref a)]) (fun m => by first | (simp [entryFrame, mkF, argsToLocals, Value.category]; done) | rfl) ?_
  intro X vm T w
  obtain ⟨b, kb, s1, s2, s3, s4⟩ := S
  obtain ⟨z, nz, Sz⟩ := H.cz
  refine w.getS (q := 3) d5_0 (H.tw 64 rfl) Via.refl Sz rfl fun T1 w1 => ?_
  refine w1.ifN (q := 6) d5_3 ((if0 _ _).trans (feq nz).1) rfl ?_
  refine w1.aloadN (q := 7) d5_6 rfl rfl rfl ?_
  refine w1.getF (q := 10) d5_7 (H.tw 65 rfl) Via.refl s3 rfl fun T2 w2 => ?_
  refine w2.ifN (q := 13) d5_10 ((if0 _ _).trans (teq rfl).2) rfl ?_
  refine w2.iconst (q := 14) (1 : Int32) d5_13 rfl rfl ?_
  refine w2.goto (q := 18) d5_14 (by decide) (by decide) ?_
  exact w2.retZ d5_18 (t := .boolean) rfl (by decide) rfl (by decide) (by decide) ⟨_, rfl, ⟨rfl, rfl⟩⟩
theorem d6_0 : decode jdk_41_method_11_code 0 = .ok (.iload_n 0, 1) := by decide +kernel
theorem d6_1 : decode jdk_41_method_11_code 1 = .ok (.ifCond .lt 8, 3) := by decide +kernel
theorem d6_4 : decode jdk_41_method_11_code 4 = .ok (.iload_n 0, 1) := by decide +kernel
theorem d6_5 : decode jdk_41_method_11_code 5 = .ok (.iload_n 1, 1) := by decide +kernel
theorem d6_6 : decode jdk_41_method_11_code 6 = .ok (.if_icmp .lt 10, 3) := by decide +kernel
theorem d6_16 : decode jdk_41_method_11_code 16 = .ok (.iload_n 0, 1) := by decide +kernel
theorem d6_17 : decode jdk_41_method_11_code 17 = .ok (.ireturn, 1) := by decide +kernel
theorem pn7 : plainName "jdk/internal/util/Preconditions" = true := by first | (simp [plainName, overriddenIn]; done) | decide +kernel
set_option maxRecDepth 65536 in
set_option maxHeartbeats 40000000 in
theorem con_pck (G : Gx) (H : Hyp G) (fm : Value) (hfm : fm.isRef = true) (h : Heap) (ho : Old G.Z G.n0 h)  :
    Con G (⟨"jdk/internal/util/Preconditions", "checkIndex", "(IILjava/util/function/BiFunction;)I"⟩ : MethodName) jdk_41_method_11_code 3 (some .int) [] ({ frames := 0, cells := 0, slots := 0, locals := 0 } : Room) #[(.int (0 : Int32)), (.int (1 : Int32)), fm] h (vQ fun v h' => v = .int 0 ∧ h = h') := by
  refine Con.intro H.el ho (plainFor_of_name pn7) (Ls := #[.val (.int (0 : Int32)), .val (.int (1 : Int32)), .val fm]) (fun m => by (rcases ref_cases hfm with rfl | ⟨_, rfl⟩) <;> first | (simp [entryFrame, mkF, argsToLocals, Value.category]; done) | rfl) ?_
  intro X vm T w
  refine w.iloadN (q := 1) d6_0 rfl rfl ?_
  refine w.ifN (q := 4) d6_1 ((if0 _ _).trans (flt (by decide)).1) rfl ?_
  refine w.iloadN (q := 5) d6_4 rfl rfl ?_
  refine w.iloadN (q := 6) d6_5 rfl rfl ?_
  refine w.icY (q := 16) d6_6 ((tlt (by decide)).1) (by decide) (by decide) ?_
  refine w.iloadN (q := 17) d6_16 rfl rfl ?_
  exact w.retI d6_17 rfl (by decide) (by decide) ⟨_, rfl, ⟨rfl, rfl⟩⟩
theorem d8_0 : decode jdk_42_method_155_code 0 = .ok (.iload_n 0, 1) := by decide +kernel
theorem d8_1 : decode jdk_42_method_155_code 1 = .ok (.iload_n 1, 1) := by decide +kernel
theorem d8_2 : decode jdk_42_method_155_code 2 = .ok (.getstatic 1053, 3) := by decide +kernel
theorem d8_5 : decode jdk_42_method_155_code 5 = .ok (.invokestatic 1059, 3) := by decide +kernel
theorem pd9 : parseMethodDescriptor "(IILjava/util/function/BiFunction;)I" = some ⟨[.int, .int, (.object "java/util/function/BiFunction")], some .int⟩ := by decide +kernel
theorem d8_8 : decode jdk_42_method_155_code 8 = .ok (.pop, 1) := by decide +kernel
theorem d8_9 : decode jdk_42_method_155_code 9 = .ok (.return_, 1) := by decide +kernel
set_option maxRecDepth 65536 in
set_option maxHeartbeats 40000000 in
theorem con_sck (G : Gx) (H : Hyp G)  (h : Heap) (ho : Old G.Z G.n0 h)  :
    Con G (⟨"java/lang/String", "checkIndex", "(II)V"⟩ : MethodName) jdk_42_method_155_code 2 none [] ({ frames := 1, cells := 0, slots := 0, locals := 14 } : Room) #[(.int (0 : Int32)), (.int (1 : Int32))] h (nQ fun h' => h = h') := by
  refine Con.intro H.el ho (plainFor_of_name pn1) (Ls := #[.val (.int (0 : Int32)), .val (.int (1 : Int32))]) (fun m => by first | (simp [entryFrame, mkF, argsToLocals, Value.category]; done) | rfl) ?_
  intro X vm T w
  obtain ⟨_, ⟨fm, hfm, Sfm⟩, _⟩ := H.mo
  refine w.iloadN (q := 1) d8_0 rfl rfl ?_
  refine w.iloadN (q := 2) d8_1 rfl rfl ?_
  refine w.getS (q := 5) d8_2 (H.tw 83 rfl) Via.refl Sfm rfl fun T1 w1 => ?_
  refine w1.callS (q := 8) d8_5 (H.tw 85 rfl) (H.tw 86 rfl) (H.tw 84 rfl) (H.tw 87 rfl) (by decide) (argsL := [(.int (0 : Int32)), (.int (1 : Int32)), fm]) (rest := []) rfl (lenOf pd9 rfl) rfl (W := 0) (Nat.le_of_eq rfl) ((con_pck G H fm hfm h ho).pay w1 (H.tw 87 rfl) (H.tw 84 rfl) (by decide) (by decide)) (by decide) (by decide) rfl fun vm2 T2 h2 v2 w2 q2 => ?_
  obtain ⟨_, rfl, rfl, rfl⟩ := q2
  show Go _ _ _ _ (T2.setTop (mkF X.m 8 #[.val (.int (0 : Int32)), .val (.int (1 : Int32))] [(.int (0 : Int32))]))
  refine w2.pop (q := 9) d8_8 rfl rfl ?_
  exact w2.retV d8_9 rfl (by decide) (by decide) ⟨rfl, rfl⟩
theorem d10_0 : decode jdk_43_method_2_code 0 = .ok (.iload_n 1, 1) := by decide +kernel
theorem d10_1 : decode jdk_43_method_2_code 1 = .ok (.aload_n 0, 1) := by decide +kernel
theorem d10_2 : decode jdk_43_method_2_code 2 = .ok (.arraylength, 1) := by decide +kernel
theorem d10_3 : decode jdk_43_method_2_code 3 = .ok (.invokestatic 9, 3) := by decide +kernel
theorem pd11 : parseMethodDescriptor "(II)V" = some ⟨[.int, .int], none⟩ := by decide +kernel
theorem d10_6 : decode jdk_43_method_2_code 6 = .ok (.aload_n 0, 1) := by decide +kernel
theorem d10_7 : decode jdk_43_method_2_code 7 = .ok (.iload_n 1, 1) := by decide +kernel
theorem d10_8 : decode jdk_43_method_2_code 8 = .ok (.baload, 1) := by decide +kernel
theorem d10_9 : decode jdk_43_method_2_code 9 = .ok (.sipush 255, 3) := by decide +kernel
theorem d10_12 : decode jdk_43_method_2_code 12 = .ok (.iand, 1) := by decide +kernel
theorem d10_13 : decode jdk_43_method_2_code 13 = .ok (.i2c, 1) := by decide +kernel
theorem d10_14 : decode jdk_43_method_2_code 14 = .ok (.ireturn, 1) := by decide +kernel
theorem pn12 : plainName "java/lang/StringLatin1" = true := by first | (simp [plainName, overriddenIn]; done) | decide +kernel
set_option maxRecDepth 65536 in
set_option maxHeartbeats 40000000 in
theorem con_lchr (G : Gx) (H : Hyp G) (b : Nat) (kb : ClassId) (c : Int32) (h : Heap) (ho : Old G.Z G.n0 h) (A : Arv G.Z h b kb .byte 1 [.int c] (.int 0)) (hn : narrow .char (.int (cv c)) = .int (cv c)) :
    Con G (⟨"java/lang/StringLatin1", "charAt", "([BI)C"⟩ : MethodName) jdk_43_method_2_code 2 (some .char) [] ({ frames := 2, cells := 0, slots := 0, locals := 27 } : Room) #[(.ref b), (.int (0 : Int32))] h (vQ fun v h' => v = .int (cv c) ∧ h = h') := by
  refine Con.intro H.el ho (plainFor_of_name pn12) (Ls := #[.val (.ref b), .val (.int (0 : Int32))]) (fun m => by first | (simp [entryFrame, mkF, argsToLocals, Value.category]; done) | rfl) ?_
  intro X vm T w
  refine w.iloadN (q := 1) d10_0 rfl rfl ?_
  refine w.aloadN (q := 2) d10_1 rfl rfl rfl ?_
  refine w.alen (q := 3) d10_2 A rfl ?_
  refine w.callS (q := 6) d10_3 (H.tw 80 rfl) (H.tw 81 rfl) (H.tw 7 rfl) (H.tw 82 rfl) (by decide) (argsL := [(.int (0 : Int32)), (.int (1 : Int32))]) (rest := []) rfl (lenOf pd11 rfl) rfl (W := 0) (Nat.le_of_eq rfl) ((con_sck G H h ho).pay w (H.tw 82 rfl) (H.tw 7 rfl) (by decide) (by decide)) (by decide) (by decide) rfl fun vm1 T1 h1 v1 w1 q1 => ?_
  obtain ⟨rfl, rfl⟩ := q1
  show Go _ _ _ _ (T1.setTop (mkF X.m 6 #[.val (.ref b), .val (.int (0 : Int32))] []))
  refine w1.aloadN (q := 7) d10_6 rfl rfl rfl ?_
  refine w1.iloadN (q := 8) d10_7 rfl rfl ?_
  refine w1.baload (q := 9) (x := c) d10_8 A ⟨by decide, by decide⟩ rfl rfl ?_
  refine w1.sipush (q := 12) (255 : Int32) d10_9 rfl rfl ?_
  refine w1.iand (q := 13) d10_12 rfl ?_
  refine w1.i2c (q := 14) d10_13 rfl ?_
  exact w1.retZ d10_14 (t := .char) rfl (by decide) hn (by decide) (by decide) ⟨_, rfl, ⟨rfl, rfl⟩⟩
theorem d13_0 : decode jdk_42_method_56_code 0 = .ok (.aload_n 0, 1) := by decide +kernel
theorem d13_1 : decode jdk_42_method_56_code 1 = .ok (.invokevirtual 492, 3) := by decide +kernel
theorem pd14 : parseMethodDescriptor "()Z" = some ⟨[], some .boolean⟩ := by decide +kernel
theorem d13_4 : decode jdk_42_method_56_code 4 = .ok (.ifCond .eq 12, 3) := by decide +kernel
theorem d13_7 : decode jdk_42_method_56_code 7 = .ok (.aload_n 0, 1) := by decide +kernel
theorem d13_8 : decode jdk_42_method_56_code 8 = .ok (.getfield 9, 3) := by decide +kernel
theorem d13_11 : decode jdk_42_method_56_code 11 = .ok (.iload_n 1, 1) := by decide +kernel
theorem d13_12 : decode jdk_42_method_56_code 12 = .ok (.invokestatic 495, 3) := by decide +kernel
theorem pd15 : parseMethodDescriptor "([BI)C" = some ⟨[(.array .byte), .int], some .char⟩ := by decide +kernel
theorem d13_15 : decode jdk_42_method_56_code 15 = .ok (.ireturn, 1) := by decide +kernel
set_option maxRecDepth 65536 in
set_option maxHeartbeats 40000000 in
theorem con_chr (G : Gx) (H : Hyp G) (a : Nat) (c : Int32) (h : Heap) (ho : Old G.Z G.n0 h) (S : S1 G.Z h a c) (hn : narrow .char (.int (cv c)) = .int (cv c)) :
    Con G (⟨"java/lang/String", "charAt", "(I)C"⟩ : MethodName) jdk_42_method_56_code 2 (some .char) [] ({ frames := 3, cells := 0, slots := 0, locals := 40 } : Room) #[(.ref a), (.int (0 : Int32))] h (vQ fun v h' => v = .int (cv c) ∧ h = h') := by
  refine Con.intro H.el ho (plainFor_of_name pn1) (Ls := #[.val (.ref a), .val (.int (0 : Int32))]) (fun m => by first | (simp [entryFrame, mkF, argsToLocals, Value.category]; done) | rfl) ?_
  intro X vm T w
  have S0 := S
  obtain ⟨b, kb, s1, s2, s3, s4⟩ := S
  refine w.aloadN (q := 1) d13_0 rfl rfl rfl ?_
  refine w.callV (q := 4) d13_1 (H.tw 71 rfl) (H.tw 72 rfl) (notFace_of_selects (C := "java/lang/String") (args := G.a0) (H.tw 74 rfl)) (H.tw 74 rfl) (H.tw 73 rfl) (by decide) s1 (argsL := []) (rest := []) rfl (lenOf pd14 rfl) rfl (W := 0) (Nat.le_of_eq rfl) ((con_lat G H a c h ho S0).pay w (H.tw 75 rfl) (H.tw 7 rfl) (by decide) (by decide)) (by decide) (by decide) rfl fun vm1 T1 h1 v1 w1 q1 => ?_
  obtain ⟨_, rfl, rfl, rfl⟩ := q1
  show Go _ _ _ _ (T1.setTop (mkF X.m 4 #[.val (.ref a), .val (.int (0 : Int32))] [(.int (1 : Int32))]))
  refine w1.ifN (q := 7) d13_4 ((if0 _ _).trans (feq (by decide)).1) rfl ?_
  refine w1.aloadN (q := 8) d13_7 rfl rfl rfl ?_
  refine w1.getF (q := 11) d13_8 (H.tw 46 rfl) Via.refl s2 rfl fun T2 w2 => ?_
  refine w2.iloadN (q := 12) d13_11 rfl rfl ?_
  refine w2.callS (q := 15) d13_12 (H.tw 76 rfl) (H.tw 77 rfl) (H.tw 78 rfl) (H.tw 79 rfl) (by decide) (argsL := [(.ref b), (.int (0 : Int32))]) (rest := []) rfl (lenOf pd15 rfl) rfl (W := 0) (Nat.le_of_eq rfl) ((con_lchr G H b kb c h ho s4 hn).pay w2 (H.tw 79 rfl) (H.tw 78 rfl) (by decide) (by decide)) (by decide) (by decide) rfl fun vm3 T3 h3 v3 w3 q3 => ?_
  obtain ⟨_, rfl, rfl, rfl⟩ := q3
  show Go _ _ _ _ (T3.setTop (mkF X.m 15 #[.val (.ref a), .val (.int (0 : Int32))] [(.int (cv c))]))
  exact w3.retZ d13_15 (t := .char) rfl (by decide) hn (by decide) (by decide) ⟨_, rfl, ⟨rfl, rfl⟩⟩
theorem d16_0 : decode jdk_89_method_16_code 0 = .ok (.iload_n 0, 1) := by decide +kernel
theorem d16_1 : decode jdk_89_method_16_code 1 = .ok (.ldc 75, 2) := by decide +kernel
theorem d16_3 : decode jdk_89_method_16_code 3 = .ok (.if_icmp .lt 13, 3) := by decide +kernel
theorem d16_16 : decode jdk_89_method_16_code 16 = .ok (.iconst 0, 1) := by decide +kernel
theorem d16_17 : decode jdk_89_method_16_code 17 = .ok (.ireturn, 1) := by decide +kernel
theorem pn17 : plainName "java/lang/Character" = true := by first | (simp [plainName, overriddenIn]; done) | decide +kernel
set_option maxRecDepth 65536 in
set_option maxHeartbeats 40000000 in
theorem con_sur (G : Gx) (H : Hyp G) (c : Int32) (h : Heap) (ho : Old G.Z G.n0 h) (hc : c < 55296) :
    Con G (⟨"java/lang/Character", "isSurrogate", "(C)Z"⟩ : MethodName) jdk_89_method_16_code 1 (some .boolean) [] ({ frames := 0, cells := 0, slots := 0, locals := 0 } : Room) #[(.int c)] h (vQ fun v h' => v = .int 0 ∧ h = h') := by
  refine Con.intro H.el ho (plainFor_of_name pn17) (Ls := #[.val (.int c)]) (fun m => by first | (simp [entryFrame, mkF, argsToLocals, Value.category]; done) | rfl) ?_
  intro X vm T w
  refine w.iloadN (q := 1) d16_0 rfl rfl ?_
  refine w.ldcI (q := 3) d16_1 (H.tw 92 rfl) rfl ?_
  refine w.icY (q := 16) d16_3 ((tlt hc).1) (by decide) (by decide) ?_
  refine w.iconst (q := 17) (0 : Int32) d16_16 rfl rfl ?_
  exact w.retZ d16_17 (t := .boolean) rfl (by decide) rfl (by decide) (by decide) ⟨_, rfl, ⟨rfl, rfl⟩⟩
theorem d18_0 : decode jdk_2649_method_2_code 0 = .ok (.getstatic 17, 3) := by decide +kernel
theorem d18_3 : decode jdk_2649_method_2_code 3 = .ok (.areturn, 1) := by decide +kernel
theorem pn19 : plainName "java/util/OptionalInt" = true := by first | (simp [plainName, overriddenIn]; done) | decide +kernel
set_option maxRecDepth 65536 in
set_option maxHeartbeats 40000000 in
theorem con_oi (G : Gx) (H : Hyp G) (oi : Nat) (So : Sta G.Z G.Z.heap "java/util/OptionalInt" "EMPTY" "Ljava/util/OptionalInt;" (.ref oi)) (h : Heap) (ho : Old G.Z G.n0 h)  :
    Con G (⟨"java/util/OptionalInt", "empty", "()Ljava/util/OptionalInt;"⟩ : MethodName) jdk_2649_method_2_code 0 (some (.object "java/util/OptionalInt")) [] ({ frames := 0, cells := 0, slots := 0, locals := 0 } : Room) #[] h (vQ fun v h' => v = .ref oi ∧ h = h') := by
  refine Con.intro H.el ho (plainFor_of_name pn19) (Ls := #[]) (fun m => by first | (simp [entryFrame, mkF, argsToLocals, Value.category]; done) | rfl) ?_
  intro X vm T w
  refine w.getS (q := 3) d18_0 (H.tw 97 rfl) Via.refl So rfl fun T1 w1 => ?_
  exact w1.retA d18_3 (t := (.object "java/util/OptionalInt")) rfl rfl rfl (by decide) (by decide) ⟨_, rfl, ⟨rfl, rfl⟩⟩
theorem d20_0 : decode jdk_2649_method_6_code 0 = .ok (.aload_n 0, 1) := by decide +kernel
theorem d20_1 : decode jdk_2649_method_6_code 1 = .ok (.getfield 7, 3) := by decide +kernel
theorem d20_4 : decode jdk_2649_method_6_code 4 = .ok (.ireturn, 1) := by decide +kernel
set_option maxRecDepth 65536 in
set_option maxHeartbeats 40000000 in
theorem con_ip (G : Gx) (H : Hyp G) (a : Nat) (x : Int32) (h : Heap) (ho : Old G.Z G.n0 h) (F : Fld G.Z h a "java/util/OptionalInt" "isPresent" "Z" (.int x)) (hn : narrow .boolean (.int x) = .int x) :
    Con G (⟨"java/util/OptionalInt", "isPresent", "()Z"⟩ : MethodName) jdk_2649_method_6_code 1 (some .boolean) [] ({ frames := 0, cells := 0, slots := 0, locals := 0 } : Room) #[(.ref a)] h (vQ fun v' h' => v' = (.int x) ∧ h = h') := by
  refine Con.intro H.el ho (plainFor_of_name pn19) (Ls := #[.val (.ref a)]) (fun m => by first | (simp [entryFrame, mkF, argsToLocals, Value.category]; done) | rfl) ?_
  intro X vm T w
  refine w.aloadN (q := 1) d20_0 rfl rfl rfl ?_
  refine w.getF (q := 4) d20_1 (H.tw 103 rfl) Via.refl F rfl fun T1 w1 => ?_
  exact w1.retZ d20_4 (t := .boolean) rfl (by decide) hn (by decide) (by decide) ⟨_, rfl, ⟨rfl, rfl⟩⟩
theorem d21_0 : decode prog_55_method_5_code 0 = .ok (.iconst 0, 1) := by decide +kernel
theorem d21_1 : decode prog_55_method_5_code 1 = .ok (.istore_n 1, 1) := by decide +kernel
theorem d21_2 : decode prog_55_method_5_code 2 = .ok (.iload_n 1, 1) := by decide +kernel
theorem d21_3 : decode prog_55_method_5_code 3 = .ok (.aload_n 0, 1) := by decide +kernel
theorem d21_4 : decode prog_55_method_5_code 4 = .ok (.invokevirtual 7, 3) := by decide +kernel
theorem pd22 : parseMethodDescriptor "()I" = some ⟨[], some .int⟩ := by decide +kernel
theorem d21_7 : decode prog_55_method_5_code 7 = .ok (.if_icmp .ge 39, 3) := by decide +kernel
theorem d21_10 : decode prog_55_method_5_code 10 = .ok (.aload_n 0, 1) := by decide +kernel
theorem d21_11 : decode prog_55_method_5_code 11 = .ok (.iload_n 1, 1) := by decide +kernel
theorem d21_12 : decode prog_55_method_5_code 12 = .ok (.invokevirtual 21, 3) := by decide +kernel
theorem pd23 : parseMethodDescriptor "(I)C" = some ⟨[.int], some .char⟩ := by decide +kernel
theorem d21_15 : decode prog_55_method_5_code 15 = .ok (.invokestatic 37, 3) := by decide +kernel
theorem pd24 : parseMethodDescriptor "(C)Z" = some ⟨[.char], some .boolean⟩ := by decide +kernel
theorem d21_18 : decode prog_55_method_5_code 18 = .ok (.ifCond .ne 9, 3) := by decide +kernel
theorem d21_21 : decode prog_55_method_5_code 21 = .ok (.iinc 1 1, 3) := by decide +kernel
theorem d21_24 : decode prog_55_method_5_code 24 = .ok (.goto (-22), 3) := by decide +kernel
theorem d21_46 : decode prog_55_method_5_code 46 = .ok (.invokestatic 49, 3) := by decide +kernel
theorem pd25 : parseMethodDescriptor "()Ljava/util/OptionalInt;" = some ⟨[], some (.object "java/util/OptionalInt")⟩ := by decide +kernel
theorem d21_49 : decode prog_55_method_5_code 49 = .ok (.areturn, 1) := by decide +kernel
theorem pn26 : plainName "com/example/versioned_table/versionedtable/Utf8" = true := by first | (simp [plainName, overriddenIn]; done) | decide +kernel
set_option maxRecDepth 65536 in
set_option maxHeartbeats 40000000 in
theorem con_us (G : Gx) (H : Hyp G) (a : Nat) (c : Int32) (h : Heap) (ho : Old G.Z G.n0 h) (S : S1 G.Z h a c) (hc : cv c < 55296) (hn : narrow .char (.int (cv c)) = .int (cv c)) :
    Con G (⟨"com/example/versioned_table/versionedtable/Utf8", "unpairedSurrogate", "(Ljava/lang/String;)Ljava/util/OptionalInt;"⟩ : MethodName) prog_55_method_5_code 2 (some (.object "java/util/OptionalInt")) [] ({ frames := 4, cells := 0, slots := 0, locals := 53 } : Room) #[(.ref a)] h (vQ fun v h' => ∃ oi : Nat, v = .ref oi ∧ h = h' ∧ Exa G.Z h' oi "java/util/OptionalInt" ∧ Fld G.Z h' oi "java/util/OptionalInt" "isPresent" "Z" (.int 0)) := by
  refine Con.intro H.el ho (plainFor_of_name pn26) (Ls := #[.val (.ref a), .unset]) (fun m => by first | (simp [entryFrame, mkF, argsToLocals, Value.category]; done) | rfl) ?_
  intro X vm T w
  obtain ⟨⟨lc, lcell, Slc, Blc⟩, hfm, ⟨oi, Soi, Eoi, Foi⟩, oe, Soe, Ooe⟩ := H.mo
  have e1 : Exa G.Z h a "java/lang/String" := by obtain ⟨_, _, q, _⟩ := S; exact q
  refine w.iconst (q := 1) (0 : Int32) d21_0 rfl rfl ?_
  refine w.istoreN (q := 2) (L2 := #[.val (.ref a), .val (.int (0 : Int32))]) d21_1 rfl rfl ?_
  refine w.iloadN (q := 3) d21_2 rfl rfl ?_
  refine w.aloadN (q := 4) d21_3 rfl rfl rfl ?_
  refine w.callV (q := 7) d21_4 (H.tw 54 rfl) (H.tw 55 rfl) (notFace_of_selects (C := "java/lang/String") (args := G.a0) (H.tw 57 rfl)) (H.tw 57 rfl) (H.tw 56 rfl) (by decide) e1 (argsL := []) (rest := [(.int (0 : Int32))]) rfl (lenOf pd22 rfl) rfl (W := 1) (Nat.le_of_eq rfl) ((con_len G H a c h ho S).pay w (H.tw 58 rfl) (H.tw 7 rfl) (by decide) (by decide)) (by decide) (by decide) rfl fun vm1 T1 h1 v1 w1 q1 => ?_
  obtain ⟨_, rfl, rfl, rfl⟩ := q1
  show Go _ _ _ _ (T1.setTop (mkF X.m 7 #[.val (.ref a), .val (.int (0 : Int32))] [(.int (1 : Int32)), (.int (0 : Int32))]))
  refine w1.icN (q := 10) d21_7 ((tlt (by decide)).2.1) rfl ?_
  refine w1.aloadN (q := 11) d21_10 rfl rfl rfl ?_
  refine w1.iloadN (q := 12) d21_11 rfl rfl ?_
  refine w1.callV (q := 15) d21_12 (H.tw 66 rfl) (H.tw 67 rfl) (notFace_of_selects (C := "java/lang/String") (args := G.a0) (H.tw 69 rfl)) (H.tw 69 rfl) (H.tw 68 rfl) (by decide) e1 (argsL := [(.int (0 : Int32))]) (rest := []) rfl (lenOf pd23 rfl) rfl (W := 0) (Nat.le_of_eq rfl) ((con_chr G H a c h ho S hn).pay w1 (H.tw 70 rfl) (H.tw 7 rfl) (by decide) (by decide)) (by decide) (by decide) rfl fun vm2 T2 h2 v2 w2 q2 => ?_
  obtain ⟨_, rfl, rfl, rfl⟩ := q2
  show Go _ _ _ _ (T2.setTop (mkF X.m 15 #[.val (.ref a), .val (.int (0 : Int32))] [(.int (cv c))]))
  refine w2.callS (q := 18) d21_15 (H.tw 88 rfl) (H.tw 89 rfl) (H.tw 90 rfl) (H.tw 91 rfl) (by decide) (argsL := [(.int (cv c))]) (rest := []) rfl (lenOf pd24 rfl) rfl (W := 0) (Nat.le_of_eq rfl) ((con_sur G H (cv c) h ho hc).pay w2 (H.tw 91 rfl) (H.tw 90 rfl) (by decide) (by decide)) (by decide) (by decide) rfl fun vm3 T3 h3 v3 w3 q3 => ?_
  obtain ⟨_, rfl, rfl, rfl⟩ := q3
  show Go _ _ _ _ (T3.setTop (mkF X.m 18 #[.val (.ref a), .val (.int (0 : Int32))] [(.int (0 : Int32))]))
  refine w3.ifN (q := 21) d21_18 ((if0 _ _).trans (teq rfl).2) rfl ?_
  refine w3.iinc (q := 24) (L2 := #[.val (.ref a), .val (.int ((0 : Int32) + (1 : Int32)))]) (1 : Int32) d21_21 rfl rfl rfl rfl ?_
  refine w3.goto (q := 2) d21_24 (by decide) (by decide) ?_
  show Go _ _ _ _ (T3.setTop (mkF X.m 2 #[.val (.ref a), .val (.int (1 : Int32))] []))
  refine w3.iloadN (q := 3) d21_2 rfl rfl ?_
  refine w3.aloadN (q := 4) d21_3 rfl rfl rfl ?_
  refine w3.callV (q := 7) d21_4 (H.tw 54 rfl) (H.tw 55 rfl) (notFace_of_selects (C := "java/lang/String") (args := G.a0) (H.tw 57 rfl)) (H.tw 57 rfl) (H.tw 56 rfl) (by decide) e1 (argsL := []) (rest := [(.int (1 : Int32))]) rfl (lenOf pd22 rfl) rfl (W := 1) (Nat.le_of_eq rfl) ((con_len G H a c h ho S).pay w3 (H.tw 58 rfl) (H.tw 7 rfl) (by decide) (by decide)) (by decide) (by decide) rfl fun vm4 T4 h4 v4 w4 q4 => ?_
  obtain ⟨_, rfl, rfl, rfl⟩ := q4
  show Go _ _ _ _ (T4.setTop (mkF X.m 7 #[.val (.ref a), .val (.int (1 : Int32))] [(.int (1 : Int32)), (.int (1 : Int32))]))
  refine w4.icY (q := 46) d21_7 ((flt (by decide)).2.1) (by decide) (by decide) ?_
  refine w4.callS (q := 49) d21_46 (H.tw 93 rfl) (H.tw 94 rfl) (H.tw 95 rfl) (H.tw 96 rfl) (by decide) (argsL := []) (rest := []) rfl (lenOf pd25 rfl) rfl (W := 0) (Nat.le_of_eq rfl) ((con_oi G H oi Soi h ho).pay w4 (H.tw 96 rfl) (H.tw 95 rfl) (by decide) (by decide)) (by decide) (by decide) rfl fun vm5 T5 h5 v5 w5 q5 => ?_
  obtain ⟨_, rfl, rfl, rfl⟩ := q5
  show Go _ _ _ _ (T5.setTop (mkF X.m 49 #[.val (.ref a), .val (.int (1 : Int32))] [(.ref oi)]))
  exact w5.retA d21_49 (t := (.object "java/util/OptionalInt")) rfl rfl rfl (by decide) (by decide) ⟨_, rfl, ⟨oi, rfl, rfl, Eoi.ext ho.2, Foi.ext ho.2⟩⟩
theorem d27_0 : decode prog_23_method_6_code 0 = .ok (.aload_n 0, 1) := by decide +kernel
theorem d27_1 : decode prog_23_method_6_code 1 = .ok (.invokestatic 39, 3) := by decide +kernel
theorem pd28 : parseMethodDescriptor "(Ljava/lang/String;)Ljava/util/OptionalInt;" = some ⟨[(.object "java/lang/String")], some (.object "java/util/OptionalInt")⟩ := by decide +kernel
theorem d27_4 : decode prog_23_method_6_code 4 = .ok (.astore_n 2, 1) := by decide +kernel
theorem d27_5 : decode prog_23_method_6_code 5 = .ok (.aload_n 2, 1) := by decide +kernel
theorem d27_6 : decode prog_23_method_6_code 6 = .ok (.invokevirtual 45, 3) := by decide +kernel
theorem d27_9 : decode prog_23_method_6_code 9 = .ok (.ifCond .eq 21, 3) := by decide +kernel
theorem d27_30 : decode prog_23_method_6_code 30 = .ok (.return_, 1) := by decide +kernel
theorem pn29 : plainName "com/example/versioned_table/versionedtable/RecordKey" = true := by first | (simp [plainName, overriddenIn]; done) | decide +kernel
set_option maxRecDepth 65536 in
set_option maxHeartbeats 40000000 in
theorem con_rwf (G : Gx) (H : Hyp G) (a nm : Nat) (c : Int32) (h : Heap) (ho : Old G.Z G.n0 h) (S : S1 G.Z h a c) (hc : cv c < 55296) (hn : narrow .char (.int (cv c)) = .int (cv c)) :
    Con G (⟨"com/example/versioned_table/versionedtable/RecordKey", "requireWellFormed", "(Ljava/lang/String;Ljava/lang/String;)V"⟩ : MethodName) prog_23_method_6_code 3 none [] ({ frames := 5, cells := 0, slots := 0, locals := 66 } : Room) #[(.ref a), (.ref nm)] h (nQ fun h' => h = h') := by
  refine Con.intro H.el ho (plainFor_of_name pn29) (Ls := #[.val (.ref a), .val (.ref nm), .unset]) (fun m => by first | (simp [entryFrame, mkF, argsToLocals, Value.category]; done) | rfl) ?_
  intro X vm T w
  refine w.aloadN (q := 1) d27_0 rfl rfl rfl ?_
  refine w.callS (q := 4) d27_1 (H.tw 50 rfl) (H.tw 51 rfl) (H.tw 52 rfl) (H.tw 53 rfl) (by decide) (argsL := [(.ref a)]) (rest := []) rfl (lenOf pd28 rfl) rfl (W := 0) (Nat.le_of_eq rfl) ((con_us G H a c h ho S hc hn).pay w (H.tw 53 rfl) (H.tw 52 rfl) (by decide) (by decide)) (by decide) (by decide) rfl fun vm1 T1 h1 v1 w1 q1 => ?_
  obtain ⟨_, rfl, oi, rfl, rfl, Eo, Fo⟩ := q1
  show Go _ _ _ _ (T1.setTop (mkF X.m 4 #[.val (.ref a), .val (.ref nm), .unset] [(.ref oi)]))
  refine w1.astoreN (q := 5) (L2 := #[.val (.ref a), .val (.ref nm), .val (.ref oi)]) d27_4 rfl rfl rfl ?_
  refine w1.aloadN (q := 6) d27_5 rfl rfl rfl ?_
  refine w1.callV (q := 9) d27_6 (H.tw 98 rfl) (H.tw 99 rfl) (notFace_of_selects (C := "java/util/OptionalInt") (args := G.a0) (H.tw 101 rfl)) (H.tw 101 rfl) (H.tw 100 rfl) (by decide) Eo (argsL := []) (rest := []) rfl (lenOf pd14 rfl) rfl (W := 0) (Nat.le_of_eq rfl) ((con_ip G H oi (0 : Int32) h ho Fo rfl).pay w1 (H.tw 102 rfl) (H.tw 95 rfl) (by decide) (by decide)) (by decide) (by decide) rfl fun vm2 T2 h2 v2 w2 q2 => ?_
  obtain ⟨_, rfl, rfl, rfl⟩ := q2
  show Go _ _ _ _ (T2.setTop (mkF X.m 9 #[.val (.ref a), .val (.ref nm), .val (.ref oi)] [(.int (0 : Int32))]))
  refine w2.ifY (q := 30) d27_9 ((if0 _ _).trans (teq rfl).1) (by decide) (by decide) ?_
  exact w2.retV d27_30 rfl (by decide) (by decide) ⟨rfl, rfl⟩
theorem d30_0 : decode prog_55_method_3_code 0 = .ok (.aload_n 0, 1) := by decide +kernel
theorem d30_1 : decode prog_55_method_3_code 1 = .ok (.invokevirtual 7, 3) := by decide +kernel
theorem d30_4 : decode prog_55_method_3_code 4 = .ok (.i2l, 1) := by decide +kernel
theorem d30_5 : decode prog_55_method_3_code 5 = .ok (.ldc2_w 29, 3) := by decide +kernel
theorem d30_8 : decode prog_55_method_3_code 8 = .ok (.lmul, 1) := by decide +kernel
theorem d30_9 : decode prog_55_method_3_code 9 = .ok (.lreturn, 1) := by decide +kernel
set_option maxRecDepth 65536 in
set_option maxHeartbeats 40000000 in
theorem con_ml (G : Gx) (H : Hyp G) (a : Nat) (c : Int32) (h : Heap) (ho : Old G.Z G.n0 h) (S : S1 G.Z h a c) :
    Con G (⟨"com/example/versioned_table/versionedtable/Utf8", "mostLength", "(Ljava/lang/String;)J"⟩ : MethodName) prog_55_method_3_code 1 (some .long) [] ({ frames := 2, cells := 0, slots := 0, locals := 25 } : Room) #[(.ref a)] h (vQ fun v h' => v = .long ((1 : Int32).toInt64 * (3 : Int64)) ∧ h = h') := by
  refine Con.intro H.el ho (plainFor_of_name pn26) (Ls := #[.val (.ref a)]) (fun m => by first | (simp [entryFrame, mkF, argsToLocals, Value.category]; done) | rfl) ?_
  intro X vm T w
  have e1 : Exa G.Z h a "java/lang/String" := by obtain ⟨_, _, q, _⟩ := S; exact q
  refine w.aloadN (q := 1) d30_0 rfl rfl rfl ?_
  refine w.callV (q := 4) d30_1 (H.tw 54 rfl) (H.tw 55 rfl) (notFace_of_selects (C := "java/lang/String") (args := G.a0) (H.tw 57 rfl)) (H.tw 57 rfl) (H.tw 56 rfl) (by decide) e1 (argsL := []) (rest := []) rfl (lenOf pd22 rfl) rfl (W := 0) (Nat.le_of_eq rfl) ((con_len G H a c h ho S).pay w (H.tw 58 rfl) (H.tw 7 rfl) (by decide) (by decide)) (by decide) (by decide) rfl fun vm1 T1 h1 v1 w1 q1 => ?_
  obtain ⟨_, rfl, rfl, rfl⟩ := q1
  show Go _ _ _ _ (T1.setTop (mkF X.m 4 #[.val (.ref a)] [(.int (1 : Int32))]))
  refine w1.i2l (q := 5) d30_4 rfl ?_
  refine w1.ldc2J (q := 8) d30_5 (H.tw 111 rfl) rfl ?_
  refine w1.lmul (q := 9) d30_8 rfl ?_
  exact w1.retJ d30_9 rfl (by decide) (by decide) ⟨_, rfl, ⟨rfl, rfl⟩⟩
theorem d31_0 : decode prog_55_method_4_code 0 = .ok (.aload_n 0, 1) := by decide +kernel
theorem d31_1 : decode prog_55_method_4_code 1 = .ok (.invokestatic 31, 3) := by decide +kernel
theorem pd32 : parseMethodDescriptor "(Ljava/lang/String;)J" = some ⟨[(.object "java/lang/String")], some .long⟩ := by decide +kernel
theorem d31_4 : decode prog_55_method_4_code 4 = .ok (.lload_n 1, 1) := by decide +kernel
theorem d31_5 : decode prog_55_method_4_code 5 = .ok (.lcmp, 1) := by decide +kernel
theorem d31_6 : decode prog_55_method_4_code 6 = .ok (.ifCond .le 16, 3) := by decide +kernel
theorem d31_22 : decode prog_55_method_4_code 22 = .ok (.iconst 0, 1) := by decide +kernel
theorem d31_23 : decode prog_55_method_4_code 23 = .ok (.ireturn, 1) := by decide +kernel
set_option maxRecDepth 65536 in
set_option maxHeartbeats 40000000 in
theorem con_io (G : Gx) (H : Hyp G) (a : Nat) (mx : Int64) (c : Int32) (h : Heap) (ho : Old G.Z G.n0 h) (S : S1 G.Z h a c) (hm : ¬ (0 : Int32) < lcmpW ((1 : Int32).toInt64 * (3 : Int64)) mx) :
    Con G (⟨"com/example/versioned_table/versionedtable/Utf8", "isOver", "(Ljava/lang/String;J)Z"⟩ : MethodName) prog_55_method_4_code 3 (some .boolean) [] ({ frames := 3, cells := 0, slots := 0, locals := 37 } : Room) #[(.ref a), (.long mx)] h (vQ fun v h' => v = .int 0 ∧ h = h') := by
  refine Con.intro H.el ho (plainFor_of_name pn26) (Ls := #[.val (.ref a), .val (.long mx), .second]) (fun m => by first | (simp [entryFrame, mkF, argsToLocals, Value.category]; done) | rfl) ?_
  intro X vm T w
  refine w.aloadN (q := 1) d31_0 rfl rfl rfl ?_
  refine w.callS (q := 4) d31_1 (H.tw 108 rfl) (H.tw 109 rfl) (H.tw 52 rfl) (H.tw 110 rfl) (by decide) (argsL := [(.ref a)]) (rest := []) rfl (lenOf pd32 rfl) rfl (W := 0) (Nat.le_of_eq rfl) ((con_ml G H a c h ho S).pay w (H.tw 110 rfl) (H.tw 52 rfl) (by decide) (by decide)) (by decide) (by decide) rfl fun vm1 T1 h1 v1 w1 q1 => ?_
  obtain ⟨_, rfl, rfl, rfl⟩ := q1
  show Go _ _ _ _ (T1.setTop (mkF X.m 4 #[.val (.ref a), .val (.long mx), .second] [(.long ((1 : Int32).toInt64 * (3 : Int64)))]))
  refine w1.lloadN (q := 5) d31_4 rfl rfl ?_
  refine w1.lcmp (q := 6) d31_5 rfl ?_
  refine w1.ifY (q := 22) d31_6 ((if0 _ _).trans (flt hm).2.2.2) (by decide) (by decide) ?_
  refine w1.iconst (q := 23) (0 : Int32) d31_22 rfl rfl ?_
  exact w1.retZ d31_23 (t := .boolean) rfl (by decide) rfl (by decide) (by decide) ⟨_, rfl, ⟨rfl, rfl⟩⟩
theorem d33_0 : decode jdk_31_method_16_code 0 = .ok (.aload_n 0, 1) := by decide +kernel
theorem d33_1 : decode jdk_31_method_16_code 1 = .ok (.ifnonnull 28, 3) := by decide +kernel
theorem d33_29 : decode jdk_31_method_16_code 29 = .ok (.aload_n 0, 1) := by decide +kernel
theorem d33_30 : decode jdk_31_method_16_code 30 = .ok (.areturn, 1) := by decide +kernel
theorem pn34 : plainName "java/util/Objects" = true := by first | (simp [plainName, overriddenIn]; done) | decide +kernel
set_option maxRecDepth 65536 in
set_option maxHeartbeats 40000000 in
theorem con_rnnS (G : Gx) (H : Hyp G) (a b : Nat) (h : Heap) (ho : Old G.Z G.n0 h)  :
    Con G (⟨"java/util/Objects", "requireNonNull", "(Ljava/lang/Object;Ljava/util/function/Supplier;)Ljava/lang/Object;"⟩ : MethodName) jdk_31_method_16_code 2 (some (.object "java/lang/Object")) [] ({ frames := 0, cells := 0, slots := 0, locals := 0 } : Room) #[(.ref a), (.ref b)] h (vQ fun v h' => v = .ref a ∧ h = h') := by
  refine Con.intro H.el ho (plainFor_of_name pn34) (Ls := #[.val (.ref a), .val (.ref b)]) (fun m => by first | (simp [entryFrame, mkF, argsToLocals, Value.category]; done) | rfl) ?_
  intro X vm T w
  refine w.aloadN (q := 1) d33_0 rfl rfl rfl ?_
  refine w.nnY (q := 29) d33_1 (by decide) (by decide) ?_
  refine w.aloadN (q := 30) d33_29 rfl rfl rfl ?_
  exact w.retA d33_30 (t := (.object "java/lang/Object")) rfl rfl rfl (by decide) (by decide) ⟨_, rfl, ⟨rfl, rfl⟩⟩
theorem d35_0 : decode jdk_31_method_11_code 0 = .ok (.aload_n 0, 1) := by decide +kernel
theorem d35_1 : decode jdk_31_method_11_code 1 = .ok (.ifnonnull 12, 3) := by decide +kernel
theorem d35_13 : decode jdk_31_method_11_code 13 = .ok (.aload_n 0, 1) := by decide +kernel
theorem d35_14 : decode jdk_31_method_11_code 14 = .ok (.areturn, 1) := by decide +kernel
set_option maxRecDepth 65536 in
set_option maxHeartbeats 40000000 in
theorem con_rnn2 (G : Gx) (H : Hyp G) (a b : Nat) (h : Heap) (ho : Old G.Z G.n0 h)  :
    Con G (⟨"java/util/Objects", "requireNonNull", "(Ljava/lang/Object;Ljava/lang/String;)Ljava/lang/Object;"⟩ : MethodName) jdk_31_method_11_code 2 (some (.object "java/lang/Object")) [] ({ frames := 0, cells := 0, slots := 0, locals := 0 } : Room) #[(.ref a), (.ref b)] h (vQ fun v h' => v = .ref a ∧ h = h') := by
  refine Con.intro H.el ho (plainFor_of_name pn34) (Ls := #[.val (.ref a), .val (.ref b)]) (fun m => by first | (simp [entryFrame, mkF, argsToLocals, Value.category]; done) | rfl) ?_
  intro X vm T w
  refine w.aloadN (q := 1) d35_0 rfl rfl rfl ?_
  refine w.nnY (q := 13) d35_1 (by decide) (by decide) ?_
  refine w.aloadN (q := 14) d35_13 rfl rfl rfl ?_
  exact w.retA d35_14 (t := (.object "java/lang/Object")) rfl rfl rfl (by decide) (by decide) ⟨_, rfl, ⟨rfl, rfl⟩⟩
theorem d36_0 : decode jdk_31_method_10_code 0 = .ok (.aload_n 0, 1) := by decide +kernel
theorem d36_1 : decode jdk_31_method_10_code 1 = .ok (.ifnonnull 11, 3) := by decide +kernel
theorem d36_12 : decode jdk_31_method_10_code 12 = .ok (.aload_n 0, 1) := by decide +kernel
theorem d36_13 : decode jdk_31_method_10_code 13 = .ok (.areturn, 1) := by decide +kernel
set_option maxRecDepth 65536 in
set_option maxHeartbeats 40000000 in
theorem con_rnn (G : Gx) (H : Hyp G) (a : Nat) (h : Heap) (ho : Old G.Z G.n0 h)  :
    Con G (⟨"java/util/Objects", "requireNonNull", "(Ljava/lang/Object;)Ljava/lang/Object;"⟩ : MethodName) jdk_31_method_10_code 1 (some (.object "java/lang/Object")) [] ({ frames := 0, cells := 0, slots := 0, locals := 0 } : Room) #[(.ref a)] h (vQ fun v h' => v = .ref a ∧ h = h') := by
  refine Con.intro H.el ho (plainFor_of_name pn34) (Ls := #[.val (.ref a)]) (fun m => by first | (simp [entryFrame, mkF, argsToLocals, Value.category]; done) | rfl) ?_
  intro X vm T w
  refine w.aloadN (q := 1) d36_0 rfl rfl rfl ?_
  refine w.nnY (q := 12) d36_1 (by decide) (by decide) ?_
  refine w.aloadN (q := 13) d36_12 rfl rfl rfl ?_
  exact w.retA d36_13 (t := (.object "java/lang/Object")) rfl rfl rfl (by decide) (by decide) ⟨_, rfl, ⟨rfl, rfl⟩⟩
theorem d37_0 : decode prog_23_method_7_code 0 = .ok (.aload_n 0, 1) := by decide +kernel
theorem d37_1 : decode prog_23_method_7_code 1 = .ok (.aload_n 1, 1) := by decide +kernel
theorem d37_2 : decode prog_23_method_7_code 2 = .ok (.invokedynamic 62, 5) := by decide +kernel
theorem d37_7 : decode prog_23_method_7_code 7 = .ok (.invokestatic 66, 3) := by decide +kernel
theorem pd38 : parseMethodDescriptor "(Ljava/lang/Object;Ljava/util/function/Supplier;)Ljava/lang/Object;" = some ⟨[(.object "java/lang/Object"), (.object "java/util/function/Supplier")], some (.object "java/lang/Object")⟩ := by decide +kernel
theorem d37_10 : decode prog_23_method_7_code 10 = .ok (.pop, 1) := by decide +kernel
theorem d37_11 : decode prog_23_method_7_code 11 = .ok (.aload_n 0, 1) := by decide +kernel
theorem d37_12 : decode prog_23_method_7_code 12 = .ok (.invokevirtual 72, 3) := by decide +kernel
theorem d37_15 : decode prog_23_method_7_code 15 = .ok (.ifCond .eq 17, 3) := by decide +kernel
theorem d37_32 : decode prog_23_method_7_code 32 = .ok (.aload_n 0, 1) := by decide +kernel
theorem d37_33 : decode prog_23_method_7_code 33 = .ok (.aload_n 1, 1) := by decide +kernel
theorem d37_34 : decode prog_23_method_7_code 34 = .ok (.invokestatic 78, 3) := by decide +kernel
theorem pd39 : parseMethodDescriptor "(Ljava/lang/String;Ljava/lang/String;)V" = some ⟨[(.object "java/lang/String"), (.object "java/lang/String")], none⟩ := by decide +kernel
theorem d37_37 : decode prog_23_method_7_code 37 = .ok (.aload_n 0, 1) := by decide +kernel
theorem d37_38 : decode prog_23_method_7_code 38 = .ok (.iload_n 2, 1) := by decide +kernel
theorem d37_39 : decode prog_23_method_7_code 39 = .ok (.i2l, 1) := by decide +kernel
theorem d37_40 : decode prog_23_method_7_code 40 = .ok (.invokestatic 81, 3) := by decide +kernel
theorem pd40 : parseMethodDescriptor "(Ljava/lang/String;J)Z" = some ⟨[(.object "java/lang/String"), .long], some .boolean⟩ := by decide +kernel
theorem d37_43 : decode prog_23_method_7_code 43 = .ok (.ifCond .eq 22, 3) := by decide +kernel
theorem d37_65 : decode prog_23_method_7_code 65 = .ok (.return_, 1) := by decide +kernel
set_option maxRecDepth 65536 in
set_option maxHeartbeats 40000000 in
theorem con_rp (G : Gx) (H : Hyp G) (a nm : Nat) (mx c : Int32) (h : Heap) (ho : Old G.Z G.n0 h) (S : S1 G.Z h a c) (hc : cv c < 55296) (hn : narrow .char (.int (cv c)) = .int (cv c)) (hm : ¬ (0 : Int32) < lcmpW ((1 : Int32).toInt64 * (3 : Int64)) mx.toInt64) :
    Con G (⟨"com/example/versioned_table/versionedtable/RecordKey", "requirePart", "(Ljava/lang/String;Ljava/lang/String;I)V"⟩ : MethodName) prog_23_method_7_code 3 none [] ({ frames := 6, cells := 1, slots := 1, locals := 3074 } : Room) #[(.ref a), (.ref nm), (.int mx)] h (nQ fun h' => Ext h h') := by
  refine Con.introN H.el ho (plainFor_of_name pn29) (Ls := #[.val (.ref a), .val (.ref nm), .val (.int mx)]) (fun m => by first | (simp [entryFrame, mkF, argsToLocals, Value.category]; done) | rfl) ?_
  intro X vm T hN w
  refine w.aloadN (q := 1) d37_0 rfl rfl rfl ?_
  refine w.aloadN (q := 2) d37_1 rfl rfl rfl ?_
  refine w.lam (q := 7) (fi := 15) (vals := [(.ref nm)]) (st := [(.ref a)]) hN d37_2 (H.tw 33 rfl) (H.tw 36 rfl) (by decide) (by decide +kernel) rfl (fit1 (t := .object "java/lang/String") rfl rfl) rfl (Nat.le_of_ble_eq_true rfl) (by decide) (Nat.le_of_ble_eq_true rfl) rfl fun T1 h1 b1 cK1 e1 w1 E1 Mk1 Cl1 => ?_
  replace w1 : Wk G _ _ X _ T1 h1 1 1 := w1
  have sz1 : h.size ≤ h1.size := E1.1
  show Go _ _ _ _ (T1.setTop (mkF X.m 7 #[.val (.ref a), .val (.ref nm), .val (.int mx)] [(.ref b1), (.ref a)]))
  replace S := S.ext E1
  have e1 : Exa G.Z h1 a "java/lang/String" := by obtain ⟨_, _, q, _⟩ := S; exact q
  refine w1.callS (q := 10) d37_7 (H.tw 37 rfl) (H.tw 38 rfl) (H.tw 39 rfl) (H.tw 40 rfl) (by decide) (argsL := [(.ref a), (.ref b1)]) (rest := []) rfl (lenOf pd38 rfl) rfl (W := 0) (Nat.le_of_eq rfl) ((con_rnnS G H a b1 h1 w1.old).pay w1 (H.tw 40 rfl) (H.tw 39 rfl) (by decide) (by decide)) (by decide) (by decide) rfl fun vm2 T2 h2 v2 w2 q2 => ?_
  obtain ⟨_, rfl, rfl, rfl⟩ := q2
  show Go _ _ _ _ (T2.setTop (mkF X.m 10 #[.val (.ref a), .val (.ref nm), .val (.int mx)] [(.ref a)]))
  refine w2.pop (q := 11) d37_10 rfl rfl ?_
  refine w2.aloadN (q := 12) d37_11 rfl rfl rfl ?_
  refine w2.callV (q := 15) d37_12 (H.tw 41 rfl) (H.tw 42 rfl) (notFace_of_selects (C := "java/lang/String") (args := G.a0) (H.tw 44 rfl)) (H.tw 44 rfl) (H.tw 43 rfl) (by decide) e1 (argsL := []) (rest := []) rfl (lenOf pd14 rfl) rfl (W := 0) (Nat.le_of_eq rfl) ((con_emp G H a c h1 w2.old S).pay w2 (H.tw 45 rfl) (H.tw 7 rfl) (by decide) (by decide)) (by decide) (by decide) rfl fun vm3 T3 h3 v3 w3 q3 => ?_
  obtain ⟨_, rfl, rfl, rfl⟩ := q3
  show Go _ _ _ _ (T3.setTop (mkF X.m 15 #[.val (.ref a), .val (.ref nm), .val (.int mx)] [(.int (0 : Int32))]))
  refine w3.ifY (q := 32) d37_15 ((if0 _ _).trans (teq rfl).1) (by decide) (by decide) ?_
  refine w3.aloadN (q := 33) d37_32 rfl rfl rfl ?_
  refine w3.aloadN (q := 34) d37_33 rfl rfl rfl ?_
  refine w3.callS (q := 37) d37_34 (H.tw 47 rfl) (H.tw 48 rfl) (H.tw 5 rfl) (H.tw 49 rfl) (by decide) (argsL := [(.ref a), (.ref nm)]) (rest := []) rfl (lenOf pd39 rfl) rfl (W := 0) (Nat.le_of_eq rfl) ((con_rwf G H a nm c h1 w3.old S hc hn).pay w3 (H.tw 49 rfl) (H.tw 5 rfl) (by decide) (by decide)) (by decide) (by decide) rfl fun vm4 T4 h4 v4 w4 q4 => ?_
  obtain ⟨rfl, rfl⟩ := q4
  show Go _ _ _ _ (T4.setTop (mkF X.m 37 #[.val (.ref a), .val (.ref nm), .val (.int mx)] []))
  refine w4.aloadN (q := 38) d37_37 rfl rfl rfl ?_
  refine w4.iloadN (q := 39) d37_38 rfl rfl ?_
  refine w4.i2l (q := 40) d37_39 rfl ?_
  refine w4.callS (q := 43) d37_40 (H.tw 105 rfl) (H.tw 106 rfl) (H.tw 52 rfl) (H.tw 107 rfl) (by decide) (argsL := [(.ref a), (.long mx.toInt64)]) (rest := []) rfl (lenOf pd40 rfl) rfl (W := 0) (Nat.le_of_eq rfl) ((con_io G H a mx.toInt64 c h1 w4.old S hm).pay w4 (H.tw 107 rfl) (H.tw 52 rfl) (by decide) (by decide)) (by decide) (by decide) rfl fun vm5 T5 h5 v5 w5 q5 => ?_
  obtain ⟨_, rfl, rfl, rfl⟩ := q5
  show Go _ _ _ _ (T5.setTop (mkF X.m 43 #[.val (.ref a), .val (.ref nm), .val (.int mx)] [(.int (0 : Int32))]))
  refine w5.ifY (q := 65) d37_43 ((if0 _ _).trans (teq rfl).1) (by decide) (by decide) ?_
  exact w5.retV d37_65 rfl (by decide) (by decide) ⟨rfl, E1⟩
theorem d41_0 : decode prog_23_method_5_code 0 = .ok (.aload_n 0, 1) := by decide +kernel
theorem d41_1 : decode prog_23_method_5_code 1 = .ok (.ldc 38, 2) := by decide +kernel
theorem d41_3 : decode prog_23_method_5_code 3 = .ok (.sipush 2048, 3) := by decide +kernel
theorem d41_6 : decode prog_23_method_5_code 6 = .ok (.invokestatic 15, 3) := by decide +kernel
theorem pd42 : parseMethodDescriptor "(Ljava/lang/String;Ljava/lang/String;I)V" = some ⟨[(.object "java/lang/String"), (.object "java/lang/String"), .int], none⟩ := by decide +kernel
theorem d41_9 : decode prog_23_method_5_code 9 = .ok (.return_, 1) := by decide +kernel
set_option maxRecDepth 65536 in
set_option maxHeartbeats 40000000 in
theorem con_rpn (G : Gx) (H : Hyp G) (a : Nat) (c : Int32) (h : Heap) (ho : Old G.Z G.n0 h) (S : S1 G.Z h a c) (hc : cv c < 55296) (hn : narrow .char (.int (cv c)) = .int (cv c)) :
    Con G (⟨"com/example/versioned_table/versionedtable/RecordKey", "requirePartition", "(Ljava/lang/String;)V"⟩ : MethodName) prog_23_method_5_code 1 none [] ({ frames := 7, cells := 3, slots := 41, locals := 3088 } : Room) #[(.ref a)] h (nQ fun h' => Ext h h') := by
  refine Con.intro H.el ho (plainFor_of_name pn29) (Ls := #[.val (.ref a)]) (fun m => by first | (simp [entryFrame, mkF, argsToLocals, Value.category]; done) | rfl) ?_
  intro X vm T w
  refine w.aloadN (q := 1) d41_0 rfl rfl rfl ?_
  refine w.ldcO (q := 3) (sz := 36) d41_1 H.wd (H.tw 29 rfl) H.sa (by decide) (by decide) (by decide) (by decide) rfl fun vm1 T1 h1 a1 w1 X1 ch1 => ?_
  have sz1 : h.size ≤ h1.size := X1.1
  refine w1.sipush (q := 6) (2048 : Int32) d41_3 rfl rfl ?_
  refine w1.callS (q := 9) d41_6 (H.tw 30 rfl) (H.tw 31 rfl) (H.tw 5 rfl) (H.tw 32 rfl) (by decide) (argsL := [(.ref a), (.ref a1), (.int (2048 : Int32))]) (rest := []) rfl (lenOf pd42 rfl) rfl (W := 0) (Nat.le_of_eq rfl) ((con_rp G H a a1 (2048 : Int32) c h1 w1.old (S.ext X1) hc hn (by decide)).pay w1 (H.tw 32 rfl) (H.tw 5 rfl) (by decide) (by decide)) (by decide) (by decide) rfl fun vm2 T2 h2 v2 w2 q2 => ?_
  obtain ⟨rfl, X2⟩ := q2
  show Go _ _ _ _ (T2.setTop (mkF X.m 9 #[.val (.ref a)] []))
  exact w2.retV d41_9 rfl (by decide) (by decide) ⟨rfl, xtr X1 X2⟩
theorem d43_0 : decode jdk_30_method_1_code 0 = .ok (.aload_n 0, 1) := by decide +kernel
theorem d43_1 : decode jdk_30_method_1_code 1 = .ok (.invokespecial 1, 3) := by decide +kernel
theorem d43_4 : decode jdk_30_method_1_code 4 = .ok (.return_, 1) := by decide +kernel
theorem pn44 : plainName "java/lang/Record" = true := by first | (simp [plainName, overriddenIn]; done) | decide +kernel
set_option maxRecDepth 65536 in
set_option maxHeartbeats 40000000 in
theorem con_recinit (G : Gx) (H : Hyp G) (a : Nat) (h : Heap) (ho : Old G.Z G.n0 h)  :
    Con G (⟨"java/lang/Record", "<init>", "()V"⟩ : MethodName) jdk_30_method_1_code 1 none [] ({ frames := 1, cells := 0, slots := 0, locals := 12 } : Room) #[(.ref a)] h (nQ fun h' => h = h') := by
  refine Con.intro H.el ho (plainFor_of_name pn44) (Ls := #[.val (.ref a)]) (fun m => by first | (simp [entryFrame, mkF, argsToLocals, Value.category]; done) | rfl) ?_
  intro X vm T w
  refine w.aloadN (q := 1) d43_0 rfl rfl rfl ?_
  refine w.initO (q := 4) (W := 0) d43_1 (H.tw 23 rfl) (H.tw 24 rfl) (H.tw 25 rfl) rfl (by decide) (Nat.le_of_eq rfl) (by decide) rfl fun T1 w1 => ?_
  exact w1.retV d43_4 rfl (by decide) (by decide) ⟨rfl, rfl⟩
theorem d45_0 : decode prog_23_method_1_code 0 = .ok (.aload_n 0, 1) := by decide +kernel
theorem d45_1 : decode prog_23_method_1_code 1 = .ok (.invokespecial 1, 3) := by decide +kernel
theorem pd46 : parseMethodDescriptor "()V" = some ⟨[], none⟩ := by decide +kernel
theorem d45_4 : decode prog_23_method_1_code 4 = .ok (.aload_n 1, 1) := by decide +kernel
theorem d45_5 : decode prog_23_method_1_code 5 = .ok (.invokestatic 7, 3) := by decide +kernel
theorem pd47 : parseMethodDescriptor "(Ljava/lang/String;)V" = some ⟨[(.object "java/lang/String")], none⟩ := by decide +kernel
theorem d45_8 : decode prog_23_method_1_code 8 = .ok (.aload_n 2, 1) := by decide +kernel
theorem d45_9 : decode prog_23_method_1_code 9 = .ok (.ldc 13, 2) := by decide +kernel
theorem d45_11 : decode prog_23_method_1_code 11 = .ok (.sipush 1024, 3) := by decide +kernel
theorem d45_14 : decode prog_23_method_1_code 14 = .ok (.invokestatic 15, 3) := by decide +kernel
theorem d45_17 : decode prog_23_method_1_code 17 = .ok (.aload_n 0, 1) := by decide +kernel
theorem d45_18 : decode prog_23_method_1_code 18 = .ok (.aload_n 1, 1) := by decide +kernel
theorem d45_19 : decode prog_23_method_1_code 19 = .ok (.putfield 19, 3) := by decide +kernel
theorem d45_22 : decode prog_23_method_1_code 22 = .ok (.aload_n 0, 1) := by decide +kernel
theorem d45_23 : decode prog_23_method_1_code 23 = .ok (.aload_n 2, 1) := by decide +kernel
theorem d45_24 : decode prog_23_method_1_code 24 = .ok (.putfield 23, 3) := by decide +kernel
theorem d45_27 : decode prog_23_method_1_code 27 = .ok (.return_, 1) := by decide +kernel
set_option maxRecDepth 65536 in
set_option maxHeartbeats 40000000 in
theorem con_rk (G : Gx) (H : Hyp G) (a p s : Nat) (c d : Int32) (h : Heap) (ho : Old G.Z G.n0 h) (E : Exa G.Z h a "com/example/versioned_table/versionedtable/RecordKey") (F0 : Fld G.Z h a "com/example/versioned_table/versionedtable/RecordKey" "partition" "Ljava/lang/String;" .null) (F1 : Fld G.Z h a "com/example/versioned_table/versionedtable/RecordKey" "sort" "Ljava/lang/String;" .null) (g : G.n0 ≤ a) (S : S1 G.Z h p c) (S2 : S1 G.Z h s d) (hc : cv c < 55296) (hn : narrow .char (.int (cv c)) = .int (cv c)) (hc2 : cv d < 55296) (hn2 : narrow .char (.int (cv d)) = .int (cv d)) :
    Con G (⟨"com/example/versioned_table/versionedtable/RecordKey", "<init>", "(Ljava/lang/String;Ljava/lang/String;)V"⟩ : MethodName) prog_23_method_1_code 3 none [] ({ frames := 8, cells := 6, slots := 62, locals := 3100 } : Room) #[(.ref a), (.ref p), (.ref s)] h (nQ fun h' => Keep h h' [a] ∧ Exa G.Z h' a "com/example/versioned_table/versionedtable/RecordKey") := by
  refine Con.intro H.el ho (plainFor_of_name pn29) (Ls := #[.val (.ref a), .val (.ref p), .val (.ref s)]) (fun m => by first | (simp [entryFrame, mkF, argsToLocals, Value.category]; done) | rfl) ?_
  intro X vm T w
  refine w.aloadN (q := 1) d45_0 rfl rfl rfl ?_
  refine w.callC (q := 4) d45_1 rfl (H.tw 18 rfl) (H.tw 19 rfl) (H.tw 22 rfl) (by decide) (a := a) (argsL := []) (rest := []) rfl (lenOf pd46 rfl) rfl (W := 0) (Nat.le_of_eq rfl) ((con_recinit G H a h ho).pay w (H.tw 22 rfl) (H.tw 21 rfl) (by decide) (by decide)) (by decide) (by decide) rfl fun vm1 T1 h1 v1 w1 q1 => ?_
  obtain ⟨rfl, rfl⟩ := q1
  show Go _ _ _ _ (T1.setTop (mkF X.m 4 #[.val (.ref a), .val (.ref p), .val (.ref s)] []))
  refine w1.aloadN (q := 5) d45_4 rfl rfl rfl ?_
  refine w1.callS (q := 8) d45_5 (H.tw 26 rfl) (H.tw 27 rfl) (H.tw 5 rfl) (H.tw 28 rfl) (by decide) (argsL := [(.ref p)]) (rest := []) rfl (lenOf pd47 rfl) rfl (W := 0) (Nat.le_of_eq rfl) ((con_rpn G H p c h w1.old S hc hn).pay w1 (H.tw 28 rfl) (H.tw 5 rfl) (by decide) (by decide)) (by decide) (by decide) rfl fun vm2 T2 h2 v2 w2 q2 => ?_
  obtain ⟨rfl, X2⟩ := q2
  show Go _ _ _ _ (T2.setTop (mkF X.m 8 #[.val (.ref a), .val (.ref p), .val (.ref s)] []))
  refine w2.aloadN (q := 9) d45_8 rfl rfl rfl ?_
  refine w2.ldcO (q := 11) (sz := 16) d45_9 H.wd (H.tw 112 rfl) H.sa (by decide) (by decide) (by decide) (by decide) rfl fun vm3 T3 h3 a3 w3 X3 ch3 => ?_
  have sz3 : h2.size ≤ h3.size := X3.1
  refine w3.sipush (q := 14) (1024 : Int32) d45_11 rfl rfl ?_
  refine w3.callS (q := 17) d45_14 (H.tw 30 rfl) (H.tw 31 rfl) (H.tw 5 rfl) (H.tw 32 rfl) (by decide) (argsL := [(.ref s), (.ref a3), (.int (1024 : Int32))]) (rest := []) rfl (lenOf pd42 rfl) rfl (W := 0) (Nat.le_of_eq rfl) ((con_rp G H s a3 (1024 : Int32) d h3 w3.old ((S2.ext X2).ext X3) hc2 hn2 (by decide)).pay w3 (H.tw 32 rfl) (H.tw 5 rfl) (by decide) (by decide)) (by decide) (by decide) rfl fun vm4 T4 h4 v4 w4 q4 => ?_
  obtain ⟨rfl, X4⟩ := q4
  show Go _ _ _ _ (T4.setTop (mkF X.m 17 #[.val (.ref a), .val (.ref p), .val (.ref s)] []))
  have XX := xtr (xtr X2 X3) X4
  have KK := (Keep.refl h [a]).ext XX
  replace E := E.ext XX
  replace F0 := F0.ext XX
  replace F1 := F1.ext XX
  refine w4.aloadN (q := 18) d45_17 rfl rfl rfl ?_
  refine w4.aloadN (q := 19) d45_18 rfl rfl rfl ?_
  refine w4.putF (q := 22) d45_19 (H.tw 113 rfl) Via.refl F0 E (Or.inr ⟨(H.tw 114 rfl), rfl, rfl⟩) (H.tw 4 rfl) (ty := (.object "java/lang/String")) (by decide) rfl rfl g (w4.sfE E (by decide) (by decide)) rfl fun T5 h5 w5 W5 sf5 => ?_
  have sz5 : h4.size ≤ h5.size := (Keep.of_wr W5).1
  replace E := E.wr W5
  replace F0 := F0.same W5
  replace F1 := F1.other W5 (Or.inr (slot_ne (Or.inr (H.tw 116 rfl)) (Or.inr (H.tw 114 rfl)) (by decide) (t := (.object "java/lang/String")) (t' := (.object "java/lang/String")) (by decide) (by decide)))
  replace KK := KK.wr W5 (Or.inl (List.mem_singleton.mpr rfl))
  refine w5.aloadN (q := 23) d45_22 rfl rfl rfl ?_
  refine w5.aloadN (q := 24) d45_23 rfl rfl rfl ?_
  refine w5.putF (q := 27) d45_24 (H.tw 115 rfl) Via.refl F1 E (Or.inr ⟨(H.tw 116 rfl), rfl, rfl⟩) (H.tw 4 rfl) (ty := (.object "java/lang/String")) (by decide) rfl rfl g (w5.sfE E (by decide) (by decide)) rfl fun T6 h6 w6 W6 sf6 => ?_
  have sz6 : h5.size ≤ h6.size := (Keep.of_wr W6).1
  replace E := E.wr W6
  replace F0 := F0.other W6 (Or.inr (slot_ne (Or.inr (H.tw 114 rfl)) (Or.inr (H.tw 116 rfl)) (by decide) (t := (.object "java/lang/String")) (t' := (.object "java/lang/String")) (by decide) (by decide)))
  replace F1 := F1.same W6
  replace KK := KK.wr W6 (Or.inl (List.mem_singleton.mpr rfl))
  exact w6.retV d45_27 rfl (by decide) (by decide) ⟨rfl, KK, E⟩
theorem d48_0 : decode prog_40_method_2_code 0 = .ok (.iload_n 0, 1) := by decide +kernel
theorem d48_1 : decode prog_40_method_2_code 1 = .ok (.iconst 1, 1) := by decide +kernel
theorem d48_2 : decode prog_40_method_2_code 2 = .ok (.if_icmp .lt 7, 3) := by decide +kernel
theorem d48_5 : decode prog_40_method_2_code 5 = .ok (.iconst 1, 1) := by decide +kernel
theorem d48_6 : decode prog_40_method_2_code 6 = .ok (.goto 4, 3) := by decide +kernel
theorem d48_10 : decode prog_40_method_2_code 10 = .ok (.ireturn, 1) := by decide +kernel
theorem pn49 : plainName "com/example/versioned_table/versionedtable/SchemaNumbers" = true := by first | (simp [plainName, overriddenIn]; done) | decide +kernel
set_option maxRecDepth 65536 in
set_option maxHeartbeats 40000000 in
theorem con_sn (G : Gx) (H : Hyp G)  (h : Heap) (ho : Old G.Z G.n0 h)  :
    Con G (⟨"com/example/versioned_table/versionedtable/SchemaNumbers", "isSchemaNumber", "(I)Z"⟩ : MethodName) prog_40_method_2_code 1 (some .boolean) [] ({ frames := 0, cells := 0, slots := 0, locals := 0 } : Room) #[(.int (1 : Int32))] h (vQ fun v h' => v = .int 1 ∧ h = h') := by
  refine Con.intro H.el ho (plainFor_of_name pn49) (Ls := #[.val (.int (1 : Int32))]) (fun m => by first | (simp [entryFrame, mkF, argsToLocals, Value.category]; done) | rfl) ?_
  intro X vm T w
  refine w.iloadN (q := 1) d48_0 rfl rfl ?_
  refine w.iconst (q := 2) (1 : Int32) d48_1 rfl rfl ?_
  refine w.icN (q := 5) d48_2 ((flt (by decide)).1) rfl ?_
  refine w.iconst (q := 6) (1 : Int32) d48_5 rfl rfl ?_
  refine w.goto (q := 10) d48_6 (by decide) (by decide) ?_
  exact w.retZ d48_10 (t := .boolean) rfl (by decide) rfl (by decide) (by decide) ⟨_, rfl, ⟨rfl, rfl⟩⟩
theorem d50_0 : decode prog_40_method_3_code 0 = .ok (.iload_n 0, 1) := by decide +kernel
theorem d50_1 : decode prog_40_method_3_code 1 = .ok (.invokestatic 9, 3) := by decide +kernel
theorem pd51 : parseMethodDescriptor "(I)Z" = some ⟨[.int], some .boolean⟩ := by decide +kernel
theorem d50_4 : decode prog_40_method_3_code 4 = .ok (.ifCond .ne 18, 3) := by decide +kernel
theorem d50_22 : decode prog_40_method_3_code 22 = .ok (.iload_n 0, 1) := by decide +kernel
theorem d50_23 : decode prog_40_method_3_code 23 = .ok (.ireturn, 1) := by decide +kernel
set_option maxRecDepth 65536 in
set_option maxHeartbeats 40000000 in
theorem con_rsn (G : Gx) (H : Hyp G) (b : Nat) (h : Heap) (ho : Old G.Z G.n0 h)  :
    Con G (⟨"com/example/versioned_table/versionedtable/SchemaNumbers", "requireSchemaNumber", "(ILjava/lang/String;)I"⟩ : MethodName) prog_40_method_3_code 2 (some .int) [] ({ frames := 1, cells := 0, slots := 0, locals := 12 } : Room) #[(.int (1 : Int32)), (.ref b)] h (vQ fun v h' => v = .int 1 ∧ h = h') := by
  refine Con.intro H.el ho (plainFor_of_name pn49) (Ls := #[.val (.int (1 : Int32)), .val (.ref b)]) (fun m => by first | (simp [entryFrame, mkF, argsToLocals, Value.category]; done) | rfl) ?_
  intro X vm T w
  refine w.iloadN (q := 1) d50_0 rfl rfl ?_
  refine w.callS (q := 4) d50_1 (H.tw 142 rfl) (H.tw 143 rfl) (H.tw 140 rfl) (H.tw 144 rfl) (by decide) (argsL := [(.int (1 : Int32))]) (rest := []) rfl (lenOf pd51 rfl) rfl (W := 0) (Nat.le_of_eq rfl) ((con_sn G H h ho).pay w (H.tw 144 rfl) (H.tw 140 rfl) (by decide) (by decide)) (by decide) (by decide) rfl fun vm1 T1 h1 v1 w1 q1 => ?_
  obtain ⟨_, rfl, rfl, rfl⟩ := q1
  show Go _ _ _ _ (T1.setTop (mkF X.m 4 #[.val (.int (1 : Int32)), .val (.ref b)] [(.int (1 : Int32))]))
  refine w1.ifY (q := 22) d50_4 ((if0 _ _).trans (feq (by decide)).2) (by decide) (by decide) ?_
  refine w1.iloadN (q := 23) d50_22 rfl rfl ?_
  exact w1.retI d50_23 rfl (by decide) (by decide) ⟨_, rfl, ⟨rfl, rfl⟩⟩
theorem d52_0 : decode prog_44_method_1_code 0 = .ok (.aload_n 0, 1) := by decide +kernel
theorem d52_1 : decode prog_44_method_1_code 1 = .ok (.invokespecial 1, 3) := by decide +kernel
theorem d52_4 : decode prog_44_method_1_code 4 = .ok (.aload_n 1, 1) := by decide +kernel
theorem d52_5 : decode prog_44_method_1_code 5 = .ok (.ldc 7, 2) := by decide +kernel
theorem d52_7 : decode prog_44_method_1_code 7 = .ok (.invokestatic 9, 3) := by decide +kernel
theorem pd53 : parseMethodDescriptor "(Ljava/lang/Object;Ljava/lang/String;)Ljava/lang/Object;" = some ⟨[(.object "java/lang/Object"), (.object "java/lang/String")], some (.object "java/lang/Object")⟩ := by decide +kernel
theorem d52_10 : decode prog_44_method_1_code 10 = .ok (.pop, 1) := by decide +kernel
theorem d52_11 : decode prog_44_method_1_code 11 = .ok (.aload 4, 2) := by decide +kernel
theorem d52_13 : decode prog_44_method_1_code 13 = .ok (.ldc 15, 2) := by decide +kernel
theorem d52_15 : decode prog_44_method_1_code 15 = .ok (.invokestatic 9, 3) := by decide +kernel
theorem d52_18 : decode prog_44_method_1_code 18 = .ok (.pop, 1) := by decide +kernel
theorem d52_19 : decode prog_44_method_1_code 19 = .ok (.aload 6, 2) := by decide +kernel
theorem d52_21 : decode prog_44_method_1_code 21 = .ok (.ldc 17, 2) := by decide +kernel
theorem d52_23 : decode prog_44_method_1_code 23 = .ok (.invokestatic 9, 3) := by decide +kernel
theorem d52_26 : decode prog_44_method_1_code 26 = .ok (.pop, 1) := by decide +kernel
theorem d52_27 : decode prog_44_method_1_code 27 = .ok (.aload 7, 2) := by decide +kernel
theorem d52_29 : decode prog_44_method_1_code 29 = .ok (.ldc 19, 2) := by decide +kernel
theorem d52_31 : decode prog_44_method_1_code 31 = .ok (.invokestatic 9, 3) := by decide +kernel
theorem d52_34 : decode prog_44_method_1_code 34 = .ok (.pop, 1) := by decide +kernel
theorem d52_35 : decode prog_44_method_1_code 35 = .ok (.iload 5, 2) := by decide +kernel
theorem d52_37 : decode prog_44_method_1_code 37 = .ok (.ldc 21, 2) := by decide +kernel
theorem d52_39 : decode prog_44_method_1_code 39 = .ok (.invokestatic 23, 3) := by decide +kernel
theorem pd54 : parseMethodDescriptor "(ILjava/lang/String;)I" = some ⟨[.int, (.object "java/lang/String")], some .int⟩ := by decide +kernel
theorem d52_42 : decode prog_44_method_1_code 42 = .ok (.pop, 1) := by decide +kernel
theorem d52_43 : decode prog_44_method_1_code 43 = .ok (.aload_n 0, 1) := by decide +kernel
theorem d52_44 : decode prog_44_method_1_code 44 = .ok (.aload_n 1, 1) := by decide +kernel
theorem d52_45 : decode prog_44_method_1_code 45 = .ok (.putfield 29, 3) := by decide +kernel
theorem d52_48 : decode prog_44_method_1_code 48 = .ok (.aload_n 0, 1) := by decide +kernel
theorem d52_49 : decode prog_44_method_1_code 49 = .ok (.lload_n 2, 1) := by decide +kernel
theorem d52_50 : decode prog_44_method_1_code 50 = .ok (.putfield 35, 3) := by decide +kernel
theorem d52_53 : decode prog_44_method_1_code 53 = .ok (.aload_n 0, 1) := by decide +kernel
theorem d52_54 : decode prog_44_method_1_code 54 = .ok (.aload 4, 2) := by decide +kernel
theorem d52_56 : decode prog_44_method_1_code 56 = .ok (.putfield 39, 3) := by decide +kernel
theorem d52_59 : decode prog_44_method_1_code 59 = .ok (.aload_n 0, 1) := by decide +kernel
theorem d52_60 : decode prog_44_method_1_code 60 = .ok (.iload 5, 2) := by decide +kernel
theorem d52_62 : decode prog_44_method_1_code 62 = .ok (.putfield 43, 3) := by decide +kernel
theorem d52_65 : decode prog_44_method_1_code 65 = .ok (.aload_n 0, 1) := by decide +kernel
theorem d52_66 : decode prog_44_method_1_code 66 = .ok (.aload 6, 2) := by decide +kernel
theorem d52_68 : decode prog_44_method_1_code 68 = .ok (.putfield 47, 3) := by decide +kernel
theorem d52_71 : decode prog_44_method_1_code 71 = .ok (.aload_n 0, 1) := by decide +kernel
theorem d52_72 : decode prog_44_method_1_code 72 = .ok (.aload 7, 2) := by decide +kernel
theorem d52_74 : decode prog_44_method_1_code 74 = .ok (.putfield 51, 3) := by decide +kernel
theorem d52_77 : decode prog_44_method_1_code 77 = .ok (.return_, 1) := by decide +kernel
theorem pn55 : plainName "com/example/versioned_table/versionedtable/StoredRecord" = true := by first | (simp [plainName, overriddenIn]; done) | decide +kernel
set_option maxRecDepth 65536 in
set_option maxHeartbeats 40000000 in
theorem con_sr (G : Gx) (H : Hyp G) (a ky dt o1 o2 : Nat) (ver : Int64) (h : Heap) (ho : Old G.Z G.n0 h) (E : Exa G.Z h a "com/example/versioned_table/versionedtable/StoredRecord") (F_key : Fld G.Z h a "com/example/versioned_table/versionedtable/StoredRecord" "key" "Lcom/example/versioned_table/versionedtable/RecordKey;" .null) (F_version : Fld G.Z h a "com/example/versioned_table/versionedtable/StoredRecord" "version" "J" (.long 0)) (F_data : Fld G.Z h a "com/example/versioned_table/versionedtable/StoredRecord" "data" "Ljava/lang/String;" .null) (F_dataVersion : Fld G.Z h a "com/example/versioned_table/versionedtable/StoredRecord" "dataVersion" "I" (.int 0)) (F_expiresAt : Fld G.Z h a "com/example/versioned_table/versionedtable/StoredRecord" "expiresAt" "Ljava/util/Optional;" .null) (F_lifeId : Fld G.Z h a "com/example/versioned_table/versionedtable/StoredRecord" "lifeId" "Ljava/util/Optional;" .null) (g : G.n0 ≤ a) :
    Con G (⟨"com/example/versioned_table/versionedtable/StoredRecord", "<init>", "(Lcom/example/versioned_table/versionedtable/RecordKey;JLjava/lang/String;ILjava/util/Optional;Ljava/util/Optional;)V"⟩ : MethodName) prog_44_method_1_code 8 none [] ({ frames := 2, cells := 10, slots := 436, locals := 25 } : Room) #[(.ref a), (.ref ky), (.long ver), (.ref dt), (.int (1 : Int32)), (.ref o1), (.ref o2)] h (nQ fun h' => Keep h h' [a] ∧ Exa G.Z h' a "com/example/versioned_table/versionedtable/StoredRecord") := by
  refine Con.intro H.el ho (plainFor_of_name pn55) (Ls := #[.val (.ref a), .val (.ref ky), .val (.long ver), .second, .val (.ref dt), .val (.int (1 : Int32)), .val (.ref o1), .val (.ref o2)]) (fun m => by first | (simp [entryFrame, mkF, argsToLocals, Value.category]; done) | rfl) ?_
  intro X vm T w
  refine w.aloadN (q := 1) d52_0 rfl rfl rfl ?_
  refine w.callC (q := 4) d52_1 rfl (H.tw 129 rfl) (H.tw 19 rfl) (H.tw 22 rfl) (by decide) (a := a) (argsL := []) (rest := []) rfl (lenOf pd46 rfl) rfl (W := 0) (Nat.le_of_eq rfl) ((con_recinit G H a h ho).pay w (H.tw 22 rfl) (H.tw 21 rfl) (by decide) (by decide)) (by decide) (by decide) rfl fun vm1 T1 h1 v1 w1 q1 => ?_
  obtain ⟨rfl, rfl⟩ := q1
  show Go _ _ _ _ (T1.setTop (mkF X.m 4 #[.val (.ref a), .val (.ref ky), .val (.long ver), .second, .val (.ref dt), .val (.int (1 : Int32)), .val (.ref o1), .val (.ref o2)] []))
  have KK := Keep.refl h [a]
  refine w1.aloadN (q := 5) d52_4 rfl rfl rfl ?_
  refine w1.ldcO (q := 7) (sz := 80) d52_5 H.wd (H.tw 130 rfl) H.sa (by decide) (by decide) (by decide) (by decide) rfl fun vm2 T2 h2 a2 w2 X2 ch2 => ?_
  have sz2 : h.size ≤ h2.size := X2.1
  replace KK := KK.ext X2
  replace E := E.ext X2
  replace F_key := F_key.ext X2
  replace F_version := F_version.ext X2
  replace F_data := F_data.ext X2
  replace F_dataVersion := F_dataVersion.ext X2
  replace F_expiresAt := F_expiresAt.ext X2
  replace F_lifeId := F_lifeId.ext X2
  refine w2.callS (q := 10) d52_7 (H.tw 131 rfl) (H.tw 132 rfl) (H.tw 39 rfl) (H.tw 133 rfl) (by decide) (argsL := [(.ref ky), (.ref a2)]) (rest := []) rfl (lenOf pd53 rfl) rfl (W := 0) (Nat.le_of_eq rfl) ((con_rnn2 G H ky a2 h2 w2.old).pay w2 (H.tw 133 rfl) (H.tw 39 rfl) (by decide) (by decide)) (by decide) (by decide) rfl fun vm3 T3 h3 v3 w3 q3 => ?_
  obtain ⟨_, rfl, rfl, rfl⟩ := q3
  show Go _ _ _ _ (T3.setTop (mkF X.m 10 #[.val (.ref a), .val (.ref ky), .val (.long ver), .second, .val (.ref dt), .val (.int (1 : Int32)), .val (.ref o1), .val (.ref o2)] [(.ref ky)]))
  refine w3.pop (q := 11) d52_10 rfl rfl ?_
  refine w3.aload (q := 13) d52_11 rfl rfl rfl ?_
  refine w3.ldcO (q := 15) (sz := 84) d52_13 H.wd (H.tw 134 rfl) H.sa (by decide) (by decide) (by decide) (by decide) rfl fun vm4 T4 h4 a4 w4 X4 ch4 => ?_
  have sz4 : h2.size ≤ h4.size := X4.1
  replace KK := KK.ext X4
  replace E := E.ext X4
  replace F_key := F_key.ext X4
  replace F_version := F_version.ext X4
  replace F_data := F_data.ext X4
  replace F_dataVersion := F_dataVersion.ext X4
  replace F_expiresAt := F_expiresAt.ext X4
  replace F_lifeId := F_lifeId.ext X4
  refine w4.callS (q := 18) d52_15 (H.tw 131 rfl) (H.tw 132 rfl) (H.tw 39 rfl) (H.tw 133 rfl) (by decide) (argsL := [(.ref dt), (.ref a4)]) (rest := []) rfl (lenOf pd53 rfl) rfl (W := 0) (Nat.le_of_eq rfl) ((con_rnn2 G H dt a4 h4 w4.old).pay w4 (H.tw 133 rfl) (H.tw 39 rfl) (by decide) (by decide)) (by decide) (by decide) rfl fun vm5 T5 h5 v5 w5 q5 => ?_
  obtain ⟨_, rfl, rfl, rfl⟩ := q5
  show Go _ _ _ _ (T5.setTop (mkF X.m 18 #[.val (.ref a), .val (.ref ky), .val (.long ver), .second, .val (.ref dt), .val (.int (1 : Int32)), .val (.ref o1), .val (.ref o2)] [(.ref dt)]))
  refine w5.pop (q := 19) d52_18 rfl rfl ?_
  refine w5.aload (q := 21) d52_19 rfl rfl rfl ?_
  refine w5.ldcO (q := 23) (sz := 104) d52_21 H.wd (H.tw 135 rfl) H.sa (by decide) (by decide) (by decide) (by decide) rfl fun vm6 T6 h6 a6 w6 X6 ch6 => ?_
  have sz6 : h4.size ≤ h6.size := X6.1
  replace KK := KK.ext X6
  replace E := E.ext X6
  replace F_key := F_key.ext X6
  replace F_version := F_version.ext X6
  replace F_data := F_data.ext X6
  replace F_dataVersion := F_dataVersion.ext X6
  replace F_expiresAt := F_expiresAt.ext X6
  replace F_lifeId := F_lifeId.ext X6
  refine w6.callS (q := 26) d52_23 (H.tw 131 rfl) (H.tw 132 rfl) (H.tw 39 rfl) (H.tw 133 rfl) (by decide) (argsL := [(.ref o1), (.ref a6)]) (rest := []) rfl (lenOf pd53 rfl) rfl (W := 0) (Nat.le_of_eq rfl) ((con_rnn2 G H o1 a6 h6 w6.old).pay w6 (H.tw 133 rfl) (H.tw 39 rfl) (by decide) (by decide)) (by decide) (by decide) rfl fun vm7 T7 h7 v7 w7 q7 => ?_
  obtain ⟨_, rfl, rfl, rfl⟩ := q7
  show Go _ _ _ _ (T7.setTop (mkF X.m 26 #[.val (.ref a), .val (.ref ky), .val (.long ver), .second, .val (.ref dt), .val (.int (1 : Int32)), .val (.ref o1), .val (.ref o2)] [(.ref o1)]))
  refine w7.pop (q := 27) d52_26 rfl rfl ?_
  refine w7.aload (q := 29) d52_27 rfl rfl rfl ?_
  refine w7.ldcO (q := 31) (sz := 92) d52_29 H.wd (H.tw 136 rfl) H.sa (by decide) (by decide) (by decide) (by decide) rfl fun vm8 T8 h8 a8 w8 X8 ch8 => ?_
  have sz8 : h6.size ≤ h8.size := X8.1
  replace KK := KK.ext X8
  replace E := E.ext X8
  replace F_key := F_key.ext X8
  replace F_version := F_version.ext X8
  replace F_data := F_data.ext X8
  replace F_dataVersion := F_dataVersion.ext X8
  replace F_expiresAt := F_expiresAt.ext X8
  replace F_lifeId := F_lifeId.ext X8
  refine w8.callS (q := 34) d52_31 (H.tw 131 rfl) (H.tw 132 rfl) (H.tw 39 rfl) (H.tw 133 rfl) (by decide) (argsL := [(.ref o2), (.ref a8)]) (rest := []) rfl (lenOf pd53 rfl) rfl (W := 0) (Nat.le_of_eq rfl) ((con_rnn2 G H o2 a8 h8 w8.old).pay w8 (H.tw 133 rfl) (H.tw 39 rfl) (by decide) (by decide)) (by decide) (by decide) rfl fun vm9 T9 h9 v9 w9 q9 => ?_
  obtain ⟨_, rfl, rfl, rfl⟩ := q9
  show Go _ _ _ _ (T9.setTop (mkF X.m 34 #[.val (.ref a), .val (.ref ky), .val (.long ver), .second, .val (.ref dt), .val (.int (1 : Int32)), .val (.ref o1), .val (.ref o2)] [(.ref o2)]))
  refine w9.pop (q := 35) d52_34 rfl rfl ?_
  refine w9.iload (q := 37) d52_35 rfl rfl ?_
  refine w9.ldcO (q := 39) (sz := 56) d52_37 H.wd (H.tw 137 rfl) H.sa (by decide) (by decide) (by decide) (by decide) rfl fun vm10 T10 h10 a10 w10 X10 ch10 => ?_
  have sz10 : h8.size ≤ h10.size := X10.1
  replace KK := KK.ext X10
  replace E := E.ext X10
  replace F_key := F_key.ext X10
  replace F_version := F_version.ext X10
  replace F_data := F_data.ext X10
  replace F_dataVersion := F_dataVersion.ext X10
  replace F_expiresAt := F_expiresAt.ext X10
  replace F_lifeId := F_lifeId.ext X10
  refine w10.callS (q := 42) d52_39 (H.tw 138 rfl) (H.tw 139 rfl) (H.tw 140 rfl) (H.tw 141 rfl) (by decide) (argsL := [(.int (1 : Int32)), (.ref a10)]) (rest := []) rfl (lenOf pd54 rfl) rfl (W := 0) (Nat.le_of_eq rfl) ((con_rsn G H a10 h10 w10.old).pay w10 (H.tw 141 rfl) (H.tw 140 rfl) (by decide) (by decide)) (by decide) (by decide) rfl fun vm11 T11 h11 v11 w11 q11 => ?_
  obtain ⟨_, rfl, rfl, rfl⟩ := q11
  show Go _ _ _ _ (T11.setTop (mkF X.m 42 #[.val (.ref a), .val (.ref ky), .val (.long ver), .second, .val (.ref dt), .val (.int (1 : Int32)), .val (.ref o1), .val (.ref o2)] [(.int (1 : Int32))]))
  refine w11.pop (q := 43) d52_42 rfl rfl ?_
  refine w11.aloadN (q := 44) d52_43 rfl rfl rfl ?_
  refine w11.aloadN (q := 45) d52_44 rfl rfl rfl ?_
  refine w11.putF (q := 48) d52_45 (H.tw 145 rfl) Via.refl F_key E (Or.inr ⟨(H.tw 146 rfl), rfl, rfl⟩) (H.tw 118 rfl) (ty := (.object "com/example/versioned_table/versionedtable/RecordKey")) (by decide) rfl rfl g (w11.sfE E (by decide) (by decide)) rfl fun T12 h12 w12 W12 sf12 => ?_
  have sz12 : h10.size ≤ h12.size := (Keep.of_wr W12).1
  replace E := E.wr W12
  replace F_key := F_key.same W12
  replace F_version := F_version.other W12 (Or.inr (slot_ne (Or.inr (H.tw 148 rfl)) (Or.inr (H.tw 146 rfl)) (by decide) (t := .long) (t' := (.object "com/example/versioned_table/versionedtable/RecordKey")) (by decide) (by decide)))
  replace F_data := F_data.other W12 (Or.inr (slot_ne (Or.inr (H.tw 150 rfl)) (Or.inr (H.tw 146 rfl)) (by decide) (t := (.object "java/lang/String")) (t' := (.object "com/example/versioned_table/versionedtable/RecordKey")) (by decide) (by decide)))
  replace F_dataVersion := F_dataVersion.other W12 (Or.inr (slot_ne (Or.inr (H.tw 152 rfl)) (Or.inr (H.tw 146 rfl)) (by decide) (t := .int) (t' := (.object "com/example/versioned_table/versionedtable/RecordKey")) (by decide) (by decide)))
  replace F_expiresAt := F_expiresAt.other W12 (Or.inr (slot_ne (Or.inr (H.tw 154 rfl)) (Or.inr (H.tw 146 rfl)) (by decide) (t := (.object "java/util/Optional")) (t' := (.object "com/example/versioned_table/versionedtable/RecordKey")) (by decide) (by decide)))
  replace F_lifeId := F_lifeId.other W12 (Or.inr (slot_ne (Or.inr (H.tw 156 rfl)) (Or.inr (H.tw 146 rfl)) (by decide) (t := (.object "java/util/Optional")) (t' := (.object "com/example/versioned_table/versionedtable/RecordKey")) (by decide) (by decide)))
  replace KK := KK.wr W12 (Or.inl (List.mem_singleton.mpr rfl))
  refine w12.aloadN (q := 49) d52_48 rfl rfl rfl ?_
  refine w12.lloadN (q := 50) d52_49 rfl rfl ?_
  refine w12.putF (q := 53) d52_50 (H.tw 147 rfl) Via.refl F_version E (Or.inr ⟨(H.tw 148 rfl), rfl, rfl⟩) (H.tw 118 rfl) (ty := .long) (by decide) rfl rfl g (w12.sfE E (by decide) (by decide)) rfl fun T13 h13 w13 W13 sf13 => ?_
  have sz13 : h12.size ≤ h13.size := (Keep.of_wr W13).1
  replace E := E.wr W13
  replace F_key := F_key.other W13 (Or.inr (slot_ne (Or.inr (H.tw 146 rfl)) (Or.inr (H.tw 148 rfl)) (by decide) (t := (.object "com/example/versioned_table/versionedtable/RecordKey")) (t' := .long) (by decide) (by decide)))
  replace F_version := F_version.same W13
  replace F_data := F_data.other W13 (Or.inr (slot_ne (Or.inr (H.tw 150 rfl)) (Or.inr (H.tw 148 rfl)) (by decide) (t := (.object "java/lang/String")) (t' := .long) (by decide) (by decide)))
  replace F_dataVersion := F_dataVersion.other W13 (Or.inr (slot_ne (Or.inr (H.tw 152 rfl)) (Or.inr (H.tw 148 rfl)) (by decide) (t := .int) (t' := .long) (by decide) (by decide)))
  replace F_expiresAt := F_expiresAt.other W13 (Or.inr (slot_ne (Or.inr (H.tw 154 rfl)) (Or.inr (H.tw 148 rfl)) (by decide) (t := (.object "java/util/Optional")) (t' := .long) (by decide) (by decide)))
  replace F_lifeId := F_lifeId.other W13 (Or.inr (slot_ne (Or.inr (H.tw 156 rfl)) (Or.inr (H.tw 148 rfl)) (by decide) (t := (.object "java/util/Optional")) (t' := .long) (by decide) (by decide)))
  replace KK := KK.wr W13 (Or.inl (List.mem_singleton.mpr rfl))
  refine w13.aloadN (q := 54) d52_53 rfl rfl rfl ?_
  refine w13.aload (q := 56) d52_54 rfl rfl rfl ?_
  refine w13.putF (q := 59) d52_56 (H.tw 149 rfl) Via.refl F_data E (Or.inr ⟨(H.tw 150 rfl), rfl, rfl⟩) (H.tw 118 rfl) (ty := (.object "java/lang/String")) (by decide) rfl rfl g (w13.sfE E (by decide) (by decide)) rfl fun T14 h14 w14 W14 sf14 => ?_
  have sz14 : h13.size ≤ h14.size := (Keep.of_wr W14).1
  replace E := E.wr W14
  replace F_key := F_key.other W14 (Or.inr (slot_ne (Or.inr (H.tw 146 rfl)) (Or.inr (H.tw 150 rfl)) (by decide) (t := (.object "com/example/versioned_table/versionedtable/RecordKey")) (t' := (.object "java/lang/String")) (by decide) (by decide)))
  replace F_version := F_version.other W14 (Or.inr (slot_ne (Or.inr (H.tw 148 rfl)) (Or.inr (H.tw 150 rfl)) (by decide) (t := .long) (t' := (.object "java/lang/String")) (by decide) (by decide)))
  replace F_data := F_data.same W14
  replace F_dataVersion := F_dataVersion.other W14 (Or.inr (slot_ne (Or.inr (H.tw 152 rfl)) (Or.inr (H.tw 150 rfl)) (by decide) (t := .int) (t' := (.object "java/lang/String")) (by decide) (by decide)))
  replace F_expiresAt := F_expiresAt.other W14 (Or.inr (slot_ne (Or.inr (H.tw 154 rfl)) (Or.inr (H.tw 150 rfl)) (by decide) (t := (.object "java/util/Optional")) (t' := (.object "java/lang/String")) (by decide) (by decide)))
  replace F_lifeId := F_lifeId.other W14 (Or.inr (slot_ne (Or.inr (H.tw 156 rfl)) (Or.inr (H.tw 150 rfl)) (by decide) (t := (.object "java/util/Optional")) (t' := (.object "java/lang/String")) (by decide) (by decide)))
  replace KK := KK.wr W14 (Or.inl (List.mem_singleton.mpr rfl))
  refine w14.aloadN (q := 60) d52_59 rfl rfl rfl ?_
  refine w14.iload (q := 62) d52_60 rfl rfl ?_
  refine w14.putF (q := 65) d52_62 (H.tw 151 rfl) Via.refl F_dataVersion E (Or.inr ⟨(H.tw 152 rfl), rfl, rfl⟩) (H.tw 118 rfl) (ty := .int) (by decide) rfl rfl g (w14.sfE E (by decide) (by decide)) rfl fun T15 h15 w15 W15 sf15 => ?_
  have sz15 : h14.size ≤ h15.size := (Keep.of_wr W15).1
  replace E := E.wr W15
  replace F_key := F_key.other W15 (Or.inr (slot_ne (Or.inr (H.tw 146 rfl)) (Or.inr (H.tw 152 rfl)) (by decide) (t := (.object "com/example/versioned_table/versionedtable/RecordKey")) (t' := .int) (by decide) (by decide)))
  replace F_version := F_version.other W15 (Or.inr (slot_ne (Or.inr (H.tw 148 rfl)) (Or.inr (H.tw 152 rfl)) (by decide) (t := .long) (t' := .int) (by decide) (by decide)))
  replace F_data := F_data.other W15 (Or.inr (slot_ne (Or.inr (H.tw 150 rfl)) (Or.inr (H.tw 152 rfl)) (by decide) (t := (.object "java/lang/String")) (t' := .int) (by decide) (by decide)))
  replace F_dataVersion := F_dataVersion.same W15
  replace F_expiresAt := F_expiresAt.other W15 (Or.inr (slot_ne (Or.inr (H.tw 154 rfl)) (Or.inr (H.tw 152 rfl)) (by decide) (t := (.object "java/util/Optional")) (t' := .int) (by decide) (by decide)))
  replace F_lifeId := F_lifeId.other W15 (Or.inr (slot_ne (Or.inr (H.tw 156 rfl)) (Or.inr (H.tw 152 rfl)) (by decide) (t := (.object "java/util/Optional")) (t' := .int) (by decide) (by decide)))
  replace KK := KK.wr W15 (Or.inl (List.mem_singleton.mpr rfl))
  refine w15.aloadN (q := 66) d52_65 rfl rfl rfl ?_
  refine w15.aload (q := 68) d52_66 rfl rfl rfl ?_
  refine w15.putF (q := 71) d52_68 (H.tw 153 rfl) Via.refl F_expiresAt E (Or.inr ⟨(H.tw 154 rfl), rfl, rfl⟩) (H.tw 118 rfl) (ty := (.object "java/util/Optional")) (by decide) rfl rfl g (w15.sfE E (by decide) (by decide)) rfl fun T16 h16 w16 W16 sf16 => ?_
  have sz16 : h15.size ≤ h16.size := (Keep.of_wr W16).1
  replace E := E.wr W16
  replace F_key := F_key.other W16 (Or.inr (slot_ne (Or.inr (H.tw 146 rfl)) (Or.inr (H.tw 154 rfl)) (by decide) (t := (.object "com/example/versioned_table/versionedtable/RecordKey")) (t' := (.object "java/util/Optional")) (by decide) (by decide)))
  replace F_version := F_version.other W16 (Or.inr (slot_ne (Or.inr (H.tw 148 rfl)) (Or.inr (H.tw 154 rfl)) (by decide) (t := .long) (t' := (.object "java/util/Optional")) (by decide) (by decide)))
  replace F_data := F_data.other W16 (Or.inr (slot_ne (Or.inr (H.tw 150 rfl)) (Or.inr (H.tw 154 rfl)) (by decide) (t := (.object "java/lang/String")) (t' := (.object "java/util/Optional")) (by decide) (by decide)))
  replace F_dataVersion := F_dataVersion.other W16 (Or.inr (slot_ne (Or.inr (H.tw 152 rfl)) (Or.inr (H.tw 154 rfl)) (by decide) (t := .int) (t' := (.object "java/util/Optional")) (by decide) (by decide)))
  replace F_expiresAt := F_expiresAt.same W16
  replace F_lifeId := F_lifeId.other W16 (Or.inr (slot_ne (Or.inr (H.tw 156 rfl)) (Or.inr (H.tw 154 rfl)) (by decide) (t := (.object "java/util/Optional")) (t' := (.object "java/util/Optional")) (by decide) (by decide)))
  replace KK := KK.wr W16 (Or.inl (List.mem_singleton.mpr rfl))
  refine w16.aloadN (q := 72) d52_71 rfl rfl rfl ?_
  refine w16.aload (q := 74) d52_72 rfl rfl rfl ?_
  refine w16.putF (q := 77) d52_74 (H.tw 155 rfl) Via.refl F_lifeId E (Or.inr ⟨(H.tw 156 rfl), rfl, rfl⟩) (H.tw 118 rfl) (ty := (.object "java/util/Optional")) (by decide) rfl rfl g (w16.sfE E (by decide) (by decide)) rfl fun T17 h17 w17 W17 sf17 => ?_
  have sz17 : h16.size ≤ h17.size := (Keep.of_wr W17).1
  replace E := E.wr W17
  replace F_key := F_key.other W17 (Or.inr (slot_ne (Or.inr (H.tw 146 rfl)) (Or.inr (H.tw 156 rfl)) (by decide) (t := (.object "com/example/versioned_table/versionedtable/RecordKey")) (t' := (.object "java/util/Optional")) (by decide) (by decide)))
  replace F_version := F_version.other W17 (Or.inr (slot_ne (Or.inr (H.tw 148 rfl)) (Or.inr (H.tw 156 rfl)) (by decide) (t := .long) (t' := (.object "java/util/Optional")) (by decide) (by decide)))
  replace F_data := F_data.other W17 (Or.inr (slot_ne (Or.inr (H.tw 150 rfl)) (Or.inr (H.tw 156 rfl)) (by decide) (t := (.object "java/lang/String")) (t' := (.object "java/util/Optional")) (by decide) (by decide)))
  replace F_dataVersion := F_dataVersion.other W17 (Or.inr (slot_ne (Or.inr (H.tw 152 rfl)) (Or.inr (H.tw 156 rfl)) (by decide) (t := .int) (t' := (.object "java/util/Optional")) (by decide) (by decide)))
  replace F_expiresAt := F_expiresAt.other W17 (Or.inr (slot_ne (Or.inr (H.tw 154 rfl)) (Or.inr (H.tw 156 rfl)) (by decide) (t := (.object "java/util/Optional")) (t' := (.object "java/util/Optional")) (by decide) (by decide)))
  replace F_lifeId := F_lifeId.same W17
  replace KK := KK.wr W17 (Or.inl (List.mem_singleton.mpr rfl))
  exact w17.retV d52_77 rfl (by decide) (by decide) ⟨rfl, KK, E⟩
theorem d56_0 : decode jdk_18_method_1_code 0 = .ok (.aload_n 0, 1) := by decide +kernel
theorem d56_1 : decode jdk_18_method_1_code 1 = .ok (.invokespecial 1, 3) := by decide +kernel
theorem d56_4 : decode jdk_18_method_1_code 4 = .ok (.return_, 1) := by decide +kernel
theorem pn57 : plainName "java/lang/Number" = true := by first | (simp [plainName, overriddenIn]; done) | decide +kernel
set_option maxRecDepth 65536 in
set_option maxHeartbeats 40000000 in
theorem con_num (G : Gx) (H : HypN G) (a : Nat) (h : Heap) (ho : Old G.Z G.n0 h)  :
    Con G (⟨"java/lang/Number", "<init>", "()V"⟩ : MethodName) jdk_18_method_1_code 1 none [] ({ frames := 1, cells := 0, slots := 0, locals := 12 } : Room) #[(.ref a)] h (nQ fun h' => h = h') := by
  refine Con.intro H.el ho (plainFor_of_name pn57) (Ls := #[.val (.ref a)]) (fun m => by first | (simp [entryFrame, mkF, argsToLocals, Value.category]; done) | rfl) ?_
  intro X vm T w
  refine w.aloadN (q := 1) d56_0 rfl rfl rfl ?_
  refine w.initO (q := 4) (W := 0) d56_1 (H.tw 287 rfl) (H.tw 24 rfl) (H.tw 25 rfl) rfl (by decide) (Nat.le_of_eq rfl) (by decide) rfl fun T1 w1 => ?_
  exact w1.retV d56_4 rfl (by decide) (by decide) ⟨rfl, rfl⟩
theorem d58_0 : decode jdk_35_method_26_code 0 = .ok (.aload_n 0, 1) := by decide +kernel
theorem d58_1 : decode jdk_35_method_26_code 1 = .ok (.invokespecial 270, 3) := by decide +kernel
theorem d58_4 : decode jdk_35_method_26_code 4 = .ok (.aload_n 0, 1) := by decide +kernel
theorem d58_5 : decode jdk_35_method_26_code 5 = .ok (.lload_n 1, 1) := by decide +kernel
theorem d58_6 : decode jdk_35_method_26_code 6 = .ok (.putfield 273, 3) := by decide +kernel
theorem d58_9 : decode jdk_35_method_26_code 9 = .ok (.return_, 1) := by decide +kernel
theorem pn59 : plainName "java/lang/Long" = true := by first | (simp [plainName, overriddenIn]; done) | decide +kernel
set_option maxRecDepth 65536 in
set_option maxHeartbeats 40000000 in
theorem con_lini (G : Gx) (H : HypN G) (a : Nat) (x : Int64) (h : Heap) (ho : Old G.Z G.n0 h) (E : Exa G.Z h a "java/lang/Long") (F : Fld G.Z h a "java/lang/Long" "value" "J" (.long 0)) (g : G.n0 ≤ a) :
    Con G (⟨"java/lang/Long", "<init>", "(J)V"⟩ : MethodName) jdk_35_method_26_code 3 none [] ({ frames := 2, cells := 0, slots := 0, locals := 24 } : Room) #[(.ref a), (.long x)] h (nQ fun h' => Keep h h' [a] ∧ LongAt G.Z h' a x) := by
  refine Con.intro H.el ho (plainFor_of_name pn59) (Ls := #[.val (.ref a), .val (.long x), .second]) (fun m => by first | (simp [entryFrame, mkF, argsToLocals, Value.category]; done) | rfl) ?_
  intro X vm T w
  refine w.aloadN (q := 1) d58_0 rfl rfl rfl ?_
  refine w.callC (q := 4) d58_1 rfl (H.tw 281 rfl) (H.tw 282 rfl) (H.tw 286 rfl) (by decide) (a := a) (argsL := []) (rest := []) rfl (lenOf pd46 rfl) rfl (W := 0) (Nat.le_of_eq rfl) ((con_num G H a h ho).pay w (H.tw 286 rfl) (H.tw 285 rfl) (by decide) (by decide)) (by decide) (by decide) rfl fun vm1 T1 h1 v1 w1 q1 => ?_
  obtain ⟨rfl, rfl⟩ := q1
  show Go _ _ _ _ (T1.setTop (mkF X.m 4 #[.val (.ref a), .val (.long x), .second] []))
  refine w1.aloadN (q := 5) d58_4 rfl rfl rfl ?_
  refine w1.lloadN (q := 6) d58_5 rfl rfl ?_
  refine w1.putF (q := 9) d58_6 (H.tw 288 rfl) Via.refl F E (Or.inr ⟨(H.tw 289 rfl), rfl, rfl⟩) (H.tw 276 rfl) (ty := .long) (by decide) rfl rfl g (w1.sfE E (by decide) (by decide)) rfl fun T2 h2 w2 W2 sf2 => ?_
  have sz2 : h.size ≤ h2.size := (Keep.of_wr W2).1
  exact w2.retV d58_9 rfl (by decide) (by decide) ⟨rfl, Keep.of_wr W2, E.wr W2, F.same W2⟩
theorem d60_0 : decode jdk_35_method_24_code 0 = .ok (.sipush 128, 3) := by decide +kernel
theorem d60_3 : decode jdk_35_method_24_code 3 = .ok (.istore_n 2, 1) := by decide +kernel
theorem d60_4 : decode jdk_35_method_24_code 4 = .ok (.lload_n 0, 1) := by decide +kernel
theorem d60_5 : decode jdk_35_method_24_code 5 = .ok (.ldc2_w 230, 3) := by decide +kernel
theorem d60_8 : decode jdk_35_method_24_code 8 = .ok (.lcmp, 1) := by decide +kernel
theorem d60_9 : decode jdk_35_method_24_code 9 = .ok (.ifCond .lt 22, 3) := by decide +kernel
theorem d60_31 : decode jdk_35_method_24_code 31 = .ok (.new 1, 3) := by decide +kernel
theorem d60_34 : decode jdk_35_method_24_code 34 = .ok (.dup, 1) := by decide +kernel
theorem d60_35 : decode jdk_35_method_24_code 35 = .ok (.lload_n 0, 1) := by decide +kernel
theorem d60_36 : decode jdk_35_method_24_code 36 = .ok (.invokespecial 240, 3) := by decide +kernel
theorem pd61 : parseMethodDescriptor "(J)V" = some ⟨[.long], none⟩ := by decide +kernel
theorem d60_39 : decode jdk_35_method_24_code 39 = .ok (.areturn, 1) := by decide +kernel
theorem d60_12 : decode jdk_35_method_24_code 12 = .ok (.lload_n 0, 1) := by decide +kernel
theorem d60_13 : decode jdk_35_method_24_code 13 = .ok (.ldc2_w 232, 3) := by decide +kernel
theorem d60_16 : decode jdk_35_method_24_code 16 = .ok (.lcmp, 1) := by decide +kernel
theorem d60_17 : decode jdk_35_method_24_code 17 = .ok (.ifCond .gt 14, 3) := by decide +kernel
theorem d60_20 : decode jdk_35_method_24_code 20 = .ok (.getstatic 234, 3) := by decide +kernel
theorem d60_23 : decode jdk_35_method_24_code 23 = .ok (.lload_n 0, 1) := by decide +kernel
theorem d60_24 : decode jdk_35_method_24_code 24 = .ok (.l2i, 1) := by decide +kernel
theorem d60_25 : decode jdk_35_method_24_code 25 = .ok (.sipush 128, 3) := by decide +kernel
theorem d60_28 : decode jdk_35_method_24_code 28 = .ok (.iadd, 1) := by decide +kernel
theorem d60_29 : decode jdk_35_method_24_code 29 = .ok (.aaload, 1) := by decide +kernel
theorem d60_30 : decode jdk_35_method_24_code 30 = .ok (.areturn, 1) := by decide +kernel
set_option maxRecDepth 65536 in
set_option maxHeartbeats 40000000 in
theorem con_vo (G : Gx) (H : HypN G) (x : Int64) (h : Heap) (ho : Old G.Z G.n0 h)  :
    Con G (⟨"java/lang/Long", "valueOf", "(J)Ljava/lang/Long;"⟩ : MethodName) jdk_35_method_24_code 3 (some (.object "java/lang/Long")) [] ({ frames := 3, cells := 1, slots := 1, locals := 39 } : Room) #[(.long x)] h (vQ fun v h' => ∃ r : Nat, v = .ref r ∧ Ext h h' ∧ LongAt G.Z h' r x) := by
  refine Con.intro H.el ho (plainFor_of_name pn59) (Ls := #[.val (.long x), .second, .unset]) (fun m => by first | (simp [entryFrame, mkF, argsToLocals, Value.category]; done) | rfl) ?_
  intro X vm T w
  refine w.sipush (q := 3) (128 : Int32) d60_0 rfl rfl ?_
  refine w.istoreN (q := 4) (L2 := #[.val (.long x), .second, .val (.int (128 : Int32))]) d60_3 rfl rfl ?_
  refine w.lloadN (q := 5) d60_4 rfl rfl ?_
  refine w.ldc2J (q := 8) d60_5 (H.tw 274 rfl) rfl ?_
  refine w.lcmp (q := 9) d60_8 rfl ?_
  by_cases c0 : (lcmpW x (-128 : Int64)) < (0 : Int32)
  ·
    refine w.ifY (q := 31) d60_9 ((if0 _ _).trans (tlt c0).1) (by decide) (by decide) ?_
    refine w.newO (q := 34) d60_31 (H.tw 275 rfl) (H.tw 276 rfl) (H.tw 253 rfl) (by decide) (by decide) rfl fun T1 h1 b1 e1 w1 E1 A1 D1 U1 => ?_
    have lt1 : b1 < h1.size := A1.lt
    have sz1 : h.size ≤ h1.size := E1.1
    have F1_value : Fld G.Z h1 b1 "java/lang/Long" "value" "J" (.long (0 : Int64)) := D1 (Or.inr (H.tw 289 rfl)) (ty := .long) (by decide)
    have g1 : G.n0 ≤ b1 := by have := ho.2.1; have := ho.1; omega
    refine w1.dup (q := 35) d60_34 rfl rfl ?_
    refine w1.lloadN (q := 36) d60_35 rfl rfl ?_
    refine w1.callC (q := 39) d60_36 rfl (H.tw 277 rfl) (H.tw 278 rfl) (H.tw 280 rfl) (by decide) (a := b1) (argsL := [(.long x)]) (rest := [(.ref b1)]) rfl (lenOf pd61 rfl) rfl (W := 1) (Nat.le_of_eq rfl) ((con_lini G H b1 x h1 w1.old A1 F1_value g1).pay w1 (H.tw 280 rfl) (H.tw 253 rfl) (by decide) (by decide)) (by decide) (by decide) rfl fun vm2 T2 h2 v2 w2 q2 => ?_
    obtain ⟨rfl, K2, P2⟩ := q2
    show Go _ _ _ _ (T2.setTop (mkF X.m 39 #[.val (.long x), .second, .val (.int (128 : Int32))] [(.ref b1)]))
    exact w2.retA d60_39 (t := (.object "java/lang/Long")) rfl rfl rfl (by decide) (by decide) ⟨_, rfl, b1, rfl, xkp E1 K2 (all1 (by omega)), P2⟩
  ·
    refine w.ifN (q := 12) d60_9 ((if0 _ _).trans (flt c0).1) rfl ?_
    refine w.lloadN (q := 13) d60_12 rfl rfl ?_
    refine w.ldc2J (q := 16) d60_13 (H.tw 303 rfl) rfl ?_
    refine w.lcmp (q := 17) d60_16 rfl ?_
    by_cases c1 : (0 : Int32) < (lcmpW x (127 : Int64))
    ·
      refine w.ifY (q := 31) d60_17 ((if0 _ _).trans (tlt c1).2.2.1) (by decide) (by decide) ?_
      refine w.newO (q := 34) d60_31 (H.tw 275 rfl) (H.tw 276 rfl) (H.tw 253 rfl) (by decide) (by decide) rfl fun T3 h3 b3 e3 w3 E3 A3 D3 U3 => ?_
      have lt3 : b3 < h3.size := A3.lt
      have sz3 : h.size ≤ h3.size := E3.1
      have F3_value : Fld G.Z h3 b3 "java/lang/Long" "value" "J" (.long (0 : Int64)) := D3 (Or.inr (H.tw 289 rfl)) (ty := .long) (by decide)
      have g3 : G.n0 ≤ b3 := by have := ho.2.1; have := ho.1; omega
      refine w3.dup (q := 35) d60_34 rfl rfl ?_
      refine w3.lloadN (q := 36) d60_35 rfl rfl ?_
      refine w3.callC (q := 39) d60_36 rfl (H.tw 277 rfl) (H.tw 278 rfl) (H.tw 280 rfl) (by decide) (a := b3) (argsL := [(.long x)]) (rest := [(.ref b3)]) rfl (lenOf pd61 rfl) rfl (W := 1) (Nat.le_of_eq rfl) ((con_lini G H b3 x h3 w3.old A3 F3_value g3).pay w3 (H.tw 280 rfl) (H.tw 253 rfl) (by decide) (by decide)) (by decide) (by decide) rfl fun vm4 T4 h4 v4 w4 q4 => ?_
      obtain ⟨rfl, K4, P4⟩ := q4
      show Go _ _ _ _ (T4.setTop (mkF X.m 39 #[.val (.long x), .second, .val (.int (128 : Int32))] [(.ref b3)]))
      exact w4.retA d60_39 (t := (.object "java/lang/Long")) rfl rfl rfl (by decide) (by decide) ⟨_, rfl, b3, rfl, xkp E3 K4 (all1 (by omega)), P4⟩
    ·
      refine w.ifN (q := 20) d60_17 ((if0 _ _).trans (flt c1).2.2.1) rfl ?_
      obtain ⟨lc, lcell, Slc, Blc⟩ := H.mo
      obtain ⟨k1, k2⟩ := lc_ok c0 c1
      refine w.getS (q := 23) d60_20 (H.tw 314 rfl) Via.refl Slc rfl fun T5 w5 => ?_
      refine w5.lloadN (q := 24) d60_23 rfl rfl ?_
      refine w5.l2i (q := 25) d60_24 rfl ?_
      refine w5.sipush (q := 28) (128 : Int32) d60_25 rfl rfl ?_
      refine w5.iadd (q := 29) d60_28 rfl ?_
      refine w5.aaBox (q := 30) d60_29 Blc k1 rfl fun r Er Fr_ => ?_
      rw [k2] at Fr_
      exact w5.retA d60_30 (t := (.object "java/lang/Long")) rfl rfl rfl (by decide) (by decide) ⟨_, rfl, r, rfl, xrfl _, Er, Fr_⟩
theorem d62_0 : decode jdk_35_method_31_code 0 = .ok (.aload_n 0, 1) := by decide +kernel
theorem d62_1 : decode jdk_35_method_31_code 1 = .ok (.getfield 273, 3) := by decide +kernel
theorem d62_4 : decode jdk_35_method_31_code 4 = .ok (.lreturn, 1) := by decide +kernel
set_option maxRecDepth 65536 in
set_option maxHeartbeats 40000000 in
theorem con_lv (G : Gx) (H : HypN G) (a : Nat) (x : Int64) (h : Heap) (ho : Old G.Z G.n0 h) (F : LongAt G.Z h a x) :
    Con G (⟨"java/lang/Long", "longValue", "()J"⟩ : MethodName) jdk_35_method_31_code 1 (some .long) [] ({ frames := 0, cells := 0, slots := 0, locals := 0 } : Room) #[(.ref a)] h (vQ fun v h' => v = .long x ∧ h = h') := by
  refine Con.intro H.el ho (plainFor_of_name pn59) (Ls := #[.val (.ref a)]) (fun m => by first | (simp [entryFrame, mkF, argsToLocals, Value.category]; done) | rfl) ?_
  intro X vm T w
  refine w.aloadN (q := 1) d62_0 rfl rfl rfl ?_
  refine w.getF (q := 4) d62_1 (H.tw 288 rfl) Via.refl F.2 rfl fun T1 w1 => ?_
  exact w1.retJ d62_4 rfl (by decide) (by decide) ⟨_, rfl, ⟨rfl, rfl⟩⟩
theorem d63_0 : decode jdk_35_method_47_code 0 = .ok (.lload_n 0, 1) := by decide +kernel
theorem d63_1 : decode jdk_35_method_47_code 1 = .ok (.lload_n 0, 1) := by decide +kernel
theorem d63_2 : decode jdk_35_method_47_code 2 = .ok (.lneg, 1) := by decide +kernel
theorem d63_3 : decode jdk_35_method_47_code 3 = .ok (.land, 1) := by decide +kernel
theorem d63_4 : decode jdk_35_method_47_code 4 = .ok (.lreturn, 1) := by decide +kernel
set_option maxRecDepth 65536 in
set_option maxHeartbeats 40000000 in
theorem con_lob (G : Gx) (H : HypN G) (x : Int64) (h : Heap) (ho : Old G.Z G.n0 h)  :
    Con G (⟨"java/lang/Long", "lowestOneBit", "(J)J"⟩ : MethodName) jdk_35_method_47_code 2 (some .long) [] ({ frames := 0, cells := 0, slots := 0, locals := 0 } : Room) #[(.long x)] h (vQ fun v h' => v = .long (x &&& (-x)) ∧ h = h') := by
  refine Con.intro H.el ho (plainFor_of_name pn59) (Ls := #[.val (.long x), .second]) (fun m => by first | (simp [entryFrame, mkF, argsToLocals, Value.category]; done) | rfl) ?_
  intro X vm T w
  refine w.lloadN (q := 1) d63_0 rfl rfl ?_
  refine w.lloadN (q := 2) d63_1 rfl rfl ?_
  refine w.lneg (q := 3) d63_2 rfl ?_
  refine w.land (q := 4) d63_3 rfl ?_
  exact w.retJ d63_4 rfl (by decide) (by decide) ⟨_, rfl, ⟨rfl, rfl⟩⟩
theorem d64_0 : decode jdk_29_method_66_code 0 = .ok (.lload_n 0, 1) := by decide +kernel
theorem d64_1 : decode jdk_29_method_66_code 1 = .ok (.lload_n 2, 1) := by decide +kernel
theorem d64_2 : decode jdk_29_method_66_code 2 = .ok (.lcmp, 1) := by decide +kernel
theorem d64_3 : decode jdk_29_method_66_code 3 = .ok (.ifCond .lt 7, 3) := by decide +kernel
theorem d64_6 : decode jdk_29_method_66_code 6 = .ok (.lload_n 0, 1) := by decide +kernel
theorem d64_7 : decode jdk_29_method_66_code 7 = .ok (.goto 4, 3) := by decide +kernel
theorem d64_11 : decode jdk_29_method_66_code 11 = .ok (.lreturn, 1) := by decide +kernel
set_option maxRecDepth 65536 in
set_option maxHeartbeats 40000000 in
theorem con_max (G : Gx) (H : HypN G)  (h : Heap) (ho : Old G.Z G.n0 h)  :
    Con G (⟨"java/lang/Math", "max", "(JJ)J"⟩ : MethodName) jdk_29_method_66_code 4 (some .long) [] ({ frames := 0, cells := 0, slots := 0, locals := 0 } : Room) #[(.long (1 : Int64)), (.long (0 : Int64))] h (vQ fun v h' => v = .long 1 ∧ h = h') := by
  refine Con.intro H.el ho (by decide +kernel) (Ls := #[.val (.long (1 : Int64)), .second, .val (.long (0 : Int64)), .second]) (fun m => by first | (simp [entryFrame, mkF, argsToLocals, Value.category]; done) | rfl) ?_
  intro X vm T w
  refine w.lloadN (q := 1) d64_0 rfl rfl ?_
  refine w.lloadN (q := 2) d64_1 rfl rfl ?_
  refine w.lcmp (q := 3) d64_2 rfl ?_
  refine w.ifN (q := 6) d64_3 ((if0 _ _).trans (flt (by decide)).1) rfl ?_
  refine w.lloadN (q := 7) d64_6 rfl rfl ?_
  refine w.goto (q := 11) d64_7 (by decide) (by decide) ?_
  exact w.retJ d64_11 rfl (by decide) (by decide) ⟨_, rfl, ⟨rfl, rfl⟩⟩
theorem d65_0 : decode jdk_29_method_70_code 0 = .ok (.lload_n 0, 1) := by decide +kernel
theorem d65_1 : decode jdk_29_method_70_code 1 = .ok (.lload_n 2, 1) := by decide +kernel
theorem d65_2 : decode jdk_29_method_70_code 2 = .ok (.lcmp, 1) := by decide +kernel
theorem d65_3 : decode jdk_29_method_70_code 3 = .ok (.ifCond .gt 7, 3) := by decide +kernel
theorem d65_6 : decode jdk_29_method_70_code 6 = .ok (.lload_n 0, 1) := by decide +kernel
theorem d65_7 : decode jdk_29_method_70_code 7 = .ok (.goto 4, 3) := by decide +kernel
theorem d65_11 : decode jdk_29_method_70_code 11 = .ok (.lreturn, 1) := by decide +kernel
set_option maxRecDepth 65536 in
set_option maxHeartbeats 40000000 in
theorem con_min (G : Gx) (H : HypN G)  (h : Heap) (ho : Old G.Z G.n0 h)  :
    Con G (⟨"java/lang/Math", "min", "(JJ)J"⟩ : MethodName) jdk_29_method_70_code 4 (some .long) [] ({ frames := 0, cells := 0, slots := 0, locals := 0 } : Room) #[(.long (1 : Int64)), (.long (4 : Int64))] h (vQ fun v h' => v = .long 1 ∧ h = h') := by
  refine Con.intro H.el ho (by decide +kernel) (Ls := #[.val (.long (1 : Int64)), .second, .val (.long (4 : Int64)), .second]) (fun m => by first | (simp [entryFrame, mkF, argsToLocals, Value.category]; done) | rfl) ?_
  intro X vm T w
  refine w.lloadN (q := 1) d65_0 rfl rfl ?_
  refine w.lloadN (q := 2) d65_1 rfl rfl ?_
  refine w.lcmp (q := 3) d65_2 rfl ?_
  refine w.ifN (q := 6) d65_3 ((if0 _ _).trans (flt (by decide)).2.2.1) rfl ?_
  refine w.lloadN (q := 7) d65_6 rfl rfl ?_
  refine w.goto (q := 11) d65_7 (by decide) (by decide) ?_
  exact w.retJ d65_11 rfl (by decide) (by decide) ⟨_, rfl, ⟨rfl, rfl⟩⟩
theorem d66_0 : decode prog_11_method_11_code 0 = .ok (.ldc2_w 118, 3) := by decide +kernel
theorem d66_3 : decode prog_11_method_11_code 3 = .ok (.lload_n 0, 1) := by decide +kernel
theorem d66_4 : decode prog_11_method_11_code 4 = .ok (.lload_n 2, 1) := by decide +kernel
theorem d66_5 : decode prog_11_method_11_code 5 = .ok (.ladd, 1) := by decide +kernel
theorem d66_6 : decode prog_11_method_11_code 6 = .ok (.lmul, 1) := by decide +kernel
theorem d66_7 : decode prog_11_method_11_code 7 = .ok (.lreturn, 1) := by decide +kernel
theorem pn67 : plainName "com/example/versioned_table/versionedtable/KeyHold" = true := by first | (simp [plainName, overriddenIn]; done) | decide +kernel
set_option maxRecDepth 65536 in
set_option maxHeartbeats 40000000 in
theorem con_pn2 (G : Gx) (H : HypN G) (x y : Int64) (h : Heap) (ho : Old G.Z G.n0 h)  :
    Con G (⟨"com/example/versioned_table/versionedtable/KeyHold", "pauseNanos", "(JJ)J"⟩ : MethodName) prog_11_method_11_code 4 (some .long) [] ({ frames := 0, cells := 0, slots := 0, locals := 0 } : Room) #[(.long x), (.long y)] h (vQ fun v h' => v = .long ((4 : Int64) * (x + y)) ∧ h = h') := by
  refine Con.intro H.el ho (plainFor_of_name pn67) (Ls := #[.val (.long x), .second, .val (.long y), .second]) (fun m => by first | (simp [entryFrame, mkF, argsToLocals, Value.category]; done) | rfl) ?_
  intro X vm T w
  refine w.ldc2J (q := 3) d66_0 (H.tw 260 rfl) rfl ?_
  refine w.lloadN (q := 4) d66_3 rfl rfl ?_
  refine w.lloadN (q := 5) d66_4 rfl rfl ?_
  refine w.ladd (q := 6) d66_5 rfl ?_
  refine w.lmul (q := 7) d66_6 rfl ?_
  exact w.retJ d66_7 rfl (by decide) (by decide) ⟨_, rfl, ⟨rfl, rfl⟩⟩
theorem d68_0 : decode prog_11_method_10_code 0 = .ok (.aload_n 0, 1) := by decide +kernel
theorem d68_1 : decode prog_11_method_10_code 1 = .ok (.getfield 25, 3) := by decide +kernel
theorem d68_4 : decode prog_11_method_10_code 4 = .ok (.aload_n 0, 1) := by decide +kernel
theorem d68_5 : decode prog_11_method_10_code 5 = .ok (.getfield 87, 3) := by decide +kernel
theorem d68_8 : decode prog_11_method_10_code 8 = .ok (.aload_n 0, 1) := by decide +kernel
theorem d68_9 : decode prog_11_method_10_code 9 = .ok (.getfield 83, 3) := by decide +kernel
theorem d68_12 : decode prog_11_method_10_code 12 = .ok (.i2l, 1) := by decide +kernel
theorem d68_13 : decode prog_11_method_10_code 13 = .ok (.ldiv, 1) := by decide +kernel
theorem d68_14 : decode prog_11_method_10_code 14 = .ok (.invokestatic 123, 3) := by decide +kernel
theorem pd69 : parseMethodDescriptor "(JJ)J" = some ⟨[.long, .long], some .long⟩ := by decide +kernel
theorem d68_17 : decode prog_11_method_10_code 17 = .ok (.lreturn, 1) := by decide +kernel
set_option maxRecDepth 65536 in
set_option maxHeartbeats 40000000 in
theorem con_pn (G : Gx) (H : HypN G) (k : Nat) (L an : Int64) (h : Heap) (ho : Old G.Z G.n0 h) (FL : Fld G.Z h k "com/example/versioned_table/versionedtable/KeyHold" "longestRetryWaitNanos" "J" (.long L)) (Fan : Fld G.Z h k "com/example/versioned_table/versionedtable/KeyHold" "attemptNanos" "J" (.long an)) (Fwr : Fld G.Z h k "com/example/versioned_table/versionedtable/KeyHold" "writes" "I" (.int 1)) :
    Con G (⟨"com/example/versioned_table/versionedtable/KeyHold", "pauseNanos", "()J"⟩ : MethodName) prog_11_method_10_code 1 (some .long) [] ({ frames := 1, cells := 0, slots := 0, locals := 15 } : Room) #[(.ref k)] h (vQ fun v h' => v = .long ((4 : Int64) * (L + an)) ∧ h = h') := by
  refine Con.intro H.el ho (plainFor_of_name pn67) (Ls := #[.val (.ref k)]) (fun m => by first | (simp [entryFrame, mkF, argsToLocals, Value.category]; done) | rfl) ?_
  intro X vm T w
  refine w.aloadN (q := 1) d68_0 rfl rfl rfl ?_
  refine w.getF (q := 4) d68_1 (H.tw 171 rfl) Via.refl FL rfl fun T1 w1 => ?_
  refine w1.aloadN (q := 5) d68_4 rfl rfl rfl ?_
  refine w1.getF (q := 8) d68_5 (H.tw 216 rfl) Via.refl Fan rfl fun T2 w2 => ?_
  refine w2.aloadN (q := 9) d68_8 rfl rfl rfl ?_
  refine w2.getF (q := 12) d68_9 (H.tw 214 rfl) Via.refl Fwr rfl fun T3 w3 => ?_
  refine w3.i2l (q := 13) d68_12 rfl ?_
  refine w3.ldiv (q := 14) d68_13 (by decide) rfl ?_
  rw [show an / (1 : Int32).toInt64 = an from div1 an]
  refine w3.callS (q := 17) d68_14 (H.tw 268 rfl) (H.tw 269 rfl) (H.tw 159 rfl) (H.tw 270 rfl) (by decide) (argsL := [(.long L), (.long an)]) (rest := []) rfl (lenOf pd69 rfl) rfl (W := 0) (Nat.le_of_eq rfl) ((con_pn2 G H L an h ho).pay w3 (H.tw 270 rfl) (H.tw 159 rfl) (by decide) (by decide)) (by decide) (by decide) rfl fun vm4 T4 h4 v4 w4 q4 => ?_
  obtain ⟨_, rfl, rfl, rfl⟩ := q4
  show Go _ _ _ _ (T4.setTop (mkF X.m 17 #[.val (.ref k)] [(.long ((4 : Int64) * (L + an)))]))
  exact w4.retJ d68_17 rfl (by decide) (by decide) ⟨_, rfl, ⟨rfl, rfl⟩⟩
theorem d70_0 : decode prog_11_method_9_code 0 = .ok (.lconst 1, 1) := by decide +kernel
theorem d70_1 : decode prog_11_method_9_code 1 = .ok (.aload_n 0, 1) := by decide +kernel
theorem d70_2 : decode prog_11_method_9_code 2 = .ok (.getfield 62, 3) := by decide +kernel
theorem d70_5 : decode prog_11_method_9_code 5 = .ok (.lconst 1, 1) := by decide +kernel
theorem d70_6 : decode prog_11_method_9_code 6 = .ok (.ladd, 1) := by decide +kernel
theorem d70_7 : decode prog_11_method_9_code 7 = .ok (.invokestatic 106, 3) := by decide +kernel
theorem pd71 : parseMethodDescriptor "(J)J" = some ⟨[.long], some .long⟩ := by decide +kernel
theorem d70_10 : decode prog_11_method_9_code 10 = .ok (.ldc2_w 110, 3) := by decide +kernel
theorem d70_13 : decode prog_11_method_9_code 13 = .ok (.ldiv, 1) := by decide +kernel
theorem d70_14 : decode prog_11_method_9_code 14 = .ok (.invokestatic 112, 3) := by decide +kernel
theorem d70_17 : decode prog_11_method_9_code 17 = .ok (.lstore_n 1, 1) := by decide +kernel
theorem d70_18 : decode prog_11_method_9_code 18 = .ok (.lload_n 1, 1) := by decide +kernel
theorem d70_19 : decode prog_11_method_9_code 19 = .ok (.ldc2_w 118, 3) := by decide +kernel
theorem d70_22 : decode prog_11_method_9_code 22 = .ok (.invokestatic 120, 3) := by decide +kernel
theorem d70_25 : decode prog_11_method_9_code 25 = .ok (.aload_n 0, 1) := by decide +kernel
theorem d70_26 : decode prog_11_method_9_code 26 = .ok (.invokevirtual 73, 3) := by decide +kernel
theorem pd72 : parseMethodDescriptor "()J" = some ⟨[], some .long⟩ := by decide +kernel
theorem d70_29 : decode prog_11_method_9_code 29 = .ok (.lmul, 1) := by decide +kernel
theorem d70_30 : decode prog_11_method_9_code 30 = .ok (.lreturn, 1) := by decide +kernel
set_option maxRecDepth 65536 in
set_option maxHeartbeats 40000000 in
theorem con_npn (G : Gx) (H : HypN G) (k : Nat) (L an : Int64) (h : Heap) (ho : Old G.Z G.n0 h) (E : Exa G.Z h k "com/example/versioned_table/versionedtable/KeyHold") (FL : Fld G.Z h k "com/example/versioned_table/versionedtable/KeyHold" "longestRetryWaitNanos" "J" (.long L)) (Fan : Fld G.Z h k "com/example/versioned_table/versionedtable/KeyHold" "attemptNanos" "J" (.long an)) (Fwr : Fld G.Z h k "com/example/versioned_table/versionedtable/KeyHold" "writes" "I" (.int 1)) (Fps : Fld G.Z h k "com/example/versioned_table/versionedtable/KeyHold" "pauses" "J" (.long 0)) :
    Con G (⟨"com/example/versioned_table/versionedtable/KeyHold", "nextPauseNanos", "()J"⟩ : MethodName) prog_11_method_9_code 3 (some .long) [] ({ frames := 2, cells := 0, slots := 0, locals := 29 } : Room) #[(.ref k)] h (vQ fun v h' => v = .long ((4 : Int64) * (L + an)) ∧ h = h') := by
  refine Con.intro H.el ho (plainFor_of_name pn67) (Ls := #[.val (.ref k), .unset, .unset]) (fun m => by first | (simp [entryFrame, mkF, argsToLocals, Value.category]; done) | rfl) ?_
  intro X vm T w
  refine w.lconst (q := 1) (1 : Int64) d70_0 rfl rfl ?_
  refine w.aloadN (q := 2) d70_1 rfl rfl rfl ?_
  refine w.getF (q := 5) d70_2 (H.tw 249 rfl) Via.refl Fps rfl fun T1 w1 => ?_
  refine w1.lconst (q := 6) (1 : Int64) d70_5 rfl rfl ?_
  refine w1.ladd (q := 7) d70_6 rfl ?_
  refine w1.callS (q := 10) d70_7 (H.tw 251 rfl) (H.tw 252 rfl) (H.tw 253 rfl) (H.tw 254 rfl) (by decide) (argsL := [(.long ((0 : Int64) + (1 : Int64)))]) (rest := [(.long (1 : Int64))]) rfl (lenOf pd71 rfl) rfl (W := 2) (Nat.le_of_eq rfl) ((con_lob G H ((0 : Int64) + (1 : Int64)) h ho).pay w1 (H.tw 254 rfl) (H.tw 253 rfl) (by decide) (by decide)) (by decide) (by decide) rfl fun vm2 T2 h2 v2 w2 q2 => ?_
  obtain ⟨_, rfl, rfl, rfl⟩ := q2
  show Go _ _ _ _ (T2.setTop (mkF X.m 10 #[.val (.ref k), .unset, .unset] [(.long (((0 : Int64) + (1 : Int64)) &&& (-((0 : Int64) + (1 : Int64))))), (.long (1 : Int64))]))
  refine w2.ldc2J (q := 13) d70_10 (H.tw 255 rfl) rfl ?_
  refine w2.ldiv (q := 14) d70_13 (by decide) rfl ?_
  rw [show ((((0 : Int64) + (1 : Int64)) &&& (-((0 : Int64) + (1 : Int64)))) / (2 : Int64)) = (0 : Int64) from by decide]
  refine w2.callS (q := 17) d70_14 (H.tw 256 rfl) (H.tw 257 rfl) (H.tw 258 rfl) (H.tw 259 rfl) (by decide) (argsL := [(.long (1 : Int64)), (.long (0 : Int64))]) (rest := []) rfl (lenOf pd69 rfl) rfl (W := 0) (Nat.le_of_eq rfl) ((con_max G H h ho).pay w2 (H.tw 259 rfl) (H.tw 258 rfl) (by decide) (by decide)) (by decide) (by decide) rfl fun vm3 T3 h3 v3 w3 q3 => ?_
  obtain ⟨_, rfl, rfl, rfl⟩ := q3
  show Go _ _ _ _ (T3.setTop (mkF X.m 17 #[.val (.ref k), .unset, .unset] [(.long (1 : Int64))]))
  refine w3.lstoreN (q := 18) (L2 := #[.val (.ref k), .val (.long (1 : Int64)), .second]) d70_17 rfl rfl ?_
  refine w3.lloadN (q := 19) d70_18 rfl rfl ?_
  refine w3.ldc2J (q := 22) d70_19 (H.tw 260 rfl) rfl ?_
  refine w3.callS (q := 25) d70_22 (H.tw 261 rfl) (H.tw 262 rfl) (H.tw 258 rfl) (H.tw 263 rfl) (by decide) (argsL := [(.long (1 : Int64)), (.long (4 : Int64))]) (rest := []) rfl (lenOf pd69 rfl) rfl (W := 0) (Nat.le_of_eq rfl) ((con_min G H h ho).pay w3 (H.tw 263 rfl) (H.tw 258 rfl) (by decide) (by decide)) (by decide) (by decide) rfl fun vm4 T4 h4 v4 w4 q4 => ?_
  obtain ⟨_, rfl, rfl, rfl⟩ := q4
  show Go _ _ _ _ (T4.setTop (mkF X.m 25 #[.val (.ref k), .val (.long (1 : Int64)), .second] [(.long (1 : Int64))]))
  refine w4.aloadN (q := 26) d70_25 rfl rfl rfl ?_
  refine w4.callP (q := 29) d70_26 (H.tw 264 rfl) (H.tw 265 rfl) (H.tw 266 rfl) (H.tw 267 rfl) (H.tw 158 rfl) (by decide) E (argsL := []) (rest := [(.long (1 : Int64))]) rfl (lenOf pd72 rfl) rfl (W := 2) (Nat.le_of_eq rfl) ((con_pn G H k L an h ho FL Fan Fwr).pay w4 (H.tw 267 rfl) (H.tw 159 rfl) (by decide) (by decide)) (by decide) (by decide) rfl fun vm5 T5 h5 v5 w5 q5 => ?_
  obtain ⟨_, rfl, rfl, rfl⟩ := q5
  show Go _ _ _ _ (T5.setTop (mkF X.m 29 #[.val (.ref k), .val (.long (1 : Int64)), .second] [(.long ((4 : Int64) * (L + an))), (.long (1 : Int64))]))
  refine w5.lmul (q := 30) d70_29 rfl ?_
  rw [show (1 : Int64) * ((4 : Int64) * (L + an)) = ((4 : Int64) * (L + an)) from one_mul64 _]
  exact w5.retJ d70_30 rfl (by decide) (by decide) ⟨_, rfl, ⟨rfl, rfl⟩⟩
theorem d73_0 : decode prog_11_method_13_code 0 = .ok (.lload_n 1, 1) := by decide +kernel
theorem d73_1 : decode prog_11_method_13_code 1 = .ok (.aload_n 0, 1) := by decide +kernel
theorem d73_2 : decode prog_11_method_13_code 2 = .ok (.invokevirtual 51, 3) := by decide +kernel
theorem d73_5 : decode prog_11_method_13_code 5 = .ok (.ladd, 1) := by decide +kernel
theorem d73_6 : decode prog_11_method_13_code 6 = .ok (.invokestatic 54, 3) := by decide +kernel
theorem pd74 : parseMethodDescriptor "(J)Ljava/lang/Long;" = some ⟨[.long], some (.object "java/lang/Long")⟩ := by decide +kernel
theorem d73_9 : decode prog_11_method_13_code 9 = .ok (.areturn, 1) := by decide +kernel
set_option maxRecDepth 65536 in
set_option maxHeartbeats 40000000 in
theorem con_lid (G : Gx) (H : HypN G) (k : Nat) (nw L an : Int64) (h : Heap) (ho : Old G.Z G.n0 h) (E : Exa G.Z h k "com/example/versioned_table/versionedtable/KeyHold") (FL : Fld G.Z h k "com/example/versioned_table/versionedtable/KeyHold" "longestRetryWaitNanos" "J" (.long L)) (Fan : Fld G.Z h k "com/example/versioned_table/versionedtable/KeyHold" "attemptNanos" "J" (.long an)) (Fwr : Fld G.Z h k "com/example/versioned_table/versionedtable/KeyHold" "writes" "I" (.int 1)) (Fps : Fld G.Z h k "com/example/versioned_table/versionedtable/KeyHold" "pauses" "J" (.long 0)) :
    Con G (⟨"com/example/versioned_table/versionedtable/KeyHold", "lambda$idleFrom$2", "(J)Ljava/lang/Long;"⟩ : MethodName) prog_11_method_13_code 3 (some (.object "java/lang/Long")) [] ({ frames := 4, cells := 1, slots := 1, locals := 53 } : Room) #[(.ref k), (.long nw)] h (vQ fun v h' => ∃ r : Nat, v = .ref r ∧ Ext h h' ∧ LongAt G.Z h' r (nw + ((4 : Int64) * (L + an)))) := by
  refine Con.intro H.el ho (plainFor_of_name pn67) (Ls := #[.val (.ref k), .val (.long nw), .second]) (fun m => by first | (simp [entryFrame, mkF, argsToLocals, Value.category]; done) | rfl) ?_
  intro X vm T w
  refine w.lloadN (q := 1) d73_0 rfl rfl ?_
  refine w.aloadN (q := 2) d73_1 rfl rfl rfl ?_
  refine w.callP (q := 5) d73_2 (H.tw 245 rfl) (H.tw 246 rfl) (H.tw 247 rfl) (H.tw 248 rfl) (H.tw 158 rfl) (by decide) E (argsL := []) (rest := [(.long nw)]) rfl (lenOf pd72 rfl) rfl (W := 2) (Nat.le_of_eq rfl) ((con_npn G H k L an h ho E FL Fan Fwr Fps).pay w (H.tw 248 rfl) (H.tw 159 rfl) (by decide) (by decide)) (by decide) (by decide) rfl fun vm1 T1 h1 v1 w1 q1 => ?_
  obtain ⟨_, rfl, rfl, rfl⟩ := q1
  show Go _ _ _ _ (T1.setTop (mkF X.m 5 #[.val (.ref k), .val (.long nw), .second] [(.long ((4 : Int64) * (L + an))), (.long nw)]))
  refine w1.ladd (q := 6) d73_5 rfl ?_
  refine w1.callS (q := 9) d73_6 (H.tw 271 rfl) (H.tw 272 rfl) (H.tw 253 rfl) (H.tw 273 rfl) (by decide) (argsL := [(.long (nw + ((4 : Int64) * (L + an))))]) (rest := []) rfl (lenOf pd74 rfl) rfl (W := 0) (Nat.le_of_eq rfl) ((con_vo G H (nw + ((4 : Int64) * (L + an))) h w1.old).pay w1 (H.tw 273 rfl) (H.tw 253 rfl) (by decide) (by decide)) (by decide) (by decide) rfl fun vm2 T2 h2 v2 w2 q2 => ?_
  obtain ⟨_, rfl, r, rfl, X2, P2⟩ := q2
  show Go _ _ _ _ (T2.setTop (mkF X.m 9 #[.val (.ref k), .val (.long nw), .second] [(.ref r)]))
  exact w2.retA d73_9 (t := (.object "java/lang/Long")) rfl rfl rfl (by decide) (by decide) ⟨_, rfl, r, rfl, X2, P2⟩
theorem d75_0 : decode prog_11_method_15_code 0 = .ok (.aload_n 2, 1) := by decide +kernel
theorem d75_1 : decode prog_11_method_15_code 1 = .ok (.invokevirtual 47, 3) := by decide +kernel
theorem d75_4 : decode prog_11_method_15_code 4 = .ok (.lload_n 0, 1) := by decide +kernel
theorem d75_5 : decode prog_11_method_15_code 5 = .ok (.lsub, 1) := by decide +kernel
theorem d75_6 : decode prog_11_method_15_code 6 = .ok (.lconst 0, 1) := by decide +kernel
theorem d75_7 : decode prog_11_method_15_code 7 = .ok (.lcmp, 1) := by decide +kernel
theorem d75_8 : decode prog_11_method_15_code 8 = .ok (.ifCond .le 7, 3) := by decide +kernel
theorem d75_11 : decode prog_11_method_15_code 11 = .ok (.iconst 1, 1) := by decide +kernel
theorem d75_12 : decode prog_11_method_15_code 12 = .ok (.goto 4, 3) := by decide +kernel
theorem d75_16 : decode prog_11_method_15_code 16 = .ok (.ireturn, 1) := by decide +kernel
theorem d75_15 : decode prog_11_method_15_code 15 = .ok (.iconst 0, 1) := by decide +kernel
set_option maxRecDepth 65536 in
set_option maxHeartbeats 40000000 in
theorem con_lwb (G : Gx) (H : HypN G) (nw u : Int64) (l : Nat) (h : Heap) (ho : Old G.Z G.n0 h) (F : LongAt G.Z h l u) :
    Con G (⟨"com/example/versioned_table/versionedtable/KeyHold", "lambda$waitBefore$0", "(JLjava/lang/Long;)Z"⟩ : MethodName) prog_11_method_15_code 3 (some .boolean) [] ({ frames := 1, cells := 0, slots := 0, locals := 12 } : Room) #[(.long nw), (.ref l)] h (vQ fun v h' => v = .int (if (0 : Int32) < lcmpW (u - nw) (0 : Int64) then 1 else 0) ∧ h = h') := by
  refine Con.intro H.el ho (plainFor_of_name pn67) (Ls := #[.val (.long nw), .second, .val (.ref l)]) (fun m => by first | (simp [entryFrame, mkF, argsToLocals, Value.category]; done) | rfl) ?_
  intro X vm T w
  refine w.aloadN (q := 1) d75_0 rfl rfl rfl ?_
  refine w.callV (q := 4) d75_1 (H.tw 291 rfl) (H.tw 292 rfl) (notFace_of_selects (C := "java/lang/Long") (args := G.a0) (H.tw 294 rfl)) (H.tw 294 rfl) (H.tw 293 rfl) (by decide) F.1 (argsL := []) (rest := []) rfl (lenOf pd72 rfl) rfl (W := 0) (Nat.le_of_eq rfl) ((con_lv G H l u h ho F).pay w (H.tw 295 rfl) (H.tw 253 rfl) (by decide) (by decide)) (by decide) (by decide) rfl fun vm1 T1 h1 v1 w1 q1 => ?_
  obtain ⟨_, rfl, rfl, rfl⟩ := q1
  show Go _ _ _ _ (T1.setTop (mkF X.m 4 #[.val (.long nw), .second, .val (.ref l)] [(.long u)]))
  refine w1.lloadN (q := 5) d75_4 rfl rfl ?_
  refine w1.lsub (q := 6) d75_5 rfl ?_
  refine w1.lconst (q := 7) (0 : Int64) d75_6 rfl rfl ?_
  refine w1.lcmp (q := 8) d75_7 rfl ?_
  by_cases c0 : (0 : Int32) < (lcmpW (u - nw) (0 : Int64))
  ·
    refine w1.ifN (q := 11) d75_8 ((if0 _ _).trans (tlt c0).2.2.2) rfl ?_
    refine w1.iconst (q := 12) (1 : Int32) d75_11 rfl rfl ?_
    refine w1.goto (q := 16) d75_12 (by decide) (by decide) ?_
    exact w1.retZ d75_16 (t := .boolean) rfl (by decide) rfl (by decide) (by decide) ⟨_, rfl, ⟨by rw [if_pos c0], rfl⟩⟩
  ·
    refine w1.ifY (q := 15) d75_8 ((if0 _ _).trans (flt c0).2.2.2) (by decide) (by decide) ?_
    refine w1.iconst (q := 16) (0 : Int32) d75_15 rfl rfl ?_
    exact w1.retZ d75_16 (t := .boolean) rfl (by decide) rfl (by decide) (by decide) ⟨_, rfl, ⟨by rw [if_neg c0], rfl⟩⟩
theorem d76_0 : decode jdk_32_method_1_code 0 = .ok (.getstatic 1, 3) := by decide +kernel
theorem d76_3 : decode jdk_32_method_1_code 3 = .ok (.astore_n 0, 1) := by decide +kernel
theorem d76_4 : decode jdk_32_method_1_code 4 = .ok (.aload_n 0, 1) := by decide +kernel
theorem d76_5 : decode jdk_32_method_1_code 5 = .ok (.areturn, 1) := by decide +kernel
theorem pn77 : plainName "java/util/Optional" = true := by first | (simp [plainName, overriddenIn]; done) | decide +kernel
set_option maxRecDepth 65536 in
set_option maxHeartbeats 40000000 in
theorem con_oe (G : Gx) (H : Hyp G) (oe : Nat) (So : Sta G.Z G.Z.heap "java/util/Optional" "EMPTY" "Ljava/util/Optional;" (.ref oe)) (h : Heap) (ho : Old G.Z G.n0 h)  :
    Con G (⟨"java/util/Optional", "empty", "()Ljava/util/Optional;"⟩ : MethodName) jdk_32_method_1_code 1 (some (.object "java/util/Optional")) [] ({ frames := 0, cells := 0, slots := 0, locals := 0 } : Room) #[] h (vQ fun v h' => v = .ref oe ∧ h = h') := by
  refine Con.intro H.el ho (plainFor_of_name pn77) (Ls := #[.unset]) (fun m => by first | (simp [entryFrame, mkF, argsToLocals, Value.category]; done) | rfl) ?_
  intro X vm T w
  refine w.getS (q := 3) d76_0 (H.tw 125 rfl) Via.refl So rfl fun T1 w1 => ?_
  refine w1.astoreN (q := 4) (L2 := #[.val (.ref oe)]) d76_3 rfl rfl rfl ?_
  refine w1.aloadN (q := 5) d76_4 rfl rfl rfl ?_
  exact w1.retA d76_5 (t := (.object "java/util/Optional")) rfl rfl rfl (by decide) (by decide) ⟨_, rfl, ⟨rfl, rfl⟩⟩
theorem d78_0 : decode jdk_32_method_2_code 0 = .ok (.aload_n 0, 1) := by decide +kernel
theorem d78_1 : decode jdk_32_method_2_code 1 = .ok (.invokespecial 7, 3) := by decide +kernel
theorem d78_4 : decode jdk_32_method_2_code 4 = .ok (.aload_n 0, 1) := by decide +kernel
theorem d78_5 : decode jdk_32_method_2_code 5 = .ok (.aload_n 1, 1) := by decide +kernel
theorem d78_6 : decode jdk_32_method_2_code 6 = .ok (.putfield 13, 3) := by decide +kernel
theorem d78_9 : decode jdk_32_method_2_code 9 = .ok (.return_, 1) := by decide +kernel
set_option maxRecDepth 65536 in
set_option maxHeartbeats 40000000 in
theorem con_oini (G : Gx) (H : Hyp G) (a x : Nat) (h : Heap) (ho : Old G.Z G.n0 h) (E : Exa G.Z h a "java/util/Optional") (F : Fld G.Z h a "java/util/Optional" "value" "Ljava/lang/Object;" .null) (g : G.n0 ≤ a) :
    Con G (⟨"java/util/Optional", "<init>", "(Ljava/lang/Object;)V"⟩ : MethodName) jdk_32_method_2_code 2 none [] ({ frames := 1, cells := 0, slots := 0, locals := 12 } : Room) #[(.ref a), (.ref x)] h (nQ fun h' => Keep h h' [a] ∧ Opt G.Z h' a (.ref x)) := by
  refine Con.intro H.el ho (plainFor_of_name pn77) (Ls := #[.val (.ref a), .val (.ref x)]) (fun m => by first | (simp [entryFrame, mkF, argsToLocals, Value.category]; done) | rfl) ?_
  intro X vm T w
  refine w.aloadN (q := 1) d78_0 rfl rfl rfl ?_
  refine w.initO (q := 4) (W := 0) d78_1 (H.tw 227 rfl) (H.tw 24 rfl) (H.tw 25 rfl) rfl (by decide) (Nat.le_of_eq rfl) (by decide) rfl fun T1 w1 => ?_
  refine w1.aloadN (q := 5) d78_4 rfl rfl rfl ?_
  refine w1.aloadN (q := 6) d78_5 rfl rfl rfl ?_
  refine w1.putF (q := 9) d78_6 (H.tw 194 rfl) Via.refl F E (Or.inr ⟨(H.tw 195 rfl), rfl, rfl⟩) (H.tw 222 rfl) (ty := (.object "java/lang/Object")) (by decide) rfl rfl g (w1.sfE E (by decide) (by decide)) rfl fun T2 h2 w2 W2 sf2 => ?_
  have sz2 : h.size ≤ h2.size := (Keep.of_wr W2).1
  exact w2.retV d78_9 rfl (by decide) (by decide) ⟨rfl, Keep.of_wr W2, E.wr W2, F.same W2⟩
theorem d79_0 : decode jdk_32_method_3_code 0 = .ok (.new 2, 3) := by decide +kernel
theorem d79_3 : decode jdk_32_method_3_code 3 = .ok (.dup, 1) := by decide +kernel
theorem d79_4 : decode jdk_32_method_3_code 4 = .ok (.aload_n 0, 1) := by decide +kernel
theorem d79_5 : decode jdk_32_method_3_code 5 = .ok (.invokestatic 17, 3) := by decide +kernel
theorem pd80 : parseMethodDescriptor "(Ljava/lang/Object;)Ljava/lang/Object;" = some ⟨[(.object "java/lang/Object")], some (.object "java/lang/Object")⟩ := by decide +kernel
theorem d79_8 : decode jdk_32_method_3_code 8 = .ok (.invokespecial 23, 3) := by decide +kernel
theorem pd81 : parseMethodDescriptor "(Ljava/lang/Object;)V" = some ⟨[(.object "java/lang/Object")], none⟩ := by decide +kernel
theorem d79_11 : decode jdk_32_method_3_code 11 = .ok (.areturn, 1) := by decide +kernel
set_option maxRecDepth 65536 in
set_option maxHeartbeats 40000000 in
theorem con_of (G : Gx) (H : Hyp G) (x : Nat) (h : Heap) (ho : Old G.Z G.n0 h)  :
    Con G (⟨"java/util/Optional", "of", "(Ljava/lang/Object;)Ljava/util/Optional;"⟩ : MethodName) jdk_32_method_3_code 1 (some (.object "java/util/Optional")) [] ({ frames := 2, cells := 1, slots := 1, locals := 26 } : Room) #[(.ref x)] h (vQ fun v h' => ∃ r : Nat, v = .ref r ∧ Ext h h' ∧ Opt G.Z h' r (.ref x)) := by
  refine Con.intro H.el ho (plainFor_of_name pn77) (Ls := #[.val (.ref x)]) (fun m => by first | (simp [entryFrame, mkF, argsToLocals, Value.category]; done) | rfl) ?_
  intro X vm T w
  refine w.newO (q := 3) d79_0 (H.tw 221 rfl) (H.tw 222 rfl) (H.tw 123 rfl) (by decide) (by decide) rfl fun T1 h1 b1 e1 w1 E1 A1 D1 U1 => ?_
  have lt1 : b1 < h1.size := A1.lt
  have sz1 : h.size ≤ h1.size := E1.1
  have F1_value : Fld G.Z h1 b1 "java/util/Optional" "value" "Ljava/lang/Object;" .null := D1 (Or.inr (H.tw 195 rfl)) (ty := (.object "java/lang/Object")) (by decide)
  have g1 : G.n0 ≤ b1 := by have := ho.2.1; have := ho.1; omega
  refine w1.dup (q := 4) d79_3 rfl rfl ?_
  refine w1.aloadN (q := 5) d79_4 rfl rfl rfl ?_
  refine w1.callS (q := 8) d79_5 (H.tw 186 rfl) (H.tw 187 rfl) (H.tw 39 rfl) (H.tw 188 rfl) (by decide) (argsL := [(.ref x)]) (rest := [(.ref b1), (.ref b1)]) rfl (lenOf pd80 rfl) rfl (W := 2) (Nat.le_of_eq rfl) ((con_rnn G H x h1 w1.old).pay w1 (H.tw 188 rfl) (H.tw 39 rfl) (by decide) (by decide)) (by decide) (by decide) rfl fun vm2 T2 h2 v2 w2 q2 => ?_
  obtain ⟨_, rfl, rfl, rfl⟩ := q2
  show Go _ _ _ _ (T2.setTop (mkF X.m 8 #[.val (.ref x)] [(.ref x), (.ref b1), (.ref b1)]))
  refine w2.callC (q := 11) d79_8 rfl (H.tw 223 rfl) (H.tw 224 rfl) (H.tw 226 rfl) (by decide) (a := b1) (argsL := [(.ref x)]) (rest := [(.ref b1)]) rfl (lenOf pd81 rfl) rfl (W := 1) (Nat.le_of_eq rfl) ((con_oini G H b1 x h1 w2.old A1 F1_value g1).pay w2 (H.tw 226 rfl) (H.tw 123 rfl) (by decide) (by decide)) (by decide) (by decide) rfl fun vm3 T3 h3 v3 w3 q3 => ?_
  obtain ⟨rfl, K3, P3⟩ := q3
  show Go _ _ _ _ (T3.setTop (mkF X.m 11 #[.val (.ref x)] [(.ref b1)]))
  exact w3.retA d79_11 (t := (.object "java/util/Optional")) rfl rfl rfl (by decide) (by decide) ⟨_, rfl, b1, rfl, xkp E1 K3 (all1 (by omega)), P3⟩
theorem d82_0 : decode jdk_32_method_7_code 0 = .ok (.aload_n 0, 1) := by decide +kernel
theorem d82_1 : decode jdk_32_method_7_code 1 = .ok (.getfield 13, 3) := by decide +kernel
theorem d82_4 : decode jdk_32_method_7_code 4 = .ok (.ifnonnull 7, 3) := by decide +kernel
theorem d82_7 : decode jdk_32_method_7_code 7 = .ok (.iconst 1, 1) := by decide +kernel
theorem d82_8 : decode jdk_32_method_7_code 8 = .ok (.goto 4, 3) := by decide +kernel
theorem d82_12 : decode jdk_32_method_7_code 12 = .ok (.ireturn, 1) := by decide +kernel
set_option maxRecDepth 65536 in
set_option maxHeartbeats 40000000 in
theorem con_isE0 (G : Gx) (H : Hyp G) (a : Nat) (h : Heap) (ho : Old G.Z G.n0 h) (F : Opt G.Z h a .null) :
    Con G (⟨"java/util/Optional", "isEmpty", "()Z"⟩ : MethodName) jdk_32_method_7_code 1 (some .boolean) [] ({ frames := 0, cells := 0, slots := 0, locals := 0 } : Room) #[(.ref a)] h (vQ fun v h' => v = .int 1 ∧ h = h') := by
  refine Con.intro H.el ho (plainFor_of_name pn77) (Ls := #[.val (.ref a)]) (fun m => by first | (simp [entryFrame, mkF, argsToLocals, Value.category]; done) | rfl) ?_
  intro X vm T w
  refine w.aloadN (q := 1) d82_0 rfl rfl rfl ?_
  refine w.getF (q := 4) d82_1 (H.tw 194 rfl) Via.refl F.2 rfl fun T1 w1 => ?_
  refine w1.nnN (q := 7) d82_4 rfl ?_
  refine w1.iconst (q := 8) (1 : Int32) d82_7 rfl rfl ?_
  refine w1.goto (q := 12) d82_8 (by decide) (by decide) ?_
  exact w1.retZ d82_12 (t := .boolean) rfl (by decide) rfl (by decide) (by decide) ⟨_, rfl, ⟨rfl, rfl⟩⟩
theorem d82_11 : decode jdk_32_method_7_code 11 = .ok (.iconst 0, 1) := by decide +kernel
set_option maxRecDepth 65536 in
set_option maxHeartbeats 40000000 in
theorem con_isE1 (G : Gx) (H : Hyp G) (a : Nat) (x : Nat) (h : Heap) (ho : Old G.Z G.n0 h) (F : Opt G.Z h a (.ref x)) :
    Con G (⟨"java/util/Optional", "isEmpty", "()Z"⟩ : MethodName) jdk_32_method_7_code 1 (some .boolean) [] ({ frames := 0, cells := 0, slots := 0, locals := 0 } : Room) #[(.ref a)] h (vQ fun v h' => v = .int 0 ∧ h = h') := by
  refine Con.intro H.el ho (plainFor_of_name pn77) (Ls := #[.val (.ref a)]) (fun m => by first | (simp [entryFrame, mkF, argsToLocals, Value.category]; done) | rfl) ?_
  intro X vm T w
  refine w.aloadN (q := 1) d82_0 rfl rfl rfl ?_
  refine w.getF (q := 4) d82_1 (H.tw 194 rfl) Via.refl F.2 rfl fun T1 w1 => ?_
  refine w1.nnY (q := 11) d82_4 (by decide) (by decide) ?_
  refine w1.iconst (q := 12) (0 : Int32) d82_11 rfl rfl ?_
  exact w1.retZ d82_12 (t := .boolean) rfl (by decide) rfl (by decide) (by decide) ⟨_, rfl, ⟨rfl, rfl⟩⟩
theorem d83_0 : decode jdk_32_method_6_code 0 = .ok (.aload_n 0, 1) := by decide +kernel
theorem d83_1 : decode jdk_32_method_6_code 1 = .ok (.getfield 13, 3) := by decide +kernel
theorem d83_4 : decode jdk_32_method_6_code 4 = .ok (.ifnull 7, 3) := by decide +kernel
theorem d83_11 : decode jdk_32_method_6_code 11 = .ok (.iconst 0, 1) := by decide +kernel
theorem d83_12 : decode jdk_32_method_6_code 12 = .ok (.ireturn, 1) := by decide +kernel
set_option maxRecDepth 65536 in
set_option maxHeartbeats 40000000 in
theorem con_isP0 (G : Gx) (H : Hyp G) (a : Nat) (h : Heap) (ho : Old G.Z G.n0 h) (F : Opt G.Z h a .null) :
    Con G (⟨"java/util/Optional", "isPresent", "()Z"⟩ : MethodName) jdk_32_method_6_code 1 (some .boolean) [] ({ frames := 0, cells := 0, slots := 0, locals := 0 } : Room) #[(.ref a)] h (vQ fun v h' => v = .int 0 ∧ h = h') := by
  refine Con.intro H.el ho (plainFor_of_name pn77) (Ls := #[.val (.ref a)]) (fun m => by first | (simp [entryFrame, mkF, argsToLocals, Value.category]; done) | rfl) ?_
  intro X vm T w
  refine w.aloadN (q := 1) d83_0 rfl rfl rfl ?_
  refine w.getF (q := 4) d83_1 (H.tw 194 rfl) Via.refl F.2 rfl fun T1 w1 => ?_
  refine w1.nuY (q := 11) d83_4 (by decide) (by decide) ?_
  refine w1.iconst (q := 12) (0 : Int32) d83_11 rfl rfl ?_
  exact w1.retZ d83_12 (t := .boolean) rfl (by decide) rfl (by decide) (by decide) ⟨_, rfl, ⟨rfl, rfl⟩⟩
theorem d83_7 : decode jdk_32_method_6_code 7 = .ok (.iconst 1, 1) := by decide +kernel
theorem d83_8 : decode jdk_32_method_6_code 8 = .ok (.goto 4, 3) := by decide +kernel
set_option maxRecDepth 65536 in
set_option maxHeartbeats 40000000 in
theorem con_isP1 (G : Gx) (H : Hyp G) (a : Nat) (x : Nat) (h : Heap) (ho : Old G.Z G.n0 h) (F : Opt G.Z h a (.ref x)) :
    Con G (⟨"java/util/Optional", "isPresent", "()Z"⟩ : MethodName) jdk_32_method_6_code 1 (some .boolean) [] ({ frames := 0, cells := 0, slots := 0, locals := 0 } : Room) #[(.ref a)] h (vQ fun v h' => v = .int 1 ∧ h = h') := by
  refine Con.intro H.el ho (plainFor_of_name pn77) (Ls := #[.val (.ref a)]) (fun m => by first | (simp [entryFrame, mkF, argsToLocals, Value.category]; done) | rfl) ?_
  intro X vm T w
  refine w.aloadN (q := 1) d83_0 rfl rfl rfl ?_
  refine w.getF (q := 4) d83_1 (H.tw 194 rfl) Via.refl F.2 rfl fun T1 w1 => ?_
  refine w1.nuN (q := 7) d83_4 rfl ?_
  refine w1.iconst (q := 8) (1 : Int32) d83_7 rfl rfl ?_
  refine w1.goto (q := 12) d83_8 (by decide) (by decide) ?_
  exact w1.retZ d83_12 (t := .boolean) rfl (by decide) rfl (by decide) (by decide) ⟨_, rfl, ⟨rfl, rfl⟩⟩
theorem d84_0 : decode jdk_32_method_5_code 0 = .ok (.aload_n 0, 1) := by decide +kernel
theorem d84_1 : decode jdk_32_method_5_code 1 = .ok (.getfield 13, 3) := by decide +kernel
theorem d84_4 : decode jdk_32_method_5_code 4 = .ok (.ifnonnull 13, 3) := by decide +kernel
theorem d84_17 : decode jdk_32_method_5_code 17 = .ok (.aload_n 0, 1) := by decide +kernel
theorem d84_18 : decode jdk_32_method_5_code 18 = .ok (.getfield 13, 3) := by decide +kernel
theorem d84_21 : decode jdk_32_method_5_code 21 = .ok (.areturn, 1) := by decide +kernel
set_option maxRecDepth 65536 in
set_option maxHeartbeats 40000000 in
theorem con_get (G : Gx) (H : Hyp G) (a x : Nat) (h : Heap) (ho : Old G.Z G.n0 h) (F : Opt G.Z h a (.ref x)) :
    Con G (⟨"java/util/Optional", "get", "()Ljava/lang/Object;"⟩ : MethodName) jdk_32_method_5_code 1 (some (.object "java/lang/Object")) [] ({ frames := 0, cells := 0, slots := 0, locals := 0 } : Room) #[(.ref a)] h (vQ fun v h' => v = .ref x ∧ h = h') := by
  refine Con.intro H.el ho (plainFor_of_name pn77) (Ls := #[.val (.ref a)]) (fun m => by first | (simp [entryFrame, mkF, argsToLocals, Value.category]; done) | rfl) ?_
  intro X vm T w
  refine w.aloadN (q := 1) d84_0 rfl rfl rfl ?_
  refine w.getF (q := 4) d84_1 (H.tw 194 rfl) Via.refl F.2 rfl fun T1 w1 => ?_
  refine w1.nnY (q := 17) d84_4 (by decide) (by decide) ?_
  refine w1.aloadN (q := 18) d84_17 rfl rfl rfl ?_
  refine w1.getF (q := 21) d84_18 (H.tw 194 rfl) Via.refl F.2 rfl fun T2 w2 => ?_
  exact w2.retA d84_21 (t := (.object "java/lang/Object")) rfl rfl rfl (by decide) (by decide) ⟨_, rfl, ⟨rfl, rfl⟩⟩
theorem d85_0 : decode jdk_32_method_15_code 0 = .ok (.aload_n 0, 1) := by decide +kernel
theorem d85_1 : decode jdk_32_method_15_code 1 = .ok (.getfield 13, 3) := by decide +kernel
theorem d85_4 : decode jdk_32_method_15_code 4 = .ok (.ifnull 10, 3) := by decide +kernel
theorem d85_14 : decode jdk_32_method_15_code 14 = .ok (.aload_n 1, 1) := by decide +kernel
theorem d85_15 : decode jdk_32_method_15_code 15 = .ok (.areturn, 1) := by decide +kernel
set_option maxRecDepth 65536 in
set_option maxHeartbeats 40000000 in
theorem con_orE0 (G : Gx) (H : Hyp G) (a y : Nat) (h : Heap) (ho : Old G.Z G.n0 h) (F : Opt G.Z h a .null) :
    Con G (⟨"java/util/Optional", "orElse", "(Ljava/lang/Object;)Ljava/lang/Object;"⟩ : MethodName) jdk_32_method_15_code 2 (some (.object "java/lang/Object")) [] ({ frames := 0, cells := 0, slots := 0, locals := 0 } : Room) #[(.ref a), (.ref y)] h (vQ fun v h' => v = .ref y ∧ h = h') := by
  refine Con.intro H.el ho (plainFor_of_name pn77) (Ls := #[.val (.ref a), .val (.ref y)]) (fun m => by first | (simp [entryFrame, mkF, argsToLocals, Value.category]; done) | rfl) ?_
  intro X vm T w
  refine w.aloadN (q := 1) d85_0 rfl rfl rfl ?_
  refine w.getF (q := 4) d85_1 (H.tw 194 rfl) Via.refl F.2 rfl fun T1 w1 => ?_
  refine w1.nuY (q := 14) d85_4 (by decide) (by decide) ?_
  refine w1.aloadN (q := 15) d85_14 rfl rfl rfl ?_
  exact w1.retA d85_15 (t := (.object "java/lang/Object")) rfl rfl rfl (by decide) (by decide) ⟨_, rfl, ⟨rfl, rfl⟩⟩
theorem d85_7 : decode jdk_32_method_15_code 7 = .ok (.aload_n 0, 1) := by decide +kernel
theorem d85_8 : decode jdk_32_method_15_code 8 = .ok (.getfield 13, 3) := by decide +kernel
theorem d85_11 : decode jdk_32_method_15_code 11 = .ok (.goto 4, 3) := by decide +kernel
set_option maxRecDepth 65536 in
set_option maxHeartbeats 40000000 in
theorem con_orE1 (G : Gx) (H : Hyp G) (a y : Nat) (x : Nat) (h : Heap) (ho : Old G.Z G.n0 h) (F : Opt G.Z h a (.ref x)) :
    Con G (⟨"java/util/Optional", "orElse", "(Ljava/lang/Object;)Ljava/lang/Object;"⟩ : MethodName) jdk_32_method_15_code 2 (some (.object "java/lang/Object")) [] ({ frames := 0, cells := 0, slots := 0, locals := 0 } : Room) #[(.ref a), (.ref y)] h (vQ fun v h' => v = .ref x ∧ h = h') := by
  refine Con.intro H.el ho (plainFor_of_name pn77) (Ls := #[.val (.ref a), .val (.ref y)]) (fun m => by first | (simp [entryFrame, mkF, argsToLocals, Value.category]; done) | rfl) ?_
  intro X vm T w
  refine w.aloadN (q := 1) d85_0 rfl rfl rfl ?_
  refine w.getF (q := 4) d85_1 (H.tw 194 rfl) Via.refl F.2 rfl fun T1 w1 => ?_
  refine w1.nuN (q := 7) d85_4 rfl ?_
  refine w1.aloadN (q := 8) d85_7 rfl rfl rfl ?_
  refine w1.getF (q := 11) d85_8 (H.tw 194 rfl) Via.refl F.2 rfl fun T2 w2 => ?_
  refine w2.goto (q := 15) d85_11 (by decide) (by decide) ?_
  exact w2.retA d85_15 (t := (.object "java/lang/Object")) rfl rfl rfl (by decide) (by decide) ⟨_, rfl, ⟨rfl, rfl⟩⟩
def shW : Lambda.Shape := (Jvm.Lambda.Shape.mk "java/util/function/Predicate" "test" (MethodDescriptor.mk ([(FieldType.object "java/lang/Object")] : List FieldType) (Option.some FieldType.boolean)) ([FieldType.long] : List FieldType) 6 "com/example/versioned_table/versionedtable/KeyHold" "lambda$waitBefore$0" (MethodDescriptor.mk ([FieldType.long, (FieldType.object "java/lang/Long")] : List FieldType) (Option.some FieldType.boolean)) false (MethodDescriptor.mk ([(FieldType.object "java/lang/Long")] : List FieldType) (Option.some FieldType.boolean)))
def shI : Lambda.Shape := (Jvm.Lambda.Shape.mk "java/util/function/Supplier" "get" (MethodDescriptor.mk ([] : List FieldType) (Option.some (FieldType.object "java/lang/Object"))) ([(FieldType.object "com/example/versioned_table/versionedtable/KeyHold"), FieldType.long] : List FieldType) 5 "com/example/versioned_table/versionedtable/KeyHold" "lambda$idleFrom$2" (MethodDescriptor.mk ([FieldType.long] : List FieldType) (Option.some (FieldType.object "java/lang/Long"))) false (MethodDescriptor.mk ([] : List FieldType) (Option.some (FieldType.object "java/lang/Long"))))
def fcW : ByteArray := ⟨#[0x2a, 0xb4, 0x00, 0x0f, 0x2b, 0xc0, 0x00, 0x13, 0xb8, 0x00, 0x19, 0xac]⟩
theorem fcW_0 : decode fcW 0 = .ok (.aload_n 0, 1) := by decide +kernel
theorem fcW_1 : decode fcW 1 = .ok (.getfield 15, 3) := by decide +kernel
theorem fcW_4 : decode fcW 4 = .ok (.aload_n 1, 1) := by decide +kernel
theorem fcW_5 : decode fcW 5 = .ok (.checkcast 19, 3) := by decide +kernel
theorem fcW_8 : decode fcW 8 = .ok (.invokestatic 25, 3) := by decide +kernel
theorem fcW_11 : decode fcW 11 = .ok (.ireturn, 1) := by decide +kernel
def fcI : ByteArray := ⟨#[0x2a, 0xb4, 0x00, 0x11, 0x2a, 0xb4, 0x00, 0x13, 0xb6, 0x00, 0x1b, 0xb0]⟩
theorem fcI_0 : decode fcI 0 = .ok (.aload_n 0, 1) := by decide +kernel
theorem fcI_1 : decode fcI 1 = .ok (.getfield 17, 3) := by decide +kernel
theorem fcI_4 : decode fcI 4 = .ok (.aload_n 0, 1) := by decide +kernel
theorem fcI_5 : decode fcI 5 = .ok (.getfield 19, 3) := by decide +kernel
theorem fcI_8 : decode fcI 8 = .ok (.invokevirtual 27, 3) := by decide +kernel
theorem fcI_11 : decode fcI 11 = .ok (.areturn, 1) := by decide +kernel
theorem d86_0 : decode jdk_32_method_10_code 0 = .ok (.aload_n 1, 1) := by decide +kernel
theorem d86_1 : decode jdk_32_method_10_code 1 = .ok (.invokestatic 17, 3) := by decide +kernel
theorem d86_4 : decode jdk_32_method_10_code 4 = .ok (.pop, 1) := by decide +kernel
theorem d86_5 : decode jdk_32_method_10_code 5 = .ok (.aload_n 0, 1) := by decide +kernel
theorem d86_6 : decode jdk_32_method_10_code 6 = .ok (.invokevirtual 43, 3) := by decide +kernel
theorem d86_9 : decode jdk_32_method_10_code 9 = .ok (.ifCond .eq 5, 3) := by decide +kernel
theorem d86_12 : decode jdk_32_method_10_code 12 = .ok (.aload_n 0, 1) := by decide +kernel
theorem d86_13 : decode jdk_32_method_10_code 13 = .ok (.areturn, 1) := by decide +kernel
set_option maxRecDepth 65536 in
set_option maxHeartbeats 40000000 in
theorem con_fil0 (G : Gx) (H : Hyp G) (a ff : Nat) (h : Heap) (ho : Old G.Z G.n0 h) (F : Opt G.Z h a .null) :
    Con G (⟨"java/util/Optional", "filter", "(Ljava/util/function/Predicate;)Ljava/util/Optional;"⟩ : MethodName) jdk_32_method_10_code 2 (some (.object "java/util/Optional")) [] ({ frames := 1, cells := 0, slots := 0, locals := 12 } : Room) #[(.ref a), (.ref ff)] h (vQ fun v h' => v = .ref a ∧ h = h') := by
  refine Con.intro H.el ho (plainFor_of_name pn77) (Ls := #[.val (.ref a), .val (.ref ff)]) (fun m => by first | (simp [entryFrame, mkF, argsToLocals, Value.category]; done) | rfl) ?_
  intro X vm T w
  refine w.aloadN (q := 1) d86_0 rfl rfl rfl ?_
  refine w.callS (q := 4) d86_1 (H.tw 186 rfl) (H.tw 187 rfl) (H.tw 39 rfl) (H.tw 188 rfl) (by decide) (argsL := [(.ref ff)]) (rest := []) rfl (lenOf pd80 rfl) rfl (W := 0) (Nat.le_of_eq rfl) ((con_rnn G H ff h ho).pay w (H.tw 188 rfl) (H.tw 39 rfl) (by decide) (by decide)) (by decide) (by decide) rfl fun vm1 T1 h1 v1 w1 q1 => ?_
  obtain ⟨_, rfl, rfl, rfl⟩ := q1
  show Go _ _ _ _ (T1.setTop (mkF X.m 4 #[.val (.ref a), .val (.ref ff)] [(.ref ff)]))
  refine w1.pop (q := 5) d86_4 rfl rfl ?_
  refine w1.aloadN (q := 6) d86_5 rfl rfl rfl ?_
  refine w1.callV (q := 9) d86_6 (H.tw 189 rfl) (H.tw 190 rfl) (notFace_of_selects (C := "java/util/Optional") (args := G.a0) (H.tw 192 rfl)) (H.tw 192 rfl) (H.tw 191 rfl) (by decide) F.1 (argsL := []) (rest := []) rfl (lenOf pd14 rfl) rfl (W := 0) (Nat.le_of_eq rfl) ((con_isE0 G H a h ho F).pay w1 (H.tw 193 rfl) (H.tw 123 rfl) (by decide) (by decide)) (by decide) (by decide) rfl fun vm2 T2 h2 v2 w2 q2 => ?_
  obtain ⟨_, rfl, rfl, rfl⟩ := q2
  show Go _ _ _ _ (T2.setTop (mkF X.m 9 #[.val (.ref a), .val (.ref ff)] [(.int (1 : Int32))]))
  refine w2.ifN (q := 12) d86_9 ((if0 _ _).trans (feq (by decide)).1) rfl ?_
  refine w2.aloadN (q := 13) d86_12 rfl rfl rfl ?_
  exact w2.retA d86_13 (t := (.object "java/util/Optional")) rfl rfl rfl (by decide) (by decide) ⟨_, rfl, ⟨rfl, rfl⟩⟩
theorem d86_14 : decode jdk_32_method_10_code 14 = .ok (.aload_n 1, 1) := by decide +kernel
theorem d86_15 : decode jdk_32_method_10_code 15 = .ok (.aload_n 0, 1) := by decide +kernel
theorem d86_16 : decode jdk_32_method_10_code 16 = .ok (.getfield 13, 3) := by decide +kernel
theorem d86_19 : decode jdk_32_method_10_code 19 = .ok (.invokeinterface 47 2, 5) := by decide +kernel
theorem pd87 : parseMethodDescriptor "(Ljava/lang/Object;)Z" = some ⟨[(.object "java/lang/Object")], some .boolean⟩ := by decide +kernel
theorem pd88 : parseMethodDescriptor "(JLjava/lang/Long;)Z" = some ⟨[.long, (.object "java/lang/Long")], some .boolean⟩ := by decide +kernel
theorem d86_24 : decode jdk_32_method_10_code 24 = .ok (.ifCond .eq 7, 3) := by decide +kernel
theorem d86_31 : decode jdk_32_method_10_code 31 = .ok (.invokestatic 53, 3) := by decide +kernel
theorem pd89 : parseMethodDescriptor "()Ljava/util/Optional;" = some ⟨[], some (.object "java/util/Optional")⟩ := by decide +kernel
theorem d86_34 : decode jdk_32_method_10_code 34 = .ok (.areturn, 1) := by decide +kernel
theorem d86_27 : decode jdk_32_method_10_code 27 = .ok (.aload_n 0, 1) := by decide +kernel
theorem d86_28 : decode jdk_32_method_10_code 28 = .ok (.goto 6, 3) := by decide +kernel
set_option maxRecDepth 65536 in
set_option maxHeartbeats 40000000 in
theorem con_fil1 (G : Gx) (H : Hyp G) (a ff l : Nat) (cK : ClassId) (nw u : Int64) (h : Heap) (ho : Old G.Z G.n0 h) (F : Opt G.Z h a (.ref l)) (A : LongAt G.Z h l u) (Mk : Jvm.LamKit.Made G.Z "com/example/versioned_table/versionedtable/KeyHold" shW cK) (Cl : h[ff]? = some { cls := cK, slots := #[.long nw], vm := .none }) :
    Con G (⟨"java/util/Optional", "filter", "(Ljava/util/function/Predicate;)Ljava/util/Optional;"⟩ : MethodName) jdk_32_method_10_code 2 (some (.object "java/util/Optional")) [] ({ frames := 3, cells := 0, slots := 0, locals := 39 } : Room) #[(.ref a), (.ref ff)] h (vQ fun v h' => ∃ r : Nat, v = .ref r ∧ h = h' ∧ (((0 : Int32) < lcmpW (u - nw) (0 : Int64) ∧ r = a) ∨ (¬ (0 : Int32) < lcmpW (u - nw) (0 : Int64) ∧ Sta G.Z G.Z.heap "java/util/Optional" "EMPTY" "Ljava/util/Optional;" (.ref r) ∧ Opt G.Z G.Z.heap r .null))) := by
  refine Con.intro H.el ho (plainFor_of_name pn77) (Ls := #[.val (.ref a), .val (.ref ff)]) (fun m => by first | (simp [entryFrame, mkF, argsToLocals, Value.category]; done) | rfl) ?_
  intro X vm T w
  refine w.aloadN (q := 1) d86_0 rfl rfl rfl ?_
  refine w.callS (q := 4) d86_1 (H.tw 186 rfl) (H.tw 187 rfl) (H.tw 39 rfl) (H.tw 188 rfl) (by decide) (argsL := [(.ref ff)]) (rest := []) rfl (lenOf pd80 rfl) rfl (W := 0) (Nat.le_of_eq rfl) ((con_rnn G H ff h ho).pay w (H.tw 188 rfl) (H.tw 39 rfl) (by decide) (by decide)) (by decide) (by decide) rfl fun vm1 T1 h1 v1 w1 q1 => ?_
  obtain ⟨_, rfl, rfl, rfl⟩ := q1
  show Go _ _ _ _ (T1.setTop (mkF X.m 4 #[.val (.ref a), .val (.ref ff)] [(.ref ff)]))
  refine w1.pop (q := 5) d86_4 rfl rfl ?_
  refine w1.aloadN (q := 6) d86_5 rfl rfl rfl ?_
  refine w1.callV (q := 9) d86_6 (H.tw 189 rfl) (H.tw 190 rfl) (notFace_of_selects (C := "java/util/Optional") (args := G.a0) (H.tw 192 rfl)) (H.tw 192 rfl) (H.tw 191 rfl) (by decide) F.1 (argsL := []) (rest := []) rfl (lenOf pd14 rfl) rfl (W := 0) (Nat.le_of_eq rfl) ((con_isE1 G H a l h ho F).pay w1 (H.tw 193 rfl) (H.tw 123 rfl) (by decide) (by decide)) (by decide) (by decide) rfl fun vm2 T2 h2 v2 w2 q2 => ?_
  obtain ⟨_, rfl, rfl, rfl⟩ := q2
  show Go _ _ _ _ (T2.setTop (mkF X.m 9 #[.val (.ref a), .val (.ref ff)] [(.int (0 : Int32))]))
  refine w2.ifY (q := 14) d86_9 ((if0 _ _).trans (teq rfl).1) (by decide) (by decide) ?_
  refine w2.aloadN (q := 15) d86_14 rfl rfl rfl ?_
  refine w2.aloadN (q := 16) d86_15 rfl rfl rfl ?_
  refine w2.getF (q := 19) d86_16 (H.tw 194 rfl) Via.refl F.2 rfl fun T3 w3 => ?_
  refine w3.callLam (q := 24) (W := 0) (R' := ({ frames := 2, cells := 0, slots := 0, locals := 26 } : Room)) (fcode := fcW) (fml := 2) (fret := some .boolean) (L0 := #[.val (.ref ff), .val (.ref l)]) (argsL := [.ref l]) (rest := []) (Q1 := (vQ fun v h' => v = .int (if (0 : Int32) < lcmpW (u - nw) (0 : Int64) then 1 else 0) ∧ h = h')) d86_19 (H.tw 308 rfl) (H.tw 309 rfl) (H.tw 310 rfl) (by decide) ⟨rfl, rfl, by decide +kernel⟩ Mk Cl rfl rfl (by decide +kernel) rfl (lenOf pd87 rfl) rfl (Nat.le_refl _) (fun mk => by simp [entryFrame, mkF, argsToLocals, Value.category]) (by decide) (by decide) (by decide) (by decide) rfl (fun v h' q => by obtain ⟨_, _, _, rfl⟩ := q; exact xrfl _) (fun X' T' hm wb => ?_) (fun vm4 T4 h4 v4 w4 q4 => ?_)
  ·
    refine wb.aloadN (q := 1) fcW_0 rfl rfl rfl ?_
    refine wb.getCap (q := 4) (i := 0) hm Mk (by decide +kernel) (H.tw 36 rfl) Cl rfl rfl fcW_1 rfl ?_
    refine wb.aloadN (q := 5) fcW_4 rfl rfl rfl ?_
    refine wb.castM (q := 8) (C := "java/lang/Long") hm Mk (by decide +kernel) A.1 (H.tw 279 rfl) fcW_5 rfl ?_
    refine wb.callSt (q := 11) (y := (⟨"com/example/versioned_table/versionedtable/KeyHold", "lambda$waitBefore$0", "(JLjava/lang/Long;)Z"⟩ : MethodName)) (ci := 21) (argsL := [.long nw, .ref l]) (rest := []) (W := 0) hm Mk (by decide +kernel) (by decide +kernel) ⟨rfl, rfl, by decide +kernel⟩ (by decide) (H.tw 311 rfl) (H.tw 159 rfl) (H.tw 312 rfl) fcW_8 rfl (lenOf pd88 rfl) rfl (Nat.le_refl _) ((con_lwb G.nar H.nar nw u l h wb.old A).payb wb (H.tw 312 rfl) (H.tw 159 rfl) (by decide) (by decide)) (by decide) (by decide) rfl fun vm2 T2 h2 v2 w2 q2 => ?_
    obtain ⟨_, rfl, rfl, rfl⟩ := q2
    exact w2.retZ fcW_11 (t := .boolean) rfl (by decide) (nar_ite _) (by decide) (by decide) ⟨_, rfl, rfl, rfl⟩
  ·
    obtain ⟨_, rfl, rfl, rfl⟩ := q4
    show Go _ _ _ _ (T4.setTop (mkF X.m 24 #[.val (.ref a), .val (.ref ff)] [(.int (if (0 : Int32) < lcmpW (u - nw) (0 : Int64) then 1 else 0))]))
    by_cases c0 : (if (0 : Int32) < lcmpW (u - nw) (0 : Int64) then 1 else 0) = (0 : Int32)
    ·
      refine w4.ifY (q := 31) d86_24 ((if0 _ _).trans (teq c0).1) (by decide) (by decide) ?_
      obtain ⟨⟨lc, lcell, Slc, Blc⟩, hfm, ⟨oi, Soi, Eoi, Foi⟩, oe, Soe, Ooe⟩ := H.mo
      refine w4.callS (q := 34) d86_31 (H.tw 313 rfl) (H.tw 122 rfl) (H.tw 123 rfl) (H.tw 124 rfl) (by decide) (argsL := []) (rest := []) rfl (lenOf pd89 rfl) rfl (W := 0) (Nat.le_of_eq rfl) ((con_oe G H oe Soe h ho).pay w4 (H.tw 124 rfl) (H.tw 123 rfl) (by decide) (by decide)) (by decide) (by decide) rfl fun vm5 T5 h5 v5 w5 q5 => ?_
      obtain ⟨_, rfl, rfl, rfl⟩ := q5
      show Go _ _ _ _ (T5.setTop (mkF X.m 34 #[.val (.ref a), .val (.ref ff)] [(.ref oe)]))
      exact w5.retA d86_34 (t := (.object "java/util/Optional")) rfl rfl rfl (by decide) (by decide) ⟨_, rfl, oe, rfl, rfl, Or.inr ⟨ite_no c0, Soe, Ooe⟩⟩
    ·
      refine w4.ifN (q := 27) d86_24 ((if0 _ _).trans (feq c0).1) rfl ?_
      refine w4.aloadN (q := 28) d86_27 rfl rfl rfl ?_
      refine w4.goto (q := 34) d86_28 (by decide) (by decide) ?_
      exact w4.retA d86_34 (t := (.object "java/util/Optional")) rfl rfl rfl (by decide) (by decide) ⟨_, rfl, a, rfl, rfl, Or.inl ⟨ite_yes c0, rfl⟩⟩
theorem d90_0 : decode jdk_32_method_16_code 0 = .ok (.aload_n 0, 1) := by decide +kernel
theorem d90_1 : decode jdk_32_method_16_code 1 = .ok (.getfield 13, 3) := by decide +kernel
theorem d90_4 : decode jdk_32_method_16_code 4 = .ok (.ifnull 10, 3) := by decide +kernel
theorem d90_14 : decode jdk_32_method_16_code 14 = .ok (.aload_n 1, 1) := by decide +kernel
theorem d90_15 : decode jdk_32_method_16_code 15 = .ok (.invokeinterface 69 1, 5) := by decide +kernel
theorem pd91 : parseMethodDescriptor "()Ljava/lang/Object;" = some ⟨[], some (.object "java/lang/Object")⟩ := by decide +kernel
theorem d90_20 : decode jdk_32_method_16_code 20 = .ok (.areturn, 1) := by decide +kernel
set_option maxRecDepth 65536 in
set_option maxHeartbeats 40000000 in
theorem con_oeg (G : Gx) (H : Hyp G) (a ff k : Nat) (cK : ClassId) (nw L an : Int64) (h : Heap) (ho : Old G.Z G.n0 h) (F : Opt G.Z h a .null) (Mk : Jvm.LamKit.Made G.Z "com/example/versioned_table/versionedtable/KeyHold" shI cK) (Cl : h[ff]? = some { cls := cK, slots := #[.ref k, .long nw], vm := .none }) (E : Exa G.Z h k "com/example/versioned_table/versionedtable/KeyHold") (FL : Fld G.Z h k "com/example/versioned_table/versionedtable/KeyHold" "longestRetryWaitNanos" "J" (.long L)) (Fan : Fld G.Z h k "com/example/versioned_table/versionedtable/KeyHold" "attemptNanos" "J" (.long an)) (Fwr : Fld G.Z h k "com/example/versioned_table/versionedtable/KeyHold" "writes" "I" (.int 1)) (Fps : Fld G.Z h k "com/example/versioned_table/versionedtable/KeyHold" "pauses" "J" (.long 0)) :
    Con G (⟨"java/util/Optional", "orElseGet", "(Ljava/util/function/Supplier;)Ljava/lang/Object;"⟩ : MethodName) jdk_32_method_16_code 2 (some (.object "java/lang/Object")) [] ({ frames := 6, cells := 1, slots := 1, locals := 79 } : Room) #[(.ref a), (.ref ff)] h (vQ fun v h' => ∃ r : Nat, v = .ref r ∧ Ext h h' ∧ LongAt G.Z h' r (nw + ((4 : Int64) * (L + an)))) := by
  refine Con.intro H.el ho (plainFor_of_name pn77) (Ls := #[.val (.ref a), .val (.ref ff)]) (fun m => by first | (simp [entryFrame, mkF, argsToLocals, Value.category]; done) | rfl) ?_
  intro X vm T w
  refine w.aloadN (q := 1) d90_0 rfl rfl rfl ?_
  refine w.getF (q := 4) d90_1 (H.tw 194 rfl) Via.refl F.2 rfl fun T1 w1 => ?_
  refine w1.nuY (q := 14) d90_4 (by decide) (by decide) ?_
  refine w1.aloadN (q := 15) d90_14 rfl rfl rfl ?_
  refine w1.callLam (q := 20) (W := 0) (R' := ({ frames := 5, cells := 1, slots := 1, locals := 67 } : Room)) (fcode := fcI) (fml := 1) (fret := some (.object "java/lang/Object")) (L0 := #[.val (.ref ff)]) (argsL := []) (rest := []) (Q1 := (vQ fun v h' => ∃ r : Nat, v = .ref r ∧ Ext h h' ∧ LongAt G.Z h' r (nw + ((4 : Int64) * (L + an))))) d90_15 (H.tw 239 rfl) (H.tw 240 rfl) (H.tw 241 rfl) (by decide) ⟨rfl, rfl, by decide +kernel⟩ Mk Cl rfl rfl (by decide +kernel) rfl (lenOf pd91 rfl) rfl (Nat.le_refl _) (fun mk => by simp [entryFrame, mkF, argsToLocals, Value.category]) (by decide) (by decide) (by decide) (by decide) rfl (fun v h' q => by obtain ⟨_, _, _, _, e, _⟩ := q; exact e) (fun X' T' hm wb => ?_) (fun vm2 T2 h2 v2 w2 q2 => ?_)
  ·
    refine wb.aloadN (q := 1) fcI_0 rfl rfl rfl ?_
    refine wb.getCap (q := 4) (i := 0) hm Mk (by decide +kernel) (H.tw 36 rfl) Cl rfl rfl fcI_1 rfl ?_
    refine wb.aloadN (q := 5) fcI_4 rfl rfl rfl ?_
    refine wb.getCap (q := 8) (i := 1) hm Mk (by decide +kernel) (H.tw 36 rfl) Cl rfl rfl fcI_5 rfl ?_
    refine wb.callVp (q := 11) (y := (⟨"com/example/versioned_table/versionedtable/KeyHold", "lambda$idleFrom$2", "(J)Ljava/lang/Long;"⟩ : MethodName)) (ci := 23) (argsL := [.long nw]) (rest := []) (W := 0) hm Mk (by decide +kernel) (by decide +kernel) ⟨rfl, rfl, by decide +kernel⟩ (by decide) (H.tw 242 rfl) (H.tw 243 rfl) (H.tw 244 rfl) (H.tw 158 rfl) E fcI_8 rfl (lenOf pd74 rfl) rfl (Nat.le_refl _) ((con_lid G.nar H.nar k nw L an h wb.old E FL Fan Fwr Fps).payb wb (H.tw 244 rfl) (H.tw 159 rfl) (by decide) (by decide)) (by decide) (by decide) rfl fun vm2 T2 h2 v2 w2 q2 => ?_
    obtain ⟨_, rfl, r, rfl, e, lr⟩ := q2
    exact w2.retA fcI_11 (t := .object "java/lang/Object") rfl rfl rfl (by decide) (by decide) ⟨_, rfl, r, rfl, e, lr⟩
  ·
    obtain ⟨_, rfl, r, rfl, e, lr⟩ := q2
    show Go _ _ _ _ (T2.setTop (mkF X.m 20 #[.val (.ref a), .val (.ref ff)] [(.ref r)]))
    exact w2.retA d90_20 (t := (.object "java/lang/Object")) rfl rfl rfl (by decide) (by decide) ⟨_, rfl, r, rfl, e, lr⟩
theorem d92_0 : decode prog_11_method_1_code 0 = .ok (.aload_n 0, 1) := by decide +kernel
theorem d92_1 : decode prog_11_method_1_code 1 = .ok (.invokespecial 1, 3) := by decide +kernel
theorem d92_4 : decode prog_11_method_1_code 4 = .ok (.aload_n 0, 1) := by decide +kernel
theorem d92_5 : decode prog_11_method_1_code 5 = .ok (.invokestatic 7, 3) := by decide +kernel
theorem d92_8 : decode prog_11_method_1_code 8 = .ok (.putfield 13, 3) := by decide +kernel
theorem d92_11 : decode prog_11_method_1_code 11 = .ok (.aload_n 0, 1) := by decide +kernel
theorem d92_12 : decode prog_11_method_1_code 12 = .ok (.invokestatic 7, 3) := by decide +kernel
theorem d92_15 : decode prog_11_method_1_code 15 = .ok (.putfield 19, 3) := by decide +kernel
theorem d92_18 : decode prog_11_method_1_code 18 = .ok (.aload_n 0, 1) := by decide +kernel
theorem d92_19 : decode prog_11_method_1_code 19 = .ok (.invokestatic 7, 3) := by decide +kernel
theorem d92_22 : decode prog_11_method_1_code 22 = .ok (.putfield 22, 3) := by decide +kernel
theorem d92_25 : decode prog_11_method_1_code 25 = .ok (.aload_n 0, 1) := by decide +kernel
theorem d92_26 : decode prog_11_method_1_code 26 = .ok (.lload_n 1, 1) := by decide +kernel
theorem d92_27 : decode prog_11_method_1_code 27 = .ok (.putfield 25, 3) := by decide +kernel
theorem d92_30 : decode prog_11_method_1_code 30 = .ok (.return_, 1) := by decide +kernel
set_option maxRecDepth 65536 in
set_option maxHeartbeats 40000000 in
theorem con_kh (G : Gx) (H : Hyp G) (k oe : Nat) (L : Int64) (Soe : Sta G.Z G.Z.heap "java/util/Optional" "EMPTY" "Ljava/util/Optional;" (.ref oe)) (h : Heap) (ho : Old G.Z G.n0 h) (E : Exa G.Z h k "com/example/versioned_table/versionedtable/KeyHold") (Flw : Fld G.Z h k "com/example/versioned_table/versionedtable/KeyHold" "lastWritten" "Ljava/util/Optional;" .null) (Fiu : Fld G.Z h k "com/example/versioned_table/versionedtable/KeyHold" "idleUntil" "Ljava/util/Optional;" .null) (Fpu : Fld G.Z h k "com/example/versioned_table/versionedtable/KeyHold" "pauseUntil" "Ljava/util/Optional;" .null) (FL : Fld G.Z h k "com/example/versioned_table/versionedtable/KeyHold" "longestRetryWaitNanos" "J" (.long (0 : Int64))) (Fbg : Fld G.Z h k "com/example/versioned_table/versionedtable/KeyHold" "began" "J" (.long (0 : Int64))) (Fwr : Fld G.Z h k "com/example/versioned_table/versionedtable/KeyHold" "writes" "I" (.int (0 : Int32))) (Fan : Fld G.Z h k "com/example/versioned_table/versionedtable/KeyHold" "attemptNanos" "J" (.long (0 : Int64))) (Fps : Fld G.Z h k "com/example/versioned_table/versionedtable/KeyHold" "pauses" "J" (.long (0 : Int64))) (g : G.n0 ≤ k) :
    Con G (⟨"com/example/versioned_table/versionedtable/KeyHold", "<init>", "(J)V"⟩ : MethodName) prog_11_method_1_code 3 none [] ({ frames := 1, cells := 0, slots := 0, locals := 13 } : Room) #[(.ref k), (.long L)] h (nQ fun h' => Keep h h' [k] ∧ Exa G.Z h' k "com/example/versioned_table/versionedtable/KeyHold" ∧ Fld G.Z h' k "com/example/versioned_table/versionedtable/KeyHold" "lastWritten" "Ljava/util/Optional;" (.ref oe) ∧ Fld G.Z h' k "com/example/versioned_table/versionedtable/KeyHold" "idleUntil" "Ljava/util/Optional;" (.ref oe) ∧ Fld G.Z h' k "com/example/versioned_table/versionedtable/KeyHold" "pauseUntil" "Ljava/util/Optional;" (.ref oe) ∧ Fld G.Z h' k "com/example/versioned_table/versionedtable/KeyHold" "longestRetryWaitNanos" "J" (.long L) ∧ Fld G.Z h' k "com/example/versioned_table/versionedtable/KeyHold" "began" "J" (.long (0 : Int64)) ∧ Fld G.Z h' k "com/example/versioned_table/versionedtable/KeyHold" "writes" "I" (.int (0 : Int32)) ∧ Fld G.Z h' k "com/example/versioned_table/versionedtable/KeyHold" "attemptNanos" "J" (.long (0 : Int64)) ∧ Fld G.Z h' k "com/example/versioned_table/versionedtable/KeyHold" "pauses" "J" (.long (0 : Int64))) := by
  refine Con.intro H.el ho (plainFor_of_name pn67) (Ls := #[.val (.ref k), .val (.long L), .second]) (fun m => by first | (simp [entryFrame, mkF, argsToLocals, Value.category]; done) | rfl) ?_
  intro X vm T w
  have KK := Keep.refl h [k]
  refine w.aloadN (q := 1) d92_0 rfl rfl rfl ?_
  refine w.initO (q := 4) (W := 0) d92_1 (H.tw 163 rfl) (H.tw 24 rfl) (H.tw 25 rfl) rfl (by decide) (Nat.le_of_eq rfl) (by decide) rfl fun T1 w1 => ?_
  refine w1.aloadN (q := 5) d92_4 rfl rfl rfl ?_
  refine w1.callS (q := 8) d92_5 (H.tw 164 rfl) (H.tw 122 rfl) (H.tw 123 rfl) (H.tw 124 rfl) (by decide) (argsL := []) (rest := [(.ref k)]) rfl (lenOf pd89 rfl) rfl (W := 1) (Nat.le_of_eq rfl) ((con_oe G H oe Soe h w1.old).pay w1 (H.tw 124 rfl) (H.tw 123 rfl) (by decide) (by decide)) (by decide) (by decide) rfl fun vm2 T2 h2 v2 w2 q2 => ?_
  obtain ⟨_, rfl, rfl, rfl⟩ := q2
  show Go _ _ _ _ (T2.setTop (mkF X.m 8 #[.val (.ref k), .val (.long L), .second] [(.ref oe), (.ref k)]))
  have Eold := E
  refine w2.putF (q := 11) d92_8 (H.tw 165 rfl) Via.refl Flw E (Or.inl (H.tw 166 rfl)) (H.tw 158 rfl) (ty := (.object "java/util/Optional")) (by decide) rfl rfl g (w2.sfE E (by decide) (by decide)) rfl fun T3 h3 w3 W3 sf3 => ?_
  have sz3 : h.size ≤ h3.size := (Keep.of_wr W3).1
  replace E := E.wr W3
  replace Flw := Flw.same W3
  replace Fiu := Fiu.other W3 (Or.inr (slot_ne (Or.inl (H.tw 168 rfl)) (Or.inl (H.tw 166 rfl)) (by decide) (t := (.object "java/util/Optional")) (t' := (.object "java/util/Optional")) (by decide) (by decide)))
  replace Fpu := Fpu.other W3 (Or.inr (slot_ne (Or.inl (H.tw 170 rfl)) (Or.inl (H.tw 166 rfl)) (by decide) (t := (.object "java/util/Optional")) (t' := (.object "java/util/Optional")) (by decide) (by decide)))
  replace FL := FL.other W3 (Or.inr (slot_ne (Or.inr (H.tw 172 rfl)) (Or.inl (H.tw 166 rfl)) (by decide) (t := .long) (t' := (.object "java/util/Optional")) (by decide) (by decide)))
  replace Fbg := Fbg.other W3 (Or.inr (slot_ne (Or.inl (H.tw 213 rfl)) (Or.inl (H.tw 166 rfl)) (by decide) (t := .long) (t' := (.object "java/util/Optional")) (by decide) (by decide)))
  replace Fwr := Fwr.other W3 (Or.inr (slot_ne (Or.inl (H.tw 215 rfl)) (Or.inl (H.tw 166 rfl)) (by decide) (t := .int) (t' := (.object "java/util/Optional")) (by decide) (by decide)))
  replace Fan := Fan.other W3 (Or.inr (slot_ne (Or.inl (H.tw 217 rfl)) (Or.inl (H.tw 166 rfl)) (by decide) (t := .long) (t' := (.object "java/util/Optional")) (by decide) (by decide)))
  replace Fps := Fps.other W3 (Or.inr (slot_ne (Or.inl (H.tw 250 rfl)) (Or.inl (H.tw 166 rfl)) (by decide) (t := .long) (t' := (.object "java/util/Optional")) (by decide) (by decide)))
  replace KK := KK.wr W3 (Or.inl (List.mem_singleton.mpr rfl))
  refine w3.aloadN (q := 12) d92_11 rfl rfl rfl ?_
  refine w3.callS (q := 15) d92_12 (H.tw 164 rfl) (H.tw 122 rfl) (H.tw 123 rfl) (H.tw 124 rfl) (by decide) (argsL := []) (rest := [(.ref k)]) rfl (lenOf pd89 rfl) rfl (W := 1) (Nat.le_of_eq rfl) ((con_oe G H oe Soe h3 w3.old).pay w3 (H.tw 124 rfl) (H.tw 123 rfl) (by decide) (by decide)) (by decide) (by decide) rfl fun vm4 T4 h4 v4 w4 q4 => ?_
  obtain ⟨_, rfl, rfl, rfl⟩ := q4
  show Go _ _ _ _ (T4.setTop (mkF X.m 15 #[.val (.ref k), .val (.long L), .second] [(.ref oe), (.ref k)]))
  have Eold := E
  refine w4.putF (q := 18) d92_15 (H.tw 167 rfl) Via.refl Fiu E (Or.inl (H.tw 168 rfl)) (H.tw 158 rfl) (ty := (.object "java/util/Optional")) (by decide) rfl rfl g (w4.sfE E (by decide) (by decide)) rfl fun T5 h5 w5 W5 sf5 => ?_
  have sz5 : h3.size ≤ h5.size := (Keep.of_wr W5).1
  replace E := E.wr W5
  replace Flw := Flw.other W5 (Or.inr (slot_ne (Or.inl (H.tw 166 rfl)) (Or.inl (H.tw 168 rfl)) (by decide) (t := (.object "java/util/Optional")) (t' := (.object "java/util/Optional")) (by decide) (by decide)))
  replace Fiu := Fiu.same W5
  replace Fpu := Fpu.other W5 (Or.inr (slot_ne (Or.inl (H.tw 170 rfl)) (Or.inl (H.tw 168 rfl)) (by decide) (t := (.object "java/util/Optional")) (t' := (.object "java/util/Optional")) (by decide) (by decide)))
  replace FL := FL.other W5 (Or.inr (slot_ne (Or.inr (H.tw 172 rfl)) (Or.inl (H.tw 168 rfl)) (by decide) (t := .long) (t' := (.object "java/util/Optional")) (by decide) (by decide)))
  replace Fbg := Fbg.other W5 (Or.inr (slot_ne (Or.inl (H.tw 213 rfl)) (Or.inl (H.tw 168 rfl)) (by decide) (t := .long) (t' := (.object "java/util/Optional")) (by decide) (by decide)))
  replace Fwr := Fwr.other W5 (Or.inr (slot_ne (Or.inl (H.tw 215 rfl)) (Or.inl (H.tw 168 rfl)) (by decide) (t := .int) (t' := (.object "java/util/Optional")) (by decide) (by decide)))
  replace Fan := Fan.other W5 (Or.inr (slot_ne (Or.inl (H.tw 217 rfl)) (Or.inl (H.tw 168 rfl)) (by decide) (t := .long) (t' := (.object "java/util/Optional")) (by decide) (by decide)))
  replace Fps := Fps.other W5 (Or.inr (slot_ne (Or.inl (H.tw 250 rfl)) (Or.inl (H.tw 168 rfl)) (by decide) (t := .long) (t' := (.object "java/util/Optional")) (by decide) (by decide)))
  replace KK := KK.wr W5 (Or.inl (List.mem_singleton.mpr rfl))
  refine w5.aloadN (q := 19) d92_18 rfl rfl rfl ?_
  refine w5.callS (q := 22) d92_19 (H.tw 164 rfl) (H.tw 122 rfl) (H.tw 123 rfl) (H.tw 124 rfl) (by decide) (argsL := []) (rest := [(.ref k)]) rfl (lenOf pd89 rfl) rfl (W := 1) (Nat.le_of_eq rfl) ((con_oe G H oe Soe h5 w5.old).pay w5 (H.tw 124 rfl) (H.tw 123 rfl) (by decide) (by decide)) (by decide) (by decide) rfl fun vm6 T6 h6 v6 w6 q6 => ?_
  obtain ⟨_, rfl, rfl, rfl⟩ := q6
  show Go _ _ _ _ (T6.setTop (mkF X.m 22 #[.val (.ref k), .val (.long L), .second] [(.ref oe), (.ref k)]))
  have Eold := E
  refine w6.putF (q := 25) d92_22 (H.tw 169 rfl) Via.refl Fpu E (Or.inl (H.tw 170 rfl)) (H.tw 158 rfl) (ty := (.object "java/util/Optional")) (by decide) rfl rfl g (w6.sfE E (by decide) (by decide)) rfl fun T7 h7 w7 W7 sf7 => ?_
  have sz7 : h5.size ≤ h7.size := (Keep.of_wr W7).1
  replace E := E.wr W7
  replace Flw := Flw.other W7 (Or.inr (slot_ne (Or.inl (H.tw 166 rfl)) (Or.inl (H.tw 170 rfl)) (by decide) (t := (.object "java/util/Optional")) (t' := (.object "java/util/Optional")) (by decide) (by decide)))
  replace Fiu := Fiu.other W7 (Or.inr (slot_ne (Or.inl (H.tw 168 rfl)) (Or.inl (H.tw 170 rfl)) (by decide) (t := (.object "java/util/Optional")) (t' := (.object "java/util/Optional")) (by decide) (by decide)))
  replace Fpu := Fpu.same W7
  replace FL := FL.other W7 (Or.inr (slot_ne (Or.inr (H.tw 172 rfl)) (Or.inl (H.tw 170 rfl)) (by decide) (t := .long) (t' := (.object "java/util/Optional")) (by decide) (by decide)))
  replace Fbg := Fbg.other W7 (Or.inr (slot_ne (Or.inl (H.tw 213 rfl)) (Or.inl (H.tw 170 rfl)) (by decide) (t := .long) (t' := (.object "java/util/Optional")) (by decide) (by decide)))
  replace Fwr := Fwr.other W7 (Or.inr (slot_ne (Or.inl (H.tw 215 rfl)) (Or.inl (H.tw 170 rfl)) (by decide) (t := .int) (t' := (.object "java/util/Optional")) (by decide) (by decide)))
  replace Fan := Fan.other W7 (Or.inr (slot_ne (Or.inl (H.tw 217 rfl)) (Or.inl (H.tw 170 rfl)) (by decide) (t := .long) (t' := (.object "java/util/Optional")) (by decide) (by decide)))
  replace Fps := Fps.other W7 (Or.inr (slot_ne (Or.inl (H.tw 250 rfl)) (Or.inl (H.tw 170 rfl)) (by decide) (t := .long) (t' := (.object "java/util/Optional")) (by decide) (by decide)))
  replace KK := KK.wr W7 (Or.inl (List.mem_singleton.mpr rfl))
  refine w7.aloadN (q := 26) d92_25 rfl rfl rfl ?_
  refine w7.lloadN (q := 27) d92_26 rfl rfl ?_
  have Eold := E
  refine w7.putF (q := 30) d92_27 (H.tw 171 rfl) Via.refl FL E (Or.inr ⟨(H.tw 172 rfl), rfl, rfl⟩) (H.tw 158 rfl) (ty := .long) (by decide) rfl rfl g (w7.sfE E (by decide) (by decide)) rfl fun T8 h8 w8 W8 sf8 => ?_
  have sz8 : h7.size ≤ h8.size := (Keep.of_wr W8).1
  replace E := E.wr W8
  replace Flw := Flw.other W8 (Or.inr (slot_ne (Or.inl (H.tw 166 rfl)) (Or.inr (H.tw 172 rfl)) (by decide) (t := (.object "java/util/Optional")) (t' := .long) (by decide) (by decide)))
  replace Fiu := Fiu.other W8 (Or.inr (slot_ne (Or.inl (H.tw 168 rfl)) (Or.inr (H.tw 172 rfl)) (by decide) (t := (.object "java/util/Optional")) (t' := .long) (by decide) (by decide)))
  replace Fpu := Fpu.other W8 (Or.inr (slot_ne (Or.inl (H.tw 170 rfl)) (Or.inr (H.tw 172 rfl)) (by decide) (t := (.object "java/util/Optional")) (t' := .long) (by decide) (by decide)))
  replace FL := FL.same W8
  replace Fbg := Fbg.other W8 (Or.inr (slot_ne (Or.inl (H.tw 213 rfl)) (Or.inr (H.tw 172 rfl)) (by decide) (t := .long) (t' := .long) (by decide) (by decide)))
  replace Fwr := Fwr.other W8 (Or.inr (slot_ne (Or.inl (H.tw 215 rfl)) (Or.inr (H.tw 172 rfl)) (by decide) (t := .int) (t' := .long) (by decide) (by decide)))
  replace Fan := Fan.other W8 (Or.inr (slot_ne (Or.inl (H.tw 217 rfl)) (Or.inr (H.tw 172 rfl)) (by decide) (t := .long) (t' := .long) (by decide) (by decide)))
  replace Fps := Fps.other W8 (Or.inr (slot_ne (Or.inl (H.tw 250 rfl)) (Or.inr (H.tw 172 rfl)) (by decide) (t := .long) (t' := .long) (by decide) (by decide)))
  replace KK := KK.wr W8 (Or.inl (List.mem_singleton.mpr rfl))
  exact w8.retV d92_30 rfl (by decide) (by decide) ⟨rfl, KK, E, Flw, Fiu, Fpu, FL, Fbg, Fwr, Fan, Fps⟩
theorem d93_0 : decode prog_11_method_8_code 0 = .ok (.aload_n 0, 1) := by decide +kernel
theorem d93_1 : decode prog_11_method_8_code 1 = .ok (.invokestatic 7, 3) := by decide +kernel
theorem d93_4 : decode prog_11_method_8_code 4 = .ok (.putfield 13, 3) := by decide +kernel
theorem d93_7 : decode prog_11_method_8_code 7 = .ok (.return_, 1) := by decide +kernel
set_option maxRecDepth 65536 in
set_option maxHeartbeats 40000000 in
theorem con_end (G : Gx) (H : Hyp G) (k oe lw iu pu : Nat) (L bg an ps : Int64) (wr : Int32) (Soe : Sta G.Z G.Z.heap "java/util/Optional" "EMPTY" "Ljava/util/Optional;" (.ref oe)) (h : Heap) (ho : Old G.Z G.n0 h) (E : Exa G.Z h k "com/example/versioned_table/versionedtable/KeyHold") (Flw : Fld G.Z h k "com/example/versioned_table/versionedtable/KeyHold" "lastWritten" "Ljava/util/Optional;" (.ref lw)) (Fiu : Fld G.Z h k "com/example/versioned_table/versionedtable/KeyHold" "idleUntil" "Ljava/util/Optional;" (.ref iu)) (Fpu : Fld G.Z h k "com/example/versioned_table/versionedtable/KeyHold" "pauseUntil" "Ljava/util/Optional;" (.ref pu)) (FL : Fld G.Z h k "com/example/versioned_table/versionedtable/KeyHold" "longestRetryWaitNanos" "J" (.long L)) (Fbg : Fld G.Z h k "com/example/versioned_table/versionedtable/KeyHold" "began" "J" (.long bg)) (Fwr : Fld G.Z h k "com/example/versioned_table/versionedtable/KeyHold" "writes" "I" (.int wr)) (Fan : Fld G.Z h k "com/example/versioned_table/versionedtable/KeyHold" "attemptNanos" "J" (.long an)) (Fps : Fld G.Z h k "com/example/versioned_table/versionedtable/KeyHold" "pauses" "J" (.long ps)) (g : G.n0 ≤ k) :
    Con G (⟨"com/example/versioned_table/versionedtable/KeyHold", "end", "()V"⟩ : MethodName) prog_11_method_8_code 1 none [] ({ frames := 1, cells := 0, slots := 0, locals := 13 } : Room) #[(.ref k)] h (nQ fun h' => Keep h h' [k] ∧ Exa G.Z h' k "com/example/versioned_table/versionedtable/KeyHold" ∧ Fld G.Z h' k "com/example/versioned_table/versionedtable/KeyHold" "lastWritten" "Ljava/util/Optional;" (.ref oe) ∧ Fld G.Z h' k "com/example/versioned_table/versionedtable/KeyHold" "idleUntil" "Ljava/util/Optional;" (.ref iu) ∧ Fld G.Z h' k "com/example/versioned_table/versionedtable/KeyHold" "pauseUntil" "Ljava/util/Optional;" (.ref pu) ∧ Fld G.Z h' k "com/example/versioned_table/versionedtable/KeyHold" "longestRetryWaitNanos" "J" (.long L) ∧ Fld G.Z h' k "com/example/versioned_table/versionedtable/KeyHold" "began" "J" (.long bg) ∧ Fld G.Z h' k "com/example/versioned_table/versionedtable/KeyHold" "writes" "I" (.int wr) ∧ Fld G.Z h' k "com/example/versioned_table/versionedtable/KeyHold" "attemptNanos" "J" (.long an) ∧ Fld G.Z h' k "com/example/versioned_table/versionedtable/KeyHold" "pauses" "J" (.long ps)) := by
  refine Con.intro H.el ho (plainFor_of_name pn67) (Ls := #[.val (.ref k)]) (fun m => by first | (simp [entryFrame, mkF, argsToLocals, Value.category]; done) | rfl) ?_
  intro X vm T w
  have KK := Keep.refl h [k]
  refine w.aloadN (q := 1) d93_0 rfl rfl rfl ?_
  refine w.callS (q := 4) d93_1 (H.tw 164 rfl) (H.tw 122 rfl) (H.tw 123 rfl) (H.tw 124 rfl) (by decide) (argsL := []) (rest := [(.ref k)]) rfl (lenOf pd89 rfl) rfl (W := 1) (Nat.le_of_eq rfl) ((con_oe G H oe Soe h ho).pay w (H.tw 124 rfl) (H.tw 123 rfl) (by decide) (by decide)) (by decide) (by decide) rfl fun vm1 T1 h1 v1 w1 q1 => ?_
  obtain ⟨_, rfl, rfl, rfl⟩ := q1
  show Go _ _ _ _ (T1.setTop (mkF X.m 4 #[.val (.ref k)] [(.ref oe), (.ref k)]))
  have Eold := E
  refine w1.putF (q := 7) d93_4 (H.tw 165 rfl) Via.refl Flw E (Or.inl (H.tw 166 rfl)) (H.tw 158 rfl) (ty := (.object "java/util/Optional")) (by decide) rfl rfl g (w1.sfE E (by decide) (by decide)) rfl fun T2 h2 w2 W2 sf2 => ?_
  have sz2 : h.size ≤ h2.size := (Keep.of_wr W2).1
  replace E := E.wr W2
  replace Flw := Flw.same W2
  replace Fiu := Fiu.other W2 (Or.inr (slot_ne (Or.inl (H.tw 168 rfl)) (Or.inl (H.tw 166 rfl)) (by decide) (t := (.object "java/util/Optional")) (t' := (.object "java/util/Optional")) (by decide) (by decide)))
  replace Fpu := Fpu.other W2 (Or.inr (slot_ne (Or.inl (H.tw 170 rfl)) (Or.inl (H.tw 166 rfl)) (by decide) (t := (.object "java/util/Optional")) (t' := (.object "java/util/Optional")) (by decide) (by decide)))
  replace FL := FL.other W2 (Or.inr (slot_ne (Or.inr (H.tw 172 rfl)) (Or.inl (H.tw 166 rfl)) (by decide) (t := .long) (t' := (.object "java/util/Optional")) (by decide) (by decide)))
  replace Fbg := Fbg.other W2 (Or.inr (slot_ne (Or.inl (H.tw 213 rfl)) (Or.inl (H.tw 166 rfl)) (by decide) (t := .long) (t' := (.object "java/util/Optional")) (by decide) (by decide)))
  replace Fwr := Fwr.other W2 (Or.inr (slot_ne (Or.inl (H.tw 215 rfl)) (Or.inl (H.tw 166 rfl)) (by decide) (t := .int) (t' := (.object "java/util/Optional")) (by decide) (by decide)))
  replace Fan := Fan.other W2 (Or.inr (slot_ne (Or.inl (H.tw 217 rfl)) (Or.inl (H.tw 166 rfl)) (by decide) (t := .long) (t' := (.object "java/util/Optional")) (by decide) (by decide)))
  replace Fps := Fps.other W2 (Or.inr (slot_ne (Or.inl (H.tw 250 rfl)) (Or.inl (H.tw 166 rfl)) (by decide) (t := .long) (t' := (.object "java/util/Optional")) (by decide) (by decide)))
  replace KK := KK.wr W2 (Or.inl (List.mem_singleton.mpr rfl))
  exact w2.retV d93_7 rfl (by decide) (by decide) ⟨rfl, KK, E, Flw, Fiu, Fpu, FL, Fbg, Fwr, Fan, Fps⟩
theorem d94_0 : decode prog_11_method_4_code 0 = .ok (.aload_n 0, 1) := by decide +kernel
theorem d94_1 : decode prog_11_method_4_code 1 = .ok (.getfield 13, 3) := by decide +kernel
theorem d94_4 : decode prog_11_method_4_code 4 = .ok (.invokevirtual 37, 3) := by decide +kernel
theorem d94_7 : decode prog_11_method_4_code 7 = .ok (.ifCond .ne 13, 3) := by decide +kernel
theorem d94_20 : decode prog_11_method_4_code 20 = .ok (.iconst 1, 1) := by decide +kernel
theorem d94_21 : decode prog_11_method_4_code 21 = .ok (.goto 4, 3) := by decide +kernel
theorem d94_25 : decode prog_11_method_4_code 25 = .ok (.ireturn, 1) := by decide +kernel
set_option maxRecDepth 65536 in
set_option maxHeartbeats 40000000 in
theorem con_hoL (G : Gx) (H : Hyp G) (k lw x : Nat) (h : Heap) (ho : Old G.Z G.n0 h) (E : Exa G.Z h k "com/example/versioned_table/versionedtable/KeyHold") (Flw : Fld G.Z h k "com/example/versioned_table/versionedtable/KeyHold" "lastWritten" "Ljava/util/Optional;" (.ref lw)) (O : Opt G.Z h lw (.ref x)) :
    Con G (⟨"com/example/versioned_table/versionedtable/KeyHold", "holds", "()Z"⟩ : MethodName) prog_11_method_4_code 1 (some .boolean) [] ({ frames := 1, cells := 0, slots := 0, locals := 12 } : Room) #[(.ref k)] h (vQ fun v h' => v = .int 1 ∧ h = h') := by
  refine Con.intro H.el ho (plainFor_of_name pn67) (Ls := #[.val (.ref k)]) (fun m => by first | (simp [entryFrame, mkF, argsToLocals, Value.category]; done) | rfl) ?_
  intro X vm T w
  refine w.aloadN (q := 1) d94_0 rfl rfl rfl ?_
  refine w.getF (q := 4) d94_1 (H.tw 165 rfl) Via.refl Flw rfl fun T1 w1 => ?_
  refine w1.callV (q := 7) d94_4 (H.tw 196 rfl) (H.tw 197 rfl) (notFace_of_selects (C := "java/util/Optional") (args := G.a0) (H.tw 199 rfl)) (H.tw 199 rfl) (H.tw 198 rfl) (by decide) O.1 (argsL := []) (rest := []) rfl (lenOf pd14 rfl) rfl (W := 0) (Nat.le_of_eq rfl) ((con_isP1 G H lw x h ho O).pay w1 (H.tw 200 rfl) (H.tw 123 rfl) (by decide) (by decide)) (by decide) (by decide) rfl fun vm2 T2 h2 v2 w2 q2 => ?_
  obtain ⟨_, rfl, rfl, rfl⟩ := q2
  show Go _ _ _ _ (T2.setTop (mkF X.m 7 #[.val (.ref k)] [(.int (1 : Int32))]))
  refine w2.ifY (q := 20) d94_7 ((if0 _ _).trans (feq (by decide)).2) (by decide) (by decide) ?_
  refine w2.iconst (q := 21) (1 : Int32) d94_20 rfl rfl ?_
  refine w2.goto (q := 25) d94_21 (by decide) (by decide) ?_
  exact w2.retZ d94_25 (t := .boolean) rfl (by decide) rfl (by decide) (by decide) ⟨_, rfl, ⟨rfl, rfl⟩⟩
theorem d94_10 : decode prog_11_method_4_code 10 = .ok (.aload_n 0, 1) := by decide +kernel
theorem d94_11 : decode prog_11_method_4_code 11 = .ok (.getfield 22, 3) := by decide +kernel
theorem d94_14 : decode prog_11_method_4_code 14 = .ok (.invokevirtual 37, 3) := by decide +kernel
theorem d94_17 : decode prog_11_method_4_code 17 = .ok (.ifCond .eq 7, 3) := by decide +kernel
set_option maxRecDepth 65536 in
set_option maxHeartbeats 40000000 in
theorem con_hoP (G : Gx) (H : Hyp G) (k lw pu x : Nat) (h : Heap) (ho : Old G.Z G.n0 h) (E : Exa G.Z h k "com/example/versioned_table/versionedtable/KeyHold") (Flw : Fld G.Z h k "com/example/versioned_table/versionedtable/KeyHold" "lastWritten" "Ljava/util/Optional;" (.ref lw)) (Fpu : Fld G.Z h k "com/example/versioned_table/versionedtable/KeyHold" "pauseUntil" "Ljava/util/Optional;" (.ref pu)) (O : Opt G.Z h lw .null) (O2 : Opt G.Z h pu (.ref x)) :
    Con G (⟨"com/example/versioned_table/versionedtable/KeyHold", "holds", "()Z"⟩ : MethodName) prog_11_method_4_code 1 (some .boolean) [] ({ frames := 1, cells := 0, slots := 0, locals := 12 } : Room) #[(.ref k)] h (vQ fun v h' => v = .int 1 ∧ h = h') := by
  refine Con.intro H.el ho (plainFor_of_name pn67) (Ls := #[.val (.ref k)]) (fun m => by first | (simp [entryFrame, mkF, argsToLocals, Value.category]; done) | rfl) ?_
  intro X vm T w
  refine w.aloadN (q := 1) d94_0 rfl rfl rfl ?_
  refine w.getF (q := 4) d94_1 (H.tw 165 rfl) Via.refl Flw rfl fun T1 w1 => ?_
  refine w1.callV (q := 7) d94_4 (H.tw 196 rfl) (H.tw 197 rfl) (notFace_of_selects (C := "java/util/Optional") (args := G.a0) (H.tw 199 rfl)) (H.tw 199 rfl) (H.tw 198 rfl) (by decide) O.1 (argsL := []) (rest := []) rfl (lenOf pd14 rfl) rfl (W := 0) (Nat.le_of_eq rfl) ((con_isP0 G H lw h ho O).pay w1 (H.tw 200 rfl) (H.tw 123 rfl) (by decide) (by decide)) (by decide) (by decide) rfl fun vm2 T2 h2 v2 w2 q2 => ?_
  obtain ⟨_, rfl, rfl, rfl⟩ := q2
  show Go _ _ _ _ (T2.setTop (mkF X.m 7 #[.val (.ref k)] [(.int (0 : Int32))]))
  refine w2.ifN (q := 10) d94_7 ((if0 _ _).trans (teq rfl).2) rfl ?_
  refine w2.aloadN (q := 11) d94_10 rfl rfl rfl ?_
  refine w2.getF (q := 14) d94_11 (H.tw 169 rfl) Via.refl Fpu rfl fun T3 w3 => ?_
  refine w3.callV (q := 17) d94_14 (H.tw 196 rfl) (H.tw 197 rfl) (notFace_of_selects (C := "java/util/Optional") (args := G.a0) (H.tw 199 rfl)) (H.tw 199 rfl) (H.tw 198 rfl) (by decide) O2.1 (argsL := []) (rest := []) rfl (lenOf pd14 rfl) rfl (W := 0) (Nat.le_of_eq rfl) ((con_isP1 G H pu x h ho O2).pay w3 (H.tw 200 rfl) (H.tw 123 rfl) (by decide) (by decide)) (by decide) (by decide) rfl fun vm4 T4 h4 v4 w4 q4 => ?_
  obtain ⟨_, rfl, rfl, rfl⟩ := q4
  show Go _ _ _ _ (T4.setTop (mkF X.m 17 #[.val (.ref k)] [(.int (1 : Int32))]))
  refine w4.ifN (q := 20) d94_17 ((if0 _ _).trans (feq (by decide)).1) rfl ?_
  refine w4.iconst (q := 21) (1 : Int32) d94_20 rfl rfl ?_
  refine w4.goto (q := 25) d94_21 (by decide) (by decide) ?_
  exact w4.retZ d94_25 (t := .boolean) rfl (by decide) rfl (by decide) (by decide) ⟨_, rfl, ⟨rfl, rfl⟩⟩
theorem d94_24 : decode prog_11_method_4_code 24 = .ok (.iconst 0, 1) := by decide +kernel
set_option maxRecDepth 65536 in
set_option maxHeartbeats 40000000 in
theorem con_ho0 (G : Gx) (H : Hyp G) (k lw pu : Nat) (h : Heap) (ho : Old G.Z G.n0 h) (E : Exa G.Z h k "com/example/versioned_table/versionedtable/KeyHold") (Flw : Fld G.Z h k "com/example/versioned_table/versionedtable/KeyHold" "lastWritten" "Ljava/util/Optional;" (.ref lw)) (Fpu : Fld G.Z h k "com/example/versioned_table/versionedtable/KeyHold" "pauseUntil" "Ljava/util/Optional;" (.ref pu)) (O : Opt G.Z h lw .null) (O2 : Opt G.Z h pu .null) :
    Con G (⟨"com/example/versioned_table/versionedtable/KeyHold", "holds", "()Z"⟩ : MethodName) prog_11_method_4_code 1 (some .boolean) [] ({ frames := 1, cells := 0, slots := 0, locals := 12 } : Room) #[(.ref k)] h (vQ fun v h' => v = .int 0 ∧ h = h') := by
  refine Con.intro H.el ho (plainFor_of_name pn67) (Ls := #[.val (.ref k)]) (fun m => by first | (simp [entryFrame, mkF, argsToLocals, Value.category]; done) | rfl) ?_
  intro X vm T w
  refine w.aloadN (q := 1) d94_0 rfl rfl rfl ?_
  refine w.getF (q := 4) d94_1 (H.tw 165 rfl) Via.refl Flw rfl fun T1 w1 => ?_
  refine w1.callV (q := 7) d94_4 (H.tw 196 rfl) (H.tw 197 rfl) (notFace_of_selects (C := "java/util/Optional") (args := G.a0) (H.tw 199 rfl)) (H.tw 199 rfl) (H.tw 198 rfl) (by decide) O.1 (argsL := []) (rest := []) rfl (lenOf pd14 rfl) rfl (W := 0) (Nat.le_of_eq rfl) ((con_isP0 G H lw h ho O).pay w1 (H.tw 200 rfl) (H.tw 123 rfl) (by decide) (by decide)) (by decide) (by decide) rfl fun vm2 T2 h2 v2 w2 q2 => ?_
  obtain ⟨_, rfl, rfl, rfl⟩ := q2
  show Go _ _ _ _ (T2.setTop (mkF X.m 7 #[.val (.ref k)] [(.int (0 : Int32))]))
  refine w2.ifN (q := 10) d94_7 ((if0 _ _).trans (teq rfl).2) rfl ?_
  refine w2.aloadN (q := 11) d94_10 rfl rfl rfl ?_
  refine w2.getF (q := 14) d94_11 (H.tw 169 rfl) Via.refl Fpu rfl fun T3 w3 => ?_
  refine w3.callV (q := 17) d94_14 (H.tw 196 rfl) (H.tw 197 rfl) (notFace_of_selects (C := "java/util/Optional") (args := G.a0) (H.tw 199 rfl)) (H.tw 199 rfl) (H.tw 198 rfl) (by decide) O2.1 (argsL := []) (rest := []) rfl (lenOf pd14 rfl) rfl (W := 0) (Nat.le_of_eq rfl) ((con_isP0 G H pu h ho O2).pay w3 (H.tw 200 rfl) (H.tw 123 rfl) (by decide) (by decide)) (by decide) (by decide) rfl fun vm4 T4 h4 v4 w4 q4 => ?_
  obtain ⟨_, rfl, rfl, rfl⟩ := q4
  show Go _ _ _ _ (T4.setTop (mkF X.m 17 #[.val (.ref k)] [(.int (0 : Int32))]))
  refine w4.ifY (q := 24) d94_17 ((if0 _ _).trans (teq rfl).1) (by decide) (by decide) ?_
  refine w4.iconst (q := 25) (0 : Int32) d94_24 rfl rfl ?_
  exact w4.retZ d94_25 (t := .boolean) rfl (by decide) rfl (by decide) (by decide) ⟨_, rfl, ⟨rfl, rfl⟩⟩
theorem d95_0 : decode prog_11_method_3_code 0 = .ok (.aload_n 0, 1) := by decide +kernel
theorem d95_1 : decode prog_11_method_3_code 1 = .ok (.getfield 13, 3) := by decide +kernel
theorem d95_4 : decode prog_11_method_3_code 4 = .ok (.aload_n 1, 1) := by decide +kernel
theorem d95_5 : decode prog_11_method_3_code 5 = .ok (.invokedynamic 80, 5) := by decide +kernel
theorem d95_10 : decode prog_11_method_3_code 10 = .ok (.invokevirtual 33, 3) := by decide +kernel
theorem pd96 : parseMethodDescriptor "(Ljava/util/function/Predicate;)Ljava/util/Optional;" = some ⟨[(.object "java/util/function/Predicate")], some (.object "java/util/Optional")⟩ := by decide +kernel
theorem d95_13 : decode prog_11_method_3_code 13 = .ok (.invokevirtual 37, 3) := by decide +kernel
theorem d95_16 : decode prog_11_method_3_code 16 = .ok (.istore 7, 2) := by decide +kernel
theorem d95_18 : decode prog_11_method_3_code 18 = .ok (.iload 7, 2) := by decide +kernel
theorem d95_20 : decode prog_11_method_3_code 20 = .ok (.ifCond .ne 19, 3) := by decide +kernel
theorem d95_23 : decode prog_11_method_3_code 23 = .ok (.aload_n 0, 1) := by decide +kernel
theorem d95_24 : decode prog_11_method_3_code 24 = .ok (.lload 5, 2) := by decide +kernel
theorem d95_26 : decode prog_11_method_3_code 26 = .ok (.putfield 68, 3) := by decide +kernel
theorem d95_29 : decode prog_11_method_3_code 29 = .ok (.aload_n 0, 1) := by decide +kernel
theorem d95_30 : decode prog_11_method_3_code 30 = .ok (.iconst 0, 1) := by decide +kernel
theorem d95_31 : decode prog_11_method_3_code 31 = .ok (.putfield 83, 3) := by decide +kernel
theorem d95_34 : decode prog_11_method_3_code 34 = .ok (.aload_n 0, 1) := by decide +kernel
theorem d95_35 : decode prog_11_method_3_code 35 = .ok (.lconst 0, 1) := by decide +kernel
theorem d95_36 : decode prog_11_method_3_code 36 = .ok (.putfield 87, 3) := by decide +kernel
theorem d95_39 : decode prog_11_method_3_code 39 = .ok (.aload_n 0, 1) := by decide +kernel
theorem d95_40 : decode prog_11_method_3_code 40 = .ok (.dup, 1) := by decide +kernel
theorem d95_41 : decode prog_11_method_3_code 41 = .ok (.getfield 83, 3) := by decide +kernel
theorem d95_44 : decode prog_11_method_3_code 44 = .ok (.iconst 1, 1) := by decide +kernel
theorem d95_45 : decode prog_11_method_3_code 45 = .ok (.iadd, 1) := by decide +kernel
theorem d95_46 : decode prog_11_method_3_code 46 = .ok (.putfield 83, 3) := by decide +kernel
theorem d95_49 : decode prog_11_method_3_code 49 = .ok (.aload_n 0, 1) := by decide +kernel
theorem d95_50 : decode prog_11_method_3_code 50 = .ok (.dup, 1) := by decide +kernel
theorem d95_51 : decode prog_11_method_3_code 51 = .ok (.getfield 87, 3) := by decide +kernel
theorem d95_54 : decode prog_11_method_3_code 54 = .ok (.lload_n 3, 1) := by decide +kernel
theorem d95_55 : decode prog_11_method_3_code 55 = .ok (.ladd, 1) := by decide +kernel
theorem d95_56 : decode prog_11_method_3_code 56 = .ok (.putfield 87, 3) := by decide +kernel
theorem d95_59 : decode prog_11_method_3_code 59 = .ok (.aload_n 0, 1) := by decide +kernel
theorem d95_60 : decode prog_11_method_3_code 60 = .ok (.aload_n 2, 1) := by decide +kernel
theorem d95_61 : decode prog_11_method_3_code 61 = .ok (.invokestatic 76, 3) := by decide +kernel
theorem pd97 : parseMethodDescriptor "(Ljava/lang/Object;)Ljava/util/Optional;" = some ⟨[(.object "java/lang/Object")], some (.object "java/util/Optional")⟩ := by decide +kernel
theorem d95_64 : decode prog_11_method_3_code 64 = .ok (.putfield 13, 3) := by decide +kernel
theorem d95_67 : decode prog_11_method_3_code 67 = .ok (.aload_n 0, 1) := by decide +kernel
theorem d95_68 : decode prog_11_method_3_code 68 = .ok (.invokestatic 7, 3) := by decide +kernel
theorem d95_71 : decode prog_11_method_3_code 71 = .ok (.putfield 22, 3) := by decide +kernel
theorem d95_74 : decode prog_11_method_3_code 74 = .ok (.return_, 1) := by decide +kernel
set_option maxRecDepth 65536 in
set_option maxHeartbeats 40000000 in
theorem con_land (G : Gx) (H : Hyp G) (k rc oe : Nat) (L na tz : Int64) (Soe : Sta G.Z G.Z.heap "java/util/Optional" "EMPTY" "Ljava/util/Optional;" (.ref oe)) (Ooe : Opt G.Z G.Z.heap oe .null) (h : Heap) (ho : Old G.Z G.n0 h) (E : Exa G.Z h k "com/example/versioned_table/versionedtable/KeyHold") (Flw : Fld G.Z h k "com/example/versioned_table/versionedtable/KeyHold" "lastWritten" "Ljava/util/Optional;" (.ref oe)) (Fiu : Fld G.Z h k "com/example/versioned_table/versionedtable/KeyHold" "idleUntil" "Ljava/util/Optional;" (.ref oe)) (Fpu : Fld G.Z h k "com/example/versioned_table/versionedtable/KeyHold" "pauseUntil" "Ljava/util/Optional;" (.ref oe)) (FL : Fld G.Z h k "com/example/versioned_table/versionedtable/KeyHold" "longestRetryWaitNanos" "J" (.long L)) (Fbg : Fld G.Z h k "com/example/versioned_table/versionedtable/KeyHold" "began" "J" (.long (0 : Int64))) (Fwr : Fld G.Z h k "com/example/versioned_table/versionedtable/KeyHold" "writes" "I" (.int (0 : Int32))) (Fan : Fld G.Z h k "com/example/versioned_table/versionedtable/KeyHold" "attemptNanos" "J" (.long (0 : Int64))) (Fps : Fld G.Z h k "com/example/versioned_table/versionedtable/KeyHold" "pauses" "J" (.long (0 : Int64))) (g : G.n0 ≤ k) :
    Con G (⟨"com/example/versioned_table/versionedtable/KeyHold", "landed", "(Lcom/example/versioned_table/versionedtable/StoredRecord;Lcom/example/versioned_table/versionedtable/StoredRecord;JJ)V"⟩ : MethodName) prog_11_method_3_code 8 none [] ({ frames := 3, cells := 2, slots := 2, locals := 3074 } : Room) #[(.ref k), (.ref rc), (.ref rc), (.long na), (.long tz)] h (nQ fun h' => ∃ lw : Nat, Keep h h' [k] ∧ Opt G.Z h' lw (.ref rc) ∧ Exa G.Z h' k "com/example/versioned_table/versionedtable/KeyHold" ∧ Fld G.Z h' k "com/example/versioned_table/versionedtable/KeyHold" "lastWritten" "Ljava/util/Optional;" (.ref lw) ∧ Fld G.Z h' k "com/example/versioned_table/versionedtable/KeyHold" "idleUntil" "Ljava/util/Optional;" (.ref oe) ∧ Fld G.Z h' k "com/example/versioned_table/versionedtable/KeyHold" "pauseUntil" "Ljava/util/Optional;" (.ref oe) ∧ Fld G.Z h' k "com/example/versioned_table/versionedtable/KeyHold" "longestRetryWaitNanos" "J" (.long L) ∧ Fld G.Z h' k "com/example/versioned_table/versionedtable/KeyHold" "began" "J" (.long tz) ∧ Fld G.Z h' k "com/example/versioned_table/versionedtable/KeyHold" "writes" "I" (.int (1 : Int32)) ∧ Fld G.Z h' k "com/example/versioned_table/versionedtable/KeyHold" "attemptNanos" "J" (.long na) ∧ Fld G.Z h' k "com/example/versioned_table/versionedtable/KeyHold" "pauses" "J" (.long (0 : Int64))) := by
  refine Con.introN H.el ho (plainFor_of_name pn67) (Ls := #[.val (.ref k), .val (.ref rc), .val (.ref rc), .val (.long na), .second, .val (.long tz), .second, .unset]) (fun m => by first | (simp [entryFrame, mkF, argsToLocals, Value.category]; done) | rfl) ?_
  intro X vm T hN w
  have KK := Keep.refl h [k]
  refine w.aloadN (q := 1) d95_0 rfl rfl rfl ?_
  refine w.getF (q := 4) d95_1 (H.tw 165 rfl) Via.refl Flw rfl fun T1 w1 => ?_
  refine w1.aloadN (q := 5) d95_4 rfl rfl rfl ?_
  refine w1.lam (q := 10) (fi := 15) (vals := [(.ref rc)]) (st := [(.ref oe)]) hN d95_5 (H.tw 211 rfl) (H.tw 36 rfl) (by decide) (by decide +kernel) rfl (fit1 (t := .object "com/example/versioned_table/versionedtable/StoredRecord") rfl rfl) rfl (Nat.le_of_ble_eq_true rfl) (by decide) (Nat.le_of_ble_eq_true rfl) rfl fun T2 h2 b2 cK2 e2 w2 E2 Mk2 Cl2 => ?_
  replace w2 : Wk G _ _ X _ T2 h2 1 1 := w2
  have sz2 : h.size ≤ h2.size := E2.1
  show Go _ _ _ _ (T2.setTop (mkF X.m 10 #[.val (.ref k), .val (.ref rc), .val (.ref rc), .val (.long na), .second, .val (.long tz), .second, .unset] [(.ref b2), (.ref oe)]))
  replace E := E.ext E2
  replace Flw := Flw.ext E2
  replace Fiu := Fiu.ext E2
  replace Fpu := Fpu.ext E2
  replace FL := FL.ext E2
  replace Fbg := Fbg.ext E2
  replace Fwr := Fwr.ext E2
  replace Fan := Fan.ext E2
  replace Fps := Fps.ext E2
  replace KK := KK.ext E2
  refine w2.callV (q := 13) d95_10 (H.tw 181 rfl) (H.tw 182 rfl) (notFace_of_selects (C := "java/util/Optional") (args := G.a0) (H.tw 184 rfl)) (H.tw 184 rfl) (H.tw 183 rfl) (by decide) (Ooe.ext w2.old.2).1 (argsL := [(.ref b2)]) (rest := []) rfl (lenOf pd96 rfl) rfl (W := 0) (Nat.le_of_eq rfl) ((con_fil0 G H oe b2 h2 w2.old (Ooe.ext w2.old.2)).pay w2 (H.tw 185 rfl) (H.tw 123 rfl) (by decide) (by decide)) (by decide) (by decide) rfl fun vm3 T3 h3 v3 w3 q3 => ?_
  obtain ⟨_, rfl, rfl, rfl⟩ := q3
  show Go _ _ _ _ (T3.setTop (mkF X.m 13 #[.val (.ref k), .val (.ref rc), .val (.ref rc), .val (.long na), .second, .val (.long tz), .second, .unset] [(.ref oe)]))
  refine w3.callV (q := 16) d95_13 (H.tw 196 rfl) (H.tw 197 rfl) (notFace_of_selects (C := "java/util/Optional") (args := G.a0) (H.tw 199 rfl)) (H.tw 199 rfl) (H.tw 198 rfl) (by decide) (Ooe.ext w3.old.2).1 (argsL := []) (rest := []) rfl (lenOf pd14 rfl) rfl (W := 0) (Nat.le_of_eq rfl) ((con_isP0 G H oe h2 w3.old (Ooe.ext w3.old.2)).pay w3 (H.tw 200 rfl) (H.tw 123 rfl) (by decide) (by decide)) (by decide) (by decide) rfl fun vm4 T4 h4 v4 w4 q4 => ?_
  obtain ⟨_, rfl, rfl, rfl⟩ := q4
  show Go _ _ _ _ (T4.setTop (mkF X.m 16 #[.val (.ref k), .val (.ref rc), .val (.ref rc), .val (.long na), .second, .val (.long tz), .second, .unset] [(.int (0 : Int32))]))
  refine w4.istore (q := 18) (L2 := #[.val (.ref k), .val (.ref rc), .val (.ref rc), .val (.long na), .second, .val (.long tz), .second, .val (.int (0 : Int32))]) d95_16 rfl rfl ?_
  refine w4.iload (q := 20) d95_18 rfl rfl ?_
  refine w4.ifN (q := 23) d95_20 ((if0 _ _).trans (teq rfl).2) rfl ?_
  refine w4.aloadN (q := 24) d95_23 rfl rfl rfl ?_
  refine w4.lload (q := 26) d95_24 rfl rfl ?_
  have Eold := E
  refine w4.putF (q := 29) d95_26 (H.tw 212 rfl) Via.refl Fbg E (Or.inl (H.tw 213 rfl)) (H.tw 158 rfl) (ty := .long) (by decide) rfl rfl g (w4.sfE E (by decide) (by decide)) rfl fun T5 h5 w5 W5 sf5 => ?_
  have sz5 : h2.size ≤ h5.size := (Keep.of_wr W5).1
  replace E := E.wr W5
  replace Flw := Flw.other W5 (Or.inr (slot_ne (Or.inl (H.tw 166 rfl)) (Or.inl (H.tw 213 rfl)) (by decide) (t := (.object "java/util/Optional")) (t' := .long) (by decide) (by decide)))
  replace Fiu := Fiu.other W5 (Or.inr (slot_ne (Or.inl (H.tw 168 rfl)) (Or.inl (H.tw 213 rfl)) (by decide) (t := (.object "java/util/Optional")) (t' := .long) (by decide) (by decide)))
  replace Fpu := Fpu.other W5 (Or.inr (slot_ne (Or.inl (H.tw 170 rfl)) (Or.inl (H.tw 213 rfl)) (by decide) (t := (.object "java/util/Optional")) (t' := .long) (by decide) (by decide)))
  replace FL := FL.other W5 (Or.inr (slot_ne (Or.inr (H.tw 172 rfl)) (Or.inl (H.tw 213 rfl)) (by decide) (t := .long) (t' := .long) (by decide) (by decide)))
  replace Fbg := Fbg.same W5
  replace Fwr := Fwr.other W5 (Or.inr (slot_ne (Or.inl (H.tw 215 rfl)) (Or.inl (H.tw 213 rfl)) (by decide) (t := .int) (t' := .long) (by decide) (by decide)))
  replace Fan := Fan.other W5 (Or.inr (slot_ne (Or.inl (H.tw 217 rfl)) (Or.inl (H.tw 213 rfl)) (by decide) (t := .long) (t' := .long) (by decide) (by decide)))
  replace Fps := Fps.other W5 (Or.inr (slot_ne (Or.inl (H.tw 250 rfl)) (Or.inl (H.tw 213 rfl)) (by decide) (t := .long) (t' := .long) (by decide) (by decide)))
  replace KK := KK.wr W5 (Or.inl (List.mem_singleton.mpr rfl))
  refine w5.aloadN (q := 30) d95_29 rfl rfl rfl ?_
  refine w5.iconst (q := 31) (0 : Int32) d95_30 rfl rfl ?_
  have Eold := E
  refine w5.putF (q := 34) d95_31 (H.tw 214 rfl) Via.refl Fwr E (Or.inl (H.tw 215 rfl)) (H.tw 158 rfl) (ty := .int) (by decide) rfl rfl g (w5.sfE E (by decide) (by decide)) rfl fun T6 h6 w6 W6 sf6 => ?_
  have sz6 : h5.size ≤ h6.size := (Keep.of_wr W6).1
  replace E := E.wr W6
  replace Flw := Flw.other W6 (Or.inr (slot_ne (Or.inl (H.tw 166 rfl)) (Or.inl (H.tw 215 rfl)) (by decide) (t := (.object "java/util/Optional")) (t' := .int) (by decide) (by decide)))
  replace Fiu := Fiu.other W6 (Or.inr (slot_ne (Or.inl (H.tw 168 rfl)) (Or.inl (H.tw 215 rfl)) (by decide) (t := (.object "java/util/Optional")) (t' := .int) (by decide) (by decide)))
  replace Fpu := Fpu.other W6 (Or.inr (slot_ne (Or.inl (H.tw 170 rfl)) (Or.inl (H.tw 215 rfl)) (by decide) (t := (.object "java/util/Optional")) (t' := .int) (by decide) (by decide)))
  replace FL := FL.other W6 (Or.inr (slot_ne (Or.inr (H.tw 172 rfl)) (Or.inl (H.tw 215 rfl)) (by decide) (t := .long) (t' := .int) (by decide) (by decide)))
  replace Fbg := Fbg.other W6 (Or.inr (slot_ne (Or.inl (H.tw 213 rfl)) (Or.inl (H.tw 215 rfl)) (by decide) (t := .long) (t' := .int) (by decide) (by decide)))
  replace Fwr := Fwr.same W6
  replace Fan := Fan.other W6 (Or.inr (slot_ne (Or.inl (H.tw 217 rfl)) (Or.inl (H.tw 215 rfl)) (by decide) (t := .long) (t' := .int) (by decide) (by decide)))
  replace Fps := Fps.other W6 (Or.inr (slot_ne (Or.inl (H.tw 250 rfl)) (Or.inl (H.tw 215 rfl)) (by decide) (t := .long) (t' := .int) (by decide) (by decide)))
  replace KK := KK.wr W6 (Or.inl (List.mem_singleton.mpr rfl))
  refine w6.aloadN (q := 35) d95_34 rfl rfl rfl ?_
  refine w6.lconst (q := 36) (0 : Int64) d95_35 rfl rfl ?_
  have Eold := E
  refine w6.putF (q := 39) d95_36 (H.tw 216 rfl) Via.refl Fan E (Or.inl (H.tw 217 rfl)) (H.tw 158 rfl) (ty := .long) (by decide) rfl rfl g (w6.sfE E (by decide) (by decide)) rfl fun T7 h7 w7 W7 sf7 => ?_
  have sz7 : h6.size ≤ h7.size := (Keep.of_wr W7).1
  replace E := E.wr W7
  replace Flw := Flw.other W7 (Or.inr (slot_ne (Or.inl (H.tw 166 rfl)) (Or.inl (H.tw 217 rfl)) (by decide) (t := (.object "java/util/Optional")) (t' := .long) (by decide) (by decide)))
  replace Fiu := Fiu.other W7 (Or.inr (slot_ne (Or.inl (H.tw 168 rfl)) (Or.inl (H.tw 217 rfl)) (by decide) (t := (.object "java/util/Optional")) (t' := .long) (by decide) (by decide)))
  replace Fpu := Fpu.other W7 (Or.inr (slot_ne (Or.inl (H.tw 170 rfl)) (Or.inl (H.tw 217 rfl)) (by decide) (t := (.object "java/util/Optional")) (t' := .long) (by decide) (by decide)))
  replace FL := FL.other W7 (Or.inr (slot_ne (Or.inr (H.tw 172 rfl)) (Or.inl (H.tw 217 rfl)) (by decide) (t := .long) (t' := .long) (by decide) (by decide)))
  replace Fbg := Fbg.other W7 (Or.inr (slot_ne (Or.inl (H.tw 213 rfl)) (Or.inl (H.tw 217 rfl)) (by decide) (t := .long) (t' := .long) (by decide) (by decide)))
  replace Fwr := Fwr.other W7 (Or.inr (slot_ne (Or.inl (H.tw 215 rfl)) (Or.inl (H.tw 217 rfl)) (by decide) (t := .int) (t' := .long) (by decide) (by decide)))
  replace Fan := Fan.same W7
  replace Fps := Fps.other W7 (Or.inr (slot_ne (Or.inl (H.tw 250 rfl)) (Or.inl (H.tw 217 rfl)) (by decide) (t := .long) (t' := .long) (by decide) (by decide)))
  replace KK := KK.wr W7 (Or.inl (List.mem_singleton.mpr rfl))
  refine w7.aloadN (q := 40) d95_39 rfl rfl rfl ?_
  refine w7.dup (q := 41) d95_40 rfl rfl ?_
  refine w7.getF (q := 44) d95_41 (H.tw 214 rfl) Via.refl Fwr rfl fun T8 w8 => ?_
  refine w8.iconst (q := 45) (1 : Int32) d95_44 rfl rfl ?_
  refine w8.iadd (q := 46) d95_45 rfl ?_
  show Go _ _ _ _ (T8.setTop (mkF X.m 46 #[.val (.ref k), .val (.ref rc), .val (.ref rc), .val (.long na), .second, .val (.long tz), .second, .val (.int (0 : Int32))] [(.int (1 : Int32)), (.ref k)]))
  have Eold := E
  refine w8.putF (q := 49) d95_46 (H.tw 214 rfl) Via.refl Fwr E (Or.inl (H.tw 215 rfl)) (H.tw 158 rfl) (ty := .int) (by decide) rfl rfl g (w8.sfE E (by decide) (by decide)) rfl fun T9 h9 w9 W9 sf9 => ?_
  have sz9 : h7.size ≤ h9.size := (Keep.of_wr W9).1
  replace E := E.wr W9
  replace Flw := Flw.other W9 (Or.inr (slot_ne (Or.inl (H.tw 166 rfl)) (Or.inl (H.tw 215 rfl)) (by decide) (t := (.object "java/util/Optional")) (t' := .int) (by decide) (by decide)))
  replace Fiu := Fiu.other W9 (Or.inr (slot_ne (Or.inl (H.tw 168 rfl)) (Or.inl (H.tw 215 rfl)) (by decide) (t := (.object "java/util/Optional")) (t' := .int) (by decide) (by decide)))
  replace Fpu := Fpu.other W9 (Or.inr (slot_ne (Or.inl (H.tw 170 rfl)) (Or.inl (H.tw 215 rfl)) (by decide) (t := (.object "java/util/Optional")) (t' := .int) (by decide) (by decide)))
  replace FL := FL.other W9 (Or.inr (slot_ne (Or.inr (H.tw 172 rfl)) (Or.inl (H.tw 215 rfl)) (by decide) (t := .long) (t' := .int) (by decide) (by decide)))
  replace Fbg := Fbg.other W9 (Or.inr (slot_ne (Or.inl (H.tw 213 rfl)) (Or.inl (H.tw 215 rfl)) (by decide) (t := .long) (t' := .int) (by decide) (by decide)))
  replace Fwr := Fwr.same W9
  replace Fan := Fan.other W9 (Or.inr (slot_ne (Or.inl (H.tw 217 rfl)) (Or.inl (H.tw 215 rfl)) (by decide) (t := .long) (t' := .int) (by decide) (by decide)))
  replace Fps := Fps.other W9 (Or.inr (slot_ne (Or.inl (H.tw 250 rfl)) (Or.inl (H.tw 215 rfl)) (by decide) (t := .long) (t' := .int) (by decide) (by decide)))
  replace KK := KK.wr W9 (Or.inl (List.mem_singleton.mpr rfl))
  refine w9.aloadN (q := 50) d95_49 rfl rfl rfl ?_
  refine w9.dup (q := 51) d95_50 rfl rfl ?_
  refine w9.getF (q := 54) d95_51 (H.tw 216 rfl) Via.refl Fan rfl fun T10 w10 => ?_
  refine w10.lloadN (q := 55) d95_54 rfl rfl ?_
  refine w10.ladd (q := 56) d95_55 rfl ?_
  rw [show (0 : Int64) + na = na from zero_add64 na]
  have Eold := E
  refine w10.putF (q := 59) d95_56 (H.tw 216 rfl) Via.refl Fan E (Or.inl (H.tw 217 rfl)) (H.tw 158 rfl) (ty := .long) (by decide) rfl rfl g (w10.sfE E (by decide) (by decide)) rfl fun T11 h11 w11 W11 sf11 => ?_
  have sz11 : h9.size ≤ h11.size := (Keep.of_wr W11).1
  replace E := E.wr W11
  replace Flw := Flw.other W11 (Or.inr (slot_ne (Or.inl (H.tw 166 rfl)) (Or.inl (H.tw 217 rfl)) (by decide) (t := (.object "java/util/Optional")) (t' := .long) (by decide) (by decide)))
  replace Fiu := Fiu.other W11 (Or.inr (slot_ne (Or.inl (H.tw 168 rfl)) (Or.inl (H.tw 217 rfl)) (by decide) (t := (.object "java/util/Optional")) (t' := .long) (by decide) (by decide)))
  replace Fpu := Fpu.other W11 (Or.inr (slot_ne (Or.inl (H.tw 170 rfl)) (Or.inl (H.tw 217 rfl)) (by decide) (t := (.object "java/util/Optional")) (t' := .long) (by decide) (by decide)))
  replace FL := FL.other W11 (Or.inr (slot_ne (Or.inr (H.tw 172 rfl)) (Or.inl (H.tw 217 rfl)) (by decide) (t := .long) (t' := .long) (by decide) (by decide)))
  replace Fbg := Fbg.other W11 (Or.inr (slot_ne (Or.inl (H.tw 213 rfl)) (Or.inl (H.tw 217 rfl)) (by decide) (t := .long) (t' := .long) (by decide) (by decide)))
  replace Fwr := Fwr.other W11 (Or.inr (slot_ne (Or.inl (H.tw 215 rfl)) (Or.inl (H.tw 217 rfl)) (by decide) (t := .int) (t' := .long) (by decide) (by decide)))
  replace Fan := Fan.same W11
  replace Fps := Fps.other W11 (Or.inr (slot_ne (Or.inl (H.tw 250 rfl)) (Or.inl (H.tw 217 rfl)) (by decide) (t := .long) (t' := .long) (by decide) (by decide)))
  replace KK := KK.wr W11 (Or.inl (List.mem_singleton.mpr rfl))
  refine w11.aloadN (q := 60) d95_59 rfl rfl rfl ?_
  refine w11.aloadN (q := 61) d95_60 rfl rfl rfl ?_
  refine w11.callS (q := 64) d95_61 (H.tw 218 rfl) (H.tw 219 rfl) (H.tw 123 rfl) (H.tw 220 rfl) (by decide) (argsL := [(.ref rc)]) (rest := [(.ref k)]) rfl (lenOf pd97 rfl) rfl (W := 1) (Nat.le_of_eq rfl) ((con_of G H rc h11 w11.old).pay w11 (H.tw 220 rfl) (H.tw 123 rfl) (by decide) (by decide)) (by decide) (by decide) rfl fun vm12 T12 h12 v12 w12 q12 => ?_
  obtain ⟨_, rfl, lw, rfl, X12, O1⟩ := q12
  show Go _ _ _ _ (T12.setTop (mkF X.m 64 #[.val (.ref k), .val (.ref rc), .val (.ref rc), .val (.long na), .second, .val (.long tz), .second, .val (.int (0 : Int32))] [(.ref lw), (.ref k)]))
  replace E := E.ext X12
  replace Flw := Flw.ext X12
  replace Fiu := Fiu.ext X12
  replace Fpu := Fpu.ext X12
  replace FL := FL.ext X12
  replace Fbg := Fbg.ext X12
  replace Fwr := Fwr.ext X12
  replace Fan := Fan.ext X12
  replace Fps := Fps.ext X12
  replace KK := KK.ext X12
  have Eold := E
  refine w12.putF (q := 67) d95_64 (H.tw 165 rfl) Via.refl Flw E (Or.inl (H.tw 166 rfl)) (H.tw 158 rfl) (ty := (.object "java/util/Optional")) (by decide) rfl rfl g (w12.sfE E (by decide) (by decide)) rfl fun T13 h13 w13 W13 sf13 => ?_
  have sz13 : h12.size ≤ h13.size := (Keep.of_wr W13).1
  replace E := E.wr W13
  replace Flw := Flw.same W13
  replace Fiu := Fiu.other W13 (Or.inr (slot_ne (Or.inl (H.tw 168 rfl)) (Or.inl (H.tw 166 rfl)) (by decide) (t := (.object "java/util/Optional")) (t' := (.object "java/util/Optional")) (by decide) (by decide)))
  replace Fpu := Fpu.other W13 (Or.inr (slot_ne (Or.inl (H.tw 170 rfl)) (Or.inl (H.tw 166 rfl)) (by decide) (t := (.object "java/util/Optional")) (t' := (.object "java/util/Optional")) (by decide) (by decide)))
  replace FL := FL.other W13 (Or.inr (slot_ne (Or.inr (H.tw 172 rfl)) (Or.inl (H.tw 166 rfl)) (by decide) (t := .long) (t' := (.object "java/util/Optional")) (by decide) (by decide)))
  replace Fbg := Fbg.other W13 (Or.inr (slot_ne (Or.inl (H.tw 213 rfl)) (Or.inl (H.tw 166 rfl)) (by decide) (t := .long) (t' := (.object "java/util/Optional")) (by decide) (by decide)))
  replace Fwr := Fwr.other W13 (Or.inr (slot_ne (Or.inl (H.tw 215 rfl)) (Or.inl (H.tw 166 rfl)) (by decide) (t := .int) (t' := (.object "java/util/Optional")) (by decide) (by decide)))
  replace Fan := Fan.other W13 (Or.inr (slot_ne (Or.inl (H.tw 217 rfl)) (Or.inl (H.tw 166 rfl)) (by decide) (t := .long) (t' := (.object "java/util/Optional")) (by decide) (by decide)))
  replace Fps := Fps.other W13 (Or.inr (slot_ne (Or.inl (H.tw 250 rfl)) (Or.inl (H.tw 166 rfl)) (by decide) (t := .long) (t' := (.object "java/util/Optional")) (by decide) (by decide)))
  replace KK := KK.wr W13 (Or.inl (List.mem_singleton.mpr rfl))
  replace O1 := O1.keep Eold (by decide) (Keep.of_wr W13)
  refine w13.aloadN (q := 68) d95_67 rfl rfl rfl ?_
  refine w13.callS (q := 71) d95_68 (H.tw 164 rfl) (H.tw 122 rfl) (H.tw 123 rfl) (H.tw 124 rfl) (by decide) (argsL := []) (rest := [(.ref k)]) rfl (lenOf pd89 rfl) rfl (W := 1) (Nat.le_of_eq rfl) ((con_oe G H oe Soe h13 w13.old).pay w13 (H.tw 124 rfl) (H.tw 123 rfl) (by decide) (by decide)) (by decide) (by decide) rfl fun vm14 T14 h14 v14 w14 q14 => ?_
  obtain ⟨_, rfl, rfl, rfl⟩ := q14
  show Go _ _ _ _ (T14.setTop (mkF X.m 71 #[.val (.ref k), .val (.ref rc), .val (.ref rc), .val (.long na), .second, .val (.long tz), .second, .val (.int (0 : Int32))] [(.ref oe), (.ref k)]))
  have Eold := E
  refine w14.putF (q := 74) d95_71 (H.tw 169 rfl) Via.refl Fpu E (Or.inl (H.tw 170 rfl)) (H.tw 158 rfl) (ty := (.object "java/util/Optional")) (by decide) rfl rfl g (w14.sfE E (by decide) (by decide)) rfl fun T15 h15 w15 W15 sf15 => ?_
  have sz15 : h13.size ≤ h15.size := (Keep.of_wr W15).1
  replace E := E.wr W15
  replace Flw := Flw.other W15 (Or.inr (slot_ne (Or.inl (H.tw 166 rfl)) (Or.inl (H.tw 170 rfl)) (by decide) (t := (.object "java/util/Optional")) (t' := (.object "java/util/Optional")) (by decide) (by decide)))
  replace Fiu := Fiu.other W15 (Or.inr (slot_ne (Or.inl (H.tw 168 rfl)) (Or.inl (H.tw 170 rfl)) (by decide) (t := (.object "java/util/Optional")) (t' := (.object "java/util/Optional")) (by decide) (by decide)))
  replace Fpu := Fpu.same W15
  replace FL := FL.other W15 (Or.inr (slot_ne (Or.inr (H.tw 172 rfl)) (Or.inl (H.tw 170 rfl)) (by decide) (t := .long) (t' := (.object "java/util/Optional")) (by decide) (by decide)))
  replace Fbg := Fbg.other W15 (Or.inr (slot_ne (Or.inl (H.tw 213 rfl)) (Or.inl (H.tw 170 rfl)) (by decide) (t := .long) (t' := (.object "java/util/Optional")) (by decide) (by decide)))
  replace Fwr := Fwr.other W15 (Or.inr (slot_ne (Or.inl (H.tw 215 rfl)) (Or.inl (H.tw 170 rfl)) (by decide) (t := .int) (t' := (.object "java/util/Optional")) (by decide) (by decide)))
  replace Fan := Fan.other W15 (Or.inr (slot_ne (Or.inl (H.tw 217 rfl)) (Or.inl (H.tw 170 rfl)) (by decide) (t := .long) (t' := (.object "java/util/Optional")) (by decide) (by decide)))
  replace Fps := Fps.other W15 (Or.inr (slot_ne (Or.inl (H.tw 250 rfl)) (Or.inl (H.tw 170 rfl)) (by decide) (t := .long) (t' := (.object "java/util/Optional")) (by decide) (by decide)))
  replace KK := KK.wr W15 (Or.inl (List.mem_singleton.mpr rfl))
  replace O1 := O1.keep Eold (by decide) (Keep.of_wr W15)
  exact w15.retV d95_74 rfl (by decide) (by decide) ⟨rfl, lw, KK, O1, E, Flw, Fiu, Fpu, FL, Fbg, Fwr, Fan, Fps⟩
theorem d98_0 : decode prog_11_method_5_code 0 = .ok (.aload_n 0, 1) := by decide +kernel
theorem d98_1 : decode prog_11_method_5_code 1 = .ok (.getfield 22, 3) := by decide +kernel
theorem d98_4 : decode prog_11_method_5_code 4 = .ok (.aload_n 0, 1) := by decide +kernel
theorem d98_5 : decode prog_11_method_5_code 5 = .ok (.lload_n 1, 1) := by decide +kernel
theorem d98_6 : decode prog_11_method_5_code 6 = .ok (.invokedynamic 90, 5) := by decide +kernel
theorem d98_11 : decode prog_11_method_5_code 11 = .ok (.invokevirtual 93, 3) := by decide +kernel
theorem pd99 : parseMethodDescriptor "(Ljava/util/function/Supplier;)Ljava/lang/Object;" = some ⟨[(.object "java/util/function/Supplier")], some (.object "java/lang/Object")⟩ := by decide +kernel
theorem d98_14 : decode prog_11_method_5_code 14 = .ok (.checkcast 45, 3) := by decide +kernel
theorem d98_17 : decode prog_11_method_5_code 17 = .ok (.invokevirtual 47, 3) := by decide +kernel
theorem d98_20 : decode prog_11_method_5_code 20 = .ok (.lstore_n 3, 1) := by decide +kernel
theorem d98_21 : decode prog_11_method_5_code 21 = .ok (.aload_n 0, 1) := by decide +kernel
theorem d98_22 : decode prog_11_method_5_code 22 = .ok (.lload_n 3, 1) := by decide +kernel
theorem d98_23 : decode prog_11_method_5_code 23 = .ok (.invokestatic 54, 3) := by decide +kernel
theorem d98_26 : decode prog_11_method_5_code 26 = .ok (.invokestatic 76, 3) := by decide +kernel
theorem d98_29 : decode prog_11_method_5_code 29 = .ok (.putfield 19, 3) := by decide +kernel
theorem d98_32 : decode prog_11_method_5_code 32 = .ok (.lload_n 3, 1) := by decide +kernel
theorem d98_33 : decode prog_11_method_5_code 33 = .ok (.lreturn, 1) := by decide +kernel
set_option maxRecDepth 65536 in
set_option maxHeartbeats 40000000 in
theorem con_idle (G : Gx) (H : Hyp G) (k lw oe x : Nat) (L bg an nw : Int64) (Soe : Sta G.Z G.Z.heap "java/util/Optional" "EMPTY" "Ljava/util/Optional;" (.ref oe)) (Ooe : Opt G.Z G.Z.heap oe .null) (h : Heap) (ho : Old G.Z G.n0 h) (E : Exa G.Z h k "com/example/versioned_table/versionedtable/KeyHold") (Flw : Fld G.Z h k "com/example/versioned_table/versionedtable/KeyHold" "lastWritten" "Ljava/util/Optional;" (.ref lw)) (Fiu : Fld G.Z h k "com/example/versioned_table/versionedtable/KeyHold" "idleUntil" "Ljava/util/Optional;" (.ref oe)) (Fpu : Fld G.Z h k "com/example/versioned_table/versionedtable/KeyHold" "pauseUntil" "Ljava/util/Optional;" (.ref oe)) (FL : Fld G.Z h k "com/example/versioned_table/versionedtable/KeyHold" "longestRetryWaitNanos" "J" (.long L)) (Fbg : Fld G.Z h k "com/example/versioned_table/versionedtable/KeyHold" "began" "J" (.long bg)) (Fwr : Fld G.Z h k "com/example/versioned_table/versionedtable/KeyHold" "writes" "I" (.int (1 : Int32))) (Fan : Fld G.Z h k "com/example/versioned_table/versionedtable/KeyHold" "attemptNanos" "J" (.long an)) (Fps : Fld G.Z h k "com/example/versioned_table/versionedtable/KeyHold" "pauses" "J" (.long (0 : Int64))) (g : G.n0 ≤ k) (Ol : Opt G.Z h lw (.ref x)) :
    Con G (⟨"com/example/versioned_table/versionedtable/KeyHold", "idleFrom", "(J)J"⟩ : MethodName) prog_11_method_5_code 5 (some .long) [] ({ frames := 7, cells := 4, slots := 5, locals := 3076 } : Room) #[(.ref k), (.long nw)] h (vQ fun v h' => ∃ (z : Int64) (iu l : Nat), v = .long z ∧ Keep h h' [k] ∧ Opt G.Z h' iu (.ref l) ∧ LongAt G.Z h' l (nw + ((4 : Int64) * (L + an))) ∧ Opt G.Z h' lw (.ref x) ∧ Exa G.Z h' k "com/example/versioned_table/versionedtable/KeyHold" ∧ Fld G.Z h' k "com/example/versioned_table/versionedtable/KeyHold" "lastWritten" "Ljava/util/Optional;" (.ref lw) ∧ Fld G.Z h' k "com/example/versioned_table/versionedtable/KeyHold" "idleUntil" "Ljava/util/Optional;" (.ref iu) ∧ Fld G.Z h' k "com/example/versioned_table/versionedtable/KeyHold" "pauseUntil" "Ljava/util/Optional;" (.ref oe) ∧ Fld G.Z h' k "com/example/versioned_table/versionedtable/KeyHold" "longestRetryWaitNanos" "J" (.long L) ∧ Fld G.Z h' k "com/example/versioned_table/versionedtable/KeyHold" "began" "J" (.long bg) ∧ Fld G.Z h' k "com/example/versioned_table/versionedtable/KeyHold" "writes" "I" (.int (1 : Int32)) ∧ Fld G.Z h' k "com/example/versioned_table/versionedtable/KeyHold" "attemptNanos" "J" (.long an) ∧ Fld G.Z h' k "com/example/versioned_table/versionedtable/KeyHold" "pauses" "J" (.long (0 : Int64))) := by
  refine Con.introN H.el ho (plainFor_of_name pn67) (Ls := #[.val (.ref k), .val (.long nw), .second, .unset, .unset]) (fun m => by first | (simp [entryFrame, mkF, argsToLocals, Value.category]; done) | rfl) ?_
  intro X vm T hN w
  have KK := Keep.refl h [k]
  refine w.aloadN (q := 1) d98_0 rfl rfl rfl ?_
  refine w.getF (q := 4) d98_1 (H.tw 169 rfl) Via.refl Fpu rfl fun T1 w1 => ?_
  refine w1.aloadN (q := 5) d98_4 rfl rfl rfl ?_
  refine w1.lloadN (q := 6) d98_5 rfl rfl ?_
  refine w1.lam (q := 11) (fi := 17) (vals := [(.ref k), (.long nw)]) (st := [(.ref oe)]) hN d98_6 (H.tw 233 rfl) (H.tw 36 rfl) (by decide) (by decide +kernel) rfl (fit2 (t := .object "com/example/versioned_table/versionedtable/KeyHold") (t2 := .long) rfl rfl rfl rfl) rfl (Nat.le_of_ble_eq_true rfl) (by decide) (Nat.le_of_ble_eq_true rfl) rfl fun T2 h2 b2 cK2 e2 w2 E2 Mk2 Cl2 => ?_
  replace w2 : Wk G _ _ X _ T2 h2 1 2 := w2
  have sz2 : h.size ≤ h2.size := E2.1
  show Go _ _ _ _ (T2.setTop (mkF X.m 11 #[.val (.ref k), .val (.long nw), .second, .unset, .unset] [(.ref b2), (.ref oe)]))
  replace E := E.ext E2
  replace Flw := Flw.ext E2
  replace Fiu := Fiu.ext E2
  replace Fpu := Fpu.ext E2
  replace FL := FL.ext E2
  replace Fbg := Fbg.ext E2
  replace Fwr := Fwr.ext E2
  replace Fan := Fan.ext E2
  replace Fps := Fps.ext E2
  replace Ol := Ol.ext E2
  replace KK := KK.ext E2
  refine w2.callV (q := 14) d98_11 (H.tw 234 rfl) (H.tw 235 rfl) (notFace_of_selects (C := "java/util/Optional") (args := G.a0) (H.tw 237 rfl)) (H.tw 237 rfl) (H.tw 236 rfl) (by decide) (Ooe.ext w2.old.2).1 (argsL := [(.ref b2)]) (rest := []) rfl (lenOf pd99 rfl) rfl (W := 0) (Nat.le_of_eq rfl) ((con_oeg G H oe b2 k cK2 nw L an h2 w2.old (Ooe.ext w2.old.2) Mk2 Cl2 E FL Fan Fwr Fps).pay w2 (H.tw 238 rfl) (H.tw 123 rfl) (by decide) (by decide)) (by decide) (by decide) rfl fun vm3 T3 h3 v3 w3 q3 => ?_
  obtain ⟨_, rfl, r, rfl, X3, A1⟩ := q3
  show Go _ _ _ _ (T3.setTop (mkF X.m 14 #[.val (.ref k), .val (.long nw), .second, .unset, .unset] [(.ref r)]))
  replace E := E.ext X3
  replace Flw := Flw.ext X3
  replace Fiu := Fiu.ext X3
  replace Fpu := Fpu.ext X3
  replace FL := FL.ext X3
  replace Fbg := Fbg.ext X3
  replace Fwr := Fwr.ext X3
  replace Fan := Fan.ext X3
  replace Fps := Fps.ext X3
  replace Ol := Ol.ext X3
  replace KK := KK.ext X3
  refine w3.castY (q := 17) d98_14 (H.tw 290 rfl) (Ins.self A1.1) rfl fun T4 w4 => ?_
  refine w4.callV (q := 20) d98_17 (H.tw 291 rfl) (H.tw 292 rfl) (notFace_of_selects (C := "java/lang/Long") (args := G.a0) (H.tw 294 rfl)) (H.tw 294 rfl) (H.tw 293 rfl) (by decide) A1.1 (argsL := []) (rest := []) rfl (lenOf pd72 rfl) rfl (W := 0) (Nat.le_of_eq rfl) ((con_lv G H.n r (nw + ((4 : Int64) * (L + an))) h3 w4.old A1).pay w4 (H.tw 295 rfl) (H.tw 253 rfl) (by decide) (by decide)) (by decide) (by decide) rfl fun vm5 T5 h5 v5 w5 q5 => ?_
  obtain ⟨_, rfl, rfl, rfl⟩ := q5
  show Go _ _ _ _ (T5.setTop (mkF X.m 20 #[.val (.ref k), .val (.long nw), .second, .unset, .unset] [(.long (nw + ((4 : Int64) * (L + an))))]))
  refine w5.lstoreN (q := 21) (L2 := #[.val (.ref k), .val (.long nw), .second, .val (.long (nw + ((4 : Int64) * (L + an)))), .second]) d98_20 rfl rfl ?_
  refine w5.aloadN (q := 22) d98_21 rfl rfl rfl ?_
  refine w5.lloadN (q := 23) d98_22 rfl rfl ?_
  refine w5.callS (q := 26) d98_23 (H.tw 271 rfl) (H.tw 272 rfl) (H.tw 253 rfl) (H.tw 273 rfl) (by decide) (argsL := [(.long (nw + ((4 : Int64) * (L + an))))]) (rest := [(.ref k)]) rfl (lenOf pd74 rfl) rfl (W := 1) (Nat.le_of_eq rfl) ((con_vo G H.n (nw + ((4 : Int64) * (L + an))) h3 w5.old).pay w5 (H.tw 273 rfl) (H.tw 253 rfl) (by decide) (by decide)) (by decide) (by decide) rfl fun vm6 T6 h6 v6 w6 q6 => ?_
  obtain ⟨_, rfl, r2, rfl, X6, A2⟩ := q6
  show Go _ _ _ _ (T6.setTop (mkF X.m 26 #[.val (.ref k), .val (.long nw), .second, .val (.long (nw + ((4 : Int64) * (L + an)))), .second] [(.ref r2), (.ref k)]))
  replace E := E.ext X6
  replace Flw := Flw.ext X6
  replace Fiu := Fiu.ext X6
  replace Fpu := Fpu.ext X6
  replace FL := FL.ext X6
  replace Fbg := Fbg.ext X6
  replace Fwr := Fwr.ext X6
  replace Fan := Fan.ext X6
  replace Fps := Fps.ext X6
  replace Ol := Ol.ext X6
  replace KK := KK.ext X6
  refine w6.callS (q := 29) d98_26 (H.tw 218 rfl) (H.tw 219 rfl) (H.tw 123 rfl) (H.tw 220 rfl) (by decide) (argsL := [(.ref r2)]) (rest := [(.ref k)]) rfl (lenOf pd97 rfl) rfl (W := 1) (Nat.le_of_eq rfl) ((con_of G H r2 h6 w6.old).pay w6 (H.tw 220 rfl) (H.tw 123 rfl) (by decide) (by decide)) (by decide) (by decide) rfl fun vm7 T7 h7 v7 w7 q7 => ?_
  obtain ⟨_, rfl, o, rfl, X7, Oo⟩ := q7
  show Go _ _ _ _ (T7.setTop (mkF X.m 29 #[.val (.ref k), .val (.long nw), .second, .val (.long (nw + ((4 : Int64) * (L + an)))), .second] [(.ref o), (.ref k)]))
  replace E := E.ext X7
  replace Flw := Flw.ext X7
  replace Fiu := Fiu.ext X7
  replace Fpu := Fpu.ext X7
  replace FL := FL.ext X7
  replace Fbg := Fbg.ext X7
  replace Fwr := Fwr.ext X7
  replace Fan := Fan.ext X7
  replace Fps := Fps.ext X7
  replace Ol := Ol.ext X7
  replace A2 := A2.ext X7
  replace KK := KK.ext X7
  have Eold := E
  refine w7.putF (q := 32) d98_29 (H.tw 167 rfl) Via.refl Fiu E (Or.inl (H.tw 168 rfl)) (H.tw 158 rfl) (ty := (.object "java/util/Optional")) (by decide) rfl rfl g (w7.sfE E (by decide) (by decide)) rfl fun T8 h8 w8 W8 sf8 => ?_
  have sz8 : h7.size ≤ h8.size := (Keep.of_wr W8).1
  replace E := E.wr W8
  replace Flw := Flw.other W8 (Or.inr (slot_ne (Or.inl (H.tw 166 rfl)) (Or.inl (H.tw 168 rfl)) (by decide) (t := (.object "java/util/Optional")) (t' := (.object "java/util/Optional")) (by decide) (by decide)))
  replace Fiu := Fiu.same W8
  replace Fpu := Fpu.other W8 (Or.inr (slot_ne (Or.inl (H.tw 170 rfl)) (Or.inl (H.tw 168 rfl)) (by decide) (t := (.object "java/util/Optional")) (t' := (.object "java/util/Optional")) (by decide) (by decide)))
  replace FL := FL.other W8 (Or.inr (slot_ne (Or.inr (H.tw 172 rfl)) (Or.inl (H.tw 168 rfl)) (by decide) (t := .long) (t' := (.object "java/util/Optional")) (by decide) (by decide)))
  replace Fbg := Fbg.other W8 (Or.inr (slot_ne (Or.inl (H.tw 213 rfl)) (Or.inl (H.tw 168 rfl)) (by decide) (t := .long) (t' := (.object "java/util/Optional")) (by decide) (by decide)))
  replace Fwr := Fwr.other W8 (Or.inr (slot_ne (Or.inl (H.tw 215 rfl)) (Or.inl (H.tw 168 rfl)) (by decide) (t := .int) (t' := (.object "java/util/Optional")) (by decide) (by decide)))
  replace Fan := Fan.other W8 (Or.inr (slot_ne (Or.inl (H.tw 217 rfl)) (Or.inl (H.tw 168 rfl)) (by decide) (t := .long) (t' := (.object "java/util/Optional")) (by decide) (by decide)))
  replace Fps := Fps.other W8 (Or.inr (slot_ne (Or.inl (H.tw 250 rfl)) (Or.inl (H.tw 168 rfl)) (by decide) (t := .long) (t' := (.object "java/util/Optional")) (by decide) (by decide)))
  replace KK := KK.wr W8 (Or.inl (List.mem_singleton.mpr rfl))
  replace Oo := Oo.keep Eold (by decide) (Keep.of_wr W8)
  replace Ol := Ol.keep Eold (by decide) (Keep.of_wr W8)
  replace A2 := A2.keep Eold (by decide) (Keep.of_wr W8)
  refine w8.lloadN (q := 33) d98_32 rfl rfl ?_
  exact w8.retJ d98_33 rfl (by decide) (by decide) ⟨_, rfl, _, o, r2, rfl, KK, Oo, A2, Ol, E, Flw, Fiu, Fpu, FL, Fbg, Fwr, Fan, Fps⟩
theorem d100_0 : decode prog_11_method_2_code 0 = .ok (.aload_n 0, 1) := by decide +kernel
theorem d100_1 : decode prog_11_method_2_code 1 = .ok (.getfield 19, 3) := by decide +kernel
theorem d100_4 : decode prog_11_method_2_code 4 = .ok (.astore_n 3, 1) := by decide +kernel
theorem d100_5 : decode prog_11_method_2_code 5 = .ok (.aload_n 0, 1) := by decide +kernel
theorem d100_6 : decode prog_11_method_2_code 6 = .ok (.invokestatic 7, 3) := by decide +kernel
theorem d100_9 : decode prog_11_method_2_code 9 = .ok (.putfield 19, 3) := by decide +kernel
theorem d100_12 : decode prog_11_method_2_code 12 = .ok (.aload_n 0, 1) := by decide +kernel
theorem d100_13 : decode prog_11_method_2_code 13 = .ok (.getfield 22, 3) := by decide +kernel
theorem d100_16 : decode prog_11_method_2_code 16 = .ok (.lload_n 1, 1) := by decide +kernel
theorem d100_17 : decode prog_11_method_2_code 17 = .ok (.invokedynamic 29, 5) := by decide +kernel
theorem d100_22 : decode prog_11_method_2_code 22 = .ok (.invokevirtual 33, 3) := by decide +kernel
theorem d100_25 : decode prog_11_method_2_code 25 = .ok (.astore 4, 2) := by decide +kernel
theorem d100_27 : decode prog_11_method_2_code 27 = .ok (.aload_n 0, 1) := by decide +kernel
theorem d100_28 : decode prog_11_method_2_code 28 = .ok (.aload 4, 2) := by decide +kernel
theorem d100_30 : decode prog_11_method_2_code 30 = .ok (.putfield 22, 3) := by decide +kernel
theorem d100_33 : decode prog_11_method_2_code 33 = .ok (.lconst 0, 1) := by decide +kernel
theorem d100_34 : decode prog_11_method_2_code 34 = .ok (.lstore 5, 2) := by decide +kernel
theorem d100_36 : decode prog_11_method_2_code 36 = .ok (.aload 4, 2) := by decide +kernel
theorem d100_38 : decode prog_11_method_2_code 38 = .ok (.invokevirtual 37, 3) := by decide +kernel
theorem d100_41 : decode prog_11_method_2_code 41 = .ok (.ifCond .eq 21, 3) := by decide +kernel
theorem d100_62 : decode prog_11_method_2_code 62 = .ok (.aload_n 0, 1) := by decide +kernel
theorem d100_63 : decode prog_11_method_2_code 63 = .ok (.getfield 13, 3) := by decide +kernel
theorem d100_66 : decode prog_11_method_2_code 66 = .ok (.invokevirtual 37, 3) := by decide +kernel
theorem d100_69 : decode prog_11_method_2_code 69 = .ok (.ifCond .eq 100, 3) := by decide +kernel
theorem d100_169 : decode prog_11_method_2_code 169 = .ok (.lload 5, 2) := by decide +kernel
theorem d100_171 : decode prog_11_method_2_code 171 = .ok (.lreturn, 1) := by decide +kernel
set_option maxRecDepth 65536 in
set_option maxHeartbeats 40000000 in
theorem con_w0 (G : Gx) (H : Hyp G) (k oe : Nat) (L bg an ps nw : Int64) (wr : Int32) (Soe : Sta G.Z G.Z.heap "java/util/Optional" "EMPTY" "Ljava/util/Optional;" (.ref oe)) (Ooe : Opt G.Z G.Z.heap oe .null) (h : Heap) (ho : Old G.Z G.n0 h) (E : Exa G.Z h k "com/example/versioned_table/versionedtable/KeyHold") (Flw : Fld G.Z h k "com/example/versioned_table/versionedtable/KeyHold" "lastWritten" "Ljava/util/Optional;" (.ref oe)) (Fiu : Fld G.Z h k "com/example/versioned_table/versionedtable/KeyHold" "idleUntil" "Ljava/util/Optional;" (.ref oe)) (Fpu : Fld G.Z h k "com/example/versioned_table/versionedtable/KeyHold" "pauseUntil" "Ljava/util/Optional;" (.ref oe)) (FL : Fld G.Z h k "com/example/versioned_table/versionedtable/KeyHold" "longestRetryWaitNanos" "J" (.long L)) (Fbg : Fld G.Z h k "com/example/versioned_table/versionedtable/KeyHold" "began" "J" (.long bg)) (Fwr : Fld G.Z h k "com/example/versioned_table/versionedtable/KeyHold" "writes" "I" (.int wr)) (Fan : Fld G.Z h k "com/example/versioned_table/versionedtable/KeyHold" "attemptNanos" "J" (.long an)) (Fps : Fld G.Z h k "com/example/versioned_table/versionedtable/KeyHold" "pauses" "J" (.long ps)) (g : G.n0 ≤ k) :
    Con G (⟨"com/example/versioned_table/versionedtable/KeyHold", "waitBefore", "(J)J"⟩ : MethodName) prog_11_method_2_code 9 (some .long) [] ({ frames := 2, cells := 1, slots := 1, locals := 3075 } : Room) #[(.ref k), (.long nw)] h (vQ fun v h' => ∃ z : Int64, v = .long z ∧ Keep h h' [k] ∧ Exa G.Z h' k "com/example/versioned_table/versionedtable/KeyHold" ∧ Fld G.Z h' k "com/example/versioned_table/versionedtable/KeyHold" "lastWritten" "Ljava/util/Optional;" (.ref oe) ∧ Fld G.Z h' k "com/example/versioned_table/versionedtable/KeyHold" "idleUntil" "Ljava/util/Optional;" (.ref oe) ∧ Fld G.Z h' k "com/example/versioned_table/versionedtable/KeyHold" "pauseUntil" "Ljava/util/Optional;" (.ref oe) ∧ Fld G.Z h' k "com/example/versioned_table/versionedtable/KeyHold" "longestRetryWaitNanos" "J" (.long L) ∧ Fld G.Z h' k "com/example/versioned_table/versionedtable/KeyHold" "began" "J" (.long bg) ∧ Fld G.Z h' k "com/example/versioned_table/versionedtable/KeyHold" "writes" "I" (.int wr) ∧ Fld G.Z h' k "com/example/versioned_table/versionedtable/KeyHold" "attemptNanos" "J" (.long an) ∧ Fld G.Z h' k "com/example/versioned_table/versionedtable/KeyHold" "pauses" "J" (.long ps)) := by
  refine Con.introN H.el ho (plainFor_of_name pn67) (Ls := #[.val (.ref k), .val (.long nw), .second, .unset, .unset, .unset, .unset, .unset, .unset]) (fun m => by first | (simp [entryFrame, mkF, argsToLocals, Value.category]; done) | rfl) ?_
  intro X vm T hN w
  have KK := Keep.refl h [k]
  refine w.aloadN (q := 1) d100_0 rfl rfl rfl ?_
  refine w.getF (q := 4) d100_1 (H.tw 167 rfl) Via.refl Fiu rfl fun T1 w1 => ?_
  refine w1.astoreN (q := 5) (L2 := #[.val (.ref k), .val (.long nw), .second, .val (.ref oe), .unset, .unset, .unset, .unset, .unset]) d100_4 rfl rfl rfl ?_
  refine w1.aloadN (q := 6) d100_5 rfl rfl rfl ?_
  refine w1.callS (q := 9) d100_6 (H.tw 164 rfl) (H.tw 122 rfl) (H.tw 123 rfl) (H.tw 124 rfl) (by decide) (argsL := []) (rest := [(.ref k)]) rfl (lenOf pd89 rfl) rfl (W := 1) (Nat.le_of_eq rfl) ((con_oe G H oe Soe h w1.old).pay w1 (H.tw 124 rfl) (H.tw 123 rfl) (by decide) (by decide)) (by decide) (by decide) rfl fun vm2 T2 h2 v2 w2 q2 => ?_
  obtain ⟨_, rfl, rfl, rfl⟩ := q2
  show Go _ _ _ _ (T2.setTop (mkF X.m 9 #[.val (.ref k), .val (.long nw), .second, .val (.ref oe), .unset, .unset, .unset, .unset, .unset] [(.ref oe), (.ref k)]))
  have Eold := E
  refine w2.putF (q := 12) d100_9 (H.tw 167 rfl) Via.refl Fiu E (Or.inl (H.tw 168 rfl)) (H.tw 158 rfl) (ty := (.object "java/util/Optional")) (by decide) rfl rfl g (w2.sfE E (by decide) (by decide)) rfl fun T3 h3 w3 W3 sf3 => ?_
  have sz3 : h.size ≤ h3.size := (Keep.of_wr W3).1
  replace E := E.wr W3
  replace Flw := Flw.other W3 (Or.inr (slot_ne (Or.inl (H.tw 166 rfl)) (Or.inl (H.tw 168 rfl)) (by decide) (t := (.object "java/util/Optional")) (t' := (.object "java/util/Optional")) (by decide) (by decide)))
  replace Fiu := Fiu.same W3
  replace Fpu := Fpu.other W3 (Or.inr (slot_ne (Or.inl (H.tw 170 rfl)) (Or.inl (H.tw 168 rfl)) (by decide) (t := (.object "java/util/Optional")) (t' := (.object "java/util/Optional")) (by decide) (by decide)))
  replace FL := FL.other W3 (Or.inr (slot_ne (Or.inr (H.tw 172 rfl)) (Or.inl (H.tw 168 rfl)) (by decide) (t := .long) (t' := (.object "java/util/Optional")) (by decide) (by decide)))
  replace Fbg := Fbg.other W3 (Or.inr (slot_ne (Or.inl (H.tw 213 rfl)) (Or.inl (H.tw 168 rfl)) (by decide) (t := .long) (t' := (.object "java/util/Optional")) (by decide) (by decide)))
  replace Fwr := Fwr.other W3 (Or.inr (slot_ne (Or.inl (H.tw 215 rfl)) (Or.inl (H.tw 168 rfl)) (by decide) (t := .int) (t' := (.object "java/util/Optional")) (by decide) (by decide)))
  replace Fan := Fan.other W3 (Or.inr (slot_ne (Or.inl (H.tw 217 rfl)) (Or.inl (H.tw 168 rfl)) (by decide) (t := .long) (t' := (.object "java/util/Optional")) (by decide) (by decide)))
  replace Fps := Fps.other W3 (Or.inr (slot_ne (Or.inl (H.tw 250 rfl)) (Or.inl (H.tw 168 rfl)) (by decide) (t := .long) (t' := (.object "java/util/Optional")) (by decide) (by decide)))
  replace KK := KK.wr W3 (Or.inl (List.mem_singleton.mpr rfl))
  refine w3.aloadN (q := 13) d100_12 rfl rfl rfl ?_
  refine w3.getF (q := 16) d100_13 (H.tw 169 rfl) Via.refl Fpu rfl fun T4 w4 => ?_
  refine w4.lloadN (q := 17) d100_16 rfl rfl ?_
  refine w4.lam (q := 22) (fi := 15) (vals := [(.long nw)]) (st := [(.ref oe)]) hN d100_17 (H.tw 178 rfl) (H.tw 36 rfl) (by decide) (by decide +kernel) rfl (fit1 (t := .long) rfl rfl) rfl (Nat.le_of_ble_eq_true rfl) (by decide) (Nat.le_of_ble_eq_true rfl) rfl fun T5 h5 b5 cK5 e5 w5 E5 Mk5 Cl5 => ?_
  replace w5 : Wk G _ _ X _ T5 h5 1 1 := w5
  have sz5 : h3.size ≤ h5.size := E5.1
  show Go _ _ _ _ (T5.setTop (mkF X.m 22 #[.val (.ref k), .val (.long nw), .second, .val (.ref oe), .unset, .unset, .unset, .unset, .unset] [(.ref b5), (.ref oe)]))
  replace E := E.ext E5
  replace Flw := Flw.ext E5
  replace Fiu := Fiu.ext E5
  replace Fpu := Fpu.ext E5
  replace FL := FL.ext E5
  replace Fbg := Fbg.ext E5
  replace Fwr := Fwr.ext E5
  replace Fan := Fan.ext E5
  replace Fps := Fps.ext E5
  replace KK := KK.ext E5
  refine w5.callV (q := 25) d100_22 (H.tw 181 rfl) (H.tw 182 rfl) (notFace_of_selects (C := "java/util/Optional") (args := G.a0) (H.tw 184 rfl)) (H.tw 184 rfl) (H.tw 183 rfl) (by decide) (Ooe.ext w5.old.2).1 (argsL := [(.ref b5)]) (rest := []) rfl (lenOf pd96 rfl) rfl (W := 0) (Nat.le_of_eq rfl) ((con_fil0 G H oe b5 h5 w5.old (Ooe.ext w5.old.2)).pay w5 (H.tw 185 rfl) (H.tw 123 rfl) (by decide) (by decide)) (by decide) (by decide) rfl fun vm6 T6 h6 v6 w6 q6 => ?_
  obtain ⟨_, rfl, rfl, rfl⟩ := q6
  show Go _ _ _ _ (T6.setTop (mkF X.m 25 #[.val (.ref k), .val (.long nw), .second, .val (.ref oe), .unset, .unset, .unset, .unset, .unset] [(.ref oe)]))
  refine w6.astore (q := 27) (L2 := #[.val (.ref k), .val (.long nw), .second, .val (.ref oe), .val (.ref oe), .unset, .unset, .unset, .unset]) d100_25 rfl rfl rfl ?_
  refine w6.aloadN (q := 28) d100_27 rfl rfl rfl ?_
  refine w6.aload (q := 30) d100_28 rfl rfl rfl ?_
  have Eold := E
  refine w6.putF (q := 33) d100_30 (H.tw 169 rfl) Via.refl Fpu E (Or.inl (H.tw 170 rfl)) (H.tw 158 rfl) (ty := (.object "java/util/Optional")) (by decide) rfl rfl g (w6.sfE E (by decide) (by decide)) rfl fun T7 h7 w7 W7 sf7 => ?_
  have sz7 : h5.size ≤ h7.size := (Keep.of_wr W7).1
  replace E := E.wr W7
  replace Flw := Flw.other W7 (Or.inr (slot_ne (Or.inl (H.tw 166 rfl)) (Or.inl (H.tw 170 rfl)) (by decide) (t := (.object "java/util/Optional")) (t' := (.object "java/util/Optional")) (by decide) (by decide)))
  replace Fiu := Fiu.other W7 (Or.inr (slot_ne (Or.inl (H.tw 168 rfl)) (Or.inl (H.tw 170 rfl)) (by decide) (t := (.object "java/util/Optional")) (t' := (.object "java/util/Optional")) (by decide) (by decide)))
  replace Fpu := Fpu.same W7
  replace FL := FL.other W7 (Or.inr (slot_ne (Or.inr (H.tw 172 rfl)) (Or.inl (H.tw 170 rfl)) (by decide) (t := .long) (t' := (.object "java/util/Optional")) (by decide) (by decide)))
  replace Fbg := Fbg.other W7 (Or.inr (slot_ne (Or.inl (H.tw 213 rfl)) (Or.inl (H.tw 170 rfl)) (by decide) (t := .long) (t' := (.object "java/util/Optional")) (by decide) (by decide)))
  replace Fwr := Fwr.other W7 (Or.inr (slot_ne (Or.inl (H.tw 215 rfl)) (Or.inl (H.tw 170 rfl)) (by decide) (t := .int) (t' := (.object "java/util/Optional")) (by decide) (by decide)))
  replace Fan := Fan.other W7 (Or.inr (slot_ne (Or.inl (H.tw 217 rfl)) (Or.inl (H.tw 170 rfl)) (by decide) (t := .long) (t' := (.object "java/util/Optional")) (by decide) (by decide)))
  replace Fps := Fps.other W7 (Or.inr (slot_ne (Or.inl (H.tw 250 rfl)) (Or.inl (H.tw 170 rfl)) (by decide) (t := .long) (t' := (.object "java/util/Optional")) (by decide) (by decide)))
  replace KK := KK.wr W7 (Or.inl (List.mem_singleton.mpr rfl))
  refine w7.lconst (q := 34) (0 : Int64) d100_33 rfl rfl ?_
  refine w7.lstore (q := 36) (L2 := #[.val (.ref k), .val (.long nw), .second, .val (.ref oe), .val (.ref oe), .val (.long (0 : Int64)), .second, .unset, .unset]) d100_34 rfl rfl ?_
  refine w7.aload (q := 38) d100_36 rfl rfl rfl ?_
  refine w7.callV (q := 41) d100_38 (H.tw 196 rfl) (H.tw 197 rfl) (notFace_of_selects (C := "java/util/Optional") (args := G.a0) (H.tw 199 rfl)) (H.tw 199 rfl) (H.tw 198 rfl) (by decide) (Ooe.ext w7.old.2).1 (argsL := []) (rest := []) rfl (lenOf pd14 rfl) rfl (W := 0) (Nat.le_of_eq rfl) ((con_isP0 G H oe h7 w7.old (Ooe.ext w7.old.2)).pay w7 (H.tw 200 rfl) (H.tw 123 rfl) (by decide) (by decide)) (by decide) (by decide) rfl fun vm8 T8 h8 v8 w8 q8 => ?_
  obtain ⟨_, rfl, rfl, rfl⟩ := q8
  show Go _ _ _ _ (T8.setTop (mkF X.m 41 #[.val (.ref k), .val (.long nw), .second, .val (.ref oe), .val (.ref oe), .val (.long (0 : Int64)), .second, .unset, .unset] [(.int (0 : Int32))]))
  refine w8.ifY (q := 62) d100_41 ((if0 _ _).trans (teq rfl).1) (by decide) (by decide) ?_
  refine w8.aloadN (q := 63) d100_62 rfl rfl rfl ?_
  refine w8.getF (q := 66) d100_63 (H.tw 165 rfl) Via.refl Flw rfl fun T9 w9 => ?_
  refine w9.callV (q := 69) d100_66 (H.tw 196 rfl) (H.tw 197 rfl) (notFace_of_selects (C := "java/util/Optional") (args := G.a0) (H.tw 199 rfl)) (H.tw 199 rfl) (H.tw 198 rfl) (by decide) (Ooe.ext w9.old.2).1 (argsL := []) (rest := []) rfl (lenOf pd14 rfl) rfl (W := 0) (Nat.le_of_eq rfl) ((con_isP0 G H oe h7 w9.old (Ooe.ext w9.old.2)).pay w9 (H.tw 200 rfl) (H.tw 123 rfl) (by decide) (by decide)) (by decide) (by decide) rfl fun vm10 T10 h10 v10 w10 q10 => ?_
  obtain ⟨_, rfl, rfl, rfl⟩ := q10
  show Go _ _ _ _ (T10.setTop (mkF X.m 69 #[.val (.ref k), .val (.long nw), .second, .val (.ref oe), .val (.ref oe), .val (.long (0 : Int64)), .second, .unset, .unset] [(.int (0 : Int32))]))
  refine w10.ifY (q := 169) d100_69 ((if0 _ _).trans (teq rfl).1) (by decide) (by decide) ?_
  refine w10.lload (q := 171) d100_169 rfl rfl ?_
  exact w10.retJ d100_171 rfl (by decide) (by decide) ⟨_, rfl, _, rfl, KK, E, Flw, Fiu, Fpu, FL, Fbg, Fwr, Fan, Fps⟩
theorem d100_72 : decode prog_11_method_2_code 72 = .ok (.aload_n 3, 1) := by decide +kernel
theorem d100_73 : decode prog_11_method_2_code 73 = .ok (.lload_n 1, 1) := by decide +kernel
theorem d100_74 : decode prog_11_method_2_code 74 = .ok (.aload_n 0, 1) := by decide +kernel
theorem d100_75 : decode prog_11_method_2_code 75 = .ok (.invokevirtual 51, 3) := by decide +kernel
theorem d100_78 : decode prog_11_method_2_code 78 = .ok (.ladd, 1) := by decide +kernel
theorem d100_79 : decode prog_11_method_2_code 79 = .ok (.invokestatic 54, 3) := by decide +kernel
theorem d100_82 : decode prog_11_method_2_code 82 = .ok (.invokevirtual 58, 3) := by decide +kernel
theorem d100_85 : decode prog_11_method_2_code 85 = .ok (.checkcast 45, 3) := by decide +kernel
theorem d100_88 : decode prog_11_method_2_code 88 = .ok (.invokevirtual 47, 3) := by decide +kernel
theorem d100_91 : decode prog_11_method_2_code 91 = .ok (.lstore 7, 2) := by decide +kernel
theorem d100_93 : decode prog_11_method_2_code 93 = .ok (.lload_n 1, 1) := by decide +kernel
theorem d100_94 : decode prog_11_method_2_code 94 = .ok (.lload 7, 2) := by decide +kernel
theorem d100_96 : decode prog_11_method_2_code 96 = .ok (.lsub, 1) := by decide +kernel
theorem d100_97 : decode prog_11_method_2_code 97 = .ok (.lconst 0, 1) := by decide +kernel
theorem d100_98 : decode prog_11_method_2_code 98 = .ok (.lcmp, 1) := by decide +kernel
theorem d100_99 : decode prog_11_method_2_code 99 = .ok (.ifCond .lt 20, 3) := by decide +kernel
theorem d100_119 : decode prog_11_method_2_code 119 = .ok (.lload_n 1, 1) := by decide +kernel
theorem d100_120 : decode prog_11_method_2_code 120 = .ok (.aload_n 0, 1) := by decide +kernel
theorem d100_121 : decode prog_11_method_2_code 121 = .ok (.getfield 68, 3) := by decide +kernel
theorem d100_124 : decode prog_11_method_2_code 124 = .ok (.lsub, 1) := by decide +kernel
theorem d100_125 : decode prog_11_method_2_code 125 = .ok (.ldc2_w 71, 3) := by decide +kernel
theorem d100_128 : decode prog_11_method_2_code 128 = .ok (.aload_n 0, 1) := by decide +kernel
theorem d100_129 : decode prog_11_method_2_code 129 = .ok (.invokevirtual 73, 3) := by decide +kernel
theorem d100_132 : decode prog_11_method_2_code 132 = .ok (.lmul, 1) := by decide +kernel
theorem d100_133 : decode prog_11_method_2_code 133 = .ok (.lcmp, 1) := by decide +kernel
theorem d100_134 : decode prog_11_method_2_code 134 = .ok (.ifCond .lt 35, 3) := by decide +kernel
theorem d100_137 : decode prog_11_method_2_code 137 = .ok (.aload_n 0, 1) := by decide +kernel
theorem d100_138 : decode prog_11_method_2_code 138 = .ok (.dup, 1) := by decide +kernel
theorem d100_139 : decode prog_11_method_2_code 139 = .ok (.getfield 62, 3) := by decide +kernel
theorem d100_142 : decode prog_11_method_2_code 142 = .ok (.lconst 1, 1) := by decide +kernel
theorem d100_143 : decode prog_11_method_2_code 143 = .ok (.ladd, 1) := by decide +kernel
theorem d100_144 : decode prog_11_method_2_code 144 = .ok (.putfield 62, 3) := by decide +kernel
theorem d100_147 : decode prog_11_method_2_code 147 = .ok (.aload_n 0, 1) := by decide +kernel
theorem d100_148 : decode prog_11_method_2_code 148 = .ok (.lload 7, 2) := by decide +kernel
theorem d100_150 : decode prog_11_method_2_code 150 = .ok (.invokestatic 54, 3) := by decide +kernel
theorem d100_153 : decode prog_11_method_2_code 153 = .ok (.invokestatic 76, 3) := by decide +kernel
theorem d100_156 : decode prog_11_method_2_code 156 = .ok (.putfield 22, 3) := by decide +kernel
theorem d100_159 : decode prog_11_method_2_code 159 = .ok (.lload 7, 2) := by decide +kernel
theorem d100_161 : decode prog_11_method_2_code 161 = .ok (.lload_n 1, 1) := by decide +kernel
theorem d100_162 : decode prog_11_method_2_code 162 = .ok (.lsub, 1) := by decide +kernel
theorem d100_163 : decode prog_11_method_2_code 163 = .ok (.lstore 5, 2) := by decide +kernel
theorem d100_165 : decode prog_11_method_2_code 165 = .ok (.aload_n 0, 1) := by decide +kernel
theorem d100_166 : decode prog_11_method_2_code 166 = .ok (.invokevirtual 65, 3) := by decide +kernel
theorem d100_102 : decode prog_11_method_2_code 102 = .ok (.aload_n 0, 1) := by decide +kernel
theorem d100_103 : decode prog_11_method_2_code 103 = .ok (.dup, 1) := by decide +kernel
theorem d100_104 : decode prog_11_method_2_code 104 = .ok (.getfield 62, 3) := by decide +kernel
theorem d100_107 : decode prog_11_method_2_code 107 = .ok (.lconst 1, 1) := by decide +kernel
theorem d100_108 : decode prog_11_method_2_code 108 = .ok (.ladd, 1) := by decide +kernel
theorem d100_109 : decode prog_11_method_2_code 109 = .ok (.putfield 62, 3) := by decide +kernel
theorem d100_112 : decode prog_11_method_2_code 112 = .ok (.aload_n 0, 1) := by decide +kernel
theorem d100_113 : decode prog_11_method_2_code 113 = .ok (.invokevirtual 65, 3) := by decide +kernel
theorem d100_116 : decode prog_11_method_2_code 116 = .ok (.goto 53, 3) := by decide +kernel
set_option maxRecDepth 65536 in
set_option maxHeartbeats 40000000 in
theorem con_w1n (G : Gx) (H : Hyp G) (k oe lw x : Nat) (L bg an nw : Int64) (Soe : Sta G.Z G.Z.heap "java/util/Optional" "EMPTY" "Ljava/util/Optional;" (.ref oe)) (Ooe : Opt G.Z G.Z.heap oe .null) (h : Heap) (ho : Old G.Z G.n0 h) (E : Exa G.Z h k "com/example/versioned_table/versionedtable/KeyHold") (Flw : Fld G.Z h k "com/example/versioned_table/versionedtable/KeyHold" "lastWritten" "Ljava/util/Optional;" (.ref lw)) (Fiu : Fld G.Z h k "com/example/versioned_table/versionedtable/KeyHold" "idleUntil" "Ljava/util/Optional;" (.ref oe)) (Fpu : Fld G.Z h k "com/example/versioned_table/versionedtable/KeyHold" "pauseUntil" "Ljava/util/Optional;" (.ref oe)) (FL : Fld G.Z h k "com/example/versioned_table/versionedtable/KeyHold" "longestRetryWaitNanos" "J" (.long L)) (Fbg : Fld G.Z h k "com/example/versioned_table/versionedtable/KeyHold" "began" "J" (.long bg)) (Fwr : Fld G.Z h k "com/example/versioned_table/versionedtable/KeyHold" "writes" "I" (.int (1 : Int32))) (Fan : Fld G.Z h k "com/example/versioned_table/versionedtable/KeyHold" "attemptNanos" "J" (.long an)) (Fps : Fld G.Z h k "com/example/versioned_table/versionedtable/KeyHold" "pauses" "J" (.long (0 : Int64))) (g : G.n0 ≤ k) (Ol : Opt G.Z h lw (.ref x)) :
    Con G (⟨"com/example/versioned_table/versionedtable/KeyHold", "waitBefore", "(J)J"⟩ : MethodName) prog_11_method_2_code 9 (some .long) [] ({ frames := 4, cells := 4, slots := 4, locals := 3075 } : Room) #[(.ref k), (.long nw)] h (vQ fun v h' => ∃ z : Int64, v = .long z ∧ Keep h h' [k] ∧ ((¬ lcmpW (nw - (nw + ((4 : Int64) * (L + an)))) (0 : Int64) < (0 : Int32) ∧ ∃ ps : Int64, Exa G.Z h' k "com/example/versioned_table/versionedtable/KeyHold" ∧ Fld G.Z h' k "com/example/versioned_table/versionedtable/KeyHold" "lastWritten" "Ljava/util/Optional;" (.ref oe) ∧ Fld G.Z h' k "com/example/versioned_table/versionedtable/KeyHold" "idleUntil" "Ljava/util/Optional;" (.ref oe) ∧ Fld G.Z h' k "com/example/versioned_table/versionedtable/KeyHold" "pauseUntil" "Ljava/util/Optional;" (.ref oe) ∧ Fld G.Z h' k "com/example/versioned_table/versionedtable/KeyHold" "longestRetryWaitNanos" "J" (.long L) ∧ Fld G.Z h' k "com/example/versioned_table/versionedtable/KeyHold" "began" "J" (.long bg) ∧ Fld G.Z h' k "com/example/versioned_table/versionedtable/KeyHold" "writes" "I" (.int (1 : Int32)) ∧ Fld G.Z h' k "com/example/versioned_table/versionedtable/KeyHold" "attemptNanos" "J" (.long an) ∧ Fld G.Z h' k "com/example/versioned_table/versionedtable/KeyHold" "pauses" "J" (.long ps)) ∨ (lcmpW (nw - (nw + ((4 : Int64) * (L + an)))) (0 : Int64) < (0 : Int32) ∧ ¬ lcmpW (nw - bg) ((8 : Int64) * ((4 : Int64) * (L + an))) < (0 : Int32) ∧ ∃ (ps : Int64) (pu q : Nat), Opt G.Z h' pu (.ref q) ∧ LongAt G.Z h' q (nw + ((4 : Int64) * (L + an))) ∧ Exa G.Z h' k "com/example/versioned_table/versionedtable/KeyHold" ∧ Fld G.Z h' k "com/example/versioned_table/versionedtable/KeyHold" "lastWritten" "Ljava/util/Optional;" (.ref oe) ∧ Fld G.Z h' k "com/example/versioned_table/versionedtable/KeyHold" "idleUntil" "Ljava/util/Optional;" (.ref oe) ∧ Fld G.Z h' k "com/example/versioned_table/versionedtable/KeyHold" "pauseUntil" "Ljava/util/Optional;" (.ref pu) ∧ Fld G.Z h' k "com/example/versioned_table/versionedtable/KeyHold" "longestRetryWaitNanos" "J" (.long L) ∧ Fld G.Z h' k "com/example/versioned_table/versionedtable/KeyHold" "began" "J" (.long bg) ∧ Fld G.Z h' k "com/example/versioned_table/versionedtable/KeyHold" "writes" "I" (.int (1 : Int32)) ∧ Fld G.Z h' k "com/example/versioned_table/versionedtable/KeyHold" "attemptNanos" "J" (.long an) ∧ Fld G.Z h' k "com/example/versioned_table/versionedtable/KeyHold" "pauses" "J" (.long ps)) ∨ (lcmpW (nw - (nw + ((4 : Int64) * (L + an)))) (0 : Int64) < (0 : Int32) ∧ lcmpW (nw - bg) ((8 : Int64) * ((4 : Int64) * (L + an))) < (0 : Int32) ∧ Opt G.Z h' lw (.ref x) ∧ Exa G.Z h' k "com/example/versioned_table/versionedtable/KeyHold" ∧ Fld G.Z h' k "com/example/versioned_table/versionedtable/KeyHold" "lastWritten" "Ljava/util/Optional;" (.ref lw) ∧ Fld G.Z h' k "com/example/versioned_table/versionedtable/KeyHold" "idleUntil" "Ljava/util/Optional;" (.ref oe) ∧ Fld G.Z h' k "com/example/versioned_table/versionedtable/KeyHold" "pauseUntil" "Ljava/util/Optional;" (.ref oe) ∧ Fld G.Z h' k "com/example/versioned_table/versionedtable/KeyHold" "longestRetryWaitNanos" "J" (.long L) ∧ Fld G.Z h' k "com/example/versioned_table/versionedtable/KeyHold" "began" "J" (.long bg) ∧ Fld G.Z h' k "com/example/versioned_table/versionedtable/KeyHold" "writes" "I" (.int (1 : Int32)) ∧ Fld G.Z h' k "com/example/versioned_table/versionedtable/KeyHold" "attemptNanos" "J" (.long an) ∧ Fld G.Z h' k "com/example/versioned_table/versionedtable/KeyHold" "pauses" "J" (.long (0 : Int64))))) := by
  refine Con.introN H.el ho (plainFor_of_name pn67) (Ls := #[.val (.ref k), .val (.long nw), .second, .unset, .unset, .unset, .unset, .unset, .unset]) (fun m => by first | (simp [entryFrame, mkF, argsToLocals, Value.category]; done) | rfl) ?_
  intro X vm T hN w
  have KK := Keep.refl h [k]
  refine w.aloadN (q := 1) d100_0 rfl rfl rfl ?_
  refine w.getF (q := 4) d100_1 (H.tw 167 rfl) Via.refl Fiu rfl fun T1 w1 => ?_
  refine w1.astoreN (q := 5) (L2 := #[.val (.ref k), .val (.long nw), .second, .val (.ref oe), .unset, .unset, .unset, .unset, .unset]) d100_4 rfl rfl rfl ?_
  refine w1.aloadN (q := 6) d100_5 rfl rfl rfl ?_
  refine w1.callS (q := 9) d100_6 (H.tw 164 rfl) (H.tw 122 rfl) (H.tw 123 rfl) (H.tw 124 rfl) (by decide) (argsL := []) (rest := [(.ref k)]) rfl (lenOf pd89 rfl) rfl (W := 1) (Nat.le_of_eq rfl) ((con_oe G H oe Soe h w1.old).pay w1 (H.tw 124 rfl) (H.tw 123 rfl) (by decide) (by decide)) (by decide) (by decide) rfl fun vm2 T2 h2 v2 w2 q2 => ?_
  obtain ⟨_, rfl, rfl, rfl⟩ := q2
  show Go _ _ _ _ (T2.setTop (mkF X.m 9 #[.val (.ref k), .val (.long nw), .second, .val (.ref oe), .unset, .unset, .unset, .unset, .unset] [(.ref oe), (.ref k)]))
  have Eold := E
  refine w2.putF (q := 12) d100_9 (H.tw 167 rfl) Via.refl Fiu E (Or.inl (H.tw 168 rfl)) (H.tw 158 rfl) (ty := (.object "java/util/Optional")) (by decide) rfl rfl g (w2.sfE E (by decide) (by decide)) rfl fun T3 h3 w3 W3 sf3 => ?_
  have sz3 : h.size ≤ h3.size := (Keep.of_wr W3).1
  replace E := E.wr W3
  replace Flw := Flw.other W3 (Or.inr (slot_ne (Or.inl (H.tw 166 rfl)) (Or.inl (H.tw 168 rfl)) (by decide) (t := (.object "java/util/Optional")) (t' := (.object "java/util/Optional")) (by decide) (by decide)))
  replace Fiu := Fiu.same W3
  replace Fpu := Fpu.other W3 (Or.inr (slot_ne (Or.inl (H.tw 170 rfl)) (Or.inl (H.tw 168 rfl)) (by decide) (t := (.object "java/util/Optional")) (t' := (.object "java/util/Optional")) (by decide) (by decide)))
  replace FL := FL.other W3 (Or.inr (slot_ne (Or.inr (H.tw 172 rfl)) (Or.inl (H.tw 168 rfl)) (by decide) (t := .long) (t' := (.object "java/util/Optional")) (by decide) (by decide)))
  replace Fbg := Fbg.other W3 (Or.inr (slot_ne (Or.inl (H.tw 213 rfl)) (Or.inl (H.tw 168 rfl)) (by decide) (t := .long) (t' := (.object "java/util/Optional")) (by decide) (by decide)))
  replace Fwr := Fwr.other W3 (Or.inr (slot_ne (Or.inl (H.tw 215 rfl)) (Or.inl (H.tw 168 rfl)) (by decide) (t := .int) (t' := (.object "java/util/Optional")) (by decide) (by decide)))
  replace Fan := Fan.other W3 (Or.inr (slot_ne (Or.inl (H.tw 217 rfl)) (Or.inl (H.tw 168 rfl)) (by decide) (t := .long) (t' := (.object "java/util/Optional")) (by decide) (by decide)))
  replace Fps := Fps.other W3 (Or.inr (slot_ne (Or.inl (H.tw 250 rfl)) (Or.inl (H.tw 168 rfl)) (by decide) (t := .long) (t' := (.object "java/util/Optional")) (by decide) (by decide)))
  replace KK := KK.wr W3 (Or.inl (List.mem_singleton.mpr rfl))
  replace Ol := Ol.keep Eold (by decide) (Keep.of_wr W3)
  refine w3.aloadN (q := 13) d100_12 rfl rfl rfl ?_
  refine w3.getF (q := 16) d100_13 (H.tw 169 rfl) Via.refl Fpu rfl fun T4 w4 => ?_
  refine w4.lloadN (q := 17) d100_16 rfl rfl ?_
  refine w4.lam (q := 22) (fi := 15) (vals := [(.long nw)]) (st := [(.ref oe)]) hN d100_17 (H.tw 178 rfl) (H.tw 36 rfl) (by decide) (by decide +kernel) rfl (fit1 (t := .long) rfl rfl) rfl (Nat.le_of_ble_eq_true rfl) (by decide) (Nat.le_of_ble_eq_true rfl) rfl fun T5 h5 b5 cK5 e5 w5 E5 Mk5 Cl5 => ?_
  replace w5 : Wk G _ _ X _ T5 h5 1 1 := w5
  have sz5 : h3.size ≤ h5.size := E5.1
  show Go _ _ _ _ (T5.setTop (mkF X.m 22 #[.val (.ref k), .val (.long nw), .second, .val (.ref oe), .unset, .unset, .unset, .unset, .unset] [(.ref b5), (.ref oe)]))
  replace E := E.ext E5
  replace Flw := Flw.ext E5
  replace Fiu := Fiu.ext E5
  replace Fpu := Fpu.ext E5
  replace FL := FL.ext E5
  replace Fbg := Fbg.ext E5
  replace Fwr := Fwr.ext E5
  replace Fan := Fan.ext E5
  replace Fps := Fps.ext E5
  replace Ol := Ol.ext E5
  replace KK := KK.ext E5
  refine w5.callV (q := 25) d100_22 (H.tw 181 rfl) (H.tw 182 rfl) (notFace_of_selects (C := "java/util/Optional") (args := G.a0) (H.tw 184 rfl)) (H.tw 184 rfl) (H.tw 183 rfl) (by decide) (Ooe.ext w5.old.2).1 (argsL := [(.ref b5)]) (rest := []) rfl (lenOf pd96 rfl) rfl (W := 0) (Nat.le_of_eq rfl) ((con_fil0 G H oe b5 h5 w5.old (Ooe.ext w5.old.2)).pay w5 (H.tw 185 rfl) (H.tw 123 rfl) (by decide) (by decide)) (by decide) (by decide) rfl fun vm6 T6 h6 v6 w6 q6 => ?_
  obtain ⟨_, rfl, rfl, rfl⟩ := q6
  show Go _ _ _ _ (T6.setTop (mkF X.m 25 #[.val (.ref k), .val (.long nw), .second, .val (.ref oe), .unset, .unset, .unset, .unset, .unset] [(.ref oe)]))
  refine w6.astore (q := 27) (L2 := #[.val (.ref k), .val (.long nw), .second, .val (.ref oe), .val (.ref oe), .unset, .unset, .unset, .unset]) d100_25 rfl rfl rfl ?_
  refine w6.aloadN (q := 28) d100_27 rfl rfl rfl ?_
  refine w6.aload (q := 30) d100_28 rfl rfl rfl ?_
  have Eold := E
  refine w6.putF (q := 33) d100_30 (H.tw 169 rfl) Via.refl Fpu E (Or.inl (H.tw 170 rfl)) (H.tw 158 rfl) (ty := (.object "java/util/Optional")) (by decide) rfl rfl g (w6.sfE E (by decide) (by decide)) rfl fun T7 h7 w7 W7 sf7 => ?_
  have sz7 : h5.size ≤ h7.size := (Keep.of_wr W7).1
  replace E := E.wr W7
  replace Flw := Flw.other W7 (Or.inr (slot_ne (Or.inl (H.tw 166 rfl)) (Or.inl (H.tw 170 rfl)) (by decide) (t := (.object "java/util/Optional")) (t' := (.object "java/util/Optional")) (by decide) (by decide)))
  replace Fiu := Fiu.other W7 (Or.inr (slot_ne (Or.inl (H.tw 168 rfl)) (Or.inl (H.tw 170 rfl)) (by decide) (t := (.object "java/util/Optional")) (t' := (.object "java/util/Optional")) (by decide) (by decide)))
  replace Fpu := Fpu.same W7
  replace FL := FL.other W7 (Or.inr (slot_ne (Or.inr (H.tw 172 rfl)) (Or.inl (H.tw 170 rfl)) (by decide) (t := .long) (t' := (.object "java/util/Optional")) (by decide) (by decide)))
  replace Fbg := Fbg.other W7 (Or.inr (slot_ne (Or.inl (H.tw 213 rfl)) (Or.inl (H.tw 170 rfl)) (by decide) (t := .long) (t' := (.object "java/util/Optional")) (by decide) (by decide)))
  replace Fwr := Fwr.other W7 (Or.inr (slot_ne (Or.inl (H.tw 215 rfl)) (Or.inl (H.tw 170 rfl)) (by decide) (t := .int) (t' := (.object "java/util/Optional")) (by decide) (by decide)))
  replace Fan := Fan.other W7 (Or.inr (slot_ne (Or.inl (H.tw 217 rfl)) (Or.inl (H.tw 170 rfl)) (by decide) (t := .long) (t' := (.object "java/util/Optional")) (by decide) (by decide)))
  replace Fps := Fps.other W7 (Or.inr (slot_ne (Or.inl (H.tw 250 rfl)) (Or.inl (H.tw 170 rfl)) (by decide) (t := .long) (t' := (.object "java/util/Optional")) (by decide) (by decide)))
  replace KK := KK.wr W7 (Or.inl (List.mem_singleton.mpr rfl))
  replace Ol := Ol.keep Eold (by decide) (Keep.of_wr W7)
  refine w7.lconst (q := 34) (0 : Int64) d100_33 rfl rfl ?_
  refine w7.lstore (q := 36) (L2 := #[.val (.ref k), .val (.long nw), .second, .val (.ref oe), .val (.ref oe), .val (.long (0 : Int64)), .second, .unset, .unset]) d100_34 rfl rfl ?_
  refine w7.aload (q := 38) d100_36 rfl rfl rfl ?_
  refine w7.callV (q := 41) d100_38 (H.tw 196 rfl) (H.tw 197 rfl) (notFace_of_selects (C := "java/util/Optional") (args := G.a0) (H.tw 199 rfl)) (H.tw 199 rfl) (H.tw 198 rfl) (by decide) (Ooe.ext w7.old.2).1 (argsL := []) (rest := []) rfl (lenOf pd14 rfl) rfl (W := 0) (Nat.le_of_eq rfl) ((con_isP0 G H oe h7 w7.old (Ooe.ext w7.old.2)).pay w7 (H.tw 200 rfl) (H.tw 123 rfl) (by decide) (by decide)) (by decide) (by decide) rfl fun vm8 T8 h8 v8 w8 q8 => ?_
  obtain ⟨_, rfl, rfl, rfl⟩ := q8
  show Go _ _ _ _ (T8.setTop (mkF X.m 41 #[.val (.ref k), .val (.long nw), .second, .val (.ref oe), .val (.ref oe), .val (.long (0 : Int64)), .second, .unset, .unset] [(.int (0 : Int32))]))
  refine w8.ifY (q := 62) d100_41 ((if0 _ _).trans (teq rfl).1) (by decide) (by decide) ?_
  refine w8.aloadN (q := 63) d100_62 rfl rfl rfl ?_
  refine w8.getF (q := 66) d100_63 (H.tw 165 rfl) Via.refl Flw rfl fun T9 w9 => ?_
  refine w9.callV (q := 69) d100_66 (H.tw 196 rfl) (H.tw 197 rfl) (notFace_of_selects (C := "java/util/Optional") (args := G.a0) (H.tw 199 rfl)) (H.tw 199 rfl) (H.tw 198 rfl) (by decide) Ol.1 (argsL := []) (rest := []) rfl (lenOf pd14 rfl) rfl (W := 0) (Nat.le_of_eq rfl) ((con_isP1 G H lw x h7 w9.old Ol).pay w9 (H.tw 200 rfl) (H.tw 123 rfl) (by decide) (by decide)) (by decide) (by decide) rfl fun vm10 T10 h10 v10 w10 q10 => ?_
  obtain ⟨_, rfl, rfl, rfl⟩ := q10
  show Go _ _ _ _ (T10.setTop (mkF X.m 69 #[.val (.ref k), .val (.long nw), .second, .val (.ref oe), .val (.ref oe), .val (.long (0 : Int64)), .second, .unset, .unset] [(.int (1 : Int32))]))
  refine w10.ifN (q := 72) d100_69 ((if0 _ _).trans (feq (by decide)).1) rfl ?_
  refine w10.aloadN (q := 73) d100_72 rfl rfl rfl ?_
  refine w10.lloadN (q := 74) d100_73 rfl rfl ?_
  refine w10.aloadN (q := 75) d100_74 rfl rfl rfl ?_
  refine w10.callP (q := 78) d100_75 (H.tw 245 rfl) (H.tw 246 rfl) (H.tw 247 rfl) (H.tw 248 rfl) (H.tw 158 rfl) (by decide) E (argsL := []) (rest := [(.long nw), (.ref oe)]) rfl (lenOf pd72 rfl) rfl (W := 3) (Nat.le_of_eq rfl) ((con_npn G H.n k L an h7 w10.old E FL Fan Fwr Fps).pay w10 (H.tw 248 rfl) (H.tw 159 rfl) (by decide) (by decide)) (by decide) (by decide) rfl fun vm11 T11 h11 v11 w11 q11 => ?_
  obtain ⟨_, rfl, rfl, rfl⟩ := q11
  show Go _ _ _ _ (T11.setTop (mkF X.m 78 #[.val (.ref k), .val (.long nw), .second, .val (.ref oe), .val (.ref oe), .val (.long (0 : Int64)), .second, .unset, .unset] [(.long ((4 : Int64) * (L + an))), (.long nw), (.ref oe)]))
  refine w11.ladd (q := 79) d100_78 rfl ?_
  refine w11.callS (q := 82) d100_79 (H.tw 271 rfl) (H.tw 272 rfl) (H.tw 253 rfl) (H.tw 273 rfl) (by decide) (argsL := [(.long (nw + ((4 : Int64) * (L + an))))]) (rest := [(.ref oe)]) rfl (lenOf pd74 rfl) rfl (W := 1) (Nat.le_of_eq rfl) ((con_vo G H.n (nw + ((4 : Int64) * (L + an))) h7 w11.old).pay w11 (H.tw 273 rfl) (H.tw 253 rfl) (by decide) (by decide)) (by decide) (by decide) rfl fun vm12 T12 h12 v12 w12 q12 => ?_
  obtain ⟨_, rfl, rr, rfl, X12, Ar⟩ := q12
  show Go _ _ _ _ (T12.setTop (mkF X.m 82 #[.val (.ref k), .val (.long nw), .second, .val (.ref oe), .val (.ref oe), .val (.long (0 : Int64)), .second, .unset, .unset] [(.ref rr), (.ref oe)]))
  replace E := E.ext X12
  replace Flw := Flw.ext X12
  replace Fiu := Fiu.ext X12
  replace Fpu := Fpu.ext X12
  replace FL := FL.ext X12
  replace Fbg := Fbg.ext X12
  replace Fwr := Fwr.ext X12
  replace Fan := Fan.ext X12
  replace Fps := Fps.ext X12
  replace Ol := Ol.ext X12
  replace KK := KK.ext X12
  refine w12.callV (q := 85) d100_82 (H.tw 296 rfl) (H.tw 297 rfl) (notFace_of_selects (C := "java/util/Optional") (args := G.a0) (H.tw 299 rfl)) (H.tw 299 rfl) (H.tw 298 rfl) (by decide) (Ooe.ext w12.old.2).1 (argsL := [(.ref rr)]) (rest := []) rfl (lenOf pd80 rfl) rfl (W := 0) (Nat.le_of_eq rfl) ((con_orE0 G H oe rr h12 w12.old (Ooe.ext w12.old.2)).pay w12 (H.tw 300 rfl) (H.tw 123 rfl) (by decide) (by decide)) (by decide) (by decide) rfl fun vm13 T13 h13 v13 w13 q13 => ?_
  obtain ⟨_, rfl, rfl, rfl⟩ := q13
  show Go _ _ _ _ (T13.setTop (mkF X.m 85 #[.val (.ref k), .val (.long nw), .second, .val (.ref oe), .val (.ref oe), .val (.long (0 : Int64)), .second, .unset, .unset] [(.ref rr)]))
  refine w13.castY (q := 88) d100_85 (H.tw 290 rfl) (Ins.self Ar.1) rfl fun T14 w14 => ?_
  refine w14.callV (q := 91) d100_88 (H.tw 291 rfl) (H.tw 292 rfl) (notFace_of_selects (C := "java/lang/Long") (args := G.a0) (H.tw 294 rfl)) (H.tw 294 rfl) (H.tw 293 rfl) (by decide) Ar.1 (argsL := []) (rest := []) rfl (lenOf pd72 rfl) rfl (W := 0) (Nat.le_of_eq rfl) ((con_lv G H.n rr (nw + ((4 : Int64) * (L + an))) h12 w14.old Ar).pay w14 (H.tw 295 rfl) (H.tw 253 rfl) (by decide) (by decide)) (by decide) (by decide) rfl fun vm15 T15 h15 v15 w15 q15 => ?_
  obtain ⟨_, rfl, rfl, rfl⟩ := q15
  show Go _ _ _ _ (T15.setTop (mkF X.m 91 #[.val (.ref k), .val (.long nw), .second, .val (.ref oe), .val (.ref oe), .val (.long (0 : Int64)), .second, .unset, .unset] [(.long (nw + ((4 : Int64) * (L + an))))]))
  refine w15.lstore (q := 93) (L2 := #[.val (.ref k), .val (.long nw), .second, .val (.ref oe), .val (.ref oe), .val (.long (0 : Int64)), .second, .val (.long (nw + ((4 : Int64) * (L + an)))), .second]) d100_91 rfl rfl ?_
  refine w15.lloadN (q := 94) d100_93 rfl rfl ?_
  refine w15.lload (q := 96) d100_94 rfl rfl ?_
  refine w15.lsub (q := 97) d100_96 rfl ?_
  refine w15.lconst (q := 98) (0 : Int64) d100_97 rfl rfl ?_
  refine w15.lcmp (q := 99) d100_98 rfl ?_
  by_cases cc1 : (lcmpW (nw - (nw + ((4 : Int64) * (L + an)))) (0 : Int64)) < (0 : Int32)
  ·
    refine w15.ifY (q := 119) d100_99 ((if0 _ _).trans (tlt cc1).1) (by decide) (by decide) ?_
    refine w15.lloadN (q := 120) d100_119 rfl rfl ?_
    refine w15.aloadN (q := 121) d100_120 rfl rfl rfl ?_
    refine w15.getF (q := 124) d100_121 (H.tw 212 rfl) Via.refl Fbg rfl fun T16 w16 => ?_
    refine w16.lsub (q := 125) d100_124 rfl ?_
    refine w16.ldc2J (q := 128) d100_125 (H.tw 301 rfl) rfl ?_
    refine w16.aloadN (q := 129) d100_128 rfl rfl rfl ?_
    refine w16.callP (q := 132) d100_129 (H.tw 264 rfl) (H.tw 265 rfl) (H.tw 266 rfl) (H.tw 267 rfl) (H.tw 158 rfl) (by decide) E (argsL := []) (rest := [(.long (8 : Int64)), (.long (nw - bg))]) rfl (lenOf pd72 rfl) rfl (W := 4) (Nat.le_of_eq rfl) ((con_pn G H.n k L an h12 w16.old FL Fan Fwr).pay w16 (H.tw 267 rfl) (H.tw 159 rfl) (by decide) (by decide)) (by decide) (by decide) rfl fun vm17 T17 h17 v17 w17 q17 => ?_
    obtain ⟨_, rfl, rfl, rfl⟩ := q17
    show Go _ _ _ _ (T17.setTop (mkF X.m 132 #[.val (.ref k), .val (.long nw), .second, .val (.ref oe), .val (.ref oe), .val (.long (0 : Int64)), .second, .val (.long (nw + ((4 : Int64) * (L + an)))), .second] [(.long ((4 : Int64) * (L + an))), (.long (8 : Int64)), (.long (nw - bg))]))
    refine w17.lmul (q := 133) d100_132 rfl ?_
    refine w17.lcmp (q := 134) d100_133 rfl ?_
    by_cases cc2 : (lcmpW (nw - bg) ((8 : Int64) * ((4 : Int64) * (L + an)))) < (0 : Int32)
    ·
      refine w17.ifY (q := 169) d100_134 ((if0 _ _).trans (tlt cc2).1) (by decide) (by decide) ?_
      refine w17.lload (q := 171) d100_169 rfl rfl ?_
      exact w17.retJ d100_171 rfl (by decide) (by decide) ⟨_, rfl, _, rfl, KK, Or.inr (Or.inr ⟨cc1, cc2, Ol, E, Flw, Fiu, Fpu, FL, Fbg, Fwr, Fan, Fps⟩)⟩
    ·
      refine w17.ifN (q := 137) d100_134 ((if0 _ _).trans (flt cc2).1) rfl ?_
      refine w17.aloadN (q := 138) d100_137 rfl rfl rfl ?_
      refine w17.dup (q := 139) d100_138 rfl rfl ?_
      refine w17.getF (q := 142) d100_139 (H.tw 249 rfl) Via.refl Fps rfl fun T18 w18 => ?_
      refine w18.lconst (q := 143) (1 : Int64) d100_142 rfl rfl ?_
      refine w18.ladd (q := 144) d100_143 rfl ?_
      have Eold := E
      refine w18.putF (q := 147) d100_144 (H.tw 249 rfl) Via.refl Fps E (Or.inl (H.tw 250 rfl)) (H.tw 158 rfl) (ty := .long) (by decide) rfl rfl g (w18.sfE E (by decide) (by decide)) rfl fun T19 h19 w19 W19 sf19 => ?_
      have sz19 : h12.size ≤ h19.size := (Keep.of_wr W19).1
      replace E := E.wr W19
      replace Flw := Flw.other W19 (Or.inr (slot_ne (Or.inl (H.tw 166 rfl)) (Or.inl (H.tw 250 rfl)) (by decide) (t := (.object "java/util/Optional")) (t' := .long) (by decide) (by decide)))
      replace Fiu := Fiu.other W19 (Or.inr (slot_ne (Or.inl (H.tw 168 rfl)) (Or.inl (H.tw 250 rfl)) (by decide) (t := (.object "java/util/Optional")) (t' := .long) (by decide) (by decide)))
      replace Fpu := Fpu.other W19 (Or.inr (slot_ne (Or.inl (H.tw 170 rfl)) (Or.inl (H.tw 250 rfl)) (by decide) (t := (.object "java/util/Optional")) (t' := .long) (by decide) (by decide)))
      replace FL := FL.other W19 (Or.inr (slot_ne (Or.inr (H.tw 172 rfl)) (Or.inl (H.tw 250 rfl)) (by decide) (t := .long) (t' := .long) (by decide) (by decide)))
      replace Fbg := Fbg.other W19 (Or.inr (slot_ne (Or.inl (H.tw 213 rfl)) (Or.inl (H.tw 250 rfl)) (by decide) (t := .long) (t' := .long) (by decide) (by decide)))
      replace Fwr := Fwr.other W19 (Or.inr (slot_ne (Or.inl (H.tw 215 rfl)) (Or.inl (H.tw 250 rfl)) (by decide) (t := .int) (t' := .long) (by decide) (by decide)))
      replace Fan := Fan.other W19 (Or.inr (slot_ne (Or.inl (H.tw 217 rfl)) (Or.inl (H.tw 250 rfl)) (by decide) (t := .long) (t' := .long) (by decide) (by decide)))
      replace Fps := Fps.same W19
      replace KK := KK.wr W19 (Or.inl (List.mem_singleton.mpr rfl))
      refine w19.aloadN (q := 148) d100_147 rfl rfl rfl ?_
      refine w19.lload (q := 150) d100_148 rfl rfl ?_
      refine w19.callS (q := 153) d100_150 (H.tw 271 rfl) (H.tw 272 rfl) (H.tw 253 rfl) (H.tw 273 rfl) (by decide) (argsL := [(.long (nw + ((4 : Int64) * (L + an))))]) (rest := [(.ref k)]) rfl (lenOf pd74 rfl) rfl (W := 1) (Nat.le_of_eq rfl) ((con_vo G H.n (nw + ((4 : Int64) * (L + an))) h19 w19.old).pay w19 (H.tw 273 rfl) (H.tw 253 rfl) (by decide) (by decide)) (by decide) (by decide) rfl fun vm20 T20 h20 v20 w20 q20 => ?_
      obtain ⟨_, rfl, r3, rfl, X20, A3⟩ := q20
      show Go _ _ _ _ (T20.setTop (mkF X.m 153 #[.val (.ref k), .val (.long nw), .second, .val (.ref oe), .val (.ref oe), .val (.long (0 : Int64)), .second, .val (.long (nw + ((4 : Int64) * (L + an)))), .second] [(.ref r3), (.ref k)]))
      replace E := E.ext X20
      replace Flw := Flw.ext X20
      replace Fiu := Fiu.ext X20
      replace Fpu := Fpu.ext X20
      replace FL := FL.ext X20
      replace Fbg := Fbg.ext X20
      replace Fwr := Fwr.ext X20
      replace Fan := Fan.ext X20
      replace Fps := Fps.ext X20
      replace KK := KK.ext X20
      refine w20.callS (q := 156) d100_153 (H.tw 218 rfl) (H.tw 219 rfl) (H.tw 123 rfl) (H.tw 220 rfl) (by decide) (argsL := [(.ref r3)]) (rest := [(.ref k)]) rfl (lenOf pd97 rfl) rfl (W := 1) (Nat.le_of_eq rfl) ((con_of G H r3 h20 w20.old).pay w20 (H.tw 220 rfl) (H.tw 123 rfl) (by decide) (by decide)) (by decide) (by decide) rfl fun vm21 T21 h21 v21 w21 q21 => ?_
      obtain ⟨_, rfl, o3, rfl, X21, O3⟩ := q21
      show Go _ _ _ _ (T21.setTop (mkF X.m 156 #[.val (.ref k), .val (.long nw), .second, .val (.ref oe), .val (.ref oe), .val (.long (0 : Int64)), .second, .val (.long (nw + ((4 : Int64) * (L + an)))), .second] [(.ref o3), (.ref k)]))
      replace E := E.ext X21
      replace Flw := Flw.ext X21
      replace Fiu := Fiu.ext X21
      replace Fpu := Fpu.ext X21
      replace FL := FL.ext X21
      replace Fbg := Fbg.ext X21
      replace Fwr := Fwr.ext X21
      replace Fan := Fan.ext X21
      replace Fps := Fps.ext X21
      replace A3 := A3.ext X21
      replace KK := KK.ext X21
      have Eold := E
      refine w21.putF (q := 159) d100_156 (H.tw 169 rfl) Via.refl Fpu E (Or.inl (H.tw 170 rfl)) (H.tw 158 rfl) (ty := (.object "java/util/Optional")) (by decide) rfl rfl g (w21.sfE E (by decide) (by decide)) rfl fun T22 h22 w22 W22 sf22 => ?_
      have sz22 : h21.size ≤ h22.size := (Keep.of_wr W22).1
      replace E := E.wr W22
      replace Flw := Flw.other W22 (Or.inr (slot_ne (Or.inl (H.tw 166 rfl)) (Or.inl (H.tw 170 rfl)) (by decide) (t := (.object "java/util/Optional")) (t' := (.object "java/util/Optional")) (by decide) (by decide)))
      replace Fiu := Fiu.other W22 (Or.inr (slot_ne (Or.inl (H.tw 168 rfl)) (Or.inl (H.tw 170 rfl)) (by decide) (t := (.object "java/util/Optional")) (t' := (.object "java/util/Optional")) (by decide) (by decide)))
      replace Fpu := Fpu.same W22
      replace FL := FL.other W22 (Or.inr (slot_ne (Or.inr (H.tw 172 rfl)) (Or.inl (H.tw 170 rfl)) (by decide) (t := .long) (t' := (.object "java/util/Optional")) (by decide) (by decide)))
      replace Fbg := Fbg.other W22 (Or.inr (slot_ne (Or.inl (H.tw 213 rfl)) (Or.inl (H.tw 170 rfl)) (by decide) (t := .long) (t' := (.object "java/util/Optional")) (by decide) (by decide)))
      replace Fwr := Fwr.other W22 (Or.inr (slot_ne (Or.inl (H.tw 215 rfl)) (Or.inl (H.tw 170 rfl)) (by decide) (t := .int) (t' := (.object "java/util/Optional")) (by decide) (by decide)))
      replace Fan := Fan.other W22 (Or.inr (slot_ne (Or.inl (H.tw 217 rfl)) (Or.inl (H.tw 170 rfl)) (by decide) (t := .long) (t' := (.object "java/util/Optional")) (by decide) (by decide)))
      replace Fps := Fps.other W22 (Or.inr (slot_ne (Or.inl (H.tw 250 rfl)) (Or.inl (H.tw 170 rfl)) (by decide) (t := .long) (t' := (.object "java/util/Optional")) (by decide) (by decide)))
      replace KK := KK.wr W22 (Or.inl (List.mem_singleton.mpr rfl))
      replace O3 := O3.keep Eold (by decide) (Keep.of_wr W22)
      replace A3 := A3.keep Eold (by decide) (Keep.of_wr W22)
      refine w22.lload (q := 161) d100_159 rfl rfl ?_
      refine w22.lloadN (q := 162) d100_161 rfl rfl ?_
      refine w22.lsub (q := 163) d100_162 rfl ?_
      refine w22.lstore (q := 165) (L2 := #[.val (.ref k), .val (.long nw), .second, .val (.ref oe), .val (.ref oe), .val (.long ((nw + ((4 : Int64) * (L + an))) - nw)), .second, .val (.long (nw + ((4 : Int64) * (L + an)))), .second]) d100_163 rfl rfl ?_
      refine w22.aloadN (q := 166) d100_165 rfl rfl rfl ?_
      refine w22.callP (q := 169) d100_166 (H.tw 304 rfl) (H.tw 305 rfl) (H.tw 306 rfl) (H.tw 307 rfl) (H.tw 158 rfl) (by decide) E (argsL := []) (rest := []) rfl (lenOf pd46 rfl) rfl (W := 0) (Nat.le_of_eq rfl) ((con_end G H k oe _ _ _ _ _ _ _ _ Soe h22 w22.old E Flw Fiu Fpu FL Fbg Fwr Fan Fps g).pay w22 (H.tw 307 rfl) (H.tw 159 rfl) (by decide) (by decide)) (by decide) (by decide) rfl fun vm23 T23 h23 v23 w23 q23 => ?_
      obtain ⟨rfl, K23, E_, Flw_, Fiu_, Fpu_, FL_, Fbg_, Fwr_, Fan_, Fps_⟩ := q23
      show Go _ _ _ _ (T23.setTop (mkF X.m 169 #[.val (.ref k), .val (.long nw), .second, .val (.ref oe), .val (.ref oe), .val (.long ((nw + ((4 : Int64) * (L + an))) - nw)), .second, .val (.long (nw + ((4 : Int64) * (L + an)))), .second] []))
      replace O3 := O3.keep E (by decide) K23
      replace A3 := A3.keep E (by decide) K23
      replace KK := KK.trans K23 (fun x hx => Or.inl hx)
      refine w23.lload (q := 171) d100_169 rfl rfl ?_
      exact w23.retJ d100_171 rfl (by decide) (by decide) ⟨_, rfl, _, rfl, KK, Or.inr (Or.inl ⟨cc1, cc2, _, o3, r3, O3, A3, E_, Flw_, Fiu_, Fpu_, FL_, Fbg_, Fwr_, Fan_, Fps_⟩)⟩
  ·
    refine w15.ifN (q := 102) d100_99 ((if0 _ _).trans (flt cc1).1) rfl ?_
    refine w15.aloadN (q := 103) d100_102 rfl rfl rfl ?_
    refine w15.dup (q := 104) d100_103 rfl rfl ?_
    refine w15.getF (q := 107) d100_104 (H.tw 249 rfl) Via.refl Fps rfl fun T24 w24 => ?_
    refine w24.lconst (q := 108) (1 : Int64) d100_107 rfl rfl ?_
    refine w24.ladd (q := 109) d100_108 rfl ?_
    have Eold := E
    refine w24.putF (q := 112) d100_109 (H.tw 249 rfl) Via.refl Fps E (Or.inl (H.tw 250 rfl)) (H.tw 158 rfl) (ty := .long) (by decide) rfl rfl g (w24.sfE E (by decide) (by decide)) rfl fun T25 h25 w25 W25 sf25 => ?_
    have sz25 : h12.size ≤ h25.size := (Keep.of_wr W25).1
    replace E := E.wr W25
    replace Flw := Flw.other W25 (Or.inr (slot_ne (Or.inl (H.tw 166 rfl)) (Or.inl (H.tw 250 rfl)) (by decide) (t := (.object "java/util/Optional")) (t' := .long) (by decide) (by decide)))
    replace Fiu := Fiu.other W25 (Or.inr (slot_ne (Or.inl (H.tw 168 rfl)) (Or.inl (H.tw 250 rfl)) (by decide) (t := (.object "java/util/Optional")) (t' := .long) (by decide) (by decide)))
    replace Fpu := Fpu.other W25 (Or.inr (slot_ne (Or.inl (H.tw 170 rfl)) (Or.inl (H.tw 250 rfl)) (by decide) (t := (.object "java/util/Optional")) (t' := .long) (by decide) (by decide)))
    replace FL := FL.other W25 (Or.inr (slot_ne (Or.inr (H.tw 172 rfl)) (Or.inl (H.tw 250 rfl)) (by decide) (t := .long) (t' := .long) (by decide) (by decide)))
    replace Fbg := Fbg.other W25 (Or.inr (slot_ne (Or.inl (H.tw 213 rfl)) (Or.inl (H.tw 250 rfl)) (by decide) (t := .long) (t' := .long) (by decide) (by decide)))
    replace Fwr := Fwr.other W25 (Or.inr (slot_ne (Or.inl (H.tw 215 rfl)) (Or.inl (H.tw 250 rfl)) (by decide) (t := .int) (t' := .long) (by decide) (by decide)))
    replace Fan := Fan.other W25 (Or.inr (slot_ne (Or.inl (H.tw 217 rfl)) (Or.inl (H.tw 250 rfl)) (by decide) (t := .long) (t' := .long) (by decide) (by decide)))
    replace Fps := Fps.same W25
    replace KK := KK.wr W25 (Or.inl (List.mem_singleton.mpr rfl))
    refine w25.aloadN (q := 113) d100_112 rfl rfl rfl ?_
    refine w25.callP (q := 116) d100_113 (H.tw 304 rfl) (H.tw 305 rfl) (H.tw 306 rfl) (H.tw 307 rfl) (H.tw 158 rfl) (by decide) E (argsL := []) (rest := []) rfl (lenOf pd46 rfl) rfl (W := 0) (Nat.le_of_eq rfl) ((con_end G H k oe _ _ _ _ _ _ _ _ Soe h25 w25.old E Flw Fiu Fpu FL Fbg Fwr Fan Fps g).pay w25 (H.tw 307 rfl) (H.tw 159 rfl) (by decide) (by decide)) (by decide) (by decide) rfl fun vm26 T26 h26 v26 w26 q26 => ?_
    obtain ⟨rfl, K26, E_, Flw_, Fiu_, Fpu_, FL_, Fbg_, Fwr_, Fan_, Fps_⟩ := q26
    show Go _ _ _ _ (T26.setTop (mkF X.m 116 #[.val (.ref k), .val (.long nw), .second, .val (.ref oe), .val (.ref oe), .val (.long (0 : Int64)), .second, .val (.long (nw + ((4 : Int64) * (L + an)))), .second] []))
    replace KK := KK.trans K26 (fun x hx => Or.inl hx)
    refine w26.goto (q := 169) d100_116 (by decide) (by decide) ?_
    refine w26.lload (q := 171) d100_169 rfl rfl ?_
    exact w26.retJ d100_171 rfl (by decide) (by decide) ⟨_, rfl, _, rfl, KK, Or.inl ⟨cc1, _, E_, Flw_, Fiu_, Fpu_, FL_, Fbg_, Fwr_, Fan_, Fps_⟩⟩
set_option maxRecDepth 65536 in
set_option maxHeartbeats 40000000 in
theorem con_w1i (G : Gx) (H : Hyp G) (k oe lw x : Nat) (L bg an nw : Int64) (iu l : Nat) (u : Int64) (Soe : Sta G.Z G.Z.heap "java/util/Optional" "EMPTY" "Ljava/util/Optional;" (.ref oe)) (Ooe : Opt G.Z G.Z.heap oe .null) (h : Heap) (ho : Old G.Z G.n0 h) (E : Exa G.Z h k "com/example/versioned_table/versionedtable/KeyHold") (Flw : Fld G.Z h k "com/example/versioned_table/versionedtable/KeyHold" "lastWritten" "Ljava/util/Optional;" (.ref lw)) (Fiu : Fld G.Z h k "com/example/versioned_table/versionedtable/KeyHold" "idleUntil" "Ljava/util/Optional;" (.ref iu)) (Fpu : Fld G.Z h k "com/example/versioned_table/versionedtable/KeyHold" "pauseUntil" "Ljava/util/Optional;" (.ref oe)) (FL : Fld G.Z h k "com/example/versioned_table/versionedtable/KeyHold" "longestRetryWaitNanos" "J" (.long L)) (Fbg : Fld G.Z h k "com/example/versioned_table/versionedtable/KeyHold" "began" "J" (.long bg)) (Fwr : Fld G.Z h k "com/example/versioned_table/versionedtable/KeyHold" "writes" "I" (.int (1 : Int32))) (Fan : Fld G.Z h k "com/example/versioned_table/versionedtable/KeyHold" "attemptNanos" "J" (.long an)) (Fps : Fld G.Z h k "com/example/versioned_table/versionedtable/KeyHold" "pauses" "J" (.long (0 : Int64))) (g : G.n0 ≤ k) (Ol : Opt G.Z h lw (.ref x)) (Oi : Opt G.Z h iu (.ref l)) (Al : LongAt G.Z h l u) :
    Con G (⟨"com/example/versioned_table/versionedtable/KeyHold", "waitBefore", "(J)J"⟩ : MethodName) prog_11_method_2_code 9 (some .long) [] ({ frames := 4, cells := 4, slots := 4, locals := 3075 } : Room) #[(.ref k), (.long nw)] h (vQ fun v h' => ∃ z : Int64, v = .long z ∧ Keep h h' [k] ∧ ((¬ lcmpW (nw - u) (0 : Int64) < (0 : Int32) ∧ ∃ ps : Int64, Exa G.Z h' k "com/example/versioned_table/versionedtable/KeyHold" ∧ Fld G.Z h' k "com/example/versioned_table/versionedtable/KeyHold" "lastWritten" "Ljava/util/Optional;" (.ref oe) ∧ Fld G.Z h' k "com/example/versioned_table/versionedtable/KeyHold" "idleUntil" "Ljava/util/Optional;" (.ref oe) ∧ Fld G.Z h' k "com/example/versioned_table/versionedtable/KeyHold" "pauseUntil" "Ljava/util/Optional;" (.ref oe) ∧ Fld G.Z h' k "com/example/versioned_table/versionedtable/KeyHold" "longestRetryWaitNanos" "J" (.long L) ∧ Fld G.Z h' k "com/example/versioned_table/versionedtable/KeyHold" "began" "J" (.long bg) ∧ Fld G.Z h' k "com/example/versioned_table/versionedtable/KeyHold" "writes" "I" (.int (1 : Int32)) ∧ Fld G.Z h' k "com/example/versioned_table/versionedtable/KeyHold" "attemptNanos" "J" (.long an) ∧ Fld G.Z h' k "com/example/versioned_table/versionedtable/KeyHold" "pauses" "J" (.long ps)) ∨ (lcmpW (nw - u) (0 : Int64) < (0 : Int32) ∧ ¬ lcmpW (nw - bg) ((8 : Int64) * ((4 : Int64) * (L + an))) < (0 : Int32) ∧ ∃ (ps : Int64) (pu q : Nat), Opt G.Z h' pu (.ref q) ∧ LongAt G.Z h' q u ∧ Exa G.Z h' k "com/example/versioned_table/versionedtable/KeyHold" ∧ Fld G.Z h' k "com/example/versioned_table/versionedtable/KeyHold" "lastWritten" "Ljava/util/Optional;" (.ref oe) ∧ Fld G.Z h' k "com/example/versioned_table/versionedtable/KeyHold" "idleUntil" "Ljava/util/Optional;" (.ref oe) ∧ Fld G.Z h' k "com/example/versioned_table/versionedtable/KeyHold" "pauseUntil" "Ljava/util/Optional;" (.ref pu) ∧ Fld G.Z h' k "com/example/versioned_table/versionedtable/KeyHold" "longestRetryWaitNanos" "J" (.long L) ∧ Fld G.Z h' k "com/example/versioned_table/versionedtable/KeyHold" "began" "J" (.long bg) ∧ Fld G.Z h' k "com/example/versioned_table/versionedtable/KeyHold" "writes" "I" (.int (1 : Int32)) ∧ Fld G.Z h' k "com/example/versioned_table/versionedtable/KeyHold" "attemptNanos" "J" (.long an) ∧ Fld G.Z h' k "com/example/versioned_table/versionedtable/KeyHold" "pauses" "J" (.long ps)) ∨ (lcmpW (nw - u) (0 : Int64) < (0 : Int32) ∧ lcmpW (nw - bg) ((8 : Int64) * ((4 : Int64) * (L + an))) < (0 : Int32) ∧ Opt G.Z h' lw (.ref x) ∧ Exa G.Z h' k "com/example/versioned_table/versionedtable/KeyHold" ∧ Fld G.Z h' k "com/example/versioned_table/versionedtable/KeyHold" "lastWritten" "Ljava/util/Optional;" (.ref lw) ∧ Fld G.Z h' k "com/example/versioned_table/versionedtable/KeyHold" "idleUntil" "Ljava/util/Optional;" (.ref oe) ∧ Fld G.Z h' k "com/example/versioned_table/versionedtable/KeyHold" "pauseUntil" "Ljava/util/Optional;" (.ref oe) ∧ Fld G.Z h' k "com/example/versioned_table/versionedtable/KeyHold" "longestRetryWaitNanos" "J" (.long L) ∧ Fld G.Z h' k "com/example/versioned_table/versionedtable/KeyHold" "began" "J" (.long bg) ∧ Fld G.Z h' k "com/example/versioned_table/versionedtable/KeyHold" "writes" "I" (.int (1 : Int32)) ∧ Fld G.Z h' k "com/example/versioned_table/versionedtable/KeyHold" "attemptNanos" "J" (.long an) ∧ Fld G.Z h' k "com/example/versioned_table/versionedtable/KeyHold" "pauses" "J" (.long (0 : Int64))))) := by
  refine Con.introN H.el ho (plainFor_of_name pn67) (Ls := #[.val (.ref k), .val (.long nw), .second, .unset, .unset, .unset, .unset, .unset, .unset]) (fun m => by first | (simp [entryFrame, mkF, argsToLocals, Value.category]; done) | rfl) ?_
  intro X vm T hN w
  have KK := Keep.refl h [k]
  refine w.aloadN (q := 1) d100_0 rfl rfl rfl ?_
  refine w.getF (q := 4) d100_1 (H.tw 167 rfl) Via.refl Fiu rfl fun T1 w1 => ?_
  refine w1.astoreN (q := 5) (L2 := #[.val (.ref k), .val (.long nw), .second, .val (.ref iu), .unset, .unset, .unset, .unset, .unset]) d100_4 rfl rfl rfl ?_
  refine w1.aloadN (q := 6) d100_5 rfl rfl rfl ?_
  refine w1.callS (q := 9) d100_6 (H.tw 164 rfl) (H.tw 122 rfl) (H.tw 123 rfl) (H.tw 124 rfl) (by decide) (argsL := []) (rest := [(.ref k)]) rfl (lenOf pd89 rfl) rfl (W := 1) (Nat.le_of_eq rfl) ((con_oe G H oe Soe h w1.old).pay w1 (H.tw 124 rfl) (H.tw 123 rfl) (by decide) (by decide)) (by decide) (by decide) rfl fun vm2 T2 h2 v2 w2 q2 => ?_
  obtain ⟨_, rfl, rfl, rfl⟩ := q2
  show Go _ _ _ _ (T2.setTop (mkF X.m 9 #[.val (.ref k), .val (.long nw), .second, .val (.ref iu), .unset, .unset, .unset, .unset, .unset] [(.ref oe), (.ref k)]))
  have Eold := E
  refine w2.putF (q := 12) d100_9 (H.tw 167 rfl) Via.refl Fiu E (Or.inl (H.tw 168 rfl)) (H.tw 158 rfl) (ty := (.object "java/util/Optional")) (by decide) rfl rfl g (w2.sfE E (by decide) (by decide)) rfl fun T3 h3 w3 W3 sf3 => ?_
  have sz3 : h.size ≤ h3.size := (Keep.of_wr W3).1
  replace E := E.wr W3
  replace Flw := Flw.other W3 (Or.inr (slot_ne (Or.inl (H.tw 166 rfl)) (Or.inl (H.tw 168 rfl)) (by decide) (t := (.object "java/util/Optional")) (t' := (.object "java/util/Optional")) (by decide) (by decide)))
  replace Fiu := Fiu.same W3
  replace Fpu := Fpu.other W3 (Or.inr (slot_ne (Or.inl (H.tw 170 rfl)) (Or.inl (H.tw 168 rfl)) (by decide) (t := (.object "java/util/Optional")) (t' := (.object "java/util/Optional")) (by decide) (by decide)))
  replace FL := FL.other W3 (Or.inr (slot_ne (Or.inr (H.tw 172 rfl)) (Or.inl (H.tw 168 rfl)) (by decide) (t := .long) (t' := (.object "java/util/Optional")) (by decide) (by decide)))
  replace Fbg := Fbg.other W3 (Or.inr (slot_ne (Or.inl (H.tw 213 rfl)) (Or.inl (H.tw 168 rfl)) (by decide) (t := .long) (t' := (.object "java/util/Optional")) (by decide) (by decide)))
  replace Fwr := Fwr.other W3 (Or.inr (slot_ne (Or.inl (H.tw 215 rfl)) (Or.inl (H.tw 168 rfl)) (by decide) (t := .int) (t' := (.object "java/util/Optional")) (by decide) (by decide)))
  replace Fan := Fan.other W3 (Or.inr (slot_ne (Or.inl (H.tw 217 rfl)) (Or.inl (H.tw 168 rfl)) (by decide) (t := .long) (t' := (.object "java/util/Optional")) (by decide) (by decide)))
  replace Fps := Fps.other W3 (Or.inr (slot_ne (Or.inl (H.tw 250 rfl)) (Or.inl (H.tw 168 rfl)) (by decide) (t := .long) (t' := (.object "java/util/Optional")) (by decide) (by decide)))
  replace KK := KK.wr W3 (Or.inl (List.mem_singleton.mpr rfl))
  replace Ol := Ol.keep Eold (by decide) (Keep.of_wr W3)
  replace Oi := Oi.keep Eold (by decide) (Keep.of_wr W3)
  replace Al := Al.keep Eold (by decide) (Keep.of_wr W3)
  refine w3.aloadN (q := 13) d100_12 rfl rfl rfl ?_
  refine w3.getF (q := 16) d100_13 (H.tw 169 rfl) Via.refl Fpu rfl fun T4 w4 => ?_
  refine w4.lloadN (q := 17) d100_16 rfl rfl ?_
  refine w4.lam (q := 22) (fi := 15) (vals := [(.long nw)]) (st := [(.ref oe)]) hN d100_17 (H.tw 178 rfl) (H.tw 36 rfl) (by decide) (by decide +kernel) rfl (fit1 (t := .long) rfl rfl) rfl (Nat.le_of_ble_eq_true rfl) (by decide) (Nat.le_of_ble_eq_true rfl) rfl fun T5 h5 b5 cK5 e5 w5 E5 Mk5 Cl5 => ?_
  replace w5 : Wk G _ _ X _ T5 h5 1 1 := w5
  have sz5 : h3.size ≤ h5.size := E5.1
  show Go _ _ _ _ (T5.setTop (mkF X.m 22 #[.val (.ref k), .val (.long nw), .second, .val (.ref iu), .unset, .unset, .unset, .unset, .unset] [(.ref b5), (.ref oe)]))
  replace E := E.ext E5
  replace Flw := Flw.ext E5
  replace Fiu := Fiu.ext E5
  replace Fpu := Fpu.ext E5
  replace FL := FL.ext E5
  replace Fbg := Fbg.ext E5
  replace Fwr := Fwr.ext E5
  replace Fan := Fan.ext E5
  replace Fps := Fps.ext E5
  replace Ol := Ol.ext E5
  replace Oi := Oi.ext E5
  replace Al := Al.ext E5
  replace KK := KK.ext E5
  refine w5.callV (q := 25) d100_22 (H.tw 181 rfl) (H.tw 182 rfl) (notFace_of_selects (C := "java/util/Optional") (args := G.a0) (H.tw 184 rfl)) (H.tw 184 rfl) (H.tw 183 rfl) (by decide) (Ooe.ext w5.old.2).1 (argsL := [(.ref b5)]) (rest := []) rfl (lenOf pd96 rfl) rfl (W := 0) (Nat.le_of_eq rfl) ((con_fil0 G H oe b5 h5 w5.old (Ooe.ext w5.old.2)).pay w5 (H.tw 185 rfl) (H.tw 123 rfl) (by decide) (by decide)) (by decide) (by decide) rfl fun vm6 T6 h6 v6 w6 q6 => ?_
  obtain ⟨_, rfl, rfl, rfl⟩ := q6
  show Go _ _ _ _ (T6.setTop (mkF X.m 25 #[.val (.ref k), .val (.long nw), .second, .val (.ref iu), .unset, .unset, .unset, .unset, .unset] [(.ref oe)]))
  refine w6.astore (q := 27) (L2 := #[.val (.ref k), .val (.long nw), .second, .val (.ref iu), .val (.ref oe), .unset, .unset, .unset, .unset]) d100_25 rfl rfl rfl ?_
  refine w6.aloadN (q := 28) d100_27 rfl rfl rfl ?_
  refine w6.aload (q := 30) d100_28 rfl rfl rfl ?_
  have Eold := E
  refine w6.putF (q := 33) d100_30 (H.tw 169 rfl) Via.refl Fpu E (Or.inl (H.tw 170 rfl)) (H.tw 158 rfl) (ty := (.object "java/util/Optional")) (by decide) rfl rfl g (w6.sfE E (by decide) (by decide)) rfl fun T7 h7 w7 W7 sf7 => ?_
  have sz7 : h5.size ≤ h7.size := (Keep.of_wr W7).1
  replace E := E.wr W7
  replace Flw := Flw.other W7 (Or.inr (slot_ne (Or.inl (H.tw 166 rfl)) (Or.inl (H.tw 170 rfl)) (by decide) (t := (.object "java/util/Optional")) (t' := (.object "java/util/Optional")) (by decide) (by decide)))
  replace Fiu := Fiu.other W7 (Or.inr (slot_ne (Or.inl (H.tw 168 rfl)) (Or.inl (H.tw 170 rfl)) (by decide) (t := (.object "java/util/Optional")) (t' := (.object "java/util/Optional")) (by decide) (by decide)))
  replace Fpu := Fpu.same W7
  replace FL := FL.other W7 (Or.inr (slot_ne (Or.inr (H.tw 172 rfl)) (Or.inl (H.tw 170 rfl)) (by decide) (t := .long) (t' := (.object "java/util/Optional")) (by decide) (by decide)))
  replace Fbg := Fbg.other W7 (Or.inr (slot_ne (Or.inl (H.tw 213 rfl)) (Or.inl (H.tw 170 rfl)) (by decide) (t := .long) (t' := (.object "java/util/Optional")) (by decide) (by decide)))
  replace Fwr := Fwr.other W7 (Or.inr (slot_ne (Or.inl (H.tw 215 rfl)) (Or.inl (H.tw 170 rfl)) (by decide) (t := .int) (t' := (.object "java/util/Optional")) (by decide) (by decide)))
  replace Fan := Fan.other W7 (Or.inr (slot_ne (Or.inl (H.tw 217 rfl)) (Or.inl (H.tw 170 rfl)) (by decide) (t := .long) (t' := (.object "java/util/Optional")) (by decide) (by decide)))
  replace Fps := Fps.other W7 (Or.inr (slot_ne (Or.inl (H.tw 250 rfl)) (Or.inl (H.tw 170 rfl)) (by decide) (t := .long) (t' := (.object "java/util/Optional")) (by decide) (by decide)))
  replace KK := KK.wr W7 (Or.inl (List.mem_singleton.mpr rfl))
  replace Ol := Ol.keep Eold (by decide) (Keep.of_wr W7)
  replace Oi := Oi.keep Eold (by decide) (Keep.of_wr W7)
  replace Al := Al.keep Eold (by decide) (Keep.of_wr W7)
  refine w7.lconst (q := 34) (0 : Int64) d100_33 rfl rfl ?_
  refine w7.lstore (q := 36) (L2 := #[.val (.ref k), .val (.long nw), .second, .val (.ref iu), .val (.ref oe), .val (.long (0 : Int64)), .second, .unset, .unset]) d100_34 rfl rfl ?_
  refine w7.aload (q := 38) d100_36 rfl rfl rfl ?_
  refine w7.callV (q := 41) d100_38 (H.tw 196 rfl) (H.tw 197 rfl) (notFace_of_selects (C := "java/util/Optional") (args := G.a0) (H.tw 199 rfl)) (H.tw 199 rfl) (H.tw 198 rfl) (by decide) (Ooe.ext w7.old.2).1 (argsL := []) (rest := []) rfl (lenOf pd14 rfl) rfl (W := 0) (Nat.le_of_eq rfl) ((con_isP0 G H oe h7 w7.old (Ooe.ext w7.old.2)).pay w7 (H.tw 200 rfl) (H.tw 123 rfl) (by decide) (by decide)) (by decide) (by decide) rfl fun vm8 T8 h8 v8 w8 q8 => ?_
  obtain ⟨_, rfl, rfl, rfl⟩ := q8
  show Go _ _ _ _ (T8.setTop (mkF X.m 41 #[.val (.ref k), .val (.long nw), .second, .val (.ref iu), .val (.ref oe), .val (.long (0 : Int64)), .second, .unset, .unset] [(.int (0 : Int32))]))
  refine w8.ifY (q := 62) d100_41 ((if0 _ _).trans (teq rfl).1) (by decide) (by decide) ?_
  refine w8.aloadN (q := 63) d100_62 rfl rfl rfl ?_
  refine w8.getF (q := 66) d100_63 (H.tw 165 rfl) Via.refl Flw rfl fun T9 w9 => ?_
  refine w9.callV (q := 69) d100_66 (H.tw 196 rfl) (H.tw 197 rfl) (notFace_of_selects (C := "java/util/Optional") (args := G.a0) (H.tw 199 rfl)) (H.tw 199 rfl) (H.tw 198 rfl) (by decide) Ol.1 (argsL := []) (rest := []) rfl (lenOf pd14 rfl) rfl (W := 0) (Nat.le_of_eq rfl) ((con_isP1 G H lw x h7 w9.old Ol).pay w9 (H.tw 200 rfl) (H.tw 123 rfl) (by decide) (by decide)) (by decide) (by decide) rfl fun vm10 T10 h10 v10 w10 q10 => ?_
  obtain ⟨_, rfl, rfl, rfl⟩ := q10
  show Go _ _ _ _ (T10.setTop (mkF X.m 69 #[.val (.ref k), .val (.long nw), .second, .val (.ref iu), .val (.ref oe), .val (.long (0 : Int64)), .second, .unset, .unset] [(.int (1 : Int32))]))
  refine w10.ifN (q := 72) d100_69 ((if0 _ _).trans (feq (by decide)).1) rfl ?_
  refine w10.aloadN (q := 73) d100_72 rfl rfl rfl ?_
  refine w10.lloadN (q := 74) d100_73 rfl rfl ?_
  refine w10.aloadN (q := 75) d100_74 rfl rfl rfl ?_
  refine w10.callP (q := 78) d100_75 (H.tw 245 rfl) (H.tw 246 rfl) (H.tw 247 rfl) (H.tw 248 rfl) (H.tw 158 rfl) (by decide) E (argsL := []) (rest := [(.long nw), (.ref iu)]) rfl (lenOf pd72 rfl) rfl (W := 3) (Nat.le_of_eq rfl) ((con_npn G H.n k L an h7 w10.old E FL Fan Fwr Fps).pay w10 (H.tw 248 rfl) (H.tw 159 rfl) (by decide) (by decide)) (by decide) (by decide) rfl fun vm11 T11 h11 v11 w11 q11 => ?_
  obtain ⟨_, rfl, rfl, rfl⟩ := q11
  show Go _ _ _ _ (T11.setTop (mkF X.m 78 #[.val (.ref k), .val (.long nw), .second, .val (.ref iu), .val (.ref oe), .val (.long (0 : Int64)), .second, .unset, .unset] [(.long ((4 : Int64) * (L + an))), (.long nw), (.ref iu)]))
  refine w11.ladd (q := 79) d100_78 rfl ?_
  refine w11.callS (q := 82) d100_79 (H.tw 271 rfl) (H.tw 272 rfl) (H.tw 253 rfl) (H.tw 273 rfl) (by decide) (argsL := [(.long (nw + ((4 : Int64) * (L + an))))]) (rest := [(.ref iu)]) rfl (lenOf pd74 rfl) rfl (W := 1) (Nat.le_of_eq rfl) ((con_vo G H.n (nw + ((4 : Int64) * (L + an))) h7 w11.old).pay w11 (H.tw 273 rfl) (H.tw 253 rfl) (by decide) (by decide)) (by decide) (by decide) rfl fun vm12 T12 h12 v12 w12 q12 => ?_
  obtain ⟨_, rfl, rr, rfl, X12, Ar⟩ := q12
  show Go _ _ _ _ (T12.setTop (mkF X.m 82 #[.val (.ref k), .val (.long nw), .second, .val (.ref iu), .val (.ref oe), .val (.long (0 : Int64)), .second, .unset, .unset] [(.ref rr), (.ref iu)]))
  replace E := E.ext X12
  replace Flw := Flw.ext X12
  replace Fiu := Fiu.ext X12
  replace Fpu := Fpu.ext X12
  replace FL := FL.ext X12
  replace Fbg := Fbg.ext X12
  replace Fwr := Fwr.ext X12
  replace Fan := Fan.ext X12
  replace Fps := Fps.ext X12
  replace Ol := Ol.ext X12
  replace Oi := Oi.ext X12
  replace Al := Al.ext X12
  replace KK := KK.ext X12
  refine w12.callV (q := 85) d100_82 (H.tw 296 rfl) (H.tw 297 rfl) (notFace_of_selects (C := "java/util/Optional") (args := G.a0) (H.tw 299 rfl)) (H.tw 299 rfl) (H.tw 298 rfl) (by decide) Oi.1 (argsL := [(.ref rr)]) (rest := []) rfl (lenOf pd80 rfl) rfl (W := 0) (Nat.le_of_eq rfl) ((con_orE1 G H iu rr l h12 w12.old Oi).pay w12 (H.tw 300 rfl) (H.tw 123 rfl) (by decide) (by decide)) (by decide) (by decide) rfl fun vm13 T13 h13 v13 w13 q13 => ?_
  obtain ⟨_, rfl, rfl, rfl⟩ := q13
  show Go _ _ _ _ (T13.setTop (mkF X.m 85 #[.val (.ref k), .val (.long nw), .second, .val (.ref iu), .val (.ref oe), .val (.long (0 : Int64)), .second, .unset, .unset] [(.ref l)]))
  refine w13.castY (q := 88) d100_85 (H.tw 290 rfl) (Ins.self Al.1) rfl fun T14 w14 => ?_
  refine w14.callV (q := 91) d100_88 (H.tw 291 rfl) (H.tw 292 rfl) (notFace_of_selects (C := "java/lang/Long") (args := G.a0) (H.tw 294 rfl)) (H.tw 294 rfl) (H.tw 293 rfl) (by decide) Al.1 (argsL := []) (rest := []) rfl (lenOf pd72 rfl) rfl (W := 0) (Nat.le_of_eq rfl) ((con_lv G H.n l u h12 w14.old Al).pay w14 (H.tw 295 rfl) (H.tw 253 rfl) (by decide) (by decide)) (by decide) (by decide) rfl fun vm15 T15 h15 v15 w15 q15 => ?_
  obtain ⟨_, rfl, rfl, rfl⟩ := q15
  show Go _ _ _ _ (T15.setTop (mkF X.m 91 #[.val (.ref k), .val (.long nw), .second, .val (.ref iu), .val (.ref oe), .val (.long (0 : Int64)), .second, .unset, .unset] [(.long u)]))
  refine w15.lstore (q := 93) (L2 := #[.val (.ref k), .val (.long nw), .second, .val (.ref iu), .val (.ref oe), .val (.long (0 : Int64)), .second, .val (.long u), .second]) d100_91 rfl rfl ?_
  refine w15.lloadN (q := 94) d100_93 rfl rfl ?_
  refine w15.lload (q := 96) d100_94 rfl rfl ?_
  refine w15.lsub (q := 97) d100_96 rfl ?_
  refine w15.lconst (q := 98) (0 : Int64) d100_97 rfl rfl ?_
  refine w15.lcmp (q := 99) d100_98 rfl ?_
  by_cases cc1 : (lcmpW (nw - u) (0 : Int64)) < (0 : Int32)
  ·
    refine w15.ifY (q := 119) d100_99 ((if0 _ _).trans (tlt cc1).1) (by decide) (by decide) ?_
    refine w15.lloadN (q := 120) d100_119 rfl rfl ?_
    refine w15.aloadN (q := 121) d100_120 rfl rfl rfl ?_
    refine w15.getF (q := 124) d100_121 (H.tw 212 rfl) Via.refl Fbg rfl fun T16 w16 => ?_
    refine w16.lsub (q := 125) d100_124 rfl ?_
    refine w16.ldc2J (q := 128) d100_125 (H.tw 301 rfl) rfl ?_
    refine w16.aloadN (q := 129) d100_128 rfl rfl rfl ?_
    refine w16.callP (q := 132) d100_129 (H.tw 264 rfl) (H.tw 265 rfl) (H.tw 266 rfl) (H.tw 267 rfl) (H.tw 158 rfl) (by decide) E (argsL := []) (rest := [(.long (8 : Int64)), (.long (nw - bg))]) rfl (lenOf pd72 rfl) rfl (W := 4) (Nat.le_of_eq rfl) ((con_pn G H.n k L an h12 w16.old FL Fan Fwr).pay w16 (H.tw 267 rfl) (H.tw 159 rfl) (by decide) (by decide)) (by decide) (by decide) rfl fun vm17 T17 h17 v17 w17 q17 => ?_
    obtain ⟨_, rfl, rfl, rfl⟩ := q17
    show Go _ _ _ _ (T17.setTop (mkF X.m 132 #[.val (.ref k), .val (.long nw), .second, .val (.ref iu), .val (.ref oe), .val (.long (0 : Int64)), .second, .val (.long u), .second] [(.long ((4 : Int64) * (L + an))), (.long (8 : Int64)), (.long (nw - bg))]))
    refine w17.lmul (q := 133) d100_132 rfl ?_
    refine w17.lcmp (q := 134) d100_133 rfl ?_
    by_cases cc2 : (lcmpW (nw - bg) ((8 : Int64) * ((4 : Int64) * (L + an)))) < (0 : Int32)
    ·
      refine w17.ifY (q := 169) d100_134 ((if0 _ _).trans (tlt cc2).1) (by decide) (by decide) ?_
      refine w17.lload (q := 171) d100_169 rfl rfl ?_
      exact w17.retJ d100_171 rfl (by decide) (by decide) ⟨_, rfl, _, rfl, KK, Or.inr (Or.inr ⟨cc1, cc2, Ol, E, Flw, Fiu, Fpu, FL, Fbg, Fwr, Fan, Fps⟩)⟩
    ·
      refine w17.ifN (q := 137) d100_134 ((if0 _ _).trans (flt cc2).1) rfl ?_
      refine w17.aloadN (q := 138) d100_137 rfl rfl rfl ?_
      refine w17.dup (q := 139) d100_138 rfl rfl ?_
      refine w17.getF (q := 142) d100_139 (H.tw 249 rfl) Via.refl Fps rfl fun T18 w18 => ?_
      refine w18.lconst (q := 143) (1 : Int64) d100_142 rfl rfl ?_
      refine w18.ladd (q := 144) d100_143 rfl ?_
      have Eold := E
      refine w18.putF (q := 147) d100_144 (H.tw 249 rfl) Via.refl Fps E (Or.inl (H.tw 250 rfl)) (H.tw 158 rfl) (ty := .long) (by decide) rfl rfl g (w18.sfE E (by decide) (by decide)) rfl fun T19 h19 w19 W19 sf19 => ?_
      have sz19 : h12.size ≤ h19.size := (Keep.of_wr W19).1
      replace E := E.wr W19
      replace Flw := Flw.other W19 (Or.inr (slot_ne (Or.inl (H.tw 166 rfl)) (Or.inl (H.tw 250 rfl)) (by decide) (t := (.object "java/util/Optional")) (t' := .long) (by decide) (by decide)))
      replace Fiu := Fiu.other W19 (Or.inr (slot_ne (Or.inl (H.tw 168 rfl)) (Or.inl (H.tw 250 rfl)) (by decide) (t := (.object "java/util/Optional")) (t' := .long) (by decide) (by decide)))
      replace Fpu := Fpu.other W19 (Or.inr (slot_ne (Or.inl (H.tw 170 rfl)) (Or.inl (H.tw 250 rfl)) (by decide) (t := (.object "java/util/Optional")) (t' := .long) (by decide) (by decide)))
      replace FL := FL.other W19 (Or.inr (slot_ne (Or.inr (H.tw 172 rfl)) (Or.inl (H.tw 250 rfl)) (by decide) (t := .long) (t' := .long) (by decide) (by decide)))
      replace Fbg := Fbg.other W19 (Or.inr (slot_ne (Or.inl (H.tw 213 rfl)) (Or.inl (H.tw 250 rfl)) (by decide) (t := .long) (t' := .long) (by decide) (by decide)))
      replace Fwr := Fwr.other W19 (Or.inr (slot_ne (Or.inl (H.tw 215 rfl)) (Or.inl (H.tw 250 rfl)) (by decide) (t := .int) (t' := .long) (by decide) (by decide)))
      replace Fan := Fan.other W19 (Or.inr (slot_ne (Or.inl (H.tw 217 rfl)) (Or.inl (H.tw 250 rfl)) (by decide) (t := .long) (t' := .long) (by decide) (by decide)))
      replace Fps := Fps.same W19
      replace KK := KK.wr W19 (Or.inl (List.mem_singleton.mpr rfl))
      refine w19.aloadN (q := 148) d100_147 rfl rfl rfl ?_
      refine w19.lload (q := 150) d100_148 rfl rfl ?_
      refine w19.callS (q := 153) d100_150 (H.tw 271 rfl) (H.tw 272 rfl) (H.tw 253 rfl) (H.tw 273 rfl) (by decide) (argsL := [(.long u)]) (rest := [(.ref k)]) rfl (lenOf pd74 rfl) rfl (W := 1) (Nat.le_of_eq rfl) ((con_vo G H.n u h19 w19.old).pay w19 (H.tw 273 rfl) (H.tw 253 rfl) (by decide) (by decide)) (by decide) (by decide) rfl fun vm20 T20 h20 v20 w20 q20 => ?_
      obtain ⟨_, rfl, r3, rfl, X20, A3⟩ := q20
      show Go _ _ _ _ (T20.setTop (mkF X.m 153 #[.val (.ref k), .val (.long nw), .second, .val (.ref iu), .val (.ref oe), .val (.long (0 : Int64)), .second, .val (.long u), .second] [(.ref r3), (.ref k)]))
      replace E := E.ext X20
      replace Flw := Flw.ext X20
      replace Fiu := Fiu.ext X20
      replace Fpu := Fpu.ext X20
      replace FL := FL.ext X20
      replace Fbg := Fbg.ext X20
      replace Fwr := Fwr.ext X20
      replace Fan := Fan.ext X20
      replace Fps := Fps.ext X20
      replace KK := KK.ext X20
      refine w20.callS (q := 156) d100_153 (H.tw 218 rfl) (H.tw 219 rfl) (H.tw 123 rfl) (H.tw 220 rfl) (by decide) (argsL := [(.ref r3)]) (rest := [(.ref k)]) rfl (lenOf pd97 rfl) rfl (W := 1) (Nat.le_of_eq rfl) ((con_of G H r3 h20 w20.old).pay w20 (H.tw 220 rfl) (H.tw 123 rfl) (by decide) (by decide)) (by decide) (by decide) rfl fun vm21 T21 h21 v21 w21 q21 => ?_
      obtain ⟨_, rfl, o3, rfl, X21, O3⟩ := q21
      show Go _ _ _ _ (T21.setTop (mkF X.m 156 #[.val (.ref k), .val (.long nw), .second, .val (.ref iu), .val (.ref oe), .val (.long (0 : Int64)), .second, .val (.long u), .second] [(.ref o3), (.ref k)]))
      replace E := E.ext X21
      replace Flw := Flw.ext X21
      replace Fiu := Fiu.ext X21
      replace Fpu := Fpu.ext X21
      replace FL := FL.ext X21
      replace Fbg := Fbg.ext X21
      replace Fwr := Fwr.ext X21
      replace Fan := Fan.ext X21
      replace Fps := Fps.ext X21
      replace A3 := A3.ext X21
      replace KK := KK.ext X21
      have Eold := E
      refine w21.putF (q := 159) d100_156 (H.tw 169 rfl) Via.refl Fpu E (Or.inl (H.tw 170 rfl)) (H.tw 158 rfl) (ty := (.object "java/util/Optional")) (by decide) rfl rfl g (w21.sfE E (by decide) (by decide)) rfl fun T22 h22 w22 W22 sf22 => ?_
      have sz22 : h21.size ≤ h22.size := (Keep.of_wr W22).1
      replace E := E.wr W22
      replace Flw := Flw.other W22 (Or.inr (slot_ne (Or.inl (H.tw 166 rfl)) (Or.inl (H.tw 170 rfl)) (by decide) (t := (.object "java/util/Optional")) (t' := (.object "java/util/Optional")) (by decide) (by decide)))
      replace Fiu := Fiu.other W22 (Or.inr (slot_ne (Or.inl (H.tw 168 rfl)) (Or.inl (H.tw 170 rfl)) (by decide) (t := (.object "java/util/Optional")) (t' := (.object "java/util/Optional")) (by decide) (by decide)))
      replace Fpu := Fpu.same W22
      replace FL := FL.other W22 (Or.inr (slot_ne (Or.inr (H.tw 172 rfl)) (Or.inl (H.tw 170 rfl)) (by decide) (t := .long) (t' := (.object "java/util/Optional")) (by decide) (by decide)))
      replace Fbg := Fbg.other W22 (Or.inr (slot_ne (Or.inl (H.tw 213 rfl)) (Or.inl (H.tw 170 rfl)) (by decide) (t := .long) (t' := (.object "java/util/Optional")) (by decide) (by decide)))
      replace Fwr := Fwr.other W22 (Or.inr (slot_ne (Or.inl (H.tw 215 rfl)) (Or.inl (H.tw 170 rfl)) (by decide) (t := .int) (t' := (.object "java/util/Optional")) (by decide) (by decide)))
      replace Fan := Fan.other W22 (Or.inr (slot_ne (Or.inl (H.tw 217 rfl)) (Or.inl (H.tw 170 rfl)) (by decide) (t := .long) (t' := (.object "java/util/Optional")) (by decide) (by decide)))
      replace Fps := Fps.other W22 (Or.inr (slot_ne (Or.inl (H.tw 250 rfl)) (Or.inl (H.tw 170 rfl)) (by decide) (t := .long) (t' := (.object "java/util/Optional")) (by decide) (by decide)))
      replace KK := KK.wr W22 (Or.inl (List.mem_singleton.mpr rfl))
      replace O3 := O3.keep Eold (by decide) (Keep.of_wr W22)
      replace A3 := A3.keep Eold (by decide) (Keep.of_wr W22)
      refine w22.lload (q := 161) d100_159 rfl rfl ?_
      refine w22.lloadN (q := 162) d100_161 rfl rfl ?_
      refine w22.lsub (q := 163) d100_162 rfl ?_
      refine w22.lstore (q := 165) (L2 := #[.val (.ref k), .val (.long nw), .second, .val (.ref iu), .val (.ref oe), .val (.long (u - nw)), .second, .val (.long u), .second]) d100_163 rfl rfl ?_
      refine w22.aloadN (q := 166) d100_165 rfl rfl rfl ?_
      refine w22.callP (q := 169) d100_166 (H.tw 304 rfl) (H.tw 305 rfl) (H.tw 306 rfl) (H.tw 307 rfl) (H.tw 158 rfl) (by decide) E (argsL := []) (rest := []) rfl (lenOf pd46 rfl) rfl (W := 0) (Nat.le_of_eq rfl) ((con_end G H k oe _ _ _ _ _ _ _ _ Soe h22 w22.old E Flw Fiu Fpu FL Fbg Fwr Fan Fps g).pay w22 (H.tw 307 rfl) (H.tw 159 rfl) (by decide) (by decide)) (by decide) (by decide) rfl fun vm23 T23 h23 v23 w23 q23 => ?_
      obtain ⟨rfl, K23, E_, Flw_, Fiu_, Fpu_, FL_, Fbg_, Fwr_, Fan_, Fps_⟩ := q23
      show Go _ _ _ _ (T23.setTop (mkF X.m 169 #[.val (.ref k), .val (.long nw), .second, .val (.ref iu), .val (.ref oe), .val (.long (u - nw)), .second, .val (.long u), .second] []))
      replace O3 := O3.keep E (by decide) K23
      replace A3 := A3.keep E (by decide) K23
      replace KK := KK.trans K23 (fun x hx => Or.inl hx)
      refine w23.lload (q := 171) d100_169 rfl rfl ?_
      exact w23.retJ d100_171 rfl (by decide) (by decide) ⟨_, rfl, _, rfl, KK, Or.inr (Or.inl ⟨cc1, cc2, _, o3, r3, O3, A3, E_, Flw_, Fiu_, Fpu_, FL_, Fbg_, Fwr_, Fan_, Fps_⟩)⟩
  ·
    refine w15.ifN (q := 102) d100_99 ((if0 _ _).trans (flt cc1).1) rfl ?_
    refine w15.aloadN (q := 103) d100_102 rfl rfl rfl ?_
    refine w15.dup (q := 104) d100_103 rfl rfl ?_
    refine w15.getF (q := 107) d100_104 (H.tw 249 rfl) Via.refl Fps rfl fun T24 w24 => ?_
    refine w24.lconst (q := 108) (1 : Int64) d100_107 rfl rfl ?_
    refine w24.ladd (q := 109) d100_108 rfl ?_
    have Eold := E
    refine w24.putF (q := 112) d100_109 (H.tw 249 rfl) Via.refl Fps E (Or.inl (H.tw 250 rfl)) (H.tw 158 rfl) (ty := .long) (by decide) rfl rfl g (w24.sfE E (by decide) (by decide)) rfl fun T25 h25 w25 W25 sf25 => ?_
    have sz25 : h12.size ≤ h25.size := (Keep.of_wr W25).1
    replace E := E.wr W25
    replace Flw := Flw.other W25 (Or.inr (slot_ne (Or.inl (H.tw 166 rfl)) (Or.inl (H.tw 250 rfl)) (by decide) (t := (.object "java/util/Optional")) (t' := .long) (by decide) (by decide)))
    replace Fiu := Fiu.other W25 (Or.inr (slot_ne (Or.inl (H.tw 168 rfl)) (Or.inl (H.tw 250 rfl)) (by decide) (t := (.object "java/util/Optional")) (t' := .long) (by decide) (by decide)))
    replace Fpu := Fpu.other W25 (Or.inr (slot_ne (Or.inl (H.tw 170 rfl)) (Or.inl (H.tw 250 rfl)) (by decide) (t := (.object "java/util/Optional")) (t' := .long) (by decide) (by decide)))
    replace FL := FL.other W25 (Or.inr (slot_ne (Or.inr (H.tw 172 rfl)) (Or.inl (H.tw 250 rfl)) (by decide) (t := .long) (t' := .long) (by decide) (by decide)))
    replace Fbg := Fbg.other W25 (Or.inr (slot_ne (Or.inl (H.tw 213 rfl)) (Or.inl (H.tw 250 rfl)) (by decide) (t := .long) (t' := .long) (by decide) (by decide)))
    replace Fwr := Fwr.other W25 (Or.inr (slot_ne (Or.inl (H.tw 215 rfl)) (Or.inl (H.tw 250 rfl)) (by decide) (t := .int) (t' := .long) (by decide) (by decide)))
    replace Fan := Fan.other W25 (Or.inr (slot_ne (Or.inl (H.tw 217 rfl)) (Or.inl (H.tw 250 rfl)) (by decide) (t := .long) (t' := .long) (by decide) (by decide)))
    replace Fps := Fps.same W25
    replace KK := KK.wr W25 (Or.inl (List.mem_singleton.mpr rfl))
    refine w25.aloadN (q := 113) d100_112 rfl rfl rfl ?_
    refine w25.callP (q := 116) d100_113 (H.tw 304 rfl) (H.tw 305 rfl) (H.tw 306 rfl) (H.tw 307 rfl) (H.tw 158 rfl) (by decide) E (argsL := []) (rest := []) rfl (lenOf pd46 rfl) rfl (W := 0) (Nat.le_of_eq rfl) ((con_end G H k oe _ _ _ _ _ _ _ _ Soe h25 w25.old E Flw Fiu Fpu FL Fbg Fwr Fan Fps g).pay w25 (H.tw 307 rfl) (H.tw 159 rfl) (by decide) (by decide)) (by decide) (by decide) rfl fun vm26 T26 h26 v26 w26 q26 => ?_
    obtain ⟨rfl, K26, E_, Flw_, Fiu_, Fpu_, FL_, Fbg_, Fwr_, Fan_, Fps_⟩ := q26
    show Go _ _ _ _ (T26.setTop (mkF X.m 116 #[.val (.ref k), .val (.long nw), .second, .val (.ref iu), .val (.ref oe), .val (.long (0 : Int64)), .second, .val (.long u), .second] []))
    replace KK := KK.trans K26 (fun x hx => Or.inl hx)
    refine w26.goto (q := 169) d100_116 (by decide) (by decide) ?_
    refine w26.lload (q := 171) d100_169 rfl rfl ?_
    exact w26.retJ d100_171 rfl (by decide) (by decide) ⟨_, rfl, _, rfl, KK, Or.inl ⟨cc1, _, E_, Flw_, Fiu_, Fpu_, FL_, Fbg_, Fwr_, Fan_, Fps_⟩⟩
theorem d100_44 : decode prog_11_method_2_code 44 = .ok (.aload 4, 2) := by decide +kernel
theorem d100_46 : decode prog_11_method_2_code 46 = .ok (.invokevirtual 41, 3) := by decide +kernel
theorem d100_49 : decode prog_11_method_2_code 49 = .ok (.checkcast 45, 3) := by decide +kernel
theorem d100_52 : decode prog_11_method_2_code 52 = .ok (.invokevirtual 47, 3) := by decide +kernel
theorem d100_55 : decode prog_11_method_2_code 55 = .ok (.lload_n 1, 1) := by decide +kernel
theorem d100_56 : decode prog_11_method_2_code 56 = .ok (.lsub, 1) := by decide +kernel
theorem d100_57 : decode prog_11_method_2_code 57 = .ok (.lstore 5, 2) := by decide +kernel
theorem d100_59 : decode prog_11_method_2_code 59 = .ok (.goto 110, 3) := by decide +kernel
set_option maxRecDepth 65536 in
set_option maxHeartbeats 40000000 in
theorem con_w2 (G : Gx) (H : Hyp G) (k oe pu l : Nat) (L bg an ps nw u : Int64) (wr : Int32) (Soe : Sta G.Z G.Z.heap "java/util/Optional" "EMPTY" "Ljava/util/Optional;" (.ref oe)) (Ooe : Opt G.Z G.Z.heap oe .null) (h : Heap) (ho : Old G.Z G.n0 h) (E : Exa G.Z h k "com/example/versioned_table/versionedtable/KeyHold") (Flw : Fld G.Z h k "com/example/versioned_table/versionedtable/KeyHold" "lastWritten" "Ljava/util/Optional;" (.ref oe)) (Fiu : Fld G.Z h k "com/example/versioned_table/versionedtable/KeyHold" "idleUntil" "Ljava/util/Optional;" (.ref oe)) (Fpu : Fld G.Z h k "com/example/versioned_table/versionedtable/KeyHold" "pauseUntil" "Ljava/util/Optional;" (.ref pu)) (FL : Fld G.Z h k "com/example/versioned_table/versionedtable/KeyHold" "longestRetryWaitNanos" "J" (.long L)) (Fbg : Fld G.Z h k "com/example/versioned_table/versionedtable/KeyHold" "began" "J" (.long bg)) (Fwr : Fld G.Z h k "com/example/versioned_table/versionedtable/KeyHold" "writes" "I" (.int wr)) (Fan : Fld G.Z h k "com/example/versioned_table/versionedtable/KeyHold" "attemptNanos" "J" (.long an)) (Fps : Fld G.Z h k "com/example/versioned_table/versionedtable/KeyHold" "pauses" "J" (.long ps)) (g : G.n0 ≤ k) (Op_ : Opt G.Z h pu (.ref l)) (Al : LongAt G.Z h l u) :
    Con G (⟨"com/example/versioned_table/versionedtable/KeyHold", "waitBefore", "(J)J"⟩ : MethodName) prog_11_method_2_code 9 (some .long) [] ({ frames := 4, cells := 1, slots := 1, locals := 3075 } : Room) #[(.ref k), (.long nw)] h (vQ fun v h' => ∃ z : Int64, v = .long z ∧ Keep h h' [k] ∧ (((0 : Int32) < lcmpW (u - nw) (0 : Int64) ∧ Opt G.Z h' pu (.ref l) ∧ Exa G.Z h' k "com/example/versioned_table/versionedtable/KeyHold" ∧ Fld G.Z h' k "com/example/versioned_table/versionedtable/KeyHold" "lastWritten" "Ljava/util/Optional;" (.ref oe) ∧ Fld G.Z h' k "com/example/versioned_table/versionedtable/KeyHold" "idleUntil" "Ljava/util/Optional;" (.ref oe) ∧ Fld G.Z h' k "com/example/versioned_table/versionedtable/KeyHold" "pauseUntil" "Ljava/util/Optional;" (.ref pu) ∧ Fld G.Z h' k "com/example/versioned_table/versionedtable/KeyHold" "longestRetryWaitNanos" "J" (.long L) ∧ Fld G.Z h' k "com/example/versioned_table/versionedtable/KeyHold" "began" "J" (.long bg) ∧ Fld G.Z h' k "com/example/versioned_table/versionedtable/KeyHold" "writes" "I" (.int wr) ∧ Fld G.Z h' k "com/example/versioned_table/versionedtable/KeyHold" "attemptNanos" "J" (.long an) ∧ Fld G.Z h' k "com/example/versioned_table/versionedtable/KeyHold" "pauses" "J" (.long ps)) ∨ (¬ (0 : Int32) < lcmpW (u - nw) (0 : Int64) ∧ Exa G.Z h' k "com/example/versioned_table/versionedtable/KeyHold" ∧ Fld G.Z h' k "com/example/versioned_table/versionedtable/KeyHold" "lastWritten" "Ljava/util/Optional;" (.ref oe) ∧ Fld G.Z h' k "com/example/versioned_table/versionedtable/KeyHold" "idleUntil" "Ljava/util/Optional;" (.ref oe) ∧ Fld G.Z h' k "com/example/versioned_table/versionedtable/KeyHold" "pauseUntil" "Ljava/util/Optional;" (.ref oe) ∧ Fld G.Z h' k "com/example/versioned_table/versionedtable/KeyHold" "longestRetryWaitNanos" "J" (.long L) ∧ Fld G.Z h' k "com/example/versioned_table/versionedtable/KeyHold" "began" "J" (.long bg) ∧ Fld G.Z h' k "com/example/versioned_table/versionedtable/KeyHold" "writes" "I" (.int wr) ∧ Fld G.Z h' k "com/example/versioned_table/versionedtable/KeyHold" "attemptNanos" "J" (.long an) ∧ Fld G.Z h' k "com/example/versioned_table/versionedtable/KeyHold" "pauses" "J" (.long ps)))) := by
  refine Con.introN H.el ho (plainFor_of_name pn67) (Ls := #[.val (.ref k), .val (.long nw), .second, .unset, .unset, .unset, .unset, .unset, .unset]) (fun m => by first | (simp [entryFrame, mkF, argsToLocals, Value.category]; done) | rfl) ?_
  intro X vm T hN w
  have KK := Keep.refl h [k]
  refine w.aloadN (q := 1) d100_0 rfl rfl rfl ?_
  refine w.getF (q := 4) d100_1 (H.tw 167 rfl) Via.refl Fiu rfl fun T1 w1 => ?_
  refine w1.astoreN (q := 5) (L2 := #[.val (.ref k), .val (.long nw), .second, .val (.ref oe), .unset, .unset, .unset, .unset, .unset]) d100_4 rfl rfl rfl ?_
  refine w1.aloadN (q := 6) d100_5 rfl rfl rfl ?_
  refine w1.callS (q := 9) d100_6 (H.tw 164 rfl) (H.tw 122 rfl) (H.tw 123 rfl) (H.tw 124 rfl) (by decide) (argsL := []) (rest := [(.ref k)]) rfl (lenOf pd89 rfl) rfl (W := 1) (Nat.le_of_eq rfl) ((con_oe G H oe Soe h w1.old).pay w1 (H.tw 124 rfl) (H.tw 123 rfl) (by decide) (by decide)) (by decide) (by decide) rfl fun vm2 T2 h2 v2 w2 q2 => ?_
  obtain ⟨_, rfl, rfl, rfl⟩ := q2
  show Go _ _ _ _ (T2.setTop (mkF X.m 9 #[.val (.ref k), .val (.long nw), .second, .val (.ref oe), .unset, .unset, .unset, .unset, .unset] [(.ref oe), (.ref k)]))
  have Eold := E
  refine w2.putF (q := 12) d100_9 (H.tw 167 rfl) Via.refl Fiu E (Or.inl (H.tw 168 rfl)) (H.tw 158 rfl) (ty := (.object "java/util/Optional")) (by decide) rfl rfl g (w2.sfE E (by decide) (by decide)) rfl fun T3 h3 w3 W3 sf3 => ?_
  have sz3 : h.size ≤ h3.size := (Keep.of_wr W3).1
  replace E := E.wr W3
  replace Flw := Flw.other W3 (Or.inr (slot_ne (Or.inl (H.tw 166 rfl)) (Or.inl (H.tw 168 rfl)) (by decide) (t := (.object "java/util/Optional")) (t' := (.object "java/util/Optional")) (by decide) (by decide)))
  replace Fiu := Fiu.same W3
  replace Fpu := Fpu.other W3 (Or.inr (slot_ne (Or.inl (H.tw 170 rfl)) (Or.inl (H.tw 168 rfl)) (by decide) (t := (.object "java/util/Optional")) (t' := (.object "java/util/Optional")) (by decide) (by decide)))
  replace FL := FL.other W3 (Or.inr (slot_ne (Or.inr (H.tw 172 rfl)) (Or.inl (H.tw 168 rfl)) (by decide) (t := .long) (t' := (.object "java/util/Optional")) (by decide) (by decide)))
  replace Fbg := Fbg.other W3 (Or.inr (slot_ne (Or.inl (H.tw 213 rfl)) (Or.inl (H.tw 168 rfl)) (by decide) (t := .long) (t' := (.object "java/util/Optional")) (by decide) (by decide)))
  replace Fwr := Fwr.other W3 (Or.inr (slot_ne (Or.inl (H.tw 215 rfl)) (Or.inl (H.tw 168 rfl)) (by decide) (t := .int) (t' := (.object "java/util/Optional")) (by decide) (by decide)))
  replace Fan := Fan.other W3 (Or.inr (slot_ne (Or.inl (H.tw 217 rfl)) (Or.inl (H.tw 168 rfl)) (by decide) (t := .long) (t' := (.object "java/util/Optional")) (by decide) (by decide)))
  replace Fps := Fps.other W3 (Or.inr (slot_ne (Or.inl (H.tw 250 rfl)) (Or.inl (H.tw 168 rfl)) (by decide) (t := .long) (t' := (.object "java/util/Optional")) (by decide) (by decide)))
  replace KK := KK.wr W3 (Or.inl (List.mem_singleton.mpr rfl))
  replace Op_ := Op_.keep Eold (by decide) (Keep.of_wr W3)
  replace Al := Al.keep Eold (by decide) (Keep.of_wr W3)
  refine w3.aloadN (q := 13) d100_12 rfl rfl rfl ?_
  refine w3.getF (q := 16) d100_13 (H.tw 169 rfl) Via.refl Fpu rfl fun T4 w4 => ?_
  refine w4.lloadN (q := 17) d100_16 rfl rfl ?_
  refine w4.lam (q := 22) (fi := 15) (vals := [(.long nw)]) (st := [(.ref pu)]) hN d100_17 (H.tw 178 rfl) (H.tw 36 rfl) (by decide) (by decide +kernel) rfl (fit1 (t := .long) rfl rfl) rfl (Nat.le_of_ble_eq_true rfl) (by decide) (Nat.le_of_ble_eq_true rfl) rfl fun T5 h5 b5 cK5 e5 w5 E5 Mk5 Cl5 => ?_
  replace w5 : Wk G _ _ X _ T5 h5 1 1 := w5
  have sz5 : h3.size ≤ h5.size := E5.1
  show Go _ _ _ _ (T5.setTop (mkF X.m 22 #[.val (.ref k), .val (.long nw), .second, .val (.ref oe), .unset, .unset, .unset, .unset, .unset] [(.ref b5), (.ref pu)]))
  replace E := E.ext E5
  replace Flw := Flw.ext E5
  replace Fiu := Fiu.ext E5
  replace Fpu := Fpu.ext E5
  replace FL := FL.ext E5
  replace Fbg := Fbg.ext E5
  replace Fwr := Fwr.ext E5
  replace Fan := Fan.ext E5
  replace Fps := Fps.ext E5
  replace Op_ := Op_.ext E5
  replace Al := Al.ext E5
  replace KK := KK.ext E5
  refine w5.callV (q := 25) d100_22 (H.tw 181 rfl) (H.tw 182 rfl) (notFace_of_selects (C := "java/util/Optional") (args := G.a0) (H.tw 184 rfl)) (H.tw 184 rfl) (H.tw 183 rfl) (by decide) Op_.1 (argsL := [(.ref b5)]) (rest := []) rfl (lenOf pd96 rfl) rfl (W := 0) (Nat.le_of_eq rfl) ((con_fil1 G H pu b5 l cK5 nw u h5 w5.old Op_ Al Mk5 Cl5).pay w5 (H.tw 185 rfl) (H.tw 123 rfl) (by decide) (by decide)) (by decide) (by decide) rfl fun vm6 T6 h6 v6 w6 q6 => ?_
  obtain ⟨_, rfl, pr, rfl, rfl, dj⟩ := q6
  show Go _ _ _ _ (T6.setTop (mkF X.m 25 #[.val (.ref k), .val (.long nw), .second, .val (.ref oe), .unset, .unset, .unset, .unset, .unset] [(.ref pr)]))
  refine w6.astore (q := 27) (L2 := #[.val (.ref k), .val (.long nw), .second, .val (.ref oe), .val (.ref pr), .unset, .unset, .unset, .unset]) d100_25 rfl rfl rfl ?_
  refine w6.aloadN (q := 28) d100_27 rfl rfl rfl ?_
  refine w6.aload (q := 30) d100_28 rfl rfl rfl ?_
  rcases dj with ⟨ca, ea⟩ | ⟨ca, Sr_, Or_⟩
  ·
    rw [ea]
    have Eold := E
    refine w6.putF (q := 33) d100_30 (H.tw 169 rfl) Via.refl Fpu E (Or.inl (H.tw 170 rfl)) (H.tw 158 rfl) (ty := (.object "java/util/Optional")) (by decide) rfl rfl g (w6.sfE E (by decide) (by decide)) rfl fun T7 h7 w7 W7 sf7 => ?_
    have sz7 : h5.size ≤ h7.size := (Keep.of_wr W7).1
    replace E := E.wr W7
    replace Flw := Flw.other W7 (Or.inr (slot_ne (Or.inl (H.tw 166 rfl)) (Or.inl (H.tw 170 rfl)) (by decide) (t := (.object "java/util/Optional")) (t' := (.object "java/util/Optional")) (by decide) (by decide)))
    replace Fiu := Fiu.other W7 (Or.inr (slot_ne (Or.inl (H.tw 168 rfl)) (Or.inl (H.tw 170 rfl)) (by decide) (t := (.object "java/util/Optional")) (t' := (.object "java/util/Optional")) (by decide) (by decide)))
    replace Fpu := Fpu.same W7
    replace FL := FL.other W7 (Or.inr (slot_ne (Or.inr (H.tw 172 rfl)) (Or.inl (H.tw 170 rfl)) (by decide) (t := .long) (t' := (.object "java/util/Optional")) (by decide) (by decide)))
    replace Fbg := Fbg.other W7 (Or.inr (slot_ne (Or.inl (H.tw 213 rfl)) (Or.inl (H.tw 170 rfl)) (by decide) (t := .long) (t' := (.object "java/util/Optional")) (by decide) (by decide)))
    replace Fwr := Fwr.other W7 (Or.inr (slot_ne (Or.inl (H.tw 215 rfl)) (Or.inl (H.tw 170 rfl)) (by decide) (t := .int) (t' := (.object "java/util/Optional")) (by decide) (by decide)))
    replace Fan := Fan.other W7 (Or.inr (slot_ne (Or.inl (H.tw 217 rfl)) (Or.inl (H.tw 170 rfl)) (by decide) (t := .long) (t' := (.object "java/util/Optional")) (by decide) (by decide)))
    replace Fps := Fps.other W7 (Or.inr (slot_ne (Or.inl (H.tw 250 rfl)) (Or.inl (H.tw 170 rfl)) (by decide) (t := .long) (t' := (.object "java/util/Optional")) (by decide) (by decide)))
    replace KK := KK.wr W7 (Or.inl (List.mem_singleton.mpr rfl))
    replace Op_ := Op_.keep Eold (by decide) (Keep.of_wr W7)
    replace Al := Al.keep Eold (by decide) (Keep.of_wr W7)
    refine w7.lconst (q := 34) (0 : Int64) d100_33 rfl rfl ?_
    refine w7.lstore (q := 36) (L2 := #[.val (.ref k), .val (.long nw), .second, .val (.ref oe), .val (.ref pu), .val (.long (0 : Int64)), .second, .unset, .unset]) d100_34 rfl rfl ?_
    refine w7.aload (q := 38) d100_36 rfl rfl rfl ?_
    refine w7.callV (q := 41) d100_38 (H.tw 196 rfl) (H.tw 197 rfl) (notFace_of_selects (C := "java/util/Optional") (args := G.a0) (H.tw 199 rfl)) (H.tw 199 rfl) (H.tw 198 rfl) (by decide) Op_.1 (argsL := []) (rest := []) rfl (lenOf pd14 rfl) rfl (W := 0) (Nat.le_of_eq rfl) ((con_isP1 G H pu l h7 w7.old Op_).pay w7 (H.tw 200 rfl) (H.tw 123 rfl) (by decide) (by decide)) (by decide) (by decide) rfl fun vm8 T8 h8 v8 w8 q8 => ?_
    obtain ⟨_, rfl, rfl, rfl⟩ := q8
    show Go _ _ _ _ (T8.setTop (mkF X.m 41 #[.val (.ref k), .val (.long nw), .second, .val (.ref oe), .val (.ref pu), .val (.long (0 : Int64)), .second, .unset, .unset] [(.int (1 : Int32))]))
    refine w8.ifN (q := 44) d100_41 ((if0 _ _).trans (feq (by decide)).1) rfl ?_
    refine w8.aload (q := 46) d100_44 rfl rfl rfl ?_
    refine w8.callV (q := 49) d100_46 (H.tw 316 rfl) (H.tw 317 rfl) (notFace_of_selects (C := "java/util/Optional") (args := G.a0) (H.tw 319 rfl)) (H.tw 319 rfl) (H.tw 318 rfl) (by decide) Op_.1 (argsL := []) (rest := []) rfl (lenOf pd91 rfl) rfl (W := 0) (Nat.le_of_eq rfl) ((con_get G H pu l h7 w8.old Op_).pay w8 (H.tw 320 rfl) (H.tw 123 rfl) (by decide) (by decide)) (by decide) (by decide) rfl fun vm9 T9 h9 v9 w9 q9 => ?_
    obtain ⟨_, rfl, rfl, rfl⟩ := q9
    show Go _ _ _ _ (T9.setTop (mkF X.m 49 #[.val (.ref k), .val (.long nw), .second, .val (.ref oe), .val (.ref pu), .val (.long (0 : Int64)), .second, .unset, .unset] [(.ref l)]))
    refine w9.castY (q := 52) d100_49 (H.tw 290 rfl) (Ins.self Al.1) rfl fun T10 w10 => ?_
    refine w10.callV (q := 55) d100_52 (H.tw 291 rfl) (H.tw 292 rfl) (notFace_of_selects (C := "java/lang/Long") (args := G.a0) (H.tw 294 rfl)) (H.tw 294 rfl) (H.tw 293 rfl) (by decide) Al.1 (argsL := []) (rest := []) rfl (lenOf pd72 rfl) rfl (W := 0) (Nat.le_of_eq rfl) ((con_lv G H.n l u h7 w10.old Al).pay w10 (H.tw 295 rfl) (H.tw 253 rfl) (by decide) (by decide)) (by decide) (by decide) rfl fun vm11 T11 h11 v11 w11 q11 => ?_
    obtain ⟨_, rfl, rfl, rfl⟩ := q11
    show Go _ _ _ _ (T11.setTop (mkF X.m 55 #[.val (.ref k), .val (.long nw), .second, .val (.ref oe), .val (.ref pu), .val (.long (0 : Int64)), .second, .unset, .unset] [(.long u)]))
    refine w11.lloadN (q := 56) d100_55 rfl rfl ?_
    refine w11.lsub (q := 57) d100_56 rfl ?_
    refine w11.lstore (q := 59) (L2 := #[.val (.ref k), .val (.long nw), .second, .val (.ref oe), .val (.ref pu), .val (.long (u - nw)), .second, .unset, .unset]) d100_57 rfl rfl ?_
    refine w11.goto (q := 169) d100_59 (by decide) (by decide) ?_
    refine w11.lload (q := 171) d100_169 rfl rfl ?_
    exact w11.retJ d100_171 rfl (by decide) (by decide) ⟨_, rfl, _, rfl, KK, Or.inl ⟨ca, Op_, E, Flw, Fiu, Fpu, FL, Fbg, Fwr, Fan, Fps⟩⟩
  ·
    have epr : pr = oe := sta_uniq Sr_ Soe
    rw [epr]
    have Eold := E
    refine w6.putF (q := 33) d100_30 (H.tw 169 rfl) Via.refl Fpu E (Or.inl (H.tw 170 rfl)) (H.tw 158 rfl) (ty := (.object "java/util/Optional")) (by decide) rfl rfl g (w6.sfE E (by decide) (by decide)) rfl fun T12 h12 w12 W12 sf12 => ?_
    have sz12 : h5.size ≤ h12.size := (Keep.of_wr W12).1
    replace E := E.wr W12
    replace Flw := Flw.other W12 (Or.inr (slot_ne (Or.inl (H.tw 166 rfl)) (Or.inl (H.tw 170 rfl)) (by decide) (t := (.object "java/util/Optional")) (t' := (.object "java/util/Optional")) (by decide) (by decide)))
    replace Fiu := Fiu.other W12 (Or.inr (slot_ne (Or.inl (H.tw 168 rfl)) (Or.inl (H.tw 170 rfl)) (by decide) (t := (.object "java/util/Optional")) (t' := (.object "java/util/Optional")) (by decide) (by decide)))
    replace Fpu := Fpu.same W12
    replace FL := FL.other W12 (Or.inr (slot_ne (Or.inr (H.tw 172 rfl)) (Or.inl (H.tw 170 rfl)) (by decide) (t := .long) (t' := (.object "java/util/Optional")) (by decide) (by decide)))
    replace Fbg := Fbg.other W12 (Or.inr (slot_ne (Or.inl (H.tw 213 rfl)) (Or.inl (H.tw 170 rfl)) (by decide) (t := .long) (t' := (.object "java/util/Optional")) (by decide) (by decide)))
    replace Fwr := Fwr.other W12 (Or.inr (slot_ne (Or.inl (H.tw 215 rfl)) (Or.inl (H.tw 170 rfl)) (by decide) (t := .int) (t' := (.object "java/util/Optional")) (by decide) (by decide)))
    replace Fan := Fan.other W12 (Or.inr (slot_ne (Or.inl (H.tw 217 rfl)) (Or.inl (H.tw 170 rfl)) (by decide) (t := .long) (t' := (.object "java/util/Optional")) (by decide) (by decide)))
    replace Fps := Fps.other W12 (Or.inr (slot_ne (Or.inl (H.tw 250 rfl)) (Or.inl (H.tw 170 rfl)) (by decide) (t := .long) (t' := (.object "java/util/Optional")) (by decide) (by decide)))
    replace KK := KK.wr W12 (Or.inl (List.mem_singleton.mpr rfl))
    refine w12.lconst (q := 34) (0 : Int64) d100_33 rfl rfl ?_
    refine w12.lstore (q := 36) (L2 := #[.val (.ref k), .val (.long nw), .second, .val (.ref oe), .val (.ref oe), .val (.long (0 : Int64)), .second, .unset, .unset]) d100_34 rfl rfl ?_
    refine w12.aload (q := 38) d100_36 rfl rfl rfl ?_
    refine w12.callV (q := 41) d100_38 (H.tw 196 rfl) (H.tw 197 rfl) (notFace_of_selects (C := "java/util/Optional") (args := G.a0) (H.tw 199 rfl)) (H.tw 199 rfl) (H.tw 198 rfl) (by decide) (Ooe.ext w12.old.2).1 (argsL := []) (rest := []) rfl (lenOf pd14 rfl) rfl (W := 0) (Nat.le_of_eq rfl) ((con_isP0 G H oe h12 w12.old (Ooe.ext w12.old.2)).pay w12 (H.tw 200 rfl) (H.tw 123 rfl) (by decide) (by decide)) (by decide) (by decide) rfl fun vm13 T13 h13 v13 w13 q13 => ?_
    obtain ⟨_, rfl, rfl, rfl⟩ := q13
    show Go _ _ _ _ (T13.setTop (mkF X.m 41 #[.val (.ref k), .val (.long nw), .second, .val (.ref oe), .val (.ref oe), .val (.long (0 : Int64)), .second, .unset, .unset] [(.int (0 : Int32))]))
    refine w13.ifY (q := 62) d100_41 ((if0 _ _).trans (teq rfl).1) (by decide) (by decide) ?_
    refine w13.aloadN (q := 63) d100_62 rfl rfl rfl ?_
    refine w13.getF (q := 66) d100_63 (H.tw 165 rfl) Via.refl Flw rfl fun T14 w14 => ?_
    refine w14.callV (q := 69) d100_66 (H.tw 196 rfl) (H.tw 197 rfl) (notFace_of_selects (C := "java/util/Optional") (args := G.a0) (H.tw 199 rfl)) (H.tw 199 rfl) (H.tw 198 rfl) (by decide) (Ooe.ext w14.old.2).1 (argsL := []) (rest := []) rfl (lenOf pd14 rfl) rfl (W := 0) (Nat.le_of_eq rfl) ((con_isP0 G H oe h12 w14.old (Ooe.ext w14.old.2)).pay w14 (H.tw 200 rfl) (H.tw 123 rfl) (by decide) (by decide)) (by decide) (by decide) rfl fun vm15 T15 h15 v15 w15 q15 => ?_
    obtain ⟨_, rfl, rfl, rfl⟩ := q15
    show Go _ _ _ _ (T15.setTop (mkF X.m 69 #[.val (.ref k), .val (.long nw), .second, .val (.ref oe), .val (.ref oe), .val (.long (0 : Int64)), .second, .unset, .unset] [(.int (0 : Int32))]))
    refine w15.ifY (q := 169) d100_69 ((if0 _ _).trans (teq rfl).1) (by decide) (by decide) ?_
    refine w15.lload (q := 171) d100_169 rfl rfl ?_
    exact w15.retJ d100_171 rfl (by decide) (by decide) ⟨_, rfl, _, rfl, KK, Or.inr ⟨ca, E, Flw, Fiu, Fpu, FL, Fbg, Fwr, Fan, Fps⟩⟩
theorem pd101 : parseMethodDescriptor "(Lcom/example/versioned_table/versionedtable/RecordKey;JLjava/lang/String;ILjava/util/Optional;Ljava/util/Optional;)V" = some ⟨[(.object "com/example/versioned_table/versionedtable/RecordKey"), .long, (.object "java/lang/String"), .int, (.object "java/util/Optional"), (.object "java/util/Optional")], none⟩ := by decide +kernel
theorem pd102 : parseMethodDescriptor "(Lcom/example/versioned_table/versionedtable/StoredRecord;Lcom/example/versioned_table/versionedtable/StoredRecord;JJ)V" = some ⟨[(.object "com/example/versioned_table/versionedtable/StoredRecord"), (.object "com/example/versioned_table/versionedtable/StoredRecord"), .long, .long], none⟩ := by decide +kernel
theorem pn103 : plainName "com/example/versioned_table/versionedtable/KeyHoldHoldsPinLaw" = true := by first | (simp [plainName, overriddenIn]; done) | decide +kernel
set_option maxRecDepth 65536 in
set_option maxHeartbeats 40000000 in
theorem con_law (G : Gx) (H : Hyp G) (xw tz ya yb yc : Int64) (fg : Int32) (h : Heap) (ho : Old G.Z G.n0 h)  :
    Con G x code maxLocals ret tables_1 room_1 #[(.long xw), (.long tz), (.long ya), (.long yb), (.long yc), (.int fg)] h (vQ fun v _ => v = .int 1) := by
  refine Con.intro H.el ho (plainFor_of_name pn103) (Ls := #[.val (.long xw), .second, .val (.long tz), .second, .val (.long ya), .second, .val (.long yb), .second, .val (.long yc), .second, .val (.int fg), .unset, .unset, .unset, .unset, .unset, .unset, .unset, .unset, .unset, .unset, .unset, .unset, .unset, .unset, .unset, .unset, .unset, .unset, .unset, .unset, .unset, .unset, .unset, .unset, .unset, .unset, .unset]) (fun m => by first | (simp [entryFrame, mkF, argsToLocals, Value.category, maxLocals]; done) | rfl) ?_
  intro X vm T w
  obtain ⟨⟨lc, lcell, Slc, Blc⟩, hfm, ⟨oi, Soi, Eoi, Foi⟩, oe, Soe, Ooe⟩ := H.mo
  refine w.lloadN (q := 1) at_0 rfl rfl ?_
  refine w.ldc2J (q := 4) at_1 (H.tw 0 rfl) rfl ?_
  refine w.land (q := 5) at_4 rfl ?_
  refine w.lstore (q := 7) (L2 := #[.val (.long xw), .second, .val (.long tz), .second, .val (.long ya), .second, .val (.long yb), .second, .val (.long yc), .second, .val (.int fg), .val (.long (xw &&& (68719476735 : Int64))), .second, .unset, .unset, .unset, .unset, .unset, .unset, .unset, .unset, .unset, .unset, .unset, .unset, .unset, .unset, .unset, .unset, .unset, .unset, .unset, .unset, .unset, .unset, .unset, .unset, .unset]) at_5 rfl rfl ?_
  refine w.lloadN (q := 8) at_7 rfl rfl ?_
  refine w.bipush (q := 10) (36 : Int32) at_8 rfl rfl ?_
  refine w.lushr (q := 11) at_10 rfl ?_
  refine w.lstore (q := 13) (L2 := #[.val (.long xw), .second, .val (.long tz), .second, .val (.long ya), .second, .val (.long yb), .second, .val (.long yc), .second, .val (.int fg), .val (.long (xw &&& (68719476735 : Int64))), .second, .val (.long ((xw.toUInt64 >>> ((36 : Int32) &&& 0x3f).toInt64.toUInt64).toInt64)), .second, .unset, .unset, .unset, .unset, .unset, .unset, .unset, .unset, .unset, .unset, .unset, .unset, .unset, .unset, .unset, .unset, .unset, .unset, .unset, .unset, .unset, .unset, .unset]) at_11 rfl rfl ?_
  refine w.lload (q := 15) at_13 rfl rfl ?_
  refine w.ldc2J (q := 18) at_15 (H.tw 1 rfl) rfl ?_
  refine w.land (q := 19) at_18 rfl ?_
  refine w.lstore (q := 21) (L2 := #[.val (.long xw), .second, .val (.long tz), .second, .val (.long ya), .second, .val (.long yb), .second, .val (.long yc), .second, .val (.int fg), .val (.long (xw &&& (68719476735 : Int64))), .second, .val (.long ((xw.toUInt64 >>> ((36 : Int32) &&& 0x3f).toInt64.toUInt64).toInt64)), .second, .val (.long (ya &&& (8796093022207 : Int64))), .second, .unset, .unset, .unset, .unset, .unset, .unset, .unset, .unset, .unset, .unset, .unset, .unset, .unset, .unset, .unset, .unset, .unset, .unset, .unset, .unset, .unset]) at_19 rfl rfl ?_
  refine w.lload (q := 23) at_21 rfl rfl ?_
  refine w.ldc2J (q := 26) at_23 (H.tw 1 rfl) rfl ?_
  refine w.land (q := 27) at_26 rfl ?_
  refine w.lstore (q := 29) (L2 := #[.val (.long xw), .second, .val (.long tz), .second, .val (.long ya), .second, .val (.long yb), .second, .val (.long yc), .second, .val (.int fg), .val (.long (xw &&& (68719476735 : Int64))), .second, .val (.long ((xw.toUInt64 >>> ((36 : Int32) &&& 0x3f).toInt64.toUInt64).toInt64)), .second, .val (.long (ya &&& (8796093022207 : Int64))), .second, .val (.long (yb &&& (8796093022207 : Int64))), .second, .unset, .unset, .unset, .unset, .unset, .unset, .unset, .unset, .unset, .unset, .unset, .unset, .unset, .unset, .unset, .unset, .unset, .unset, .unset]) at_27 rfl rfl ?_
  refine w.lload (q := 31) at_29 rfl rfl ?_
  refine w.ldc2J (q := 34) at_31 (H.tw 1 rfl) rfl ?_
  refine w.land (q := 35) at_34 rfl ?_
  refine w.lstore (q := 37) (L2 := #[.val (.long xw), .second, .val (.long tz), .second, .val (.long ya), .second, .val (.long yb), .second, .val (.long yc), .second, .val (.int fg), .val (.long (xw &&& (68719476735 : Int64))), .second, .val (.long ((xw.toUInt64 >>> ((36 : Int32) &&& 0x3f).toInt64.toUInt64).toInt64)), .second, .val (.long (ya &&& (8796093022207 : Int64))), .second, .val (.long (yb &&& (8796093022207 : Int64))), .second, .val (.long (yc &&& (8796093022207 : Int64))), .second, .unset, .unset, .unset, .unset, .unset, .unset, .unset, .unset, .unset, .unset, .unset, .unset, .unset, .unset, .unset, .unset, .unset]) at_35 rfl rfl ?_
  refine w.iload (q := 39) at_37 rfl rfl ?_
  refine w.iconst (q := 40) (1 : Int32) at_39 rfl rfl ?_
  refine w.iand (q := 41) at_40 rfl ?_
  obtain ⟨lg, e_lg⟩ : ∃ z, z = (xw &&& (68719476735 : Int64)) := ⟨_, rfl⟩
  rw [← e_lg]
  obtain ⟨na, e_na⟩ : ∃ z, z = ((xw.toUInt64 >>> ((36 : Int32) &&& 0x3f).toInt64.toUInt64).toInt64) := ⟨_, rfl⟩
  rw [← e_na]
  obtain ⟨ga, e_ga⟩ : ∃ z, z = (ya &&& (8796093022207 : Int64)) := ⟨_, rfl⟩
  rw [← e_ga]
  obtain ⟨gb, e_gb⟩ : ∃ z, z = (yb &&& (8796093022207 : Int64)) := ⟨_, rfl⟩
  rw [← e_gb]
  obtain ⟨gc, e_gc⟩ : ∃ z, z = (yc &&& (8796093022207 : Int64)) := ⟨_, rfl⟩
  rw [← e_gc]
  have bp := p_bd (lg := lg) (na := na) (by rw [e_lg]; exact mask36 xw) (by rw [e_na]; exact shr_bd xw)
  have bb : 0 ≤ gb.toInt ∧ gb.toInt ≤ 8796093022207 := by rw [e_gb]; exact mask43 yb
  show Go _ _ _ _ (T.setTop (mkF X.m 41 #[.val (.long xw), .second, .val (.long tz), .second, .val (.long ya), .second, .val (.long yb), .second, .val (.long yc), .second, .val (.int fg), .val (.long lg), .second, .val (.long na), .second, .val (.long ga), .second, .val (.long gb), .second, .val (.long gc), .second, .unset, .unset, .unset, .unset, .unset, .unset, .unset, .unset, .unset, .unset, .unset, .unset, .unset, .unset, .unset, .unset, .unset] [(.int (fg &&& (1 : Int32)))]))
  have key : ∀ (la id_ se : Int32), (la = 0 ∨ la = 1) → (id_ = 0 ∨ id_ = 1) → (la = 0 → id_ = 0) → (se = 0 ∨ se = 1) → Go G room_1 X (vQ fun v _ => v = .int 1) (T.setTop (mkF X.m 84 #[.val (.long xw), .second, .val (.long tz), .second, .val (.long ya), .second, .val (.long yb), .second, .val (.long yc), .second, .val (.int fg), .val (.long lg), .second, .val (.long na), .second, .val (.long ga), .second, .val (.long gb), .second, .val (.long gc), .second, .val (.int la), .val (.int id_), .val (.int se), .unset, .unset, .unset, .unset, .unset, .unset, .unset, .unset, .unset, .unset, .unset, .unset, .unset, .unset] [])) := by
    intro la id_ se hla hid hli hse
    refine w.ldc2J (q := 87) at_84 (H.tw 2 rfl) rfl ?_
    refine w.lload (q := 89) at_87 rfl rfl ?_
    refine w.lload (q := 91) at_89 rfl rfl ?_
    refine w.ladd (q := 92) at_91 rfl ?_
    refine w.lmul (q := 93) at_92 rfl ?_
    refine w.lstore (q := 95) (L2 := #[.val (.long xw), .second, .val (.long tz), .second, .val (.long ya), .second, .val (.long yb), .second, .val (.long yc), .second, .val (.int fg), .val (.long lg), .second, .val (.long na), .second, .val (.long ga), .second, .val (.long gb), .second, .val (.long gc), .second, .val (.int la), .val (.int id_), .val (.int se), .val (.long ((4 : Int64) * (lg + na))), .second, .unset, .unset, .unset, .unset, .unset, .unset, .unset, .unset, .unset, .unset, .unset, .unset]) at_93 rfl rfl ?_
    refine w.lload (q := 97) at_95 rfl rfl ?_
    refine w.lload (q := 99) at_97 rfl rfl ?_
    refine w.ladd (q := 100) at_99 rfl ?_
    refine w.lstore (q := 102) (L2 := #[.val (.long xw), .second, .val (.long tz), .second, .val (.long ya), .second, .val (.long yb), .second, .val (.long yc), .second, .val (.int fg), .val (.long lg), .second, .val (.long na), .second, .val (.long ga), .second, .val (.long gb), .second, .val (.long gc), .second, .val (.int la), .val (.int id_), .val (.int se), .val (.long ((4 : Int64) * (lg + na))), .second, .val (.long (ga + gb)), .second, .unset, .unset, .unset, .unset, .unset, .unset, .unset, .unset, .unset, .unset]) at_100 rfl rfl ?_
    refine w.lload (q := 104) at_102 rfl rfl ?_
    refine w.lload (q := 106) at_104 rfl rfl ?_
    refine w.ladd (q := 107) at_106 rfl ?_
    refine w.lstore (q := 109) (L2 := #[.val (.long xw), .second, .val (.long tz), .second, .val (.long ya), .second, .val (.long yb), .second, .val (.long yc), .second, .val (.int fg), .val (.long lg), .second, .val (.long na), .second, .val (.long ga), .second, .val (.long gb), .second, .val (.long gc), .second, .val (.int la), .val (.int id_), .val (.int se), .val (.long ((4 : Int64) * (lg + na))), .second, .val (.long (ga + gb)), .second, .val (.long ((ga + gb) + gc)), .second, .unset, .unset, .unset, .unset, .unset, .unset, .unset, .unset]) at_107 rfl rfl ?_
    refine w.newO (q := 112) at_109 (H.tw 3 rfl) (H.tw 4 rfl) (H.tw 5 rfl) (by decide) (by decide) rfl fun T1 h1 b1 e1 w1 E1 A1 D1 U1 => ?_
    have lt1 : b1 < h1.size := A1.lt
    have sz1 : h.size ≤ h1.size := E1.1
    have F1_partition : Fld G.Z h1 b1 "com/example/versioned_table/versionedtable/RecordKey" "partition" "Ljava/lang/String;" .null := D1 (Or.inr (H.tw 114 rfl)) (ty := (.object "java/lang/String")) (by decide)
    have F1_sort : Fld G.Z h1 b1 "com/example/versioned_table/versionedtable/RecordKey" "sort" "Ljava/lang/String;" .null := D1 (Or.inr (H.tw 116 rfl)) (ty := (.object "java/lang/String")) (by decide)
    have g1 : G.n0 ≤ b1 := by have := ho.2.1; have := ho.1; omega
    refine w1.dup (q := 113) at_112 rfl rfl ?_
    refine w1.ldcS (q := 115) (sz := 4) (vs := [(.int (112 : Int32))]) (z := 1) at_113 H.wd (H.tw 6 rfl) H.sa (H.mem (by decide)) ⟨by decide, rfl⟩ (by decide) rfl (by decide) (by decide) (by decide) (by decide) rfl fun vm2 T2 h2 a2 bb2 kb2 w2 X2 ch2 A1_2 A2_2 A3_2 A4_2 => ?_
    have sz2 : h1.size ≤ h2.size := X2.1
    refine w2.ldcS (q := 117) (sz := 4) (vs := [(.int (115 : Int32))]) (z := 1) at_115 H.wd (H.tw 14 rfl) H.sa (H.mem (by decide)) ⟨by decide, rfl⟩ (by decide) rfl (by decide) (by decide) (by decide) (by decide) rfl fun vm3 T3 h3 a3 bb3 kb3 w3 X3 ch3 A1_3 A2_3 A3_3 A4_3 => ?_
    have sz3 : h2.size ≤ h3.size := X3.1
    have XX := xtr X2 X3
    have SA : S1 G.Z h3 a2 112 := ⟨bb2, kb2, A1_2.ext X3, A3_2.ext X3, A2_2.ext X3, A4_2.ext X3⟩
    have SB : S1 G.Z h3 a3 115 := ⟨bb3, kb3, A1_3, A3_3, A2_3, A4_3⟩
    refine w3.callC (q := 120) at_117 rfl (H.tw 15 rfl) (H.tw 16 rfl) (H.tw 17 rfl) (by decide) (a := b1) (argsL := [(.ref a2), (.ref a3)]) (rest := [(.ref b1)]) rfl (lenOf pd39 rfl) rfl (W := 1) (Nat.le_of_eq rfl) ((con_rk G H b1 a2 a3 (112 : Int32) (115 : Int32) h3 w3.old (A1.ext XX) (F1_partition.ext XX) (F1_sort.ext XX) g1 SA SB (by decide) (by decide) (by decide) (by decide)).pay w3 (H.tw 17 rfl) (H.tw 5 rfl) (by decide) (by decide)) (by decide) (by decide) rfl fun vm4 T4 h4 v4 w4 q4 => ?_
    obtain ⟨rfl, K4, Ek⟩ := q4
    show Go _ _ _ _ (T4.setTop (mkF X.m 120 #[.val (.long xw), .second, .val (.long tz), .second, .val (.long ya), .second, .val (.long yb), .second, .val (.long yc), .second, .val (.int fg), .val (.long lg), .second, .val (.long na), .second, .val (.long ga), .second, .val (.long gb), .second, .val (.long gc), .second, .val (.int la), .val (.int id_), .val (.int se), .val (.long ((4 : Int64) * (lg + na))), .second, .val (.long (ga + gb)), .second, .val (.long ((ga + gb) + gc)), .second, .unset, .unset, .unset, .unset, .unset, .unset, .unset, .unset] [(.ref b1)]))
    refine w4.astore (q := 122) (L2 := #[.val (.long xw), .second, .val (.long tz), .second, .val (.long ya), .second, .val (.long yb), .second, .val (.long yc), .second, .val (.int fg), .val (.long lg), .second, .val (.long na), .second, .val (.long ga), .second, .val (.long gb), .second, .val (.long gc), .second, .val (.int la), .val (.int id_), .val (.int se), .val (.long ((4 : Int64) * (lg + na))), .second, .val (.long (ga + gb)), .second, .val (.long ((ga + gb) + gc)), .second, .val (.ref b1), .unset, .unset, .unset, .unset, .unset, .unset, .unset]) at_120 rfl rfl rfl ?_
    have szk := K4.1
    refine w4.newO (q := 125) at_122 (H.tw 117 rfl) (H.tw 118 rfl) (H.tw 119 rfl) (by decide) (by decide) rfl fun T5 h5 b5 e5 w5 E5 A5 D5 U5 => ?_
    have lt5 : b5 < h5.size := A5.lt
    have sz5 : h4.size ≤ h5.size := E5.1
    have F5_key : Fld G.Z h5 b5 "com/example/versioned_table/versionedtable/StoredRecord" "key" "Lcom/example/versioned_table/versionedtable/RecordKey;" .null := D5 (Or.inr (H.tw 146 rfl)) (ty := (.object "com/example/versioned_table/versionedtable/RecordKey")) (by decide)
    have F5_version : Fld G.Z h5 b5 "com/example/versioned_table/versionedtable/StoredRecord" "version" "J" (.long (0 : Int64)) := D5 (Or.inr (H.tw 148 rfl)) (ty := .long) (by decide)
    have F5_data : Fld G.Z h5 b5 "com/example/versioned_table/versionedtable/StoredRecord" "data" "Ljava/lang/String;" .null := D5 (Or.inr (H.tw 150 rfl)) (ty := (.object "java/lang/String")) (by decide)
    have F5_dataVersion : Fld G.Z h5 b5 "com/example/versioned_table/versionedtable/StoredRecord" "dataVersion" "I" (.int (0 : Int32)) := D5 (Or.inr (H.tw 152 rfl)) (ty := .int) (by decide)
    have F5_expiresAt : Fld G.Z h5 b5 "com/example/versioned_table/versionedtable/StoredRecord" "expiresAt" "Ljava/util/Optional;" .null := D5 (Or.inr (H.tw 154 rfl)) (ty := (.object "java/util/Optional")) (by decide)
    have F5_lifeId : Fld G.Z h5 b5 "com/example/versioned_table/versionedtable/StoredRecord" "lifeId" "Ljava/util/Optional;" .null := D5 (Or.inr (H.tw 156 rfl)) (ty := (.object "java/util/Optional")) (by decide)
    have g5 : G.n0 ≤ b5 := by have := ho.2.1; have := ho.1; omega
    refine w5.dup (q := 126) at_125 rfl rfl ?_
    refine w5.aload (q := 128) at_126 rfl rfl rfl ?_
    refine w5.lconst (q := 129) (1 : Int64) at_128 rfl rfl ?_
    refine w5.ldcO (q := 131) (sz := 4) at_129 H.wd (H.tw 120 rfl) H.sa (by decide) (by decide) (by decide) (by decide) rfl fun vm6 T6 h6 a6 w6 X6 ch6 => ?_
    have sz6 : h5.size ≤ h6.size := X6.1
    refine w6.iconst (q := 132) (1 : Int32) at_131 rfl rfl ?_
    refine w6.callS (q := 135) at_132 (H.tw 121 rfl) (H.tw 122 rfl) (H.tw 123 rfl) (H.tw 124 rfl) (by decide) (argsL := []) (rest := [(.int (1 : Int32)), (.ref a6), (.long (1 : Int64)), (.ref b1), (.ref b5), (.ref b5)]) rfl (lenOf pd89 rfl) rfl (W := 7) (Nat.le_of_eq rfl) ((con_oe G H oe Soe h6 w6.old).pay w6 (H.tw 124 rfl) (H.tw 123 rfl) (by decide) (by decide)) (by decide) (by decide) rfl fun vm7 T7 h7 v7 w7 q7 => ?_
    obtain ⟨_, rfl, rfl, rfl⟩ := q7
    show Go _ _ _ _ (T7.setTop (mkF X.m 135 #[.val (.long xw), .second, .val (.long tz), .second, .val (.long ya), .second, .val (.long yb), .second, .val (.long yc), .second, .val (.int fg), .val (.long lg), .second, .val (.long na), .second, .val (.long ga), .second, .val (.long gb), .second, .val (.long gc), .second, .val (.int la), .val (.int id_), .val (.int se), .val (.long ((4 : Int64) * (lg + na))), .second, .val (.long (ga + gb)), .second, .val (.long ((ga + gb) + gc)), .second, .val (.ref b1), .unset, .unset, .unset, .unset, .unset, .unset, .unset] [(.ref oe), (.int (1 : Int32)), (.ref a6), (.long (1 : Int64)), (.ref b1), (.ref b5), (.ref b5)]))
    refine w7.callS (q := 138) at_135 (H.tw 121 rfl) (H.tw 122 rfl) (H.tw 123 rfl) (H.tw 124 rfl) (by decide) (argsL := []) (rest := [(.ref oe), (.int (1 : Int32)), (.ref a6), (.long (1 : Int64)), (.ref b1), (.ref b5), (.ref b5)]) rfl (lenOf pd89 rfl) rfl (W := 8) (Nat.le_of_eq rfl) ((con_oe G H oe Soe h6 w7.old).pay w7 (H.tw 124 rfl) (H.tw 123 rfl) (by decide) (by decide)) (by decide) (by decide) rfl fun vm8 T8 h8 v8 w8 q8 => ?_
    obtain ⟨_, rfl, rfl, rfl⟩ := q8
    show Go _ _ _ _ (T8.setTop (mkF X.m 138 #[.val (.long xw), .second, .val (.long tz), .second, .val (.long ya), .second, .val (.long yb), .second, .val (.long yc), .second, .val (.int fg), .val (.long lg), .second, .val (.long na), .second, .val (.long ga), .second, .val (.long gb), .second, .val (.long gc), .second, .val (.int la), .val (.int id_), .val (.int se), .val (.long ((4 : Int64) * (lg + na))), .second, .val (.long (ga + gb)), .second, .val (.long ((ga + gb) + gc)), .second, .val (.ref b1), .unset, .unset, .unset, .unset, .unset, .unset, .unset] [(.ref oe), (.ref oe), (.int (1 : Int32)), (.ref a6), (.long (1 : Int64)), (.ref b1), (.ref b5), (.ref b5)]))
    refine w8.callC (q := 141) at_138 rfl (H.tw 126 rfl) (H.tw 127 rfl) (H.tw 128 rfl) (by decide) (a := b5) (argsL := [(.ref b1), (.long (1 : Int64)), (.ref a6), (.int (1 : Int32)), (.ref oe), (.ref oe)]) (rest := [(.ref b5)]) rfl (lenOf pd101 rfl) rfl (W := 1) (Nat.le_of_eq rfl) ((con_sr G H b5 b1 a6 oe oe (1 : Int64) h6 w8.old (A5.ext X6) (F5_key.ext X6) (F5_version.ext X6) (F5_data.ext X6) (F5_dataVersion.ext X6) (F5_expiresAt.ext X6) (F5_lifeId.ext X6) g5).pay w8 (H.tw 128 rfl) (H.tw 119 rfl) (by decide) (by decide)) (by decide) (by decide) rfl fun vm9 T9 h9 v9 w9 q9 => ?_
    obtain ⟨rfl, K9, Es⟩ := q9
    show Go _ _ _ _ (T9.setTop (mkF X.m 141 #[.val (.long xw), .second, .val (.long tz), .second, .val (.long ya), .second, .val (.long yb), .second, .val (.long yc), .second, .val (.int fg), .val (.long lg), .second, .val (.long na), .second, .val (.long ga), .second, .val (.long gb), .second, .val (.long gc), .second, .val (.int la), .val (.int id_), .val (.int se), .val (.long ((4 : Int64) * (lg + na))), .second, .val (.long (ga + gb)), .second, .val (.long ((ga + gb) + gc)), .second, .val (.ref b1), .unset, .unset, .unset, .unset, .unset, .unset, .unset] [(.ref b5)]))
    refine w9.astore (q := 143) (L2 := #[.val (.long xw), .second, .val (.long tz), .second, .val (.long ya), .second, .val (.long yb), .second, .val (.long yc), .second, .val (.int fg), .val (.long lg), .second, .val (.long na), .second, .val (.long ga), .second, .val (.long gb), .second, .val (.long gc), .second, .val (.int la), .val (.int id_), .val (.int se), .val (.long ((4 : Int64) * (lg + na))), .second, .val (.long (ga + gb)), .second, .val (.long ((ga + gb) + gc)), .second, .val (.ref b1), .val (.ref b5), .unset, .unset, .unset, .unset, .unset, .unset]) at_141 rfl rfl rfl ?_
    have szs := K9.1
    refine w9.newO (q := 146) at_143 (H.tw 157 rfl) (H.tw 158 rfl) (H.tw 159 rfl) (by decide) (by decide) rfl fun T10 h10 b10 e10 w10 E10 A10 D10 U10 => ?_
    have lt10 : b10 < h10.size := A10.lt
    have sz10 : h9.size ≤ h10.size := E10.1
    have F10_lastWritten : Fld G.Z h10 b10 "com/example/versioned_table/versionedtable/KeyHold" "lastWritten" "Ljava/util/Optional;" .null := D10 (Or.inl (H.tw 166 rfl)) (ty := (.object "java/util/Optional")) (by decide)
    have F10_idleUntil : Fld G.Z h10 b10 "com/example/versioned_table/versionedtable/KeyHold" "idleUntil" "Ljava/util/Optional;" .null := D10 (Or.inl (H.tw 168 rfl)) (ty := (.object "java/util/Optional")) (by decide)
    have F10_pauseUntil : Fld G.Z h10 b10 "com/example/versioned_table/versionedtable/KeyHold" "pauseUntil" "Ljava/util/Optional;" .null := D10 (Or.inl (H.tw 170 rfl)) (ty := (.object "java/util/Optional")) (by decide)
    have F10_longestRetryWaitNanos : Fld G.Z h10 b10 "com/example/versioned_table/versionedtable/KeyHold" "longestRetryWaitNanos" "J" (.long (0 : Int64)) := D10 (Or.inr (H.tw 172 rfl)) (ty := .long) (by decide)
    have F10_began : Fld G.Z h10 b10 "com/example/versioned_table/versionedtable/KeyHold" "began" "J" (.long (0 : Int64)) := D10 (Or.inl (H.tw 213 rfl)) (ty := .long) (by decide)
    have F10_writes : Fld G.Z h10 b10 "com/example/versioned_table/versionedtable/KeyHold" "writes" "I" (.int (0 : Int32)) := D10 (Or.inl (H.tw 215 rfl)) (ty := .int) (by decide)
    have F10_attemptNanos : Fld G.Z h10 b10 "com/example/versioned_table/versionedtable/KeyHold" "attemptNanos" "J" (.long (0 : Int64)) := D10 (Or.inl (H.tw 217 rfl)) (ty := .long) (by decide)
    have F10_pauses : Fld G.Z h10 b10 "com/example/versioned_table/versionedtable/KeyHold" "pauses" "J" (.long (0 : Int64)) := D10 (Or.inl (H.tw 250 rfl)) (ty := .long) (by decide)
    have g10 : G.n0 ≤ b10 := by have := ho.2.1; have := ho.1; omega
    refine w10.dup (q := 147) at_146 rfl rfl ?_
    refine w10.lload (q := 149) at_147 rfl rfl ?_
    refine w10.callC (q := 152) at_149 rfl (H.tw 160 rfl) (H.tw 161 rfl) (H.tw 162 rfl) (by decide) (a := b10) (argsL := [(.long lg)]) (rest := [(.ref b10)]) rfl (lenOf pd61 rfl) rfl (W := 1) (Nat.le_of_eq rfl) ((con_kh G H b10 oe lg Soe h10 w10.old A10 F10_lastWritten F10_idleUntil F10_pauseUntil F10_longestRetryWaitNanos F10_began F10_writes F10_attemptNanos F10_pauses g10).pay w10 (H.tw 162 rfl) (H.tw 159 rfl) (by decide) (by decide)) (by decide) (by decide) rfl fun vm11 T11 h11 v11 w11 q11 => ?_
    obtain ⟨rfl, K11, E, Flw, Fiu, Fpu, FL, Fbg, Fwr, Fan, Fps⟩ := q11
    show Go _ _ _ _ (T11.setTop (mkF X.m 152 #[.val (.long xw), .second, .val (.long tz), .second, .val (.long ya), .second, .val (.long yb), .second, .val (.long yc), .second, .val (.int fg), .val (.long lg), .second, .val (.long na), .second, .val (.long ga), .second, .val (.long gb), .second, .val (.long gc), .second, .val (.int la), .val (.int id_), .val (.int se), .val (.long ((4 : Int64) * (lg + na))), .second, .val (.long (ga + gb)), .second, .val (.long ((ga + gb) + gc)), .second, .val (.ref b1), .val (.ref b5), .unset, .unset, .unset, .unset, .unset, .unset] [(.ref b10)]))
    refine w11.astore (q := 154) (L2 := #[.val (.long xw), .second, .val (.long tz), .second, .val (.long ya), .second, .val (.long yb), .second, .val (.long yc), .second, .val (.int fg), .val (.long lg), .second, .val (.long na), .second, .val (.long ga), .second, .val (.long gb), .second, .val (.long gc), .second, .val (.int la), .val (.int id_), .val (.int se), .val (.long ((4 : Int64) * (lg + na))), .second, .val (.long (ga + gb)), .second, .val (.long ((ga + gb) + gc)), .second, .val (.ref b1), .val (.ref b5), .val (.ref b10), .unset, .unset, .unset, .unset, .unset]) at_152 rfl rfl rfl ?_
    refine w11.iconst (q := 155) (1 : Int32) at_154 rfl rfl ?_
    refine w11.istore (q := 157) (L2 := #[.val (.long xw), .second, .val (.long tz), .second, .val (.long ya), .second, .val (.long yb), .second, .val (.long yc), .second, .val (.int fg), .val (.long lg), .second, .val (.long na), .second, .val (.long ga), .second, .val (.long gb), .second, .val (.long gc), .second, .val (.int la), .val (.int id_), .val (.int se), .val (.long ((4 : Int64) * (lg + na))), .second, .val (.long (ga + gb)), .second, .val (.long ((ga + gb) + gc)), .second, .val (.ref b1), .val (.ref b5), .val (.ref b10), .val (.int (1 : Int32)), .unset, .unset, .unset, .unset]) at_155 rfl rfl ?_
    refine w11.iload (q := 159) at_157 rfl rfl ?_
    by_cases c_la : la = (0 : Int32)
    ·
      refine w11.ifY (q := 194) at_159 ((if0 _ _).trans (teq c_la).1) (by decide) (by decide) ?_
      have i0 := hli c_la
      subst c_la
      subst i0
      refine w11.iload (q := 196) at_194 rfl rfl ?_
      refine w11.ifY (q := 209) at_196 ((if0 _ _).trans (teq rfl).1) (by decide) (by decide) ?_
      refine w11.aload (q := 211) at_209 rfl rfl rfl ?_
      refine w11.lloadN (q := 212) at_211 rfl rfl ?_
      refine w11.lload (q := 214) at_212 rfl rfl ?_
      refine w11.ladd (q := 215) at_214 rfl ?_
      refine w11.callV (q := 218) at_215 (H.tw 173 rfl) (H.tw 174 rfl) (notFace_of_selects (C := "com/example/versioned_table/versionedtable/KeyHold") (args := G.a0) (H.tw 176 rfl)) (H.tw 176 rfl) (H.tw 175 rfl) (by decide) E (argsL := [(.long (tz + (ga + gb)))]) (rest := []) rfl (lenOf pd71 rfl) rfl (W := 0) (Nat.le_of_eq rfl) ((con_w0 G H b10 oe _ _ _ _ (tz + (ga + gb)) _ Soe Ooe h11 w11.old E Flw Fiu Fpu FL Fbg Fwr Fan Fps g10).pay w11 (H.tw 177 rfl) (H.tw 159 rfl) (by decide) (by decide)) (by decide) (by decide) rfl fun vm12 T12 h12 v12 w12 q12 => ?_
      obtain ⟨_, rfl, z12, rfl, K12, E, Flw, Fiu, Fpu, FL, Fbg, Fwr, Fan, Fps⟩ := q12
      show Go _ _ _ _ (T12.setTop (mkF X.m 218 #[.val (.long xw), .second, .val (.long tz), .second, .val (.long ya), .second, .val (.long yb), .second, .val (.long yc), .second, .val (.int fg), .val (.long lg), .second, .val (.long na), .second, .val (.long ga), .second, .val (.long gb), .second, .val (.long gc), .second, .val (.int (0 : Int32)), .val (.int (0 : Int32)), .val (.int se), .val (.long ((4 : Int64) * (lg + na))), .second, .val (.long (ga + gb)), .second, .val (.long ((ga + gb) + gc)), .second, .val (.ref b1), .val (.ref b5), .val (.ref b10), .val (.int (1 : Int32)), .unset, .unset, .unset, .unset] [(.long z12)]))
      refine w12.pop2L (q := 219) at_218 rfl ?_
      refine w12.iload (q := 221) at_219 rfl rfl ?_
      refine w12.ifY (q := 232) at_221 ((if0 _ _).trans (teq rfl).1) (by decide) (by decide) ?_
      refine w12.lload (q := 234) at_232 rfl rfl ?_
      refine w12.lload (q := 236) at_234 rfl rfl ?_
      refine w12.ladd (q := 237) at_236 rfl ?_
      refine w12.lstore (q := 239) (L2 := #[.val (.long xw), .second, .val (.long tz), .second, .val (.long ya), .second, .val (.long yb), .second, .val (.long yc), .second, .val (.int fg), .val (.long lg), .second, .val (.long na), .second, .val (.long ga), .second, .val (.long gb), .second, .val (.long gc), .second, .val (.int (0 : Int32)), .val (.int (0 : Int32)), .val (.int se), .val (.long ((4 : Int64) * (lg + na))), .second, .val (.long (ga + gb)), .second, .val (.long ((ga + gb) + gc)), .second, .val (.ref b1), .val (.ref b5), .val (.ref b10), .val (.int (1 : Int32)), .val (.long ((ga + gb) + ((4 : Int64) * (lg + na)))), .second, .unset, .unset]) at_237 rfl rfl ?_
      refine w12.iload (q := 241) at_239 rfl rfl ?_
      refine w12.ifN (q := 244) at_241 ((if0 _ _).trans (teq rfl).2) rfl ?_
      refine w12.iconst (q := 245) (0 : Int32) at_244 rfl rfl ?_
      refine w12.istore (q := 247) (L2 := #[.val (.long xw), .second, .val (.long tz), .second, .val (.long ya), .second, .val (.long yb), .second, .val (.long yc), .second, .val (.int fg), .val (.long lg), .second, .val (.long na), .second, .val (.long ga), .second, .val (.long gb), .second, .val (.long gc), .second, .val (.int (0 : Int32)), .val (.int (0 : Int32)), .val (.int se), .val (.long ((4 : Int64) * (lg + na))), .second, .val (.long (ga + gb)), .second, .val (.long ((ga + gb) + gc)), .second, .val (.ref b1), .val (.ref b5), .val (.ref b10), .val (.int (1 : Int32)), .val (.long ((ga + gb) + ((4 : Int64) * (lg + na)))), .second, .val (.int (0 : Int32)), .unset]) at_245 rfl rfl ?_
      refine w12.goto (q := 287) at_247 (by decide) (by decide) ?_
      refine w12.iload (q := 289) at_287 rfl rfl ?_
      refine w12.ifN (q := 292) at_289 ((if0 _ _).trans (feq (by decide)).1) rfl ?_
      refine w12.aload (q := 294) at_292 rfl rfl rfl ?_
      refine w12.callV (q := 297) at_294 (H.tw 201 rfl) (H.tw 202 rfl) (notFace_of_selects (C := "com/example/versioned_table/versionedtable/KeyHold") (args := G.a0) (H.tw 204 rfl)) (H.tw 204 rfl) (H.tw 203 rfl) (by decide) E (argsL := []) (rest := []) rfl (lenOf pd14 rfl) rfl (W := 0) (Nat.le_of_eq rfl) ((con_ho0 G H b10 _ _ h12 w12.old E Flw Fpu (Ooe.ext w12.old.2) (Ooe.ext w12.old.2)).pay w12 (H.tw 205 rfl) (H.tw 159 rfl) (by decide) (by decide)) (by decide) (by decide) rfl fun vm13 T13 h13 v13 w13 q13 => ?_
      obtain ⟨_, rfl, rfl, rfl⟩ := q13
      show Go _ _ _ _ (T13.setTop (mkF X.m 297 #[.val (.long xw), .second, .val (.long tz), .second, .val (.long ya), .second, .val (.long yb), .second, .val (.long yc), .second, .val (.int fg), .val (.long lg), .second, .val (.long na), .second, .val (.long ga), .second, .val (.long gb), .second, .val (.long gc), .second, .val (.int (0 : Int32)), .val (.int (0 : Int32)), .val (.int se), .val (.long ((4 : Int64) * (lg + na))), .second, .val (.long (ga + gb)), .second, .val (.long ((ga + gb) + gc)), .second, .val (.ref b1), .val (.ref b5), .val (.ref b10), .val (.int (1 : Int32)), .val (.long ((ga + gb) + ((4 : Int64) * (lg + na)))), .second, .val (.int (0 : Int32)), .unset] [(.int (0 : Int32))]))
      refine w13.iload (q := 299) at_297 rfl rfl ?_
      refine w13.ifY (q := 306) at_299 ((if0 _ _).trans (teq rfl).1) (by decide) (by decide) ?_
      refine w13.iconst (q := 307) (0 : Int32) at_306 rfl rfl ?_
      refine w13.icN (q := 310) at_307 ((teq rfl).2) rfl ?_
      refine w13.iconst (q := 311) (1 : Int32) at_310 rfl rfl ?_
      refine w13.goto (q := 315) at_311 (by decide) (by decide) ?_
      refine w13.istore (q := 317) (L2 := #[.val (.long xw), .second, .val (.long tz), .second, .val (.long ya), .second, .val (.long yb), .second, .val (.long yc), .second, .val (.int fg), .val (.long lg), .second, .val (.long na), .second, .val (.long ga), .second, .val (.long gb), .second, .val (.long gc), .second, .val (.int (0 : Int32)), .val (.int (0 : Int32)), .val (.int se), .val (.long ((4 : Int64) * (lg + na))), .second, .val (.long (ga + gb)), .second, .val (.long ((ga + gb) + gc)), .second, .val (.ref b1), .val (.ref b5), .val (.ref b10), .val (.int (1 : Int32)), .val (.long ((ga + gb) + ((4 : Int64) * (lg + na)))), .second, .val (.int (0 : Int32)), .unset]) at_315 rfl rfl ?_
      refine w13.iload (q := 319) at_317 rfl rfl ?_
      by_cases c_se : se = (0 : Int32)
      ·
        refine w13.ifY (q := 394) at_319 ((if0 _ _).trans (teq c_se).1) (by decide) (by decide) ?_
        refine w13.iload (q := 396) at_394 rfl rfl ?_
        exact w13.retZ at_396 (t := .boolean) rfl (by decide) rfl (by decide) (by decide) ⟨_, rfl, rfl⟩
      ·
        refine w13.ifN (q := 322) at_319 ((if0 _ _).trans (feq c_se).1) rfl ?_
        refine w13.aload (q := 324) at_322 rfl rfl rfl ?_
        refine w13.lloadN (q := 325) at_324 rfl rfl ?_
        refine w13.lload (q := 327) at_325 rfl rfl ?_
        refine w13.ladd (q := 328) at_327 rfl ?_
        refine w13.callV (q := 331) at_328 (H.tw 173 rfl) (H.tw 174 rfl) (notFace_of_selects (C := "com/example/versioned_table/versionedtable/KeyHold") (args := G.a0) (H.tw 176 rfl)) (H.tw 176 rfl) (H.tw 175 rfl) (by decide) E (argsL := [(.long (tz + ((ga + gb) + gc)))]) (rest := []) rfl (lenOf pd71 rfl) rfl (W := 0) (Nat.le_of_eq rfl) ((con_w0 G H b10 oe _ _ _ _ (tz + ((ga + gb) + gc)) _ Soe Ooe h12 w13.old E Flw Fiu Fpu FL Fbg Fwr Fan Fps g10).pay w13 (H.tw 177 rfl) (H.tw 159 rfl) (by decide) (by decide)) (by decide) (by decide) rfl fun vm14 T14 h14 v14 w14 q14 => ?_
        obtain ⟨_, rfl, z14, rfl, K14, E, Flw, Fiu, Fpu, FL, Fbg, Fwr, Fan, Fps⟩ := q14
        show Go _ _ _ _ (T14.setTop (mkF X.m 331 #[.val (.long xw), .second, .val (.long tz), .second, .val (.long ya), .second, .val (.long yb), .second, .val (.long yc), .second, .val (.int fg), .val (.long lg), .second, .val (.long na), .second, .val (.long ga), .second, .val (.long gb), .second, .val (.long gc), .second, .val (.int (0 : Int32)), .val (.int (0 : Int32)), .val (.int se), .val (.long ((4 : Int64) * (lg + na))), .second, .val (.long (ga + gb)), .second, .val (.long ((ga + gb) + gc)), .second, .val (.ref b1), .val (.ref b5), .val (.ref b10), .val (.int (1 : Int32)), .val (.long ((ga + gb) + ((4 : Int64) * (lg + na)))), .second, .val (.int (0 : Int32)), .unset] [(.long z14)]))
        refine w14.pop2L (q := 332) at_331 rfl ?_
        refine w14.iload (q := 334) at_332 rfl rfl ?_
        refine w14.ifN (q := 337) at_334 ((if0 _ _).trans (teq rfl).2) rfl ?_
        refine w14.iconst (q := 338) (0 : Int32) at_337 rfl rfl ?_
        refine w14.istore (q := 340) (L2 := #[.val (.long xw), .second, .val (.long tz), .second, .val (.long ya), .second, .val (.long yb), .second, .val (.long yc), .second, .val (.int fg), .val (.long lg), .second, .val (.long na), .second, .val (.long ga), .second, .val (.long gb), .second, .val (.long gc), .second, .val (.int (0 : Int32)), .val (.int (0 : Int32)), .val (.int se), .val (.long ((4 : Int64) * (lg + na))), .second, .val (.long (ga + gb)), .second, .val (.long ((ga + gb) + gc)), .second, .val (.ref b1), .val (.ref b5), .val (.ref b10), .val (.int (1 : Int32)), .val (.long ((ga + gb) + ((4 : Int64) * (lg + na)))), .second, .val (.int (0 : Int32)), .val (.int (0 : Int32))]) at_338 rfl rfl ?_
        refine w14.goto (q := 372) at_340 (by decide) (by decide) ?_
        refine w14.iload (q := 374) at_372 rfl rfl ?_
        refine w14.ifN (q := 377) at_374 ((if0 _ _).trans (feq (by decide)).1) rfl ?_
        refine w14.aload (q := 379) at_377 rfl rfl rfl ?_
        refine w14.callV (q := 382) at_379 (H.tw 201 rfl) (H.tw 202 rfl) (notFace_of_selects (C := "com/example/versioned_table/versionedtable/KeyHold") (args := G.a0) (H.tw 204 rfl)) (H.tw 204 rfl) (H.tw 203 rfl) (by decide) E (argsL := []) (rest := []) rfl (lenOf pd14 rfl) rfl (W := 0) (Nat.le_of_eq rfl) ((con_ho0 G H b10 _ _ h14 w14.old E Flw Fpu (Ooe.ext w14.old.2) (Ooe.ext w14.old.2)).pay w14 (H.tw 205 rfl) (H.tw 159 rfl) (by decide) (by decide)) (by decide) (by decide) rfl fun vm15 T15 h15 v15 w15 q15 => ?_
        obtain ⟨_, rfl, rfl, rfl⟩ := q15
        show Go _ _ _ _ (T15.setTop (mkF X.m 382 #[.val (.long xw), .second, .val (.long tz), .second, .val (.long ya), .second, .val (.long yb), .second, .val (.long yc), .second, .val (.int fg), .val (.long lg), .second, .val (.long na), .second, .val (.long ga), .second, .val (.long gb), .second, .val (.long gc), .second, .val (.int (0 : Int32)), .val (.int (0 : Int32)), .val (.int se), .val (.long ((4 : Int64) * (lg + na))), .second, .val (.long (ga + gb)), .second, .val (.long ((ga + gb) + gc)), .second, .val (.ref b1), .val (.ref b5), .val (.ref b10), .val (.int (1 : Int32)), .val (.long ((ga + gb) + ((4 : Int64) * (lg + na)))), .second, .val (.int (0 : Int32)), .val (.int (0 : Int32))] [(.int (0 : Int32))]))
        refine w15.iload (q := 384) at_382 rfl rfl ?_
        refine w15.icN (q := 387) at_384 ((teq rfl).2) rfl ?_
        refine w15.iconst (q := 388) (1 : Int32) at_387 rfl rfl ?_
        refine w15.goto (q := 392) at_388 (by decide) (by decide) ?_
        refine w15.istore (q := 394) (L2 := #[.val (.long xw), .second, .val (.long tz), .second, .val (.long ya), .second, .val (.long yb), .second, .val (.long yc), .second, .val (.int fg), .val (.long lg), .second, .val (.long na), .second, .val (.long ga), .second, .val (.long gb), .second, .val (.long gc), .second, .val (.int (0 : Int32)), .val (.int (0 : Int32)), .val (.int se), .val (.long ((4 : Int64) * (lg + na))), .second, .val (.long (ga + gb)), .second, .val (.long ((ga + gb) + gc)), .second, .val (.ref b1), .val (.ref b5), .val (.ref b10), .val (.int (1 : Int32)), .val (.long ((ga + gb) + ((4 : Int64) * (lg + na)))), .second, .val (.int (0 : Int32)), .val (.int (0 : Int32))]) at_392 rfl rfl ?_
        refine w15.iload (q := 396) at_394 rfl rfl ?_
        exact w15.retZ at_396 (t := .boolean) rfl (by decide) rfl (by decide) (by decide) ⟨_, rfl, rfl⟩
    ·
      refine w11.ifN (q := 162) at_159 ((if0 _ _).trans (feq c_la).1) rfl ?_
      have l1 : la = 1 := hla.resolve_left c_la
      subst l1
      refine w11.aload (q := 164) at_162 rfl rfl rfl ?_
      refine w11.aload (q := 166) at_164 rfl rfl rfl ?_
      refine w11.aload (q := 168) at_166 rfl rfl rfl ?_
      refine w11.lload (q := 170) at_168 rfl rfl ?_
      refine w11.lloadN (q := 171) at_170 rfl rfl ?_
      refine w11.callV (q := 174) at_171 (H.tw 206 rfl) (H.tw 207 rfl) (notFace_of_selects (C := "com/example/versioned_table/versionedtable/KeyHold") (args := G.a0) (H.tw 209 rfl)) (H.tw 209 rfl) (H.tw 208 rfl) (by decide) E (argsL := [(.ref b5), (.ref b5), (.long na), (.long tz)]) (rest := []) rfl (lenOf pd102 rfl) rfl (W := 0) (Nat.le_of_eq rfl) ((con_land G H b10 b5 oe lg na tz Soe Ooe h11 w11.old E Flw Fiu Fpu FL Fbg Fwr Fan Fps g10).pay w11 (H.tw 210 rfl) (H.tw 159 rfl) (by decide) (by decide)) (by decide) (by decide) rfl fun vm16 T16 h16 v16 w16 q16 => ?_
      obtain ⟨rfl, lw, K16, Ol, E, Flw, Fiu, Fpu, FL, Fbg, Fwr, Fan, Fps⟩ := q16
      show Go _ _ _ _ (T16.setTop (mkF X.m 174 #[.val (.long xw), .second, .val (.long tz), .second, .val (.long ya), .second, .val (.long yb), .second, .val (.long yc), .second, .val (.int fg), .val (.long lg), .second, .val (.long na), .second, .val (.long ga), .second, .val (.long gb), .second, .val (.long gc), .second, .val (.int (1 : Int32)), .val (.int id_), .val (.int se), .val (.long ((4 : Int64) * (lg + na))), .second, .val (.long (ga + gb)), .second, .val (.long ((ga + gb) + gc)), .second, .val (.ref b1), .val (.ref b5), .val (.ref b10), .val (.int (1 : Int32)), .unset, .unset, .unset, .unset] []))
      refine w16.iload (q := 176) at_174 rfl rfl ?_
      refine w16.ifN (q := 179) at_176 ((if0 _ _).trans (feq (by decide)).1) rfl ?_
      refine w16.aload (q := 181) at_179 rfl rfl rfl ?_
      refine w16.callV (q := 184) at_181 (H.tw 201 rfl) (H.tw 202 rfl) (notFace_of_selects (C := "com/example/versioned_table/versionedtable/KeyHold") (args := G.a0) (H.tw 204 rfl)) (H.tw 204 rfl) (H.tw 203 rfl) (by decide) E (argsL := []) (rest := []) rfl (lenOf pd14 rfl) rfl (W := 0) (Nat.le_of_eq rfl) ((con_hoL G H b10 _ _ h16 w16.old E Flw Ol).pay w16 (H.tw 205 rfl) (H.tw 159 rfl) (by decide) (by decide)) (by decide) (by decide) rfl fun vm17 T17 h17 v17 w17 q17 => ?_
      obtain ⟨_, rfl, rfl, rfl⟩ := q17
      show Go _ _ _ _ (T17.setTop (mkF X.m 184 #[.val (.long xw), .second, .val (.long tz), .second, .val (.long ya), .second, .val (.long yb), .second, .val (.long yc), .second, .val (.int fg), .val (.long lg), .second, .val (.long na), .second, .val (.long ga), .second, .val (.long gb), .second, .val (.long gc), .second, .val (.int (1 : Int32)), .val (.int id_), .val (.int se), .val (.long ((4 : Int64) * (lg + na))), .second, .val (.long (ga + gb)), .second, .val (.long ((ga + gb) + gc)), .second, .val (.ref b1), .val (.ref b5), .val (.ref b10), .val (.int (1 : Int32)), .unset, .unset, .unset, .unset] [(.int (1 : Int32))]))
      refine w17.ifN (q := 187) at_184 ((if0 _ _).trans (feq (by decide)).1) rfl ?_
      refine w17.iconst (q := 188) (1 : Int32) at_187 rfl rfl ?_
      refine w17.goto (q := 192) at_188 (by decide) (by decide) ?_
      refine w17.istore (q := 194) (L2 := #[.val (.long xw), .second, .val (.long tz), .second, .val (.long ya), .second, .val (.long yb), .second, .val (.long yc), .second, .val (.int fg), .val (.long lg), .second, .val (.long na), .second, .val (.long ga), .second, .val (.long gb), .second, .val (.long gc), .second, .val (.int (1 : Int32)), .val (.int id_), .val (.int se), .val (.long ((4 : Int64) * (lg + na))), .second, .val (.long (ga + gb)), .second, .val (.long ((ga + gb) + gc)), .second, .val (.ref b1), .val (.ref b5), .val (.ref b10), .val (.int (1 : Int32)), .unset, .unset, .unset, .unset]) at_192 rfl rfl ?_
      refine w17.iload (q := 196) at_194 rfl rfl ?_
      by_cases c_id : id_ = (0 : Int32)
      ·
        refine w17.ifY (q := 209) at_196 ((if0 _ _).trans (teq c_id).1) (by decide) (by decide) ?_
        subst c_id
        refine w17.aload (q := 211) at_209 rfl rfl rfl ?_
        refine w17.lloadN (q := 212) at_211 rfl rfl ?_
        refine w17.lload (q := 214) at_212 rfl rfl ?_
        refine w17.ladd (q := 215) at_214 rfl ?_
        refine w17.callV (q := 218) at_215 (H.tw 173 rfl) (H.tw 174 rfl) (notFace_of_selects (C := "com/example/versioned_table/versionedtable/KeyHold") (args := G.a0) (H.tw 176 rfl)) (H.tw 176 rfl) (H.tw 175 rfl) (by decide) E (argsL := [(.long (tz + (ga + gb)))]) (rest := []) rfl (lenOf pd71 rfl) rfl (W := 0) (Nat.le_of_eq rfl) ((con_w1n G H b10 oe _ _ _ _ _ (tz + (ga + gb)) Soe Ooe h16 w17.old E Flw Fiu Fpu FL Fbg Fwr Fan Fps g10 Ol).pay w17 (H.tw 177 rfl) (H.tw 159 rfl) (by decide) (by decide)) (by decide) (by decide) rfl fun vm18 T18 h18 v18 w18 q18 => ?_
        obtain ⟨_, rfl, z18, rfl, K18, dj⟩ := q18
        show Go _ _ _ _ (T18.setTop (mkF X.m 218 #[.val (.long xw), .second, .val (.long tz), .second, .val (.long ya), .second, .val (.long yb), .second, .val (.long yc), .second, .val (.int fg), .val (.long lg), .second, .val (.long na), .second, .val (.long ga), .second, .val (.long gb), .second, .val (.long gc), .second, .val (.int (1 : Int32)), .val (.int (0 : Int32)), .val (.int se), .val (.long ((4 : Int64) * (lg + na))), .second, .val (.long (ga + gb)), .second, .val (.long ((ga + gb) + gc)), .second, .val (.ref b1), .val (.ref b5), .val (.ref b10), .val (.int (1 : Int32)), .unset, .unset, .unset, .unset] [(.long z18)]))
        refine w18.pop2L (q := 219) at_218 rfl ?_
        rcases dj with ⟨c1, _, E, Flw, Fiu, Fpu, FL, Fbg, Fwr, Fan, Fps⟩ | ⟨c1, c2, _, pu, q, Op_, Al, E, Flw, Fiu, Fpu, FL, Fbg, Fwr, Fan, Fps⟩ | ⟨c1, c2, Ol, E, Flw, Fiu, Fpu, FL, Fbg, Fwr, Fan, Fps⟩
        ·
          refine w18.iload (q := 221) at_219 rfl rfl ?_
          refine w18.ifY (q := 232) at_221 ((if0 _ _).trans (teq rfl).1) (by decide) (by decide) ?_
          refine w18.lload (q := 234) at_232 rfl rfl ?_
          refine w18.lload (q := 236) at_234 rfl rfl ?_
          refine w18.ladd (q := 237) at_236 rfl ?_
          refine w18.lstore (q := 239) (L2 := #[.val (.long xw), .second, .val (.long tz), .second, .val (.long ya), .second, .val (.long yb), .second, .val (.long yc), .second, .val (.int fg), .val (.long lg), .second, .val (.long na), .second, .val (.long ga), .second, .val (.long gb), .second, .val (.long gc), .second, .val (.int (1 : Int32)), .val (.int (0 : Int32)), .val (.int se), .val (.long ((4 : Int64) * (lg + na))), .second, .val (.long (ga + gb)), .second, .val (.long ((ga + gb) + gc)), .second, .val (.ref b1), .val (.ref b5), .val (.ref b10), .val (.int (1 : Int32)), .val (.long ((ga + gb) + ((4 : Int64) * (lg + na)))), .second, .unset, .unset]) at_237 rfl rfl ?_
          refine w18.iload (q := 241) at_239 rfl rfl ?_
          refine w18.ifY (q := 250) at_241 ((if0 _ _).trans (feq (by decide)).2) (by decide) (by decide) ?_
          refine w18.lload (q := 252) at_250 rfl rfl ?_
          refine w18.lload (q := 254) at_252 rfl rfl ?_
          refine w18.lsub (q := 255) at_254 rfl ?_
          refine w18.lconst (q := 256) (0 : Int64) at_255 rfl rfl ?_
          refine w18.lcmp (q := 257) at_256 rfl ?_
          have rg : (ga + gb) - ((ga + gb) + ((4 : Int64) * (lg + na))) = (tz + (ga + gb)) - ((tz + (ga + gb)) + ((4 : Int64) * (lg + na))) := by grind
          rw [← rg] at c1
          refine w18.ifN (q := 260) at_257 ((if0 _ _).trans (flt c1).1) rfl ?_
          refine w18.iconst (q := 261) (0 : Int32) at_260 rfl rfl ?_
          refine w18.istore (q := 263) (L2 := #[.val (.long xw), .second, .val (.long tz), .second, .val (.long ya), .second, .val (.long yb), .second, .val (.long yc), .second, .val (.int fg), .val (.long lg), .second, .val (.long na), .second, .val (.long ga), .second, .val (.long gb), .second, .val (.long gc), .second, .val (.int (1 : Int32)), .val (.int (0 : Int32)), .val (.int se), .val (.long ((4 : Int64) * (lg + na))), .second, .val (.long (ga + gb)), .second, .val (.long ((ga + gb) + gc)), .second, .val (.ref b1), .val (.ref b5), .val (.ref b10), .val (.int (1 : Int32)), .val (.long ((ga + gb) + ((4 : Int64) * (lg + na)))), .second, .val (.int (0 : Int32)), .unset]) at_261 rfl rfl ?_
          refine w18.goto (q := 287) at_263 (by decide) (by decide) ?_
          refine w18.iload (q := 289) at_287 rfl rfl ?_
          refine w18.ifN (q := 292) at_289 ((if0 _ _).trans (feq (by decide)).1) rfl ?_
          refine w18.aload (q := 294) at_292 rfl rfl rfl ?_
          refine w18.callV (q := 297) at_294 (H.tw 201 rfl) (H.tw 202 rfl) (notFace_of_selects (C := "com/example/versioned_table/versionedtable/KeyHold") (args := G.a0) (H.tw 204 rfl)) (H.tw 204 rfl) (H.tw 203 rfl) (by decide) E (argsL := []) (rest := []) rfl (lenOf pd14 rfl) rfl (W := 0) (Nat.le_of_eq rfl) ((con_ho0 G H b10 _ _ h18 w18.old E Flw Fpu (Ooe.ext w18.old.2) (Ooe.ext w18.old.2)).pay w18 (H.tw 205 rfl) (H.tw 159 rfl) (by decide) (by decide)) (by decide) (by decide) rfl fun vm19 T19 h19 v19 w19 q19 => ?_
          obtain ⟨_, rfl, rfl, rfl⟩ := q19
          show Go _ _ _ _ (T19.setTop (mkF X.m 297 #[.val (.long xw), .second, .val (.long tz), .second, .val (.long ya), .second, .val (.long yb), .second, .val (.long yc), .second, .val (.int fg), .val (.long lg), .second, .val (.long na), .second, .val (.long ga), .second, .val (.long gb), .second, .val (.long gc), .second, .val (.int (1 : Int32)), .val (.int (0 : Int32)), .val (.int se), .val (.long ((4 : Int64) * (lg + na))), .second, .val (.long (ga + gb)), .second, .val (.long ((ga + gb) + gc)), .second, .val (.ref b1), .val (.ref b5), .val (.ref b10), .val (.int (1 : Int32)), .val (.long ((ga + gb) + ((4 : Int64) * (lg + na)))), .second, .val (.int (0 : Int32)), .unset] [(.int (0 : Int32))]))
          refine w19.iload (q := 299) at_297 rfl rfl ?_
          refine w19.ifY (q := 306) at_299 ((if0 _ _).trans (teq rfl).1) (by decide) (by decide) ?_
          refine w19.iconst (q := 307) (0 : Int32) at_306 rfl rfl ?_
          refine w19.icN (q := 310) at_307 ((teq rfl).2) rfl ?_
          refine w19.iconst (q := 311) (1 : Int32) at_310 rfl rfl ?_
          refine w19.goto (q := 315) at_311 (by decide) (by decide) ?_
          refine w19.istore (q := 317) (L2 := #[.val (.long xw), .second, .val (.long tz), .second, .val (.long ya), .second, .val (.long yb), .second, .val (.long yc), .second, .val (.int fg), .val (.long lg), .second, .val (.long na), .second, .val (.long ga), .second, .val (.long gb), .second, .val (.long gc), .second, .val (.int (1 : Int32)), .val (.int (0 : Int32)), .val (.int se), .val (.long ((4 : Int64) * (lg + na))), .second, .val (.long (ga + gb)), .second, .val (.long ((ga + gb) + gc)), .second, .val (.ref b1), .val (.ref b5), .val (.ref b10), .val (.int (1 : Int32)), .val (.long ((ga + gb) + ((4 : Int64) * (lg + na)))), .second, .val (.int (0 : Int32)), .unset]) at_315 rfl rfl ?_
          refine w19.iload (q := 319) at_317 rfl rfl ?_
          by_cases c_se : se = (0 : Int32)
          ·
            refine w19.ifY (q := 394) at_319 ((if0 _ _).trans (teq c_se).1) (by decide) (by decide) ?_
            refine w19.iload (q := 396) at_394 rfl rfl ?_
            exact w19.retZ at_396 (t := .boolean) rfl (by decide) rfl (by decide) (by decide) ⟨_, rfl, rfl⟩
          ·
            refine w19.ifN (q := 322) at_319 ((if0 _ _).trans (feq c_se).1) rfl ?_
            refine w19.aload (q := 324) at_322 rfl rfl rfl ?_
            refine w19.lloadN (q := 325) at_324 rfl rfl ?_
            refine w19.lload (q := 327) at_325 rfl rfl ?_
            refine w19.ladd (q := 328) at_327 rfl ?_
            refine w19.callV (q := 331) at_328 (H.tw 173 rfl) (H.tw 174 rfl) (notFace_of_selects (C := "com/example/versioned_table/versionedtable/KeyHold") (args := G.a0) (H.tw 176 rfl)) (H.tw 176 rfl) (H.tw 175 rfl) (by decide) E (argsL := [(.long (tz + ((ga + gb) + gc)))]) (rest := []) rfl (lenOf pd71 rfl) rfl (W := 0) (Nat.le_of_eq rfl) ((con_w0 G H b10 oe _ _ _ _ (tz + ((ga + gb) + gc)) _ Soe Ooe h18 w19.old E Flw Fiu Fpu FL Fbg Fwr Fan Fps g10).pay w19 (H.tw 177 rfl) (H.tw 159 rfl) (by decide) (by decide)) (by decide) (by decide) rfl fun vm20 T20 h20 v20 w20 q20 => ?_
            obtain ⟨_, rfl, z20, rfl, K20, E, Flw, Fiu, Fpu, FL, Fbg, Fwr, Fan, Fps⟩ := q20
            show Go _ _ _ _ (T20.setTop (mkF X.m 331 #[.val (.long xw), .second, .val (.long tz), .second, .val (.long ya), .second, .val (.long yb), .second, .val (.long yc), .second, .val (.int fg), .val (.long lg), .second, .val (.long na), .second, .val (.long ga), .second, .val (.long gb), .second, .val (.long gc), .second, .val (.int (1 : Int32)), .val (.int (0 : Int32)), .val (.int se), .val (.long ((4 : Int64) * (lg + na))), .second, .val (.long (ga + gb)), .second, .val (.long ((ga + gb) + gc)), .second, .val (.ref b1), .val (.ref b5), .val (.ref b10), .val (.int (1 : Int32)), .val (.long ((ga + gb) + ((4 : Int64) * (lg + na)))), .second, .val (.int (0 : Int32)), .unset] [(.long z20)]))
            refine w20.pop2L (q := 332) at_331 rfl ?_
            refine w20.iload (q := 334) at_332 rfl rfl ?_
            refine w20.ifN (q := 337) at_334 ((if0 _ _).trans (teq rfl).2) rfl ?_
            refine w20.iconst (q := 338) (0 : Int32) at_337 rfl rfl ?_
            refine w20.istore (q := 340) (L2 := #[.val (.long xw), .second, .val (.long tz), .second, .val (.long ya), .second, .val (.long yb), .second, .val (.long yc), .second, .val (.int fg), .val (.long lg), .second, .val (.long na), .second, .val (.long ga), .second, .val (.long gb), .second, .val (.long gc), .second, .val (.int (1 : Int32)), .val (.int (0 : Int32)), .val (.int se), .val (.long ((4 : Int64) * (lg + na))), .second, .val (.long (ga + gb)), .second, .val (.long ((ga + gb) + gc)), .second, .val (.ref b1), .val (.ref b5), .val (.ref b10), .val (.int (1 : Int32)), .val (.long ((ga + gb) + ((4 : Int64) * (lg + na)))), .second, .val (.int (0 : Int32)), .val (.int (0 : Int32))]) at_338 rfl rfl ?_
            refine w20.goto (q := 372) at_340 (by decide) (by decide) ?_
            refine w20.iload (q := 374) at_372 rfl rfl ?_
            refine w20.ifN (q := 377) at_374 ((if0 _ _).trans (feq (by decide)).1) rfl ?_
            refine w20.aload (q := 379) at_377 rfl rfl rfl ?_
            refine w20.callV (q := 382) at_379 (H.tw 201 rfl) (H.tw 202 rfl) (notFace_of_selects (C := "com/example/versioned_table/versionedtable/KeyHold") (args := G.a0) (H.tw 204 rfl)) (H.tw 204 rfl) (H.tw 203 rfl) (by decide) E (argsL := []) (rest := []) rfl (lenOf pd14 rfl) rfl (W := 0) (Nat.le_of_eq rfl) ((con_ho0 G H b10 _ _ h20 w20.old E Flw Fpu (Ooe.ext w20.old.2) (Ooe.ext w20.old.2)).pay w20 (H.tw 205 rfl) (H.tw 159 rfl) (by decide) (by decide)) (by decide) (by decide) rfl fun vm21 T21 h21 v21 w21 q21 => ?_
            obtain ⟨_, rfl, rfl, rfl⟩ := q21
            show Go _ _ _ _ (T21.setTop (mkF X.m 382 #[.val (.long xw), .second, .val (.long tz), .second, .val (.long ya), .second, .val (.long yb), .second, .val (.long yc), .second, .val (.int fg), .val (.long lg), .second, .val (.long na), .second, .val (.long ga), .second, .val (.long gb), .second, .val (.long gc), .second, .val (.int (1 : Int32)), .val (.int (0 : Int32)), .val (.int se), .val (.long ((4 : Int64) * (lg + na))), .second, .val (.long (ga + gb)), .second, .val (.long ((ga + gb) + gc)), .second, .val (.ref b1), .val (.ref b5), .val (.ref b10), .val (.int (1 : Int32)), .val (.long ((ga + gb) + ((4 : Int64) * (lg + na)))), .second, .val (.int (0 : Int32)), .val (.int (0 : Int32))] [(.int (0 : Int32))]))
            refine w21.iload (q := 384) at_382 rfl rfl ?_
            refine w21.icN (q := 387) at_384 ((teq rfl).2) rfl ?_
            refine w21.iconst (q := 388) (1 : Int32) at_387 rfl rfl ?_
            refine w21.goto (q := 392) at_388 (by decide) (by decide) ?_
            refine w21.istore (q := 394) (L2 := #[.val (.long xw), .second, .val (.long tz), .second, .val (.long ya), .second, .val (.long yb), .second, .val (.long yc), .second, .val (.int fg), .val (.long lg), .second, .val (.long na), .second, .val (.long ga), .second, .val (.long gb), .second, .val (.long gc), .second, .val (.int (1 : Int32)), .val (.int (0 : Int32)), .val (.int se), .val (.long ((4 : Int64) * (lg + na))), .second, .val (.long (ga + gb)), .second, .val (.long ((ga + gb) + gc)), .second, .val (.ref b1), .val (.ref b5), .val (.ref b10), .val (.int (1 : Int32)), .val (.long ((ga + gb) + ((4 : Int64) * (lg + na)))), .second, .val (.int (0 : Int32)), .val (.int (0 : Int32))]) at_392 rfl rfl ?_
            refine w21.iload (q := 396) at_394 rfl rfl ?_
            exact w21.retZ at_396 (t := .boolean) rfl (by decide) rfl (by decide) (by decide) ⟨_, rfl, rfl⟩
        ·
          refine w18.iload (q := 221) at_219 rfl rfl ?_
          refine w18.ifY (q := 232) at_221 ((if0 _ _).trans (teq rfl).1) (by decide) (by decide) ?_
          refine w18.lload (q := 234) at_232 rfl rfl ?_
          refine w18.lload (q := 236) at_234 rfl rfl ?_
          refine w18.ladd (q := 237) at_236 rfl ?_
          refine w18.lstore (q := 239) (L2 := #[.val (.long xw), .second, .val (.long tz), .second, .val (.long ya), .second, .val (.long yb), .second, .val (.long yc), .second, .val (.int fg), .val (.long lg), .second, .val (.long na), .second, .val (.long ga), .second, .val (.long gb), .second, .val (.long gc), .second, .val (.int (1 : Int32)), .val (.int (0 : Int32)), .val (.int se), .val (.long ((4 : Int64) * (lg + na))), .second, .val (.long (ga + gb)), .second, .val (.long ((ga + gb) + gc)), .second, .val (.ref b1), .val (.ref b5), .val (.ref b10), .val (.int (1 : Int32)), .val (.long ((ga + gb) + ((4 : Int64) * (lg + na)))), .second, .unset, .unset]) at_237 rfl rfl ?_
          refine w18.iload (q := 241) at_239 rfl rfl ?_
          refine w18.ifY (q := 250) at_241 ((if0 _ _).trans (feq (by decide)).2) (by decide) (by decide) ?_
          refine w18.lload (q := 252) at_250 rfl rfl ?_
          refine w18.lload (q := 254) at_252 rfl rfl ?_
          refine w18.lsub (q := 255) at_254 rfl ?_
          refine w18.lconst (q := 256) (0 : Int64) at_255 rfl rfl ?_
          refine w18.lcmp (q := 257) at_256 rfl ?_
          have rg : (ga + gb) - ((ga + gb) + ((4 : Int64) * (lg + na))) = (tz + (ga + gb)) - ((tz + (ga + gb)) + ((4 : Int64) * (lg + na))) := by grind
          rw [← rg] at c1
          refine w18.ifY (q := 266) at_257 ((if0 _ _).trans (tlt c1).1) (by decide) (by decide) ?_
          refine w18.lload (q := 268) at_266 rfl rfl ?_
          refine w18.ldc2J (q := 271) at_268 (H.tw 302 rfl) rfl ?_
          refine w18.lload (q := 273) at_271 rfl rfl ?_
          refine w18.lmul (q := 274) at_273 rfl ?_
          refine w18.lcmp (q := 275) at_274 rfl ?_
          have rg2 : (ga + gb) = (tz + (ga + gb)) - tz := by grind
          rw [← rg2] at c2
          refine w18.ifN (q := 278) at_275 ((if0 _ _).trans (flt c2).1) rfl ?_
          refine w18.iconst (q := 279) (2 : Int32) at_278 rfl rfl ?_
          refine w18.istore (q := 281) (L2 := #[.val (.long xw), .second, .val (.long tz), .second, .val (.long ya), .second, .val (.long yb), .second, .val (.long yc), .second, .val (.int fg), .val (.long lg), .second, .val (.long na), .second, .val (.long ga), .second, .val (.long gb), .second, .val (.long gc), .second, .val (.int (1 : Int32)), .val (.int (0 : Int32)), .val (.int se), .val (.long ((4 : Int64) * (lg + na))), .second, .val (.long (ga + gb)), .second, .val (.long ((ga + gb) + gc)), .second, .val (.ref b1), .val (.ref b5), .val (.ref b10), .val (.int (1 : Int32)), .val (.long ((ga + gb) + ((4 : Int64) * (lg + na)))), .second, .val (.int (2 : Int32)), .unset]) at_279 rfl rfl ?_
          refine w18.goto (q := 287) at_281 (by decide) (by decide) ?_
          refine w18.iload (q := 289) at_287 rfl rfl ?_
          refine w18.ifN (q := 292) at_289 ((if0 _ _).trans (feq (by decide)).1) rfl ?_
          refine w18.aload (q := 294) at_292 rfl rfl rfl ?_
          refine w18.callV (q := 297) at_294 (H.tw 201 rfl) (H.tw 202 rfl) (notFace_of_selects (C := "com/example/versioned_table/versionedtable/KeyHold") (args := G.a0) (H.tw 204 rfl)) (H.tw 204 rfl) (H.tw 203 rfl) (by decide) E (argsL := []) (rest := []) rfl (lenOf pd14 rfl) rfl (W := 0) (Nat.le_of_eq rfl) ((con_hoP G H b10 _ _ _ h18 w18.old E Flw Fpu (Ooe.ext w18.old.2) Op_).pay w18 (H.tw 205 rfl) (H.tw 159 rfl) (by decide) (by decide)) (by decide) (by decide) rfl fun vm22 T22 h22 v22 w22 q22 => ?_
          obtain ⟨_, rfl, rfl, rfl⟩ := q22
          show Go _ _ _ _ (T22.setTop (mkF X.m 297 #[.val (.long xw), .second, .val (.long tz), .second, .val (.long ya), .second, .val (.long yb), .second, .val (.long yc), .second, .val (.int fg), .val (.long lg), .second, .val (.long na), .second, .val (.long ga), .second, .val (.long gb), .second, .val (.long gc), .second, .val (.int (1 : Int32)), .val (.int (0 : Int32)), .val (.int se), .val (.long ((4 : Int64) * (lg + na))), .second, .val (.long (ga + gb)), .second, .val (.long ((ga + gb) + gc)), .second, .val (.ref b1), .val (.ref b5), .val (.ref b10), .val (.int (1 : Int32)), .val (.long ((ga + gb) + ((4 : Int64) * (lg + na)))), .second, .val (.int (2 : Int32)), .unset] [(.int (1 : Int32))]))
          refine w22.iload (q := 299) at_297 rfl rfl ?_
          refine w22.ifN (q := 302) at_299 ((if0 _ _).trans (feq (by decide)).1) rfl ?_
          refine w22.iconst (q := 303) (1 : Int32) at_302 rfl rfl ?_
          refine w22.goto (q := 307) at_303 (by decide) (by decide) ?_
          refine w22.icN (q := 310) at_307 ((teq rfl).2) rfl ?_
          refine w22.iconst (q := 311) (1 : Int32) at_310 rfl rfl ?_
          refine w22.goto (q := 315) at_311 (by decide) (by decide) ?_
          refine w22.istore (q := 317) (L2 := #[.val (.long xw), .second, .val (.long tz), .second, .val (.long ya), .second, .val (.long yb), .second, .val (.long yc), .second, .val (.int fg), .val (.long lg), .second, .val (.long na), .second, .val (.long ga), .second, .val (.long gb), .second, .val (.long gc), .second, .val (.int (1 : Int32)), .val (.int (0 : Int32)), .val (.int se), .val (.long ((4 : Int64) * (lg + na))), .second, .val (.long (ga + gb)), .second, .val (.long ((ga + gb) + gc)), .second, .val (.ref b1), .val (.ref b5), .val (.ref b10), .val (.int (1 : Int32)), .val (.long ((ga + gb) + ((4 : Int64) * (lg + na)))), .second, .val (.int (2 : Int32)), .unset]) at_315 rfl rfl ?_
          refine w22.iload (q := 319) at_317 rfl rfl ?_
          by_cases c_se : se = (0 : Int32)
          ·
            refine w22.ifY (q := 394) at_319 ((if0 _ _).trans (teq c_se).1) (by decide) (by decide) ?_
            refine w22.iload (q := 396) at_394 rfl rfl ?_
            exact w22.retZ at_396 (t := .boolean) rfl (by decide) rfl (by decide) (by decide) ⟨_, rfl, rfl⟩
          ·
            refine w22.ifN (q := 322) at_319 ((if0 _ _).trans (feq c_se).1) rfl ?_
            refine w22.aload (q := 324) at_322 rfl rfl rfl ?_
            refine w22.lloadN (q := 325) at_324 rfl rfl ?_
            refine w22.lload (q := 327) at_325 rfl rfl ?_
            refine w22.ladd (q := 328) at_327 rfl ?_
            refine w22.callV (q := 331) at_328 (H.tw 173 rfl) (H.tw 174 rfl) (notFace_of_selects (C := "com/example/versioned_table/versionedtable/KeyHold") (args := G.a0) (H.tw 176 rfl)) (H.tw 176 rfl) (H.tw 175 rfl) (by decide) E (argsL := [(.long (tz + ((ga + gb) + gc)))]) (rest := []) rfl (lenOf pd71 rfl) rfl (W := 0) (Nat.le_of_eq rfl) ((con_w2 G H b10 oe _ _ _ _ _ _ (tz + ((ga + gb) + gc)) ((tz + (ga + gb)) + ((4 : Int64) * (lg + na))) _ Soe Ooe h18 w22.old E Flw Fiu Fpu FL Fbg Fwr Fan Fps g10 Op_ Al).pay w22 (H.tw 177 rfl) (H.tw 159 rfl) (by decide) (by decide)) (by decide) (by decide) rfl fun vm23 T23 h23 v23 w23 q23 => ?_
            obtain ⟨_, rfl, z23, rfl, K23, dj⟩ := q23
            show Go _ _ _ _ (T23.setTop (mkF X.m 331 #[.val (.long xw), .second, .val (.long tz), .second, .val (.long ya), .second, .val (.long yb), .second, .val (.long yc), .second, .val (.int fg), .val (.long lg), .second, .val (.long na), .second, .val (.long ga), .second, .val (.long gb), .second, .val (.long gc), .second, .val (.int (1 : Int32)), .val (.int (0 : Int32)), .val (.int se), .val (.long ((4 : Int64) * (lg + na))), .second, .val (.long (ga + gb)), .second, .val (.long ((ga + gb) + gc)), .second, .val (.ref b1), .val (.ref b5), .val (.ref b10), .val (.int (1 : Int32)), .val (.long ((ga + gb) + ((4 : Int64) * (lg + na)))), .second, .val (.int (2 : Int32)), .unset] [(.long z23)]))
            refine w23.pop2L (q := 332) at_331 rfl ?_
            rcases dj with ⟨ca, Op_, E, Flw, Fiu, Fpu, FL, Fbg, Fwr, Fan, Fps⟩ | ⟨ca, E, Flw, Fiu, Fpu, FL, Fbg, Fwr, Fan, Fps⟩
            ·
              refine w23.iload (q := 334) at_332 rfl rfl ?_
              refine w23.ifY (q := 343) at_334 ((if0 _ _).trans (feq (by decide)).2) (by decide) (by decide) ?_
              refine w23.iload (q := 345) at_343 rfl rfl ?_
              refine w23.iconst (q := 346) (2 : Int32) at_345 rfl rfl ?_
              refine w23.icN (q := 349) at_346 ((teq rfl).2) rfl ?_
              refine w23.lload (q := 351) at_349 rfl rfl ?_
              refine w23.lload (q := 353) at_351 rfl rfl ?_
              refine w23.lsub (q := 354) at_353 rfl ?_
              refine w23.lconst (q := 355) (0 : Int64) at_354 rfl rfl ?_
              refine w23.lcmp (q := 356) at_355 rfl ?_
              refine w23.ifN (q := 359) at_356 ((if0 _ _).trans (tlt (by rw [show ((ga + gb) + ((4 : Int64) * (lg + na))) - ((ga + gb) + gc) = ((tz + (ga + gb)) + ((4 : Int64) * (lg + na))) - (tz + ((ga + gb) + gc)) by grind]; exact ca)).2.2.2) rfl ?_
              refine w23.iconst (q := 360) (1 : Int32) at_359 rfl rfl ?_
              refine w23.goto (q := 364) at_360 (by decide) (by decide) ?_
              refine w23.istore (q := 366) (L2 := #[.val (.long xw), .second, .val (.long tz), .second, .val (.long ya), .second, .val (.long yb), .second, .val (.long yc), .second, .val (.int fg), .val (.long lg), .second, .val (.long na), .second, .val (.long ga), .second, .val (.long gb), .second, .val (.long gc), .second, .val (.int (1 : Int32)), .val (.int (0 : Int32)), .val (.int se), .val (.long ((4 : Int64) * (lg + na))), .second, .val (.long (ga + gb)), .second, .val (.long ((ga + gb) + gc)), .second, .val (.ref b1), .val (.ref b5), .val (.ref b10), .val (.int (1 : Int32)), .val (.long ((ga + gb) + ((4 : Int64) * (lg + na)))), .second, .val (.int (2 : Int32)), .val (.int (1 : Int32))]) at_364 rfl rfl ?_
              refine w23.goto (q := 372) at_366 (by decide) (by decide) ?_
              refine w23.iload (q := 374) at_372 rfl rfl ?_
              refine w23.ifN (q := 377) at_374 ((if0 _ _).trans (feq (by decide)).1) rfl ?_
              refine w23.aload (q := 379) at_377 rfl rfl rfl ?_
              refine w23.callV (q := 382) at_379 (H.tw 201 rfl) (H.tw 202 rfl) (notFace_of_selects (C := "com/example/versioned_table/versionedtable/KeyHold") (args := G.a0) (H.tw 204 rfl)) (H.tw 204 rfl) (H.tw 203 rfl) (by decide) E (argsL := []) (rest := []) rfl (lenOf pd14 rfl) rfl (W := 0) (Nat.le_of_eq rfl) ((con_hoP G H b10 _ _ _ h23 w23.old E Flw Fpu (Ooe.ext w23.old.2) Op_).pay w23 (H.tw 205 rfl) (H.tw 159 rfl) (by decide) (by decide)) (by decide) (by decide) rfl fun vm24 T24 h24 v24 w24 q24 => ?_
              obtain ⟨_, rfl, rfl, rfl⟩ := q24
              show Go _ _ _ _ (T24.setTop (mkF X.m 382 #[.val (.long xw), .second, .val (.long tz), .second, .val (.long ya), .second, .val (.long yb), .second, .val (.long yc), .second, .val (.int fg), .val (.long lg), .second, .val (.long na), .second, .val (.long ga), .second, .val (.long gb), .second, .val (.long gc), .second, .val (.int (1 : Int32)), .val (.int (0 : Int32)), .val (.int se), .val (.long ((4 : Int64) * (lg + na))), .second, .val (.long (ga + gb)), .second, .val (.long ((ga + gb) + gc)), .second, .val (.ref b1), .val (.ref b5), .val (.ref b10), .val (.int (1 : Int32)), .val (.long ((ga + gb) + ((4 : Int64) * (lg + na)))), .second, .val (.int (2 : Int32)), .val (.int (1 : Int32))] [(.int (1 : Int32))]))
              refine w24.iload (q := 384) at_382 rfl rfl ?_
              refine w24.icN (q := 387) at_384 ((teq rfl).2) rfl ?_
              refine w24.iconst (q := 388) (1 : Int32) at_387 rfl rfl ?_
              refine w24.goto (q := 392) at_388 (by decide) (by decide) ?_
              refine w24.istore (q := 394) (L2 := #[.val (.long xw), .second, .val (.long tz), .second, .val (.long ya), .second, .val (.long yb), .second, .val (.long yc), .second, .val (.int fg), .val (.long lg), .second, .val (.long na), .second, .val (.long ga), .second, .val (.long gb), .second, .val (.long gc), .second, .val (.int (1 : Int32)), .val (.int (0 : Int32)), .val (.int se), .val (.long ((4 : Int64) * (lg + na))), .second, .val (.long (ga + gb)), .second, .val (.long ((ga + gb) + gc)), .second, .val (.ref b1), .val (.ref b5), .val (.ref b10), .val (.int (1 : Int32)), .val (.long ((ga + gb) + ((4 : Int64) * (lg + na)))), .second, .val (.int (2 : Int32)), .val (.int (1 : Int32))]) at_392 rfl rfl ?_
              refine w24.iload (q := 396) at_394 rfl rfl ?_
              exact w24.retZ at_396 (t := .boolean) rfl (by decide) rfl (by decide) (by decide) ⟨_, rfl, rfl⟩
            ·
              refine w23.iload (q := 334) at_332 rfl rfl ?_
              refine w23.ifY (q := 343) at_334 ((if0 _ _).trans (feq (by decide)).2) (by decide) (by decide) ?_
              refine w23.iload (q := 345) at_343 rfl rfl ?_
              refine w23.iconst (q := 346) (2 : Int32) at_345 rfl rfl ?_
              refine w23.icN (q := 349) at_346 ((teq rfl).2) rfl ?_
              refine w23.lload (q := 351) at_349 rfl rfl ?_
              refine w23.lload (q := 353) at_351 rfl rfl ?_
              refine w23.lsub (q := 354) at_353 rfl ?_
              refine w23.lconst (q := 355) (0 : Int64) at_354 rfl rfl ?_
              refine w23.lcmp (q := 356) at_355 rfl ?_
              refine w23.ifY (q := 363) at_356 ((if0 _ _).trans (flt (by rw [show ((ga + gb) + ((4 : Int64) * (lg + na))) - ((ga + gb) + gc) = ((tz + (ga + gb)) + ((4 : Int64) * (lg + na))) - (tz + ((ga + gb) + gc)) by grind]; exact ca)).2.2.2) (by decide) (by decide) ?_
              refine w23.iconst (q := 364) (0 : Int32) at_363 rfl rfl ?_
              refine w23.istore (q := 366) (L2 := #[.val (.long xw), .second, .val (.long tz), .second, .val (.long ya), .second, .val (.long yb), .second, .val (.long yc), .second, .val (.int fg), .val (.long lg), .second, .val (.long na), .second, .val (.long ga), .second, .val (.long gb), .second, .val (.long gc), .second, .val (.int (1 : Int32)), .val (.int (0 : Int32)), .val (.int se), .val (.long ((4 : Int64) * (lg + na))), .second, .val (.long (ga + gb)), .second, .val (.long ((ga + gb) + gc)), .second, .val (.ref b1), .val (.ref b5), .val (.ref b10), .val (.int (1 : Int32)), .val (.long ((ga + gb) + ((4 : Int64) * (lg + na)))), .second, .val (.int (2 : Int32)), .val (.int (0 : Int32))]) at_364 rfl rfl ?_
              refine w23.goto (q := 372) at_366 (by decide) (by decide) ?_
              refine w23.iload (q := 374) at_372 rfl rfl ?_
              refine w23.ifN (q := 377) at_374 ((if0 _ _).trans (feq (by decide)).1) rfl ?_
              refine w23.aload (q := 379) at_377 rfl rfl rfl ?_
              refine w23.callV (q := 382) at_379 (H.tw 201 rfl) (H.tw 202 rfl) (notFace_of_selects (C := "com/example/versioned_table/versionedtable/KeyHold") (args := G.a0) (H.tw 204 rfl)) (H.tw 204 rfl) (H.tw 203 rfl) (by decide) E (argsL := []) (rest := []) rfl (lenOf pd14 rfl) rfl (W := 0) (Nat.le_of_eq rfl) ((con_ho0 G H b10 _ _ h23 w23.old E Flw Fpu (Ooe.ext w23.old.2) (Ooe.ext w23.old.2)).pay w23 (H.tw 205 rfl) (H.tw 159 rfl) (by decide) (by decide)) (by decide) (by decide) rfl fun vm25 T25 h25 v25 w25 q25 => ?_
              obtain ⟨_, rfl, rfl, rfl⟩ := q25
              show Go _ _ _ _ (T25.setTop (mkF X.m 382 #[.val (.long xw), .second, .val (.long tz), .second, .val (.long ya), .second, .val (.long yb), .second, .val (.long yc), .second, .val (.int fg), .val (.long lg), .second, .val (.long na), .second, .val (.long ga), .second, .val (.long gb), .second, .val (.long gc), .second, .val (.int (1 : Int32)), .val (.int (0 : Int32)), .val (.int se), .val (.long ((4 : Int64) * (lg + na))), .second, .val (.long (ga + gb)), .second, .val (.long ((ga + gb) + gc)), .second, .val (.ref b1), .val (.ref b5), .val (.ref b10), .val (.int (1 : Int32)), .val (.long ((ga + gb) + ((4 : Int64) * (lg + na)))), .second, .val (.int (2 : Int32)), .val (.int (0 : Int32))] [(.int (0 : Int32))]))
              refine w25.iload (q := 384) at_382 rfl rfl ?_
              refine w25.icN (q := 387) at_384 ((teq rfl).2) rfl ?_
              refine w25.iconst (q := 388) (1 : Int32) at_387 rfl rfl ?_
              refine w25.goto (q := 392) at_388 (by decide) (by decide) ?_
              refine w25.istore (q := 394) (L2 := #[.val (.long xw), .second, .val (.long tz), .second, .val (.long ya), .second, .val (.long yb), .second, .val (.long yc), .second, .val (.int fg), .val (.long lg), .second, .val (.long na), .second, .val (.long ga), .second, .val (.long gb), .second, .val (.long gc), .second, .val (.int (1 : Int32)), .val (.int (0 : Int32)), .val (.int se), .val (.long ((4 : Int64) * (lg + na))), .second, .val (.long (ga + gb)), .second, .val (.long ((ga + gb) + gc)), .second, .val (.ref b1), .val (.ref b5), .val (.ref b10), .val (.int (1 : Int32)), .val (.long ((ga + gb) + ((4 : Int64) * (lg + na)))), .second, .val (.int (2 : Int32)), .val (.int (0 : Int32))]) at_392 rfl rfl ?_
              refine w25.iload (q := 396) at_394 rfl rfl ?_
              exact w25.retZ at_396 (t := .boolean) rfl (by decide) rfl (by decide) (by decide) ⟨_, rfl, rfl⟩
        ·
          refine w18.iload (q := 221) at_219 rfl rfl ?_
          refine w18.ifY (q := 232) at_221 ((if0 _ _).trans (teq rfl).1) (by decide) (by decide) ?_
          refine w18.lload (q := 234) at_232 rfl rfl ?_
          refine w18.lload (q := 236) at_234 rfl rfl ?_
          refine w18.ladd (q := 237) at_236 rfl ?_
          refine w18.lstore (q := 239) (L2 := #[.val (.long xw), .second, .val (.long tz), .second, .val (.long ya), .second, .val (.long yb), .second, .val (.long yc), .second, .val (.int fg), .val (.long lg), .second, .val (.long na), .second, .val (.long ga), .second, .val (.long gb), .second, .val (.long gc), .second, .val (.int (1 : Int32)), .val (.int (0 : Int32)), .val (.int se), .val (.long ((4 : Int64) * (lg + na))), .second, .val (.long (ga + gb)), .second, .val (.long ((ga + gb) + gc)), .second, .val (.ref b1), .val (.ref b5), .val (.ref b10), .val (.int (1 : Int32)), .val (.long ((ga + gb) + ((4 : Int64) * (lg + na)))), .second, .unset, .unset]) at_237 rfl rfl ?_
          refine w18.iload (q := 241) at_239 rfl rfl ?_
          refine w18.ifY (q := 250) at_241 ((if0 _ _).trans (feq (by decide)).2) (by decide) (by decide) ?_
          refine w18.lload (q := 252) at_250 rfl rfl ?_
          refine w18.lload (q := 254) at_252 rfl rfl ?_
          refine w18.lsub (q := 255) at_254 rfl ?_
          refine w18.lconst (q := 256) (0 : Int64) at_255 rfl rfl ?_
          refine w18.lcmp (q := 257) at_256 rfl ?_
          have rg : (ga + gb) - ((ga + gb) + ((4 : Int64) * (lg + na))) = (tz + (ga + gb)) - ((tz + (ga + gb)) + ((4 : Int64) * (lg + na))) := by grind
          rw [← rg] at c1
          refine w18.ifY (q := 266) at_257 ((if0 _ _).trans (tlt c1).1) (by decide) (by decide) ?_
          refine w18.lload (q := 268) at_266 rfl rfl ?_
          refine w18.ldc2J (q := 271) at_268 (H.tw 302 rfl) rfl ?_
          refine w18.lload (q := 273) at_271 rfl rfl ?_
          refine w18.lmul (q := 274) at_273 rfl ?_
          refine w18.lcmp (q := 275) at_274 rfl ?_
          have rg2 : (ga + gb) = (tz + (ga + gb)) - tz := by grind
          rw [← rg2] at c2
          refine w18.ifY (q := 284) at_275 ((if0 _ _).trans (tlt c2).1) (by decide) (by decide) ?_
          refine w18.iconst (q := 285) (1 : Int32) at_284 rfl rfl ?_
          refine w18.istore (q := 287) (L2 := #[.val (.long xw), .second, .val (.long tz), .second, .val (.long ya), .second, .val (.long yb), .second, .val (.long yc), .second, .val (.int fg), .val (.long lg), .second, .val (.long na), .second, .val (.long ga), .second, .val (.long gb), .second, .val (.long gc), .second, .val (.int (1 : Int32)), .val (.int (0 : Int32)), .val (.int se), .val (.long ((4 : Int64) * (lg + na))), .second, .val (.long (ga + gb)), .second, .val (.long ((ga + gb) + gc)), .second, .val (.ref b1), .val (.ref b5), .val (.ref b10), .val (.int (1 : Int32)), .val (.long ((ga + gb) + ((4 : Int64) * (lg + na)))), .second, .val (.int (1 : Int32)), .unset]) at_285 rfl rfl ?_
          refine w18.iload (q := 289) at_287 rfl rfl ?_
          have hneg : lcmpW ((tz + ((ga + gb) + gc)) - ((tz + ((ga + gb) + gc)) + ((4 : Int64) * (lg + na)))) (0 : Int64) < (0 : Int32) := by rw [show (tz + ((ga + gb) + gc)) - ((tz + ((ga + gb) + gc)) + ((4 : Int64) * (lg + na))) = (ga + gb) - ((ga + gb) + ((4 : Int64) * (lg + na))) by grind]; exact c1
          refine w18.ifN (q := 292) at_289 ((if0 _ _).trans (feq (by decide)).1) rfl ?_
          refine w18.aload (q := 294) at_292 rfl rfl rfl ?_
          refine w18.callV (q := 297) at_294 (H.tw 201 rfl) (H.tw 202 rfl) (notFace_of_selects (C := "com/example/versioned_table/versionedtable/KeyHold") (args := G.a0) (H.tw 204 rfl)) (H.tw 204 rfl) (H.tw 203 rfl) (by decide) E (argsL := []) (rest := []) rfl (lenOf pd14 rfl) rfl (W := 0) (Nat.le_of_eq rfl) ((con_hoL G H b10 _ _ h18 w18.old E Flw Ol).pay w18 (H.tw 205 rfl) (H.tw 159 rfl) (by decide) (by decide)) (by decide) (by decide) rfl fun vm26 T26 h26 v26 w26 q26 => ?_
          obtain ⟨_, rfl, rfl, rfl⟩ := q26
          show Go _ _ _ _ (T26.setTop (mkF X.m 297 #[.val (.long xw), .second, .val (.long tz), .second, .val (.long ya), .second, .val (.long yb), .second, .val (.long yc), .second, .val (.int fg), .val (.long lg), .second, .val (.long na), .second, .val (.long ga), .second, .val (.long gb), .second, .val (.long gc), .second, .val (.int (1 : Int32)), .val (.int (0 : Int32)), .val (.int se), .val (.long ((4 : Int64) * (lg + na))), .second, .val (.long (ga + gb)), .second, .val (.long ((ga + gb) + gc)), .second, .val (.ref b1), .val (.ref b5), .val (.ref b10), .val (.int (1 : Int32)), .val (.long ((ga + gb) + ((4 : Int64) * (lg + na)))), .second, .val (.int (1 : Int32)), .unset] [(.int (1 : Int32))]))
          refine w26.iload (q := 299) at_297 rfl rfl ?_
          refine w26.ifN (q := 302) at_299 ((if0 _ _).trans (feq (by decide)).1) rfl ?_
          refine w26.iconst (q := 303) (1 : Int32) at_302 rfl rfl ?_
          refine w26.goto (q := 307) at_303 (by decide) (by decide) ?_
          refine w26.icN (q := 310) at_307 ((teq rfl).2) rfl ?_
          refine w26.iconst (q := 311) (1 : Int32) at_310 rfl rfl ?_
          refine w26.goto (q := 315) at_311 (by decide) (by decide) ?_
          refine w26.istore (q := 317) (L2 := #[.val (.long xw), .second, .val (.long tz), .second, .val (.long ya), .second, .val (.long yb), .second, .val (.long yc), .second, .val (.int fg), .val (.long lg), .second, .val (.long na), .second, .val (.long ga), .second, .val (.long gb), .second, .val (.long gc), .second, .val (.int (1 : Int32)), .val (.int (0 : Int32)), .val (.int se), .val (.long ((4 : Int64) * (lg + na))), .second, .val (.long (ga + gb)), .second, .val (.long ((ga + gb) + gc)), .second, .val (.ref b1), .val (.ref b5), .val (.ref b10), .val (.int (1 : Int32)), .val (.long ((ga + gb) + ((4 : Int64) * (lg + na)))), .second, .val (.int (1 : Int32)), .unset]) at_315 rfl rfl ?_
          refine w26.iload (q := 319) at_317 rfl rfl ?_
          by_cases c_se : se = (0 : Int32)
          ·
            refine w26.ifY (q := 394) at_319 ((if0 _ _).trans (teq c_se).1) (by decide) (by decide) ?_
            refine w26.iload (q := 396) at_394 rfl rfl ?_
            exact w26.retZ at_396 (t := .boolean) rfl (by decide) rfl (by decide) (by decide) ⟨_, rfl, rfl⟩
          ·
            refine w26.ifN (q := 322) at_319 ((if0 _ _).trans (feq c_se).1) rfl ?_
            refine w26.aload (q := 324) at_322 rfl rfl rfl ?_
            refine w26.lloadN (q := 325) at_324 rfl rfl ?_
            refine w26.lload (q := 327) at_325 rfl rfl ?_
            refine w26.ladd (q := 328) at_327 rfl ?_
            refine w26.callV (q := 331) at_328 (H.tw 173 rfl) (H.tw 174 rfl) (notFace_of_selects (C := "com/example/versioned_table/versionedtable/KeyHold") (args := G.a0) (H.tw 176 rfl)) (H.tw 176 rfl) (H.tw 175 rfl) (by decide) E (argsL := [(.long (tz + ((ga + gb) + gc)))]) (rest := []) rfl (lenOf pd71 rfl) rfl (W := 0) (Nat.le_of_eq rfl) ((con_w1n G H b10 oe _ _ _ _ _ (tz + ((ga + gb) + gc)) Soe Ooe h18 w26.old E Flw Fiu Fpu FL Fbg Fwr Fan Fps g10 Ol).pay w26 (H.tw 177 rfl) (H.tw 159 rfl) (by decide) (by decide)) (by decide) (by decide) rfl fun vm27 T27 h27 v27 w27 q27 => ?_
            obtain ⟨_, rfl, z27, rfl, K27, dj⟩ := q27
            show Go _ _ _ _ (T27.setTop (mkF X.m 331 #[.val (.long xw), .second, .val (.long tz), .second, .val (.long ya), .second, .val (.long yb), .second, .val (.long yc), .second, .val (.int fg), .val (.long lg), .second, .val (.long na), .second, .val (.long ga), .second, .val (.long gb), .second, .val (.long gc), .second, .val (.int (1 : Int32)), .val (.int (0 : Int32)), .val (.int se), .val (.long ((4 : Int64) * (lg + na))), .second, .val (.long (ga + gb)), .second, .val (.long ((ga + gb) + gc)), .second, .val (.ref b1), .val (.ref b5), .val (.ref b10), .val (.int (1 : Int32)), .val (.long ((ga + gb) + ((4 : Int64) * (lg + na)))), .second, .val (.int (1 : Int32)), .unset] [(.long z27)]))
            refine w27.pop2L (q := 332) at_331 rfl ?_
            rcases dj with ⟨c1, _, E, Flw, Fiu, Fpu, FL, Fbg, Fwr, Fan, Fps⟩ | ⟨c1, c2, _, pu, q, Op_, Al, E, Flw, Fiu, Fpu, FL, Fbg, Fwr, Fan, Fps⟩ | ⟨c1, c2, Ol, E, Flw, Fiu, Fpu, FL, Fbg, Fwr, Fan, Fps⟩
            ·
              exact absurd (hneg) c1
            ·
              refine w27.iload (q := 334) at_332 rfl rfl ?_
              refine w27.ifY (q := 343) at_334 ((if0 _ _).trans (feq (by decide)).2) (by decide) (by decide) ?_
              refine w27.iload (q := 345) at_343 rfl rfl ?_
              refine w27.iconst (q := 346) (2 : Int32) at_345 rfl rfl ?_
              refine w27.icY (q := 369) at_346 ((feq (by decide)).2) (by decide) (by decide) ?_
              refine w27.iconst (q := 370) (1 : Int32) at_369 rfl rfl ?_
              refine w27.istore (q := 372) (L2 := #[.val (.long xw), .second, .val (.long tz), .second, .val (.long ya), .second, .val (.long yb), .second, .val (.long yc), .second, .val (.int fg), .val (.long lg), .second, .val (.long na), .second, .val (.long ga), .second, .val (.long gb), .second, .val (.long gc), .second, .val (.int (1 : Int32)), .val (.int (0 : Int32)), .val (.int se), .val (.long ((4 : Int64) * (lg + na))), .second, .val (.long (ga + gb)), .second, .val (.long ((ga + gb) + gc)), .second, .val (.ref b1), .val (.ref b5), .val (.ref b10), .val (.int (1 : Int32)), .val (.long ((ga + gb) + ((4 : Int64) * (lg + na)))), .second, .val (.int (1 : Int32)), .val (.int (1 : Int32))]) at_370 rfl rfl ?_
              refine w27.iload (q := 374) at_372 rfl rfl ?_
              refine w27.ifN (q := 377) at_374 ((if0 _ _).trans (feq (by decide)).1) rfl ?_
              refine w27.aload (q := 379) at_377 rfl rfl rfl ?_
              refine w27.callV (q := 382) at_379 (H.tw 201 rfl) (H.tw 202 rfl) (notFace_of_selects (C := "com/example/versioned_table/versionedtable/KeyHold") (args := G.a0) (H.tw 204 rfl)) (H.tw 204 rfl) (H.tw 203 rfl) (by decide) E (argsL := []) (rest := []) rfl (lenOf pd14 rfl) rfl (W := 0) (Nat.le_of_eq rfl) ((con_hoP G H b10 _ _ _ h27 w27.old E Flw Fpu (Ooe.ext w27.old.2) Op_).pay w27 (H.tw 205 rfl) (H.tw 159 rfl) (by decide) (by decide)) (by decide) (by decide) rfl fun vm28 T28 h28 v28 w28 q28 => ?_
              obtain ⟨_, rfl, rfl, rfl⟩ := q28
              show Go _ _ _ _ (T28.setTop (mkF X.m 382 #[.val (.long xw), .second, .val (.long tz), .second, .val (.long ya), .second, .val (.long yb), .second, .val (.long yc), .second, .val (.int fg), .val (.long lg), .second, .val (.long na), .second, .val (.long ga), .second, .val (.long gb), .second, .val (.long gc), .second, .val (.int (1 : Int32)), .val (.int (0 : Int32)), .val (.int se), .val (.long ((4 : Int64) * (lg + na))), .second, .val (.long (ga + gb)), .second, .val (.long ((ga + gb) + gc)), .second, .val (.ref b1), .val (.ref b5), .val (.ref b10), .val (.int (1 : Int32)), .val (.long ((ga + gb) + ((4 : Int64) * (lg + na)))), .second, .val (.int (1 : Int32)), .val (.int (1 : Int32))] [(.int (1 : Int32))]))
              refine w28.iload (q := 384) at_382 rfl rfl ?_
              refine w28.icN (q := 387) at_384 ((teq rfl).2) rfl ?_
              refine w28.iconst (q := 388) (1 : Int32) at_387 rfl rfl ?_
              refine w28.goto (q := 392) at_388 (by decide) (by decide) ?_
              refine w28.istore (q := 394) (L2 := #[.val (.long xw), .second, .val (.long tz), .second, .val (.long ya), .second, .val (.long yb), .second, .val (.long yc), .second, .val (.int fg), .val (.long lg), .second, .val (.long na), .second, .val (.long ga), .second, .val (.long gb), .second, .val (.long gc), .second, .val (.int (1 : Int32)), .val (.int (0 : Int32)), .val (.int se), .val (.long ((4 : Int64) * (lg + na))), .second, .val (.long (ga + gb)), .second, .val (.long ((ga + gb) + gc)), .second, .val (.ref b1), .val (.ref b5), .val (.ref b10), .val (.int (1 : Int32)), .val (.long ((ga + gb) + ((4 : Int64) * (lg + na)))), .second, .val (.int (1 : Int32)), .val (.int (1 : Int32))]) at_392 rfl rfl ?_
              refine w28.iload (q := 396) at_394 rfl rfl ?_
              exact w28.retZ at_396 (t := .boolean) rfl (by decide) rfl (by decide) (by decide) ⟨_, rfl, rfl⟩
            ·
              refine w27.iload (q := 334) at_332 rfl rfl ?_
              refine w27.ifY (q := 343) at_334 ((if0 _ _).trans (feq (by decide)).2) (by decide) (by decide) ?_
              refine w27.iload (q := 345) at_343 rfl rfl ?_
              refine w27.iconst (q := 346) (2 : Int32) at_345 rfl rfl ?_
              refine w27.icY (q := 369) at_346 ((feq (by decide)).2) (by decide) (by decide) ?_
              refine w27.iconst (q := 370) (1 : Int32) at_369 rfl rfl ?_
              refine w27.istore (q := 372) (L2 := #[.val (.long xw), .second, .val (.long tz), .second, .val (.long ya), .second, .val (.long yb), .second, .val (.long yc), .second, .val (.int fg), .val (.long lg), .second, .val (.long na), .second, .val (.long ga), .second, .val (.long gb), .second, .val (.long gc), .second, .val (.int (1 : Int32)), .val (.int (0 : Int32)), .val (.int se), .val (.long ((4 : Int64) * (lg + na))), .second, .val (.long (ga + gb)), .second, .val (.long ((ga + gb) + gc)), .second, .val (.ref b1), .val (.ref b5), .val (.ref b10), .val (.int (1 : Int32)), .val (.long ((ga + gb) + ((4 : Int64) * (lg + na)))), .second, .val (.int (1 : Int32)), .val (.int (1 : Int32))]) at_370 rfl rfl ?_
              refine w27.iload (q := 374) at_372 rfl rfl ?_
              refine w27.ifN (q := 377) at_374 ((if0 _ _).trans (feq (by decide)).1) rfl ?_
              refine w27.aload (q := 379) at_377 rfl rfl rfl ?_
              refine w27.callV (q := 382) at_379 (H.tw 201 rfl) (H.tw 202 rfl) (notFace_of_selects (C := "com/example/versioned_table/versionedtable/KeyHold") (args := G.a0) (H.tw 204 rfl)) (H.tw 204 rfl) (H.tw 203 rfl) (by decide) E (argsL := []) (rest := []) rfl (lenOf pd14 rfl) rfl (W := 0) (Nat.le_of_eq rfl) ((con_hoL G H b10 _ _ h27 w27.old E Flw Ol).pay w27 (H.tw 205 rfl) (H.tw 159 rfl) (by decide) (by decide)) (by decide) (by decide) rfl fun vm29 T29 h29 v29 w29 q29 => ?_
              obtain ⟨_, rfl, rfl, rfl⟩ := q29
              show Go _ _ _ _ (T29.setTop (mkF X.m 382 #[.val (.long xw), .second, .val (.long tz), .second, .val (.long ya), .second, .val (.long yb), .second, .val (.long yc), .second, .val (.int fg), .val (.long lg), .second, .val (.long na), .second, .val (.long ga), .second, .val (.long gb), .second, .val (.long gc), .second, .val (.int (1 : Int32)), .val (.int (0 : Int32)), .val (.int se), .val (.long ((4 : Int64) * (lg + na))), .second, .val (.long (ga + gb)), .second, .val (.long ((ga + gb) + gc)), .second, .val (.ref b1), .val (.ref b5), .val (.ref b10), .val (.int (1 : Int32)), .val (.long ((ga + gb) + ((4 : Int64) * (lg + na)))), .second, .val (.int (1 : Int32)), .val (.int (1 : Int32))] [(.int (1 : Int32))]))
              refine w29.iload (q := 384) at_382 rfl rfl ?_
              refine w29.icN (q := 387) at_384 ((teq rfl).2) rfl ?_
              refine w29.iconst (q := 388) (1 : Int32) at_387 rfl rfl ?_
              refine w29.goto (q := 392) at_388 (by decide) (by decide) ?_
              refine w29.istore (q := 394) (L2 := #[.val (.long xw), .second, .val (.long tz), .second, .val (.long ya), .second, .val (.long yb), .second, .val (.long yc), .second, .val (.int fg), .val (.long lg), .second, .val (.long na), .second, .val (.long ga), .second, .val (.long gb), .second, .val (.long gc), .second, .val (.int (1 : Int32)), .val (.int (0 : Int32)), .val (.int se), .val (.long ((4 : Int64) * (lg + na))), .second, .val (.long (ga + gb)), .second, .val (.long ((ga + gb) + gc)), .second, .val (.ref b1), .val (.ref b5), .val (.ref b10), .val (.int (1 : Int32)), .val (.long ((ga + gb) + ((4 : Int64) * (lg + na)))), .second, .val (.int (1 : Int32)), .val (.int (1 : Int32))]) at_392 rfl rfl ?_
              refine w29.iload (q := 396) at_394 rfl rfl ?_
              exact w29.retZ at_396 (t := .boolean) rfl (by decide) rfl (by decide) (by decide) ⟨_, rfl, rfl⟩
      ·
        refine w17.ifN (q := 199) at_196 ((if0 _ _).trans (feq c_id).1) rfl ?_
        have d1 : id_ = 1 := hid.resolve_left c_id
        subst d1
        refine w17.aload (q := 201) at_199 rfl rfl rfl ?_
        refine w17.lloadN (q := 202) at_201 rfl rfl ?_
        refine w17.lload (q := 204) at_202 rfl rfl ?_
        refine w17.ladd (q := 205) at_204 rfl ?_
        refine w17.callV (q := 208) at_205 (H.tw 228 rfl) (H.tw 229 rfl) (notFace_of_selects (C := "com/example/versioned_table/versionedtable/KeyHold") (args := G.a0) (H.tw 231 rfl)) (H.tw 231 rfl) (H.tw 230 rfl) (by decide) E (argsL := [(.long (tz + ga))]) (rest := []) rfl (lenOf pd71 rfl) rfl (W := 0) (Nat.le_of_eq rfl) ((con_idle G H b10 _ oe _ _ _ _ (tz + ga) Soe Ooe h16 w17.old E Flw Fiu Fpu FL Fbg Fwr Fan Fps g10 Ol).pay w17 (H.tw 232 rfl) (H.tw 159 rfl) (by decide) (by decide)) (by decide) (by decide) rfl fun vm30 T30 h30 v30 w30 q30 => ?_
        obtain ⟨_, rfl, z30, iu, l, rfl, K30, Oi, Al, Ol, E, Flw, Fiu, Fpu, FL, Fbg, Fwr, Fan, Fps⟩ := q30
        show Go _ _ _ _ (T30.setTop (mkF X.m 208 #[.val (.long xw), .second, .val (.long tz), .second, .val (.long ya), .second, .val (.long yb), .second, .val (.long yc), .second, .val (.int fg), .val (.long lg), .second, .val (.long na), .second, .val (.long ga), .second, .val (.long gb), .second, .val (.long gc), .second, .val (.int (1 : Int32)), .val (.int (1 : Int32)), .val (.int se), .val (.long ((4 : Int64) * (lg + na))), .second, .val (.long (ga + gb)), .second, .val (.long ((ga + gb) + gc)), .second, .val (.ref b1), .val (.ref b5), .val (.ref b10), .val (.int (1 : Int32)), .unset, .unset, .unset, .unset] [(.long z30)]))
        refine w30.pop2L (q := 209) at_208 rfl ?_
        refine w30.aload (q := 211) at_209 rfl rfl rfl ?_
        refine w30.lloadN (q := 212) at_211 rfl rfl ?_
        refine w30.lload (q := 214) at_212 rfl rfl ?_
        refine w30.ladd (q := 215) at_214 rfl ?_
        refine w30.callV (q := 218) at_215 (H.tw 173 rfl) (H.tw 174 rfl) (notFace_of_selects (C := "com/example/versioned_table/versionedtable/KeyHold") (args := G.a0) (H.tw 176 rfl)) (H.tw 176 rfl) (H.tw 175 rfl) (by decide) E (argsL := [(.long (tz + (ga + gb)))]) (rest := []) rfl (lenOf pd71 rfl) rfl (W := 0) (Nat.le_of_eq rfl) ((con_w1i G H b10 oe _ _ _ _ _ (tz + (ga + gb)) _ _ ((tz + ga) + ((4 : Int64) * (lg + na))) Soe Ooe h30 w30.old E Flw Fiu Fpu FL Fbg Fwr Fan Fps g10 Ol Oi Al).pay w30 (H.tw 177 rfl) (H.tw 159 rfl) (by decide) (by decide)) (by decide) (by decide) rfl fun vm31 T31 h31 v31 w31 q31 => ?_
        obtain ⟨_, rfl, z31, rfl, K31, dj⟩ := q31
        show Go _ _ _ _ (T31.setTop (mkF X.m 218 #[.val (.long xw), .second, .val (.long tz), .second, .val (.long ya), .second, .val (.long yb), .second, .val (.long yc), .second, .val (.int fg), .val (.long lg), .second, .val (.long na), .second, .val (.long ga), .second, .val (.long gb), .second, .val (.long gc), .second, .val (.int (1 : Int32)), .val (.int (1 : Int32)), .val (.int se), .val (.long ((4 : Int64) * (lg + na))), .second, .val (.long (ga + gb)), .second, .val (.long ((ga + gb) + gc)), .second, .val (.ref b1), .val (.ref b5), .val (.ref b10), .val (.int (1 : Int32)), .unset, .unset, .unset, .unset] [(.long z31)]))
        refine w31.pop2L (q := 219) at_218 rfl ?_
        rcases dj with ⟨c1, _, E, Flw, Fiu, Fpu, FL, Fbg, Fwr, Fan, Fps⟩ | ⟨c1, c2, _, pu, q, Op_, Al, E, Flw, Fiu, Fpu, FL, Fbg, Fwr, Fan, Fps⟩ | ⟨c1, c2, Ol, E, Flw, Fiu, Fpu, FL, Fbg, Fwr, Fan, Fps⟩
        ·
          refine w31.iload (q := 221) at_219 rfl rfl ?_
          refine w31.ifN (q := 224) at_221 ((if0 _ _).trans (feq (by decide)).1) rfl ?_
          refine w31.lload (q := 226) at_224 rfl rfl ?_
          refine w31.lload (q := 228) at_226 rfl rfl ?_
          refine w31.ladd (q := 229) at_228 rfl ?_
          refine w31.goto (q := 237) at_229 (by decide) (by decide) ?_
          refine w31.lstore (q := 239) (L2 := #[.val (.long xw), .second, .val (.long tz), .second, .val (.long ya), .second, .val (.long yb), .second, .val (.long yc), .second, .val (.int fg), .val (.long lg), .second, .val (.long na), .second, .val (.long ga), .second, .val (.long gb), .second, .val (.long gc), .second, .val (.int (1 : Int32)), .val (.int (1 : Int32)), .val (.int se), .val (.long ((4 : Int64) * (lg + na))), .second, .val (.long (ga + gb)), .second, .val (.long ((ga + gb) + gc)), .second, .val (.ref b1), .val (.ref b5), .val (.ref b10), .val (.int (1 : Int32)), .val (.long (ga + ((4 : Int64) * (lg + na)))), .second, .unset, .unset]) at_237 rfl rfl ?_
          refine w31.iload (q := 241) at_239 rfl rfl ?_
          refine w31.ifY (q := 250) at_241 ((if0 _ _).trans (feq (by decide)).2) (by decide) (by decide) ?_
          refine w31.lload (q := 252) at_250 rfl rfl ?_
          refine w31.lload (q := 254) at_252 rfl rfl ?_
          refine w31.lsub (q := 255) at_254 rfl ?_
          refine w31.lconst (q := 256) (0 : Int64) at_255 rfl rfl ?_
          refine w31.lcmp (q := 257) at_256 rfl ?_
          have rg : (ga + gb) - (ga + ((4 : Int64) * (lg + na))) = (tz + (ga + gb)) - ((tz + ga) + ((4 : Int64) * (lg + na))) := by grind
          rw [← rg] at c1
          refine w31.ifN (q := 260) at_257 ((if0 _ _).trans (flt c1).1) rfl ?_
          refine w31.iconst (q := 261) (0 : Int32) at_260 rfl rfl ?_
          refine w31.istore (q := 263) (L2 := #[.val (.long xw), .second, .val (.long tz), .second, .val (.long ya), .second, .val (.long yb), .second, .val (.long yc), .second, .val (.int fg), .val (.long lg), .second, .val (.long na), .second, .val (.long ga), .second, .val (.long gb), .second, .val (.long gc), .second, .val (.int (1 : Int32)), .val (.int (1 : Int32)), .val (.int se), .val (.long ((4 : Int64) * (lg + na))), .second, .val (.long (ga + gb)), .second, .val (.long ((ga + gb) + gc)), .second, .val (.ref b1), .val (.ref b5), .val (.ref b10), .val (.int (1 : Int32)), .val (.long (ga + ((4 : Int64) * (lg + na)))), .second, .val (.int (0 : Int32)), .unset]) at_261 rfl rfl ?_
          refine w31.goto (q := 287) at_263 (by decide) (by decide) ?_
          refine w31.iload (q := 289) at_287 rfl rfl ?_
          refine w31.ifN (q := 292) at_289 ((if0 _ _).trans (feq (by decide)).1) rfl ?_
          refine w31.aload (q := 294) at_292 rfl rfl rfl ?_
          refine w31.callV (q := 297) at_294 (H.tw 201 rfl) (H.tw 202 rfl) (notFace_of_selects (C := "com/example/versioned_table/versionedtable/KeyHold") (args := G.a0) (H.tw 204 rfl)) (H.tw 204 rfl) (H.tw 203 rfl) (by decide) E (argsL := []) (rest := []) rfl (lenOf pd14 rfl) rfl (W := 0) (Nat.le_of_eq rfl) ((con_ho0 G H b10 _ _ h31 w31.old E Flw Fpu (Ooe.ext w31.old.2) (Ooe.ext w31.old.2)).pay w31 (H.tw 205 rfl) (H.tw 159 rfl) (by decide) (by decide)) (by decide) (by decide) rfl fun vm32 T32 h32 v32 w32 q32 => ?_
          obtain ⟨_, rfl, rfl, rfl⟩ := q32
          show Go _ _ _ _ (T32.setTop (mkF X.m 297 #[.val (.long xw), .second, .val (.long tz), .second, .val (.long ya), .second, .val (.long yb), .second, .val (.long yc), .second, .val (.int fg), .val (.long lg), .second, .val (.long na), .second, .val (.long ga), .second, .val (.long gb), .second, .val (.long gc), .second, .val (.int (1 : Int32)), .val (.int (1 : Int32)), .val (.int se), .val (.long ((4 : Int64) * (lg + na))), .second, .val (.long (ga + gb)), .second, .val (.long ((ga + gb) + gc)), .second, .val (.ref b1), .val (.ref b5), .val (.ref b10), .val (.int (1 : Int32)), .val (.long (ga + ((4 : Int64) * (lg + na)))), .second, .val (.int (0 : Int32)), .unset] [(.int (0 : Int32))]))
          refine w32.iload (q := 299) at_297 rfl rfl ?_
          refine w32.ifY (q := 306) at_299 ((if0 _ _).trans (teq rfl).1) (by decide) (by decide) ?_
          refine w32.iconst (q := 307) (0 : Int32) at_306 rfl rfl ?_
          refine w32.icN (q := 310) at_307 ((teq rfl).2) rfl ?_
          refine w32.iconst (q := 311) (1 : Int32) at_310 rfl rfl ?_
          refine w32.goto (q := 315) at_311 (by decide) (by decide) ?_
          refine w32.istore (q := 317) (L2 := #[.val (.long xw), .second, .val (.long tz), .second, .val (.long ya), .second, .val (.long yb), .second, .val (.long yc), .second, .val (.int fg), .val (.long lg), .second, .val (.long na), .second, .val (.long ga), .second, .val (.long gb), .second, .val (.long gc), .second, .val (.int (1 : Int32)), .val (.int (1 : Int32)), .val (.int se), .val (.long ((4 : Int64) * (lg + na))), .second, .val (.long (ga + gb)), .second, .val (.long ((ga + gb) + gc)), .second, .val (.ref b1), .val (.ref b5), .val (.ref b10), .val (.int (1 : Int32)), .val (.long (ga + ((4 : Int64) * (lg + na)))), .second, .val (.int (0 : Int32)), .unset]) at_315 rfl rfl ?_
          refine w32.iload (q := 319) at_317 rfl rfl ?_
          by_cases c_se : se = (0 : Int32)
          ·
            refine w32.ifY (q := 394) at_319 ((if0 _ _).trans (teq c_se).1) (by decide) (by decide) ?_
            refine w32.iload (q := 396) at_394 rfl rfl ?_
            exact w32.retZ at_396 (t := .boolean) rfl (by decide) rfl (by decide) (by decide) ⟨_, rfl, rfl⟩
          ·
            refine w32.ifN (q := 322) at_319 ((if0 _ _).trans (feq c_se).1) rfl ?_
            refine w32.aload (q := 324) at_322 rfl rfl rfl ?_
            refine w32.lloadN (q := 325) at_324 rfl rfl ?_
            refine w32.lload (q := 327) at_325 rfl rfl ?_
            refine w32.ladd (q := 328) at_327 rfl ?_
            refine w32.callV (q := 331) at_328 (H.tw 173 rfl) (H.tw 174 rfl) (notFace_of_selects (C := "com/example/versioned_table/versionedtable/KeyHold") (args := G.a0) (H.tw 176 rfl)) (H.tw 176 rfl) (H.tw 175 rfl) (by decide) E (argsL := [(.long (tz + ((ga + gb) + gc)))]) (rest := []) rfl (lenOf pd71 rfl) rfl (W := 0) (Nat.le_of_eq rfl) ((con_w0 G H b10 oe _ _ _ _ (tz + ((ga + gb) + gc)) _ Soe Ooe h31 w32.old E Flw Fiu Fpu FL Fbg Fwr Fan Fps g10).pay w32 (H.tw 177 rfl) (H.tw 159 rfl) (by decide) (by decide)) (by decide) (by decide) rfl fun vm33 T33 h33 v33 w33 q33 => ?_
            obtain ⟨_, rfl, z33, rfl, K33, E, Flw, Fiu, Fpu, FL, Fbg, Fwr, Fan, Fps⟩ := q33
            show Go _ _ _ _ (T33.setTop (mkF X.m 331 #[.val (.long xw), .second, .val (.long tz), .second, .val (.long ya), .second, .val (.long yb), .second, .val (.long yc), .second, .val (.int fg), .val (.long lg), .second, .val (.long na), .second, .val (.long ga), .second, .val (.long gb), .second, .val (.long gc), .second, .val (.int (1 : Int32)), .val (.int (1 : Int32)), .val (.int se), .val (.long ((4 : Int64) * (lg + na))), .second, .val (.long (ga + gb)), .second, .val (.long ((ga + gb) + gc)), .second, .val (.ref b1), .val (.ref b5), .val (.ref b10), .val (.int (1 : Int32)), .val (.long (ga + ((4 : Int64) * (lg + na)))), .second, .val (.int (0 : Int32)), .unset] [(.long z33)]))
            refine w33.pop2L (q := 332) at_331 rfl ?_
            refine w33.iload (q := 334) at_332 rfl rfl ?_
            refine w33.ifN (q := 337) at_334 ((if0 _ _).trans (teq rfl).2) rfl ?_
            refine w33.iconst (q := 338) (0 : Int32) at_337 rfl rfl ?_
            refine w33.istore (q := 340) (L2 := #[.val (.long xw), .second, .val (.long tz), .second, .val (.long ya), .second, .val (.long yb), .second, .val (.long yc), .second, .val (.int fg), .val (.long lg), .second, .val (.long na), .second, .val (.long ga), .second, .val (.long gb), .second, .val (.long gc), .second, .val (.int (1 : Int32)), .val (.int (1 : Int32)), .val (.int se), .val (.long ((4 : Int64) * (lg + na))), .second, .val (.long (ga + gb)), .second, .val (.long ((ga + gb) + gc)), .second, .val (.ref b1), .val (.ref b5), .val (.ref b10), .val (.int (1 : Int32)), .val (.long (ga + ((4 : Int64) * (lg + na)))), .second, .val (.int (0 : Int32)), .val (.int (0 : Int32))]) at_338 rfl rfl ?_
            refine w33.goto (q := 372) at_340 (by decide) (by decide) ?_
            refine w33.iload (q := 374) at_372 rfl rfl ?_
            refine w33.ifN (q := 377) at_374 ((if0 _ _).trans (feq (by decide)).1) rfl ?_
            refine w33.aload (q := 379) at_377 rfl rfl rfl ?_
            refine w33.callV (q := 382) at_379 (H.tw 201 rfl) (H.tw 202 rfl) (notFace_of_selects (C := "com/example/versioned_table/versionedtable/KeyHold") (args := G.a0) (H.tw 204 rfl)) (H.tw 204 rfl) (H.tw 203 rfl) (by decide) E (argsL := []) (rest := []) rfl (lenOf pd14 rfl) rfl (W := 0) (Nat.le_of_eq rfl) ((con_ho0 G H b10 _ _ h33 w33.old E Flw Fpu (Ooe.ext w33.old.2) (Ooe.ext w33.old.2)).pay w33 (H.tw 205 rfl) (H.tw 159 rfl) (by decide) (by decide)) (by decide) (by decide) rfl fun vm34 T34 h34 v34 w34 q34 => ?_
            obtain ⟨_, rfl, rfl, rfl⟩ := q34
            show Go _ _ _ _ (T34.setTop (mkF X.m 382 #[.val (.long xw), .second, .val (.long tz), .second, .val (.long ya), .second, .val (.long yb), .second, .val (.long yc), .second, .val (.int fg), .val (.long lg), .second, .val (.long na), .second, .val (.long ga), .second, .val (.long gb), .second, .val (.long gc), .second, .val (.int (1 : Int32)), .val (.int (1 : Int32)), .val (.int se), .val (.long ((4 : Int64) * (lg + na))), .second, .val (.long (ga + gb)), .second, .val (.long ((ga + gb) + gc)), .second, .val (.ref b1), .val (.ref b5), .val (.ref b10), .val (.int (1 : Int32)), .val (.long (ga + ((4 : Int64) * (lg + na)))), .second, .val (.int (0 : Int32)), .val (.int (0 : Int32))] [(.int (0 : Int32))]))
            refine w34.iload (q := 384) at_382 rfl rfl ?_
            refine w34.icN (q := 387) at_384 ((teq rfl).2) rfl ?_
            refine w34.iconst (q := 388) (1 : Int32) at_387 rfl rfl ?_
            refine w34.goto (q := 392) at_388 (by decide) (by decide) ?_
            refine w34.istore (q := 394) (L2 := #[.val (.long xw), .second, .val (.long tz), .second, .val (.long ya), .second, .val (.long yb), .second, .val (.long yc), .second, .val (.int fg), .val (.long lg), .second, .val (.long na), .second, .val (.long ga), .second, .val (.long gb), .second, .val (.long gc), .second, .val (.int (1 : Int32)), .val (.int (1 : Int32)), .val (.int se), .val (.long ((4 : Int64) * (lg + na))), .second, .val (.long (ga + gb)), .second, .val (.long ((ga + gb) + gc)), .second, .val (.ref b1), .val (.ref b5), .val (.ref b10), .val (.int (1 : Int32)), .val (.long (ga + ((4 : Int64) * (lg + na)))), .second, .val (.int (0 : Int32)), .val (.int (0 : Int32))]) at_392 rfl rfl ?_
            refine w34.iload (q := 396) at_394 rfl rfl ?_
            exact w34.retZ at_396 (t := .boolean) rfl (by decide) rfl (by decide) (by decide) ⟨_, rfl, rfl⟩
        ·
          refine w31.iload (q := 221) at_219 rfl rfl ?_
          refine w31.ifN (q := 224) at_221 ((if0 _ _).trans (feq (by decide)).1) rfl ?_
          refine w31.lload (q := 226) at_224 rfl rfl ?_
          refine w31.lload (q := 228) at_226 rfl rfl ?_
          refine w31.ladd (q := 229) at_228 rfl ?_
          refine w31.goto (q := 237) at_229 (by decide) (by decide) ?_
          refine w31.lstore (q := 239) (L2 := #[.val (.long xw), .second, .val (.long tz), .second, .val (.long ya), .second, .val (.long yb), .second, .val (.long yc), .second, .val (.int fg), .val (.long lg), .second, .val (.long na), .second, .val (.long ga), .second, .val (.long gb), .second, .val (.long gc), .second, .val (.int (1 : Int32)), .val (.int (1 : Int32)), .val (.int se), .val (.long ((4 : Int64) * (lg + na))), .second, .val (.long (ga + gb)), .second, .val (.long ((ga + gb) + gc)), .second, .val (.ref b1), .val (.ref b5), .val (.ref b10), .val (.int (1 : Int32)), .val (.long (ga + ((4 : Int64) * (lg + na)))), .second, .unset, .unset]) at_237 rfl rfl ?_
          refine w31.iload (q := 241) at_239 rfl rfl ?_
          refine w31.ifY (q := 250) at_241 ((if0 _ _).trans (feq (by decide)).2) (by decide) (by decide) ?_
          refine w31.lload (q := 252) at_250 rfl rfl ?_
          refine w31.lload (q := 254) at_252 rfl rfl ?_
          refine w31.lsub (q := 255) at_254 rfl ?_
          refine w31.lconst (q := 256) (0 : Int64) at_255 rfl rfl ?_
          refine w31.lcmp (q := 257) at_256 rfl ?_
          have rg : (ga + gb) - (ga + ((4 : Int64) * (lg + na))) = (tz + (ga + gb)) - ((tz + ga) + ((4 : Int64) * (lg + na))) := by grind
          rw [← rg] at c1
          refine w31.ifY (q := 266) at_257 ((if0 _ _).trans (tlt c1).1) (by decide) (by decide) ?_
          refine w31.lload (q := 268) at_266 rfl rfl ?_
          refine w31.ldc2J (q := 271) at_268 (H.tw 302 rfl) rfl ?_
          refine w31.lload (q := 273) at_271 rfl rfl ?_
          refine w31.lmul (q := 274) at_273 rfl ?_
          refine w31.lcmp (q := 275) at_274 rfl ?_
          have rg2 : (ga + gb) = (tz + (ga + gb)) - tz := by grind
          rw [← rg2] at c2
          refine w31.ifN (q := 278) at_275 ((if0 _ _).trans (flt c2).1) rfl ?_
          refine w31.iconst (q := 279) (2 : Int32) at_278 rfl rfl ?_
          refine w31.istore (q := 281) (L2 := #[.val (.long xw), .second, .val (.long tz), .second, .val (.long ya), .second, .val (.long yb), .second, .val (.long yc), .second, .val (.int fg), .val (.long lg), .second, .val (.long na), .second, .val (.long ga), .second, .val (.long gb), .second, .val (.long gc), .second, .val (.int (1 : Int32)), .val (.int (1 : Int32)), .val (.int se), .val (.long ((4 : Int64) * (lg + na))), .second, .val (.long (ga + gb)), .second, .val (.long ((ga + gb) + gc)), .second, .val (.ref b1), .val (.ref b5), .val (.ref b10), .val (.int (1 : Int32)), .val (.long (ga + ((4 : Int64) * (lg + na)))), .second, .val (.int (2 : Int32)), .unset]) at_279 rfl rfl ?_
          refine w31.goto (q := 287) at_281 (by decide) (by decide) ?_
          refine w31.iload (q := 289) at_287 rfl rfl ?_
          refine w31.ifN (q := 292) at_289 ((if0 _ _).trans (feq (by decide)).1) rfl ?_
          refine w31.aload (q := 294) at_292 rfl rfl rfl ?_
          refine w31.callV (q := 297) at_294 (H.tw 201 rfl) (H.tw 202 rfl) (notFace_of_selects (C := "com/example/versioned_table/versionedtable/KeyHold") (args := G.a0) (H.tw 204 rfl)) (H.tw 204 rfl) (H.tw 203 rfl) (by decide) E (argsL := []) (rest := []) rfl (lenOf pd14 rfl) rfl (W := 0) (Nat.le_of_eq rfl) ((con_hoP G H b10 _ _ _ h31 w31.old E Flw Fpu (Ooe.ext w31.old.2) Op_).pay w31 (H.tw 205 rfl) (H.tw 159 rfl) (by decide) (by decide)) (by decide) (by decide) rfl fun vm35 T35 h35 v35 w35 q35 => ?_
          obtain ⟨_, rfl, rfl, rfl⟩ := q35
          show Go _ _ _ _ (T35.setTop (mkF X.m 297 #[.val (.long xw), .second, .val (.long tz), .second, .val (.long ya), .second, .val (.long yb), .second, .val (.long yc), .second, .val (.int fg), .val (.long lg), .second, .val (.long na), .second, .val (.long ga), .second, .val (.long gb), .second, .val (.long gc), .second, .val (.int (1 : Int32)), .val (.int (1 : Int32)), .val (.int se), .val (.long ((4 : Int64) * (lg + na))), .second, .val (.long (ga + gb)), .second, .val (.long ((ga + gb) + gc)), .second, .val (.ref b1), .val (.ref b5), .val (.ref b10), .val (.int (1 : Int32)), .val (.long (ga + ((4 : Int64) * (lg + na)))), .second, .val (.int (2 : Int32)), .unset] [(.int (1 : Int32))]))
          refine w35.iload (q := 299) at_297 rfl rfl ?_
          refine w35.ifN (q := 302) at_299 ((if0 _ _).trans (feq (by decide)).1) rfl ?_
          refine w35.iconst (q := 303) (1 : Int32) at_302 rfl rfl ?_
          refine w35.goto (q := 307) at_303 (by decide) (by decide) ?_
          refine w35.icN (q := 310) at_307 ((teq rfl).2) rfl ?_
          refine w35.iconst (q := 311) (1 : Int32) at_310 rfl rfl ?_
          refine w35.goto (q := 315) at_311 (by decide) (by decide) ?_
          refine w35.istore (q := 317) (L2 := #[.val (.long xw), .second, .val (.long tz), .second, .val (.long ya), .second, .val (.long yb), .second, .val (.long yc), .second, .val (.int fg), .val (.long lg), .second, .val (.long na), .second, .val (.long ga), .second, .val (.long gb), .second, .val (.long gc), .second, .val (.int (1 : Int32)), .val (.int (1 : Int32)), .val (.int se), .val (.long ((4 : Int64) * (lg + na))), .second, .val (.long (ga + gb)), .second, .val (.long ((ga + gb) + gc)), .second, .val (.ref b1), .val (.ref b5), .val (.ref b10), .val (.int (1 : Int32)), .val (.long (ga + ((4 : Int64) * (lg + na)))), .second, .val (.int (2 : Int32)), .unset]) at_315 rfl rfl ?_
          refine w35.iload (q := 319) at_317 rfl rfl ?_
          by_cases c_se : se = (0 : Int32)
          ·
            refine w35.ifY (q := 394) at_319 ((if0 _ _).trans (teq c_se).1) (by decide) (by decide) ?_
            refine w35.iload (q := 396) at_394 rfl rfl ?_
            exact w35.retZ at_396 (t := .boolean) rfl (by decide) rfl (by decide) (by decide) ⟨_, rfl, rfl⟩
          ·
            refine w35.ifN (q := 322) at_319 ((if0 _ _).trans (feq c_se).1) rfl ?_
            refine w35.aload (q := 324) at_322 rfl rfl rfl ?_
            refine w35.lloadN (q := 325) at_324 rfl rfl ?_
            refine w35.lload (q := 327) at_325 rfl rfl ?_
            refine w35.ladd (q := 328) at_327 rfl ?_
            refine w35.callV (q := 331) at_328 (H.tw 173 rfl) (H.tw 174 rfl) (notFace_of_selects (C := "com/example/versioned_table/versionedtable/KeyHold") (args := G.a0) (H.tw 176 rfl)) (H.tw 176 rfl) (H.tw 175 rfl) (by decide) E (argsL := [(.long (tz + ((ga + gb) + gc)))]) (rest := []) rfl (lenOf pd71 rfl) rfl (W := 0) (Nat.le_of_eq rfl) ((con_w2 G H b10 oe _ _ _ _ _ _ (tz + ((ga + gb) + gc)) ((tz + ga) + ((4 : Int64) * (lg + na))) _ Soe Ooe h31 w35.old E Flw Fiu Fpu FL Fbg Fwr Fan Fps g10 Op_ Al).pay w35 (H.tw 177 rfl) (H.tw 159 rfl) (by decide) (by decide)) (by decide) (by decide) rfl fun vm36 T36 h36 v36 w36 q36 => ?_
            obtain ⟨_, rfl, z36, rfl, K36, dj⟩ := q36
            show Go _ _ _ _ (T36.setTop (mkF X.m 331 #[.val (.long xw), .second, .val (.long tz), .second, .val (.long ya), .second, .val (.long yb), .second, .val (.long yc), .second, .val (.int fg), .val (.long lg), .second, .val (.long na), .second, .val (.long ga), .second, .val (.long gb), .second, .val (.long gc), .second, .val (.int (1 : Int32)), .val (.int (1 : Int32)), .val (.int se), .val (.long ((4 : Int64) * (lg + na))), .second, .val (.long (ga + gb)), .second, .val (.long ((ga + gb) + gc)), .second, .val (.ref b1), .val (.ref b5), .val (.ref b10), .val (.int (1 : Int32)), .val (.long (ga + ((4 : Int64) * (lg + na)))), .second, .val (.int (2 : Int32)), .unset] [(.long z36)]))
            refine w36.pop2L (q := 332) at_331 rfl ?_
            rcases dj with ⟨ca, Op_, E, Flw, Fiu, Fpu, FL, Fbg, Fwr, Fan, Fps⟩ | ⟨ca, E, Flw, Fiu, Fpu, FL, Fbg, Fwr, Fan, Fps⟩
            ·
              refine w36.iload (q := 334) at_332 rfl rfl ?_
              refine w36.ifY (q := 343) at_334 ((if0 _ _).trans (feq (by decide)).2) (by decide) (by decide) ?_
              refine w36.iload (q := 345) at_343 rfl rfl ?_
              refine w36.iconst (q := 346) (2 : Int32) at_345 rfl rfl ?_
              refine w36.icN (q := 349) at_346 ((teq rfl).2) rfl ?_
              refine w36.lload (q := 351) at_349 rfl rfl ?_
              refine w36.lload (q := 353) at_351 rfl rfl ?_
              refine w36.lsub (q := 354) at_353 rfl ?_
              refine w36.lconst (q := 355) (0 : Int64) at_354 rfl rfl ?_
              refine w36.lcmp (q := 356) at_355 rfl ?_
              refine w36.ifN (q := 359) at_356 ((if0 _ _).trans (tlt (by rw [show (ga + ((4 : Int64) * (lg + na))) - ((ga + gb) + gc) = ((tz + ga) + ((4 : Int64) * (lg + na))) - (tz + ((ga + gb) + gc)) by grind]; exact ca)).2.2.2) rfl ?_
              refine w36.iconst (q := 360) (1 : Int32) at_359 rfl rfl ?_
              refine w36.goto (q := 364) at_360 (by decide) (by decide) ?_
              refine w36.istore (q := 366) (L2 := #[.val (.long xw), .second, .val (.long tz), .second, .val (.long ya), .second, .val (.long yb), .second, .val (.long yc), .second, .val (.int fg), .val (.long lg), .second, .val (.long na), .second, .val (.long ga), .second, .val (.long gb), .second, .val (.long gc), .second, .val (.int (1 : Int32)), .val (.int (1 : Int32)), .val (.int se), .val (.long ((4 : Int64) * (lg + na))), .second, .val (.long (ga + gb)), .second, .val (.long ((ga + gb) + gc)), .second, .val (.ref b1), .val (.ref b5), .val (.ref b10), .val (.int (1 : Int32)), .val (.long (ga + ((4 : Int64) * (lg + na)))), .second, .val (.int (2 : Int32)), .val (.int (1 : Int32))]) at_364 rfl rfl ?_
              refine w36.goto (q := 372) at_366 (by decide) (by decide) ?_
              refine w36.iload (q := 374) at_372 rfl rfl ?_
              refine w36.ifN (q := 377) at_374 ((if0 _ _).trans (feq (by decide)).1) rfl ?_
              refine w36.aload (q := 379) at_377 rfl rfl rfl ?_
              refine w36.callV (q := 382) at_379 (H.tw 201 rfl) (H.tw 202 rfl) (notFace_of_selects (C := "com/example/versioned_table/versionedtable/KeyHold") (args := G.a0) (H.tw 204 rfl)) (H.tw 204 rfl) (H.tw 203 rfl) (by decide) E (argsL := []) (rest := []) rfl (lenOf pd14 rfl) rfl (W := 0) (Nat.le_of_eq rfl) ((con_hoP G H b10 _ _ _ h36 w36.old E Flw Fpu (Ooe.ext w36.old.2) Op_).pay w36 (H.tw 205 rfl) (H.tw 159 rfl) (by decide) (by decide)) (by decide) (by decide) rfl fun vm37 T37 h37 v37 w37 q37 => ?_
              obtain ⟨_, rfl, rfl, rfl⟩ := q37
              show Go _ _ _ _ (T37.setTop (mkF X.m 382 #[.val (.long xw), .second, .val (.long tz), .second, .val (.long ya), .second, .val (.long yb), .second, .val (.long yc), .second, .val (.int fg), .val (.long lg), .second, .val (.long na), .second, .val (.long ga), .second, .val (.long gb), .second, .val (.long gc), .second, .val (.int (1 : Int32)), .val (.int (1 : Int32)), .val (.int se), .val (.long ((4 : Int64) * (lg + na))), .second, .val (.long (ga + gb)), .second, .val (.long ((ga + gb) + gc)), .second, .val (.ref b1), .val (.ref b5), .val (.ref b10), .val (.int (1 : Int32)), .val (.long (ga + ((4 : Int64) * (lg + na)))), .second, .val (.int (2 : Int32)), .val (.int (1 : Int32))] [(.int (1 : Int32))]))
              refine w37.iload (q := 384) at_382 rfl rfl ?_
              refine w37.icN (q := 387) at_384 ((teq rfl).2) rfl ?_
              refine w37.iconst (q := 388) (1 : Int32) at_387 rfl rfl ?_
              refine w37.goto (q := 392) at_388 (by decide) (by decide) ?_
              refine w37.istore (q := 394) (L2 := #[.val (.long xw), .second, .val (.long tz), .second, .val (.long ya), .second, .val (.long yb), .second, .val (.long yc), .second, .val (.int fg), .val (.long lg), .second, .val (.long na), .second, .val (.long ga), .second, .val (.long gb), .second, .val (.long gc), .second, .val (.int (1 : Int32)), .val (.int (1 : Int32)), .val (.int se), .val (.long ((4 : Int64) * (lg + na))), .second, .val (.long (ga + gb)), .second, .val (.long ((ga + gb) + gc)), .second, .val (.ref b1), .val (.ref b5), .val (.ref b10), .val (.int (1 : Int32)), .val (.long (ga + ((4 : Int64) * (lg + na)))), .second, .val (.int (2 : Int32)), .val (.int (1 : Int32))]) at_392 rfl rfl ?_
              refine w37.iload (q := 396) at_394 rfl rfl ?_
              exact w37.retZ at_396 (t := .boolean) rfl (by decide) rfl (by decide) (by decide) ⟨_, rfl, rfl⟩
            ·
              refine w36.iload (q := 334) at_332 rfl rfl ?_
              refine w36.ifY (q := 343) at_334 ((if0 _ _).trans (feq (by decide)).2) (by decide) (by decide) ?_
              refine w36.iload (q := 345) at_343 rfl rfl ?_
              refine w36.iconst (q := 346) (2 : Int32) at_345 rfl rfl ?_
              refine w36.icN (q := 349) at_346 ((teq rfl).2) rfl ?_
              refine w36.lload (q := 351) at_349 rfl rfl ?_
              refine w36.lload (q := 353) at_351 rfl rfl ?_
              refine w36.lsub (q := 354) at_353 rfl ?_
              refine w36.lconst (q := 355) (0 : Int64) at_354 rfl rfl ?_
              refine w36.lcmp (q := 356) at_355 rfl ?_
              refine w36.ifY (q := 363) at_356 ((if0 _ _).trans (flt (by rw [show (ga + ((4 : Int64) * (lg + na))) - ((ga + gb) + gc) = ((tz + ga) + ((4 : Int64) * (lg + na))) - (tz + ((ga + gb) + gc)) by grind]; exact ca)).2.2.2) (by decide) (by decide) ?_
              refine w36.iconst (q := 364) (0 : Int32) at_363 rfl rfl ?_
              refine w36.istore (q := 366) (L2 := #[.val (.long xw), .second, .val (.long tz), .second, .val (.long ya), .second, .val (.long yb), .second, .val (.long yc), .second, .val (.int fg), .val (.long lg), .second, .val (.long na), .second, .val (.long ga), .second, .val (.long gb), .second, .val (.long gc), .second, .val (.int (1 : Int32)), .val (.int (1 : Int32)), .val (.int se), .val (.long ((4 : Int64) * (lg + na))), .second, .val (.long (ga + gb)), .second, .val (.long ((ga + gb) + gc)), .second, .val (.ref b1), .val (.ref b5), .val (.ref b10), .val (.int (1 : Int32)), .val (.long (ga + ((4 : Int64) * (lg + na)))), .second, .val (.int (2 : Int32)), .val (.int (0 : Int32))]) at_364 rfl rfl ?_
              refine w36.goto (q := 372) at_366 (by decide) (by decide) ?_
              refine w36.iload (q := 374) at_372 rfl rfl ?_
              refine w36.ifN (q := 377) at_374 ((if0 _ _).trans (feq (by decide)).1) rfl ?_
              refine w36.aload (q := 379) at_377 rfl rfl rfl ?_
              refine w36.callV (q := 382) at_379 (H.tw 201 rfl) (H.tw 202 rfl) (notFace_of_selects (C := "com/example/versioned_table/versionedtable/KeyHold") (args := G.a0) (H.tw 204 rfl)) (H.tw 204 rfl) (H.tw 203 rfl) (by decide) E (argsL := []) (rest := []) rfl (lenOf pd14 rfl) rfl (W := 0) (Nat.le_of_eq rfl) ((con_ho0 G H b10 _ _ h36 w36.old E Flw Fpu (Ooe.ext w36.old.2) (Ooe.ext w36.old.2)).pay w36 (H.tw 205 rfl) (H.tw 159 rfl) (by decide) (by decide)) (by decide) (by decide) rfl fun vm38 T38 h38 v38 w38 q38 => ?_
              obtain ⟨_, rfl, rfl, rfl⟩ := q38
              show Go _ _ _ _ (T38.setTop (mkF X.m 382 #[.val (.long xw), .second, .val (.long tz), .second, .val (.long ya), .second, .val (.long yb), .second, .val (.long yc), .second, .val (.int fg), .val (.long lg), .second, .val (.long na), .second, .val (.long ga), .second, .val (.long gb), .second, .val (.long gc), .second, .val (.int (1 : Int32)), .val (.int (1 : Int32)), .val (.int se), .val (.long ((4 : Int64) * (lg + na))), .second, .val (.long (ga + gb)), .second, .val (.long ((ga + gb) + gc)), .second, .val (.ref b1), .val (.ref b5), .val (.ref b10), .val (.int (1 : Int32)), .val (.long (ga + ((4 : Int64) * (lg + na)))), .second, .val (.int (2 : Int32)), .val (.int (0 : Int32))] [(.int (0 : Int32))]))
              refine w38.iload (q := 384) at_382 rfl rfl ?_
              refine w38.icN (q := 387) at_384 ((teq rfl).2) rfl ?_
              refine w38.iconst (q := 388) (1 : Int32) at_387 rfl rfl ?_
              refine w38.goto (q := 392) at_388 (by decide) (by decide) ?_
              refine w38.istore (q := 394) (L2 := #[.val (.long xw), .second, .val (.long tz), .second, .val (.long ya), .second, .val (.long yb), .second, .val (.long yc), .second, .val (.int fg), .val (.long lg), .second, .val (.long na), .second, .val (.long ga), .second, .val (.long gb), .second, .val (.long gc), .second, .val (.int (1 : Int32)), .val (.int (1 : Int32)), .val (.int se), .val (.long ((4 : Int64) * (lg + na))), .second, .val (.long (ga + gb)), .second, .val (.long ((ga + gb) + gc)), .second, .val (.ref b1), .val (.ref b5), .val (.ref b10), .val (.int (1 : Int32)), .val (.long (ga + ((4 : Int64) * (lg + na)))), .second, .val (.int (2 : Int32)), .val (.int (0 : Int32))]) at_392 rfl rfl ?_
              refine w38.iload (q := 396) at_394 rfl rfl ?_
              exact w38.retZ at_396 (t := .boolean) rfl (by decide) rfl (by decide) (by decide) ⟨_, rfl, rfl⟩
        ·
          refine w31.iload (q := 221) at_219 rfl rfl ?_
          refine w31.ifN (q := 224) at_221 ((if0 _ _).trans (feq (by decide)).1) rfl ?_
          refine w31.lload (q := 226) at_224 rfl rfl ?_
          refine w31.lload (q := 228) at_226 rfl rfl ?_
          refine w31.ladd (q := 229) at_228 rfl ?_
          refine w31.goto (q := 237) at_229 (by decide) (by decide) ?_
          refine w31.lstore (q := 239) (L2 := #[.val (.long xw), .second, .val (.long tz), .second, .val (.long ya), .second, .val (.long yb), .second, .val (.long yc), .second, .val (.int fg), .val (.long lg), .second, .val (.long na), .second, .val (.long ga), .second, .val (.long gb), .second, .val (.long gc), .second, .val (.int (1 : Int32)), .val (.int (1 : Int32)), .val (.int se), .val (.long ((4 : Int64) * (lg + na))), .second, .val (.long (ga + gb)), .second, .val (.long ((ga + gb) + gc)), .second, .val (.ref b1), .val (.ref b5), .val (.ref b10), .val (.int (1 : Int32)), .val (.long (ga + ((4 : Int64) * (lg + na)))), .second, .unset, .unset]) at_237 rfl rfl ?_
          refine w31.iload (q := 241) at_239 rfl rfl ?_
          refine w31.ifY (q := 250) at_241 ((if0 _ _).trans (feq (by decide)).2) (by decide) (by decide) ?_
          refine w31.lload (q := 252) at_250 rfl rfl ?_
          refine w31.lload (q := 254) at_252 rfl rfl ?_
          refine w31.lsub (q := 255) at_254 rfl ?_
          refine w31.lconst (q := 256) (0 : Int64) at_255 rfl rfl ?_
          refine w31.lcmp (q := 257) at_256 rfl ?_
          have rg : (ga + gb) - (ga + ((4 : Int64) * (lg + na))) = (tz + (ga + gb)) - ((tz + ga) + ((4 : Int64) * (lg + na))) := by grind
          rw [← rg] at c1
          refine w31.ifY (q := 266) at_257 ((if0 _ _).trans (tlt c1).1) (by decide) (by decide) ?_
          refine w31.lload (q := 268) at_266 rfl rfl ?_
          refine w31.ldc2J (q := 271) at_268 (H.tw 302 rfl) rfl ?_
          refine w31.lload (q := 273) at_271 rfl rfl ?_
          refine w31.lmul (q := 274) at_273 rfl ?_
          refine w31.lcmp (q := 275) at_274 rfl ?_
          have rg2 : (ga + gb) = (tz + (ga + gb)) - tz := by grind
          rw [← rg2] at c2
          refine w31.ifY (q := 284) at_275 ((if0 _ _).trans (tlt c2).1) (by decide) (by decide) ?_
          refine w31.iconst (q := 285) (1 : Int32) at_284 rfl rfl ?_
          refine w31.istore (q := 287) (L2 := #[.val (.long xw), .second, .val (.long tz), .second, .val (.long ya), .second, .val (.long yb), .second, .val (.long yc), .second, .val (.int fg), .val (.long lg), .second, .val (.long na), .second, .val (.long ga), .second, .val (.long gb), .second, .val (.long gc), .second, .val (.int (1 : Int32)), .val (.int (1 : Int32)), .val (.int se), .val (.long ((4 : Int64) * (lg + na))), .second, .val (.long (ga + gb)), .second, .val (.long ((ga + gb) + gc)), .second, .val (.ref b1), .val (.ref b5), .val (.ref b10), .val (.int (1 : Int32)), .val (.long (ga + ((4 : Int64) * (lg + na)))), .second, .val (.int (1 : Int32)), .unset]) at_285 rfl rfl ?_
          refine w31.iload (q := 289) at_287 rfl rfl ?_
          have hneg : lcmpW ((tz + ((ga + gb) + gc)) - ((tz + ((ga + gb) + gc)) + ((4 : Int64) * (lg + na)))) (0 : Int64) < (0 : Int32) := neg_i bb bp (by rw [← rg]; exact c1) _
          refine w31.ifN (q := 292) at_289 ((if0 _ _).trans (feq (by decide)).1) rfl ?_
          refine w31.aload (q := 294) at_292 rfl rfl rfl ?_
          refine w31.callV (q := 297) at_294 (H.tw 201 rfl) (H.tw 202 rfl) (notFace_of_selects (C := "com/example/versioned_table/versionedtable/KeyHold") (args := G.a0) (H.tw 204 rfl)) (H.tw 204 rfl) (H.tw 203 rfl) (by decide) E (argsL := []) (rest := []) rfl (lenOf pd14 rfl) rfl (W := 0) (Nat.le_of_eq rfl) ((con_hoL G H b10 _ _ h31 w31.old E Flw Ol).pay w31 (H.tw 205 rfl) (H.tw 159 rfl) (by decide) (by decide)) (by decide) (by decide) rfl fun vm39 T39 h39 v39 w39 q39 => ?_
          obtain ⟨_, rfl, rfl, rfl⟩ := q39
          show Go _ _ _ _ (T39.setTop (mkF X.m 297 #[.val (.long xw), .second, .val (.long tz), .second, .val (.long ya), .second, .val (.long yb), .second, .val (.long yc), .second, .val (.int fg), .val (.long lg), .second, .val (.long na), .second, .val (.long ga), .second, .val (.long gb), .second, .val (.long gc), .second, .val (.int (1 : Int32)), .val (.int (1 : Int32)), .val (.int se), .val (.long ((4 : Int64) * (lg + na))), .second, .val (.long (ga + gb)), .second, .val (.long ((ga + gb) + gc)), .second, .val (.ref b1), .val (.ref b5), .val (.ref b10), .val (.int (1 : Int32)), .val (.long (ga + ((4 : Int64) * (lg + na)))), .second, .val (.int (1 : Int32)), .unset] [(.int (1 : Int32))]))
          refine w39.iload (q := 299) at_297 rfl rfl ?_
          refine w39.ifN (q := 302) at_299 ((if0 _ _).trans (feq (by decide)).1) rfl ?_
          refine w39.iconst (q := 303) (1 : Int32) at_302 rfl rfl ?_
          refine w39.goto (q := 307) at_303 (by decide) (by decide) ?_
          refine w39.icN (q := 310) at_307 ((teq rfl).2) rfl ?_
          refine w39.iconst (q := 311) (1 : Int32) at_310 rfl rfl ?_
          refine w39.goto (q := 315) at_311 (by decide) (by decide) ?_
          refine w39.istore (q := 317) (L2 := #[.val (.long xw), .second, .val (.long tz), .second, .val (.long ya), .second, .val (.long yb), .second, .val (.long yc), .second, .val (.int fg), .val (.long lg), .second, .val (.long na), .second, .val (.long ga), .second, .val (.long gb), .second, .val (.long gc), .second, .val (.int (1 : Int32)), .val (.int (1 : Int32)), .val (.int se), .val (.long ((4 : Int64) * (lg + na))), .second, .val (.long (ga + gb)), .second, .val (.long ((ga + gb) + gc)), .second, .val (.ref b1), .val (.ref b5), .val (.ref b10), .val (.int (1 : Int32)), .val (.long (ga + ((4 : Int64) * (lg + na)))), .second, .val (.int (1 : Int32)), .unset]) at_315 rfl rfl ?_
          refine w39.iload (q := 319) at_317 rfl rfl ?_
          by_cases c_se : se = (0 : Int32)
          ·
            refine w39.ifY (q := 394) at_319 ((if0 _ _).trans (teq c_se).1) (by decide) (by decide) ?_
            refine w39.iload (q := 396) at_394 rfl rfl ?_
            exact w39.retZ at_396 (t := .boolean) rfl (by decide) rfl (by decide) (by decide) ⟨_, rfl, rfl⟩
          ·
            refine w39.ifN (q := 322) at_319 ((if0 _ _).trans (feq c_se).1) rfl ?_
            refine w39.aload (q := 324) at_322 rfl rfl rfl ?_
            refine w39.lloadN (q := 325) at_324 rfl rfl ?_
            refine w39.lload (q := 327) at_325 rfl rfl ?_
            refine w39.ladd (q := 328) at_327 rfl ?_
            refine w39.callV (q := 331) at_328 (H.tw 173 rfl) (H.tw 174 rfl) (notFace_of_selects (C := "com/example/versioned_table/versionedtable/KeyHold") (args := G.a0) (H.tw 176 rfl)) (H.tw 176 rfl) (H.tw 175 rfl) (by decide) E (argsL := [(.long (tz + ((ga + gb) + gc)))]) (rest := []) rfl (lenOf pd71 rfl) rfl (W := 0) (Nat.le_of_eq rfl) ((con_w1n G H b10 oe _ _ _ _ _ (tz + ((ga + gb) + gc)) Soe Ooe h31 w39.old E Flw Fiu Fpu FL Fbg Fwr Fan Fps g10 Ol).pay w39 (H.tw 177 rfl) (H.tw 159 rfl) (by decide) (by decide)) (by decide) (by decide) rfl fun vm40 T40 h40 v40 w40 q40 => ?_
            obtain ⟨_, rfl, z40, rfl, K40, dj⟩ := q40
            show Go _ _ _ _ (T40.setTop (mkF X.m 331 #[.val (.long xw), .second, .val (.long tz), .second, .val (.long ya), .second, .val (.long yb), .second, .val (.long yc), .second, .val (.int fg), .val (.long lg), .second, .val (.long na), .second, .val (.long ga), .second, .val (.long gb), .second, .val (.long gc), .second, .val (.int (1 : Int32)), .val (.int (1 : Int32)), .val (.int se), .val (.long ((4 : Int64) * (lg + na))), .second, .val (.long (ga + gb)), .second, .val (.long ((ga + gb) + gc)), .second, .val (.ref b1), .val (.ref b5), .val (.ref b10), .val (.int (1 : Int32)), .val (.long (ga + ((4 : Int64) * (lg + na)))), .second, .val (.int (1 : Int32)), .unset] [(.long z40)]))
            refine w40.pop2L (q := 332) at_331 rfl ?_
            rcases dj with ⟨c1, _, E, Flw, Fiu, Fpu, FL, Fbg, Fwr, Fan, Fps⟩ | ⟨c1, c2, _, pu, q, Op_, Al, E, Flw, Fiu, Fpu, FL, Fbg, Fwr, Fan, Fps⟩ | ⟨c1, c2, Ol, E, Flw, Fiu, Fpu, FL, Fbg, Fwr, Fan, Fps⟩
            ·
              exact absurd (hneg) c1
            ·
              refine w40.iload (q := 334) at_332 rfl rfl ?_
              refine w40.ifY (q := 343) at_334 ((if0 _ _).trans (feq (by decide)).2) (by decide) (by decide) ?_
              refine w40.iload (q := 345) at_343 rfl rfl ?_
              refine w40.iconst (q := 346) (2 : Int32) at_345 rfl rfl ?_
              refine w40.icY (q := 369) at_346 ((feq (by decide)).2) (by decide) (by decide) ?_
              refine w40.iconst (q := 370) (1 : Int32) at_369 rfl rfl ?_
              refine w40.istore (q := 372) (L2 := #[.val (.long xw), .second, .val (.long tz), .second, .val (.long ya), .second, .val (.long yb), .second, .val (.long yc), .second, .val (.int fg), .val (.long lg), .second, .val (.long na), .second, .val (.long ga), .second, .val (.long gb), .second, .val (.long gc), .second, .val (.int (1 : Int32)), .val (.int (1 : Int32)), .val (.int se), .val (.long ((4 : Int64) * (lg + na))), .second, .val (.long (ga + gb)), .second, .val (.long ((ga + gb) + gc)), .second, .val (.ref b1), .val (.ref b5), .val (.ref b10), .val (.int (1 : Int32)), .val (.long (ga + ((4 : Int64) * (lg + na)))), .second, .val (.int (1 : Int32)), .val (.int (1 : Int32))]) at_370 rfl rfl ?_
              refine w40.iload (q := 374) at_372 rfl rfl ?_
              refine w40.ifN (q := 377) at_374 ((if0 _ _).trans (feq (by decide)).1) rfl ?_
              refine w40.aload (q := 379) at_377 rfl rfl rfl ?_
              refine w40.callV (q := 382) at_379 (H.tw 201 rfl) (H.tw 202 rfl) (notFace_of_selects (C := "com/example/versioned_table/versionedtable/KeyHold") (args := G.a0) (H.tw 204 rfl)) (H.tw 204 rfl) (H.tw 203 rfl) (by decide) E (argsL := []) (rest := []) rfl (lenOf pd14 rfl) rfl (W := 0) (Nat.le_of_eq rfl) ((con_hoP G H b10 _ _ _ h40 w40.old E Flw Fpu (Ooe.ext w40.old.2) Op_).pay w40 (H.tw 205 rfl) (H.tw 159 rfl) (by decide) (by decide)) (by decide) (by decide) rfl fun vm41 T41 h41 v41 w41 q41 => ?_
              obtain ⟨_, rfl, rfl, rfl⟩ := q41
              show Go _ _ _ _ (T41.setTop (mkF X.m 382 #[.val (.long xw), .second, .val (.long tz), .second, .val (.long ya), .second, .val (.long yb), .second, .val (.long yc), .second, .val (.int fg), .val (.long lg), .second, .val (.long na), .second, .val (.long ga), .second, .val (.long gb), .second, .val (.long gc), .second, .val (.int (1 : Int32)), .val (.int (1 : Int32)), .val (.int se), .val (.long ((4 : Int64) * (lg + na))), .second, .val (.long (ga + gb)), .second, .val (.long ((ga + gb) + gc)), .second, .val (.ref b1), .val (.ref b5), .val (.ref b10), .val (.int (1 : Int32)), .val (.long (ga + ((4 : Int64) * (lg + na)))), .second, .val (.int (1 : Int32)), .val (.int (1 : Int32))] [(.int (1 : Int32))]))
              refine w41.iload (q := 384) at_382 rfl rfl ?_
              refine w41.icN (q := 387) at_384 ((teq rfl).2) rfl ?_
              refine w41.iconst (q := 388) (1 : Int32) at_387 rfl rfl ?_
              refine w41.goto (q := 392) at_388 (by decide) (by decide) ?_
              refine w41.istore (q := 394) (L2 := #[.val (.long xw), .second, .val (.long tz), .second, .val (.long ya), .second, .val (.long yb), .second, .val (.long yc), .second, .val (.int fg), .val (.long lg), .second, .val (.long na), .second, .val (.long ga), .second, .val (.long gb), .second, .val (.long gc), .second, .val (.int (1 : Int32)), .val (.int (1 : Int32)), .val (.int se), .val (.long ((4 : Int64) * (lg + na))), .second, .val (.long (ga + gb)), .second, .val (.long ((ga + gb) + gc)), .second, .val (.ref b1), .val (.ref b5), .val (.ref b10), .val (.int (1 : Int32)), .val (.long (ga + ((4 : Int64) * (lg + na)))), .second, .val (.int (1 : Int32)), .val (.int (1 : Int32))]) at_392 rfl rfl ?_
              refine w41.iload (q := 396) at_394 rfl rfl ?_
              exact w41.retZ at_396 (t := .boolean) rfl (by decide) rfl (by decide) (by decide) ⟨_, rfl, rfl⟩
            ·
              refine w40.iload (q := 334) at_332 rfl rfl ?_
              refine w40.ifY (q := 343) at_334 ((if0 _ _).trans (feq (by decide)).2) (by decide) (by decide) ?_
              refine w40.iload (q := 345) at_343 rfl rfl ?_
              refine w40.iconst (q := 346) (2 : Int32) at_345 rfl rfl ?_
              refine w40.icY (q := 369) at_346 ((feq (by decide)).2) (by decide) (by decide) ?_
              refine w40.iconst (q := 370) (1 : Int32) at_369 rfl rfl ?_
              refine w40.istore (q := 372) (L2 := #[.val (.long xw), .second, .val (.long tz), .second, .val (.long ya), .second, .val (.long yb), .second, .val (.long yc), .second, .val (.int fg), .val (.long lg), .second, .val (.long na), .second, .val (.long ga), .second, .val (.long gb), .second, .val (.long gc), .second, .val (.int (1 : Int32)), .val (.int (1 : Int32)), .val (.int se), .val (.long ((4 : Int64) * (lg + na))), .second, .val (.long (ga + gb)), .second, .val (.long ((ga + gb) + gc)), .second, .val (.ref b1), .val (.ref b5), .val (.ref b10), .val (.int (1 : Int32)), .val (.long (ga + ((4 : Int64) * (lg + na)))), .second, .val (.int (1 : Int32)), .val (.int (1 : Int32))]) at_370 rfl rfl ?_
              refine w40.iload (q := 374) at_372 rfl rfl ?_
              refine w40.ifN (q := 377) at_374 ((if0 _ _).trans (feq (by decide)).1) rfl ?_
              refine w40.aload (q := 379) at_377 rfl rfl rfl ?_
              refine w40.callV (q := 382) at_379 (H.tw 201 rfl) (H.tw 202 rfl) (notFace_of_selects (C := "com/example/versioned_table/versionedtable/KeyHold") (args := G.a0) (H.tw 204 rfl)) (H.tw 204 rfl) (H.tw 203 rfl) (by decide) E (argsL := []) (rest := []) rfl (lenOf pd14 rfl) rfl (W := 0) (Nat.le_of_eq rfl) ((con_hoL G H b10 _ _ h40 w40.old E Flw Ol).pay w40 (H.tw 205 rfl) (H.tw 159 rfl) (by decide) (by decide)) (by decide) (by decide) rfl fun vm42 T42 h42 v42 w42 q42 => ?_
              obtain ⟨_, rfl, rfl, rfl⟩ := q42
              show Go _ _ _ _ (T42.setTop (mkF X.m 382 #[.val (.long xw), .second, .val (.long tz), .second, .val (.long ya), .second, .val (.long yb), .second, .val (.long yc), .second, .val (.int fg), .val (.long lg), .second, .val (.long na), .second, .val (.long ga), .second, .val (.long gb), .second, .val (.long gc), .second, .val (.int (1 : Int32)), .val (.int (1 : Int32)), .val (.int se), .val (.long ((4 : Int64) * (lg + na))), .second, .val (.long (ga + gb)), .second, .val (.long ((ga + gb) + gc)), .second, .val (.ref b1), .val (.ref b5), .val (.ref b10), .val (.int (1 : Int32)), .val (.long (ga + ((4 : Int64) * (lg + na)))), .second, .val (.int (1 : Int32)), .val (.int (1 : Int32))] [(.int (1 : Int32))]))
              refine w42.iload (q := 384) at_382 rfl rfl ?_
              refine w42.icN (q := 387) at_384 ((teq rfl).2) rfl ?_
              refine w42.iconst (q := 388) (1 : Int32) at_387 rfl rfl ?_
              refine w42.goto (q := 392) at_388 (by decide) (by decide) ?_
              refine w42.istore (q := 394) (L2 := #[.val (.long xw), .second, .val (.long tz), .second, .val (.long ya), .second, .val (.long yb), .second, .val (.long yc), .second, .val (.int fg), .val (.long lg), .second, .val (.long na), .second, .val (.long ga), .second, .val (.long gb), .second, .val (.long gc), .second, .val (.int (1 : Int32)), .val (.int (1 : Int32)), .val (.int se), .val (.long ((4 : Int64) * (lg + na))), .second, .val (.long (ga + gb)), .second, .val (.long ((ga + gb) + gc)), .second, .val (.ref b1), .val (.ref b5), .val (.ref b10), .val (.int (1 : Int32)), .val (.long (ga + ((4 : Int64) * (lg + na)))), .second, .val (.int (1 : Int32)), .val (.int (1 : Int32))]) at_392 rfl rfl ?_
              refine w42.iload (q := 396) at_394 rfl rfl ?_
              exact w42.retZ at_396 (t := .boolean) rfl (by decide) rfl (by decide) (by decide) ⟨_, rfl, rfl⟩
  by_cases f1 : (fg &&& (1 : Int32)) = (0 : Int32)
  ·
    refine w.ifY (q := 48) at_41 ((if0 _ _).trans (teq f1).1) (by decide) (by decide) ?_
    refine w.iconst (q := 49) (0 : Int32) at_48 rfl rfl ?_
    refine w.istore (q := 51) (L2 := #[.val (.long xw), .second, .val (.long tz), .second, .val (.long ya), .second, .val (.long yb), .second, .val (.long yc), .second, .val (.int fg), .val (.long lg), .second, .val (.long na), .second, .val (.long ga), .second, .val (.long gb), .second, .val (.long gc), .second, .val (.int (0 : Int32)), .unset, .unset, .unset, .unset, .unset, .unset, .unset, .unset, .unset, .unset, .unset, .unset, .unset, .unset, .unset, .unset]) at_49 rfl rfl ?_
    refine w.iload (q := 53) at_51 rfl rfl ?_
    refine w.ifY (q := 67) at_53 ((if0 _ _).trans (teq rfl).1) (by decide) (by decide) ?_
    refine w.iconst (q := 68) (0 : Int32) at_67 rfl rfl ?_
    refine w.istore (q := 70) (L2 := #[.val (.long xw), .second, .val (.long tz), .second, .val (.long ya), .second, .val (.long yb), .second, .val (.long yc), .second, .val (.int fg), .val (.long lg), .second, .val (.long na), .second, .val (.long ga), .second, .val (.long gb), .second, .val (.long gc), .second, .val (.int (0 : Int32)), .val (.int (0 : Int32)), .unset, .unset, .unset, .unset, .unset, .unset, .unset, .unset, .unset, .unset, .unset, .unset, .unset, .unset, .unset]) at_68 rfl rfl ?_
    refine w.iload (q := 72) at_70 rfl rfl ?_
    refine w.iconst (q := 73) (4 : Int32) at_72 rfl rfl ?_
    refine w.iand (q := 74) at_73 rfl ?_
    by_cases f4 : (fg &&& (4 : Int32)) = (0 : Int32)
    ·
      refine w.ifY (q := 81) at_74 ((if0 _ _).trans (teq f4).1) (by decide) (by decide) ?_
      refine w.iconst (q := 82) (0 : Int32) at_81 rfl rfl ?_
      refine w.istore (q := 84) (L2 := #[.val (.long xw), .second, .val (.long tz), .second, .val (.long ya), .second, .val (.long yb), .second, .val (.long yc), .second, .val (.int fg), .val (.long lg), .second, .val (.long na), .second, .val (.long ga), .second, .val (.long gb), .second, .val (.long gc), .second, .val (.int (0 : Int32)), .val (.int (0 : Int32)), .val (.int (0 : Int32)), .unset, .unset, .unset, .unset, .unset, .unset, .unset, .unset, .unset, .unset, .unset, .unset, .unset, .unset]) at_82 rfl rfl ?_
      exact key 0 0 0 (Or.inl rfl) (Or.inl rfl) (fun _ => rfl) (Or.inl rfl)
    ·
      refine w.ifN (q := 77) at_74 ((if0 _ _).trans (feq f4).1) rfl ?_
      refine w.iconst (q := 78) (1 : Int32) at_77 rfl rfl ?_
      refine w.goto (q := 82) at_78 (by decide) (by decide) ?_
      refine w.istore (q := 84) (L2 := #[.val (.long xw), .second, .val (.long tz), .second, .val (.long ya), .second, .val (.long yb), .second, .val (.long yc), .second, .val (.int fg), .val (.long lg), .second, .val (.long na), .second, .val (.long ga), .second, .val (.long gb), .second, .val (.long gc), .second, .val (.int (0 : Int32)), .val (.int (0 : Int32)), .val (.int (1 : Int32)), .unset, .unset, .unset, .unset, .unset, .unset, .unset, .unset, .unset, .unset, .unset, .unset, .unset, .unset]) at_82 rfl rfl ?_
      exact key 0 0 1 (Or.inl rfl) (Or.inl rfl) (fun _ => rfl) (Or.inr rfl)
  ·
    refine w.ifN (q := 44) at_41 ((if0 _ _).trans (feq f1).1) rfl ?_
    refine w.iconst (q := 45) (1 : Int32) at_44 rfl rfl ?_
    refine w.goto (q := 49) at_45 (by decide) (by decide) ?_
    refine w.istore (q := 51) (L2 := #[.val (.long xw), .second, .val (.long tz), .second, .val (.long ya), .second, .val (.long yb), .second, .val (.long yc), .second, .val (.int fg), .val (.long lg), .second, .val (.long na), .second, .val (.long ga), .second, .val (.long gb), .second, .val (.long gc), .second, .val (.int (1 : Int32)), .unset, .unset, .unset, .unset, .unset, .unset, .unset, .unset, .unset, .unset, .unset, .unset, .unset, .unset, .unset, .unset]) at_49 rfl rfl ?_
    refine w.iload (q := 53) at_51 rfl rfl ?_
    refine w.ifN (q := 56) at_53 ((if0 _ _).trans (feq (by decide)).1) rfl ?_
    refine w.iload (q := 58) at_56 rfl rfl ?_
    refine w.iconst (q := 59) (2 : Int32) at_58 rfl rfl ?_
    refine w.iand (q := 60) at_59 rfl ?_
    by_cases f2 : (fg &&& (2 : Int32)) = (0 : Int32)
    ·
      refine w.ifY (q := 67) at_60 ((if0 _ _).trans (teq f2).1) (by decide) (by decide) ?_
      refine w.iconst (q := 68) (0 : Int32) at_67 rfl rfl ?_
      refine w.istore (q := 70) (L2 := #[.val (.long xw), .second, .val (.long tz), .second, .val (.long ya), .second, .val (.long yb), .second, .val (.long yc), .second, .val (.int fg), .val (.long lg), .second, .val (.long na), .second, .val (.long ga), .second, .val (.long gb), .second, .val (.long gc), .second, .val (.int (1 : Int32)), .val (.int (0 : Int32)), .unset, .unset, .unset, .unset, .unset, .unset, .unset, .unset, .unset, .unset, .unset, .unset, .unset, .unset, .unset]) at_68 rfl rfl ?_
      refine w.iload (q := 72) at_70 rfl rfl ?_
      refine w.iconst (q := 73) (4 : Int32) at_72 rfl rfl ?_
      refine w.iand (q := 74) at_73 rfl ?_
      by_cases f4 : (fg &&& (4 : Int32)) = (0 : Int32)
      ·
        refine w.ifY (q := 81) at_74 ((if0 _ _).trans (teq f4).1) (by decide) (by decide) ?_
        refine w.iconst (q := 82) (0 : Int32) at_81 rfl rfl ?_
        refine w.istore (q := 84) (L2 := #[.val (.long xw), .second, .val (.long tz), .second, .val (.long ya), .second, .val (.long yb), .second, .val (.long yc), .second, .val (.int fg), .val (.long lg), .second, .val (.long na), .second, .val (.long ga), .second, .val (.long gb), .second, .val (.long gc), .second, .val (.int (1 : Int32)), .val (.int (0 : Int32)), .val (.int (0 : Int32)), .unset, .unset, .unset, .unset, .unset, .unset, .unset, .unset, .unset, .unset, .unset, .unset, .unset, .unset]) at_82 rfl rfl ?_
        exact key 1 0 0 (Or.inr rfl) (Or.inl rfl) (fun _ => rfl) (Or.inl rfl)
      ·
        refine w.ifN (q := 77) at_74 ((if0 _ _).trans (feq f4).1) rfl ?_
        refine w.iconst (q := 78) (1 : Int32) at_77 rfl rfl ?_
        refine w.goto (q := 82) at_78 (by decide) (by decide) ?_
        refine w.istore (q := 84) (L2 := #[.val (.long xw), .second, .val (.long tz), .second, .val (.long ya), .second, .val (.long yb), .second, .val (.long yc), .second, .val (.int fg), .val (.long lg), .second, .val (.long na), .second, .val (.long ga), .second, .val (.long gb), .second, .val (.long gc), .second, .val (.int (1 : Int32)), .val (.int (0 : Int32)), .val (.int (1 : Int32)), .unset, .unset, .unset, .unset, .unset, .unset, .unset, .unset, .unset, .unset, .unset, .unset, .unset, .unset]) at_82 rfl rfl ?_
        exact key 1 0 1 (Or.inr rfl) (Or.inl rfl) (fun _ => rfl) (Or.inr rfl)
    ·
      refine w.ifN (q := 63) at_60 ((if0 _ _).trans (feq f2).1) rfl ?_
      refine w.iconst (q := 64) (1 : Int32) at_63 rfl rfl ?_
      refine w.goto (q := 68) at_64 (by decide) (by decide) ?_
      refine w.istore (q := 70) (L2 := #[.val (.long xw), .second, .val (.long tz), .second, .val (.long ya), .second, .val (.long yb), .second, .val (.long yc), .second, .val (.int fg), .val (.long lg), .second, .val (.long na), .second, .val (.long ga), .second, .val (.long gb), .second, .val (.long gc), .second, .val (.int (1 : Int32)), .val (.int (1 : Int32)), .unset, .unset, .unset, .unset, .unset, .unset, .unset, .unset, .unset, .unset, .unset, .unset, .unset, .unset, .unset]) at_68 rfl rfl ?_
      refine w.iload (q := 72) at_70 rfl rfl ?_
      refine w.iconst (q := 73) (4 : Int32) at_72 rfl rfl ?_
      refine w.iand (q := 74) at_73 rfl ?_
      by_cases f4 : (fg &&& (4 : Int32)) = (0 : Int32)
      ·
        refine w.ifY (q := 81) at_74 ((if0 _ _).trans (teq f4).1) (by decide) (by decide) ?_
        refine w.iconst (q := 82) (0 : Int32) at_81 rfl rfl ?_
        refine w.istore (q := 84) (L2 := #[.val (.long xw), .second, .val (.long tz), .second, .val (.long ya), .second, .val (.long yb), .second, .val (.long yc), .second, .val (.int fg), .val (.long lg), .second, .val (.long na), .second, .val (.long ga), .second, .val (.long gb), .second, .val (.long gc), .second, .val (.int (1 : Int32)), .val (.int (1 : Int32)), .val (.int (0 : Int32)), .unset, .unset, .unset, .unset, .unset, .unset, .unset, .unset, .unset, .unset, .unset, .unset, .unset, .unset]) at_82 rfl rfl ?_
        exact key 1 1 0 (Or.inr rfl) (Or.inr rfl) (fun q => absurd q (by decide)) (Or.inl rfl)
      ·
        refine w.ifN (q := 77) at_74 ((if0 _ _).trans (feq f4).1) rfl ?_
        refine w.iconst (q := 78) (1 : Int32) at_77 rfl rfl ?_
        refine w.goto (q := 82) at_78 (by decide) (by decide) ?_
        refine w.istore (q := 84) (L2 := #[.val (.long xw), .second, .val (.long tz), .second, .val (.long ya), .second, .val (.long yb), .second, .val (.long yc), .second, .val (.int fg), .val (.long lg), .second, .val (.long na), .second, .val (.long ga), .second, .val (.long gb), .second, .val (.long gc), .second, .val (.int (1 : Int32)), .val (.int (1 : Int32)), .val (.int (1 : Int32)), .unset, .unset, .unset, .unset, .unset, .unset, .unset, .unset, .unset, .unset, .unset, .unset, .unset, .unset]) at_82 rfl rfl ?_
        exact key 1 1 1 (Or.inr rfl) (Or.inr rfl) (fun q => absurd q (by decide)) (Or.inr rfl)
set_option maxRecDepth 65536 in
set_option maxHeartbeats 40000000 in
theorem comes_1 {Post : Tables → Env → Array Value → State → Outcome → State → Prop} (hpost : ∀ tb e args s v u, (limb_1_1.after args s (.returned v) u = true ∧ limb_1_2.after args s (.returned v) u = true ∧ True) → ReturnedEndW s (.returned v) u (Jvm.fieldLocs frame_1_writes args s ++ Jvm.arrayLocs frame_1_arrays args s ++ Jvm.staticLocs frame_1_statics s) 64 10432 → Post tb e args s (.returned v) u) :
    ArmFor flags0 classFile x code maxLocals ret World_1 tables_1 room_1 Calls_1 rest_1 Pre_1 Post := by
  intro l hfl _ _ p e ha hc hk s m args below hf hA hF happ hP
  obtain ⟨hcalls, hrest, hpre⟩ := hP
  obtain ⟨-, -, -, hnamed, -, -, -, hat⟩ := (Spec.applies_iff hf).mp happ
  obtain ⟨hg, hn⟩ := and_e (Cond.before_iff.mp (show (Jvm.Cond.and given_1 narrow_1).before args s = true from hpre))
  obtain ⟨h1, g0⟩ := and_e hg
  obtain ⟨w0, w1, w2, w3, w4, w5, rfl⟩ : ∃ w0 w1 w2 w3 w4 w5 : Value, args = #[w0, w1, w2, w3, w4, w5] := by
    have hs : args.size = 6 := by simpa [Cond.value, given_1] using h1
    obtain ⟨L⟩ := args
    match L, hs with
    | [w0, w1, w2, w3, w4, w5], _ => exact ⟨w0, w1, w2, w3, w4, w5, rfl⟩
  have hw := fun d (hd : d ∈ tables_1) => atoms_spec (ws := Jvm.Cond.code x code maxLocals ret :: tables_1) hat d (List.mem_cons_of_mem _ hd)
  obtain ⟨hsets, hown0⟩ := atoms_of _ (rest_1_c_eq ▸ (show rest_1_c.before _ s = true from hrest))
  have hfit : Fit s := fun {y c} hc i hi => by
    obtain ⟨ha, rfl⟩ := Array.getElem?_eq_some_iff.mp hc
    have q := List.all_eq_true.mp ((Array.all_eq_true_iff_forall_mem.mp hF) _ (Array.getElem_mem ha)) i (List.mem_range.mpr hi)
    simpa [Array.getElem?_eq_getElem hi] using q
  obtain ⟨q0, g1⟩ := and_e g0
  obtain ⟨x0, e0⟩ := isL_v q0
  obtain rfl : w0 = (.long x0) := Option.some.inj e0
  obtain ⟨q1, g2⟩ := and_e g1
  obtain ⟨x1, e1⟩ := isL_v q1
  obtain rfl : w1 = (.long x1) := Option.some.inj e1
  obtain ⟨q2, g3⟩ := and_e g2
  obtain ⟨x2, e2⟩ := isL_v q2
  obtain rfl : w2 = (.long x2) := Option.some.inj e2
  obtain ⟨q3, g4⟩ := and_e g3
  obtain ⟨x3, e3⟩ := isL_v q3
  obtain rfl : w3 = (.long x3) := Option.some.inj e3
  obtain ⟨q4, g5⟩ := and_e g4
  obtain ⟨x4, e4⟩ := isL_v q4
  obtain rfl : w4 = (.long x4) := Option.some.inj e4
  obtain ⟨x5, e5⟩ := is_v g5
  obtain rfl : w5 = (.int x5) := Option.some.inj e5
  obtain ⟨cz, ez⟩ := is_v (Cond.before_iff.mp (hsets _ (List.mem_of_getElem? (i := 1) rfl)))
  have Sz : Sta s s.heap "java/lang/String" "COMPACT_STRINGS" "Z" (.int cz) := Sta.start ez (Or.inl (hsets _ (List.mem_of_getElem? (i := 0) rfl)))
  have nz : ¬ (cz = (0 : Int32)) := gotF (Cond.eq_ints ez (Term.int_eval (0))) (not_v (Cond.before_iff.mp (hsets _ (List.mem_of_getElem? (i := 2) rfl))))
  obtain ⟨vf, ef, rf⟩ := isR_v (Cond.before_iff.mp (hsets _ (List.mem_of_getElem? (i := 8) rfl)))
  have Sf : Sta s s.heap "jdk/internal/util/Preconditions" "SIOOBE_FORMATTER" "Ljava/util/function/BiFunction;" vf := Sta.start ef (Or.inl (hsets _ (List.mem_of_getElem? (i := 7) rfl)))
  have hEL : EW s _ consts_1 := (EW.cons (hw _ (List.mem_of_getElem? (i := 6) rfl)) (by decide) (EW.cons (hw _ (List.mem_of_getElem? (i := 14) rfl)) (by decide) (EW.cons (hw _ (List.mem_of_getElem? (i := 120) rfl)) (by decide) (EW.cons (hw _ (List.mem_of_getElem? (i := 112) rfl)) (by decide) (EW.cons (hw _ (List.mem_of_getElem? (i := 29) rfl)) (by decide) (EW.cons (hw _ (List.mem_of_getElem? (i := 130) rfl)) (by decide) (EW.cons (hw _ (List.mem_of_getElem? (i := 134) rfl)) (by decide) (EW.cons (hw _ (List.mem_of_getElem? (i := 135) rfl)) (by decide) (EW.cons (hw _ (List.mem_of_getElem? (i := 136) rfl)) (by decide) (EW.cons (hw _ (List.mem_of_getElem? (i := 137) rfl)) (by decide) EW.nil))))))))))
  have hCH : CHv s consts_1 s.vm s.heap := CHv.start hEL (fun p hp => hcalls.1 p hp) (hsets _ (List.mem_of_getElem? (i := 2) rfl)) (hw _ (List.mem_of_getElem? (i := 9) rfl)) (hw _ (List.mem_of_getElem? (i := 8) rfl))
  obtain ⟨oi, evi⟩ := exa_v (Cond.before_iff.mp (hsets _ (List.mem_of_getElem? (i := 11) rfl)))
  have Soi : Sta s s.heap "java/util/OptionalInt" "EMPTY" "Ljava/util/OptionalInt;" (.ref oi) := Sta.start evi (Or.inl (hsets _ (List.mem_of_getElem? (i := 10) rfl)))
  have Eoi : Exa s s.heap oi "java/util/OptionalInt" := Exa.start evi (Cond.before_iff.mp (hsets _ (List.mem_of_getElem? (i := 11) rfl)))
  have Foi : Fld s s.heap oi "java/util/OptionalInt" "isPresent" "Z" (.int 0) := Fld.start ((fld_at evi).symm.trans (eqv_i (Term.int_eval (0)) (Cond.before_iff.mp (hsets _ (List.mem_of_getElem? (i := 12) rfl)))))
  obtain ⟨oe, evo⟩ := exa_v (Cond.before_iff.mp (hsets _ (List.mem_of_getElem? (i := 16) rfl)))
  have Soe : Sta s s.heap "java/util/Optional" "EMPTY" "Ljava/util/Optional;" (.ref oe) := Sta.start evo (Or.inl (hsets _ (List.mem_of_getElem? (i := 15) rfl)))
  have Ooe : Opt s s.heap oe .null := ⟨Exa.start evo (Cond.before_iff.mp (hsets _ (List.mem_of_getElem? (i := 16) rfl))), Fld.start ((fld_at evo).symm.trans (eqv_n (Cond.before_iff.mp (hsets _ (List.mem_of_getElem? (i := 17) rfl)))))⟩
  have hao := Cond.before_iff.mp (hsets _ (List.mem_of_getElem? (i := 20) rfl))
  obtain ⟨lc, evc⟩ := arr_v hao
  have Slc : Sta s s.heap "java/lang/Long$LongCache" "cache" "[Ljava/lang/Long;" (.ref lc) := Sta.start evc (Or.inl (hsets _ (List.mem_of_getElem? (i := 19) rfl)))
  obtain ⟨lcell, Acl⟩ := Arr.start evc hao
  have hlc := eqv_i (Term.int_eval (256)) (Cond.before_iff.mp (hsets _ (List.mem_of_getElem? (i := 22) rfl)))
  have Blc : Bxs s lc lcell "java/lang/Long" "J" 256 (fun j => .long (j - 128).toInt64) := by
    obtain ⟨hl1, hl2⟩ := len_box Acl evc hlc
    exact Bxs.start (fun idx => by simpa [Term.eval] using evc) Acl hl1 hl2 (by decide) (Cond.before_iff.mp (hsets _ (List.mem_of_getElem? (i := 23) rfl))) (fun X j nn hq => eqv_l (i2l_at (sub_at (idx_at nn) (Term.int_eval (128)))) hq)
  let G : Gx := (true, l, s, #[(.long x0), (.long x1), (.long x2), (.long x3), (.long x4), (.int x5)], consts_1, s.heap.size)
  have H : Hyp G := ⟨hw, hEL, ⟨cz, nz, Sz⟩, ⟨rfl, rfl⟩, ⟨lc, lcell, Slc, Blc⟩, ⟨vf, rf, Sf⟩, ⟨oi, Soi, Eoi, Foi⟩, oe, Soe, Ooe⟩
  obtain ⟨n, o, h1, h2, h3, _, L, rfl, ⟨⟨_, rfl, rfl⟩, N, -⟩, -, hq⟩ := con_law G H x0 x1 x2 x3 x4 x5 s.heap (Old.start s) p e ha hc hk s m _ below hf ((Spec.applies_iff_loose hf).mp happ).1 ⟨rfl, State.Warmed39.refl s, rfl, fun _ => hCH⟩ trivial
  refine ⟨n, _, h1, h2, h3, hpost _ _ _ _ _ _ ⟨Cond.after_iff.mpr rfl, Cond.after_iff.mpr (eq_i res_at (Term.int_eval (1)) rfl), trivial⟩ ⟨hq.1.1, hq.1.2.1, hq.1.2.2.1, (hq.1.2.2.2.sift fun y hy => Or.inr (N y hy)).mono (by decide) (by decide)⟩⟩
theorem main_1_1 : Claimed_1_1 := comes_1 fun _ _ _ _ _ _ h hF => ⟨h.1, hF⟩
theorem main_1_2 : Claimed_1_2 := comes_1 fun _ _ _ _ _ _ h hF => ⟨h.2.1, hF⟩
end Jvm.Pilot.@@N@@
namespace Jvm.Pilot.@@N@@
open Jvm Jvm.ClassFile Sem Op Lib Jvm.Free Jvm.Stand Jvm.Pilot.@@N@@.Jvm.D
/-! MADE BY PROGRAM (witnessworld.py) out of the Statement's table words and the real class files: 37 classes; the members and pool entries that the words name. The judged class is class 1, her method 1. -/
namespace start1
open Jvm.ClassFile
def u (s : String) : CpInfo := .utf8 (stringToUtf16 s)
/-- a pool by its gaps: so many unusable entries, then the entry; so many at the end -/
def gap : Nat → List CpInfo → List CpInfo
  | 0, r => r
  | n + 1, r => .unusable :: gap n r
def poolList (es : List (Nat × CpInfo)) (last : Nat) : List CpInfo := es.foldr (fun e r => gap e.1 (e.2 :: r)) (gap last [])
def pool (es : List (Nat × CpInfo)) (last : Nat) : Array CpInfo := ⟨poolList es last⟩
def fileOf (pool : Array CpInfo) (this : Nat) (attrs : Array Attribute := #[]) (ms : Array MethodInfo := #[]) (fl : Nat := 33) (sup : Nat := 0) (ifs : Array Nat := #[]) (fds : Array FieldInfo := #[]) : ClassFile where
  minorVersion := 0
  majorVersion := 65
  constantPool := pool
  accessFlags := fl
  thisClass := this
  superClass := sup
  interfaces := ifs
  fields := fds
  methods := ms
  attributes := attrs
def plain (name : String) (sup : Option ClassId) : Class where
  name := name
  kind := .ordinary
  loader := none
  accessFlags := 33
  super := sup
  interfaces := #[]
  cf := none
  fields := #[]
  methods := #[]
  instanceTypes := #[]
  staticTypes := #[]
  resolved := #[]
  callSites := []
  init := .initialized
  statics := none
  mirror := none

def pool0 : Array CpInfo := pool [(5, u "<init>"), (0, u "()V"), (1, .class_ 10), (1, u "java/lang/Object")] 113

def k0c0 : Code := { maxStack := 0, maxLocals := 1, code := object_method_1_code, exceptionTable := #[], attributes := #[] }
def k0m0 : Method := { name := "<init>", desc := "()V", sig := { parameters := [], returnType := none }, accessFlags := 1, code := some k0c0 }
/-- java/lang/Object -/
def k0 : Class := { plain "java/lang/Object" none with
  accessFlags := 33
  interfaces := #[]
  cf := some (fileOf pool0 8 #[] #[{ accessFlags := 1, nameIndex := 5, descriptorIndex := 6, attributes := #[] }] 33 0 #[] #[])
  fields := #[]
  methods := #[k0m0]
  instanceTypes := #[]
  staticTypes := #[]
  resolved := Array.replicate 124 none
  statics := none }

def pool1 : Array CpInfo := pool [(2, .class_ 4), (1, u "java/lang/Object"), (0, u "<init>"), (0, u "()V"), (0, .long 68719476735), (1, .long 8796093022207), (1, .long 4), (1, .class_ 14), (0, u "com/example/versioned_table/versionedtable/RecordKey"), (0, .string 16), (0, u "p"), (0, .string 18), (0, u "s"), (0, .methodref 13 20), (0, .nameAndType 5 21), (0, u "(Ljava/lang/String;Ljava/lang/String;)V"), (0, .class_ 23), (0, u "com/example/versioned_table/versionedtable/StoredRecord"), (0, .string 25), (0, u "d"), (0, .methodref 27 28), (0, .class_ 29), (0, .nameAndType 30 31), (0, u "java/util/Optional"), (0, u "empty"), (0, u "()Ljava/util/Optional;"), (0, .methodref 22 33), (0, .nameAndType 5 34), (0, u "(Lcom/example/versioned_table/versionedtable/RecordKey;JLjava/lang/String;ILjava/util/Optional;Ljava/util/Optional;)V"), (0, .class_ 36), (0, u "com/example/versioned_table/versionedtable/KeyHold"), (0, .methodref 35 38), (0, .nameAndType 5 39), (0, u "(J)V"), (0, .methodref 35 41), (0, .nameAndType 42 43), (0, u "landed"), (0, u "(Lcom/example/versioned_table/versionedtable/StoredRecord;Lcom/example/versioned_table/versionedtable/StoredRecord;JJ)V"), (0, .methodref 35 45), (0, .nameAndType 46 47), (0, u "holds"), (0, u "()Z"), (0, .methodref 35 49), (0, .nameAndType 50 51), (0, u "idleFrom"), (0, u "(J)J"), (0, .methodref 35 53), (0, .nameAndType 54 51), (0, u "waitBefore"), (0, .long 8), (1, .class_ 58), (0, u "com/example/versioned_table/versionedtable/KeyHoldHoldsPinLaw"), (2, u "law"), (0, u "(JJJJJI)Z")] 3

def k1m0 : Method := { name := "<init>", desc := "()V", sig := { parameters := [], returnType := none }, accessFlags := 1, code := none }
def k1c1 : Code := { maxStack := 9, maxLocals := 38, code := code, exceptionTable := #[], attributes := #[] }
def k1m1 : Method := { name := "law", desc := "(JJJJJI)Z", sig := { parameters := [.long, .long, .long, .long, .long, .int], returnType := some .boolean }, accessFlags := 9, code := some k1c1 }
/-- com/example/versioned_table/versionedtable/KeyHoldHoldsPinLaw -/
def k1 : Class := { plain "com/example/versioned_table/versionedtable/KeyHoldHoldsPinLaw" (some 0) with
  accessFlags := 49
  interfaces := #[]
  cf := some (fileOf pool1 57 #[] #[{ accessFlags := 1, nameIndex := 5, descriptorIndex := 6, attributes := #[] }, { accessFlags := 9, nameIndex := 61, descriptorIndex := 62, attributes := #[] }] 49 2 #[] #[])
  fields := #[]
  methods := #[k1m0, k1m1]
  instanceTypes := #[]
  staticTypes := #[]
  resolved := Array.replicate 66 none
  statics := none }

def pool2 : Array CpInfo := pool [(1, .methodref 2 3), (0, .class_ 4), (0, .nameAndType 5 6), (0, u "java/lang/Object"), (0, u "<init>"), (0, u "()V"), (0, .class_ 8), (0, u "java/lang/Record")] 13

def k2c0 : Code := { maxStack := 1, maxLocals := 1, code := jdk_30_method_1_code, exceptionTable := #[], attributes := #[] }
def k2m0 : Method := { name := "<init>", desc := "()V", sig := { parameters := [], returnType := none }, accessFlags := 4, code := some k2c0 }
/-- java/lang/Record -/
def k2 : Class := { plain "java/lang/Record" (some 0) with
  accessFlags := 1057
  interfaces := #[]
  cf := some (fileOf pool2 7 #[] #[{ accessFlags := 4, nameIndex := 5, descriptorIndex := 6, attributes := #[] }] 1057 2 #[] #[])
  fields := #[]
  methods := #[k2m0]
  instanceTypes := #[]
  staticTypes := #[]
  resolved := Array.replicate 22 none
  statics := none }

def pool3 : Array CpInfo := pool [(1, .methodref 2 3), (0, .class_ 4), (0, .nameAndType 5 6), (0, u "java/lang/Record"), (0, u "<init>"), (0, u "()V"), (0, .methodref 8 9), (0, .class_ 10), (0, .nameAndType 11 12), (0, u "com/example/versioned_table/versionedtable/RecordKey"), (0, u "requirePartition"), (0, u "(Ljava/lang/String;)V"), (0, .string 14), (0, u "sort"), (0, .methodref 8 16), (0, .nameAndType 17 18), (0, u "requirePart"), (0, u "(Ljava/lang/String;Ljava/lang/String;I)V"), (0, .fieldref 8 20), (0, .nameAndType 21 22), (0, u "partition"), (0, u "Ljava/lang/String;"), (0, .fieldref 8 24), (0, .nameAndType 14 22), (2, u "(Ljava/lang/String;Ljava/lang/String;)V"), (1, .class_ 31), (1, u "java/lang/String"), (6, .string 21), (0, .methodref 40 41), (0, .class_ 42), (0, .nameAndType 43 44), (0, u "com/example/versioned_table/versionedtable/Utf8"), (0, u "unpairedSurrogate"), (0, u "(Ljava/lang/String;)Ljava/util/OptionalInt;"), (0, .methodref 46 47), (0, .class_ 48), (0, .nameAndType 49 50), (0, u "java/util/OptionalInt"), (0, u "isPresent"), (0, u "()Z"), (11, .invokeDynamic 1 63), (0, .nameAndType 64 65), (0, u "get"), (0, u "(Ljava/lang/String;)Ljava/util/function/Supplier;"), (0, .methodref 67 68), (0, .class_ 69), (0, .nameAndType 70 71), (0, u "java/util/Objects"), (0, u "requireNonNull"), (0, u "(Ljava/lang/Object;Ljava/util/function/Supplier;)Ljava/lang/Object;"), (0, .methodref 29 73), (0, .nameAndType 74 50), (0, u "isEmpty"), (2, u "(Ljava/lang/String;)Ljava/lang/String;"), (0, .methodref 8 79), (0, .nameAndType 80 27), (0, u "requireWellFormed"), (0, .methodref 40 82), (0, .nameAndType 83 84), (0, u "isOver"), (0, u "(Ljava/lang/String;J)Z"), (39, u "SORT_ORDER"), (0, u "Ljava/util/Comparator;"), (0, u "MAX_PARTITION_BYTES"), (0, u "I"), (2, u "MAX_SORT_BYTES"), (11, u "()Ljava/lang/String;"), (0, u "lambda$requirePart$0"), (7, .methodType 152), (0, u "()Ljava/lang/Object;"), (0, .methodHandle 6 154), (0, .methodref 8 155), (0, .nameAndType 143 77), (0, .methodType 142), (22, .methodHandle 6 180), (0, .methodref 181 182), (0, .class_ 183), (0, .nameAndType 184 185), (0, u "java/lang/invoke/LambdaMetafactory"), (0, u "metafactory"), (0, u "(Ljava/lang/invoke/MethodHandles$Lookup;Ljava/lang/String;Ljava/lang/invoke/MethodType;Ljava/lang/invoke/MethodType;Ljava/lang/invoke/MethodHandle;Ljava/lang/invoke/MethodType;)Ljava/lang/invoke/CallSite;")] 13

def k3c0 : Code := { maxStack := 3, maxLocals := 3, code := prog_23_method_1_code, exceptionTable := #[], attributes := #[] }
def k3m0 : Method := { name := "<init>", desc := "(Ljava/lang/String;Ljava/lang/String;)V", sig := { parameters := [(.object "java/lang/String"), (.object "java/lang/String")], returnType := none }, accessFlags := 1, code := some k3c0 }
def k3c1 : Code := { maxStack := 3, maxLocals := 1, code := prog_23_method_5_code, exceptionTable := #[], attributes := #[] }
def k3m1 : Method := { name := "requirePartition", desc := "(Ljava/lang/String;)V", sig := { parameters := [(.object "java/lang/String")], returnType := none }, accessFlags := 8, code := some k3c1 }
def k3c2 : Code := { maxStack := 4, maxLocals := 3, code := prog_23_method_6_code, exceptionTable := #[], attributes := #[] }
def k3m2 : Method := { name := "requireWellFormed", desc := "(Ljava/lang/String;Ljava/lang/String;)V", sig := { parameters := [(.object "java/lang/String"), (.object "java/lang/String")], returnType := none }, accessFlags := 8, code := some k3c2 }
def k3c3 : Code := { maxStack := 6, maxLocals := 3, code := prog_23_method_7_code, exceptionTable := #[], attributes := #[] }
def k3m3 : Method := { name := "requirePart", desc := "(Ljava/lang/String;Ljava/lang/String;I)V", sig := { parameters := [(.object "java/lang/String"), (.object "java/lang/String"), .int], returnType := none }, accessFlags := 10, code := some k3c3 }
def k3c4 : Code := { maxStack := 1, maxLocals := 1, code := ⟨#[0x2a, 0xba, 0x00, 0x72, 0x00, 0x00, 0xb0]⟩, exceptionTable := #[], attributes := #[] }
def k3m4 : Method := { name := "lambda$requirePart$0", desc := "(Ljava/lang/String;)Ljava/lang/String;", sig := { parameters := [(.object "java/lang/String")], returnType := some (.object "java/lang/String") }, accessFlags := 4106, code := some k3c4 }
/-- com/example/versioned_table/versionedtable/RecordKey -/
def k3 : Class := { plain "com/example/versioned_table/versionedtable/RecordKey" (some 2) with
  accessFlags := 49
  interfaces := #[]
  cf := some (fileOf pool3 8 #[.bootstrapMethods #[⟨0, #[]⟩, ⟨179, #[151, 153, 156]⟩, ⟨0, #[]⟩, ⟨0, #[]⟩, ⟨0, #[]⟩, ⟨0, #[]⟩, ⟨0, #[]⟩]] #[{ accessFlags := 1, nameIndex := 5, descriptorIndex := 27, attributes := #[] }, { accessFlags := 8, nameIndex := 11, descriptorIndex := 12, attributes := #[] }, { accessFlags := 8, nameIndex := 80, descriptorIndex := 27, attributes := #[] }, { accessFlags := 10, nameIndex := 17, descriptorIndex := 18, attributes := #[] }, { accessFlags := 4106, nameIndex := 143, descriptorIndex := 77, attributes := #[] }] 49 2 #[] #[{ accessFlags := 18, nameIndex := 21, descriptorIndex := 22, attributes := #[] }, { accessFlags := 18, nameIndex := 14, descriptorIndex := 22, attributes := #[] }, { accessFlags := 25, nameIndex := 126, descriptorIndex := 127, attributes := #[] }, { accessFlags := 25, nameIndex := 130, descriptorIndex := 127, attributes := #[] }, { accessFlags := 25, nameIndex := 124, descriptorIndex := 125, attributes := #[] }])
  fields := #[{ name := "partition", type := (.object "java/lang/String"), accessFlags := 18, slot := 0, constantValue := 0 }, { name := "sort", type := (.object "java/lang/String"), accessFlags := 18, slot := 1, constantValue := 0 }, { name := "MAX_PARTITION_BYTES", type := .int, accessFlags := 25, slot := 0, constantValue := 0 }, { name := "MAX_SORT_BYTES", type := .int, accessFlags := 25, slot := 1, constantValue := 0 }, { name := "SORT_ORDER", type := (.object "java/util/Comparator"), accessFlags := 25, slot := 2, constantValue := 0 }]
  methods := #[k3m0, k3m1, k3m2, k3m3, k3m4]
  instanceTypes := #[(.object "java/lang/String"), (.object "java/lang/String")]
  staticTypes := #[.int, .int, (.object "java/util/Comparator")]
  resolved := Array.replicate 199 none
  callSites := [(3, 2, .makes 33)]
  statics := none }

def pool4 : Array CpInfo := pool [(1, .class_ 2), (0, u "java/io/Serializable"), (0, .class_ 4), (0, u "java/lang/Object")] 2

/-- java/io/Serializable -/
def k4 : Class := { plain "java/io/Serializable" (some 0) with
  accessFlags := 1537
  interfaces := #[]
  cf := some (fileOf pool4 1 #[] #[] 1537 3 #[] #[])
  fields := #[]
  methods := #[]
  instanceTypes := #[]
  staticTypes := #[]
  resolved := Array.replicate 7 none
  statics := none }

def pool5 : Array CpInfo := pool [(1, .class_ 2), (0, u "java/lang/Comparable"), (0, .class_ 4), (0, u "java/lang/Object")] 7

/-- java/lang/Comparable -/
def k5 : Class := { plain "java/lang/Comparable" (some 0) with
  accessFlags := 1537
  interfaces := #[]
  cf := some (fileOf pool5 1 #[] #[] 1537 3 #[] #[])
  fields := #[]
  methods := #[]
  instanceTypes := #[]
  staticTypes := #[]
  resolved := Array.replicate 12 none
  statics := none }

def pool6 : Array CpInfo := pool [(2, .class_ 4), (1, u "java/lang/CharSequence"), (42, .class_ 48), (0, u "java/lang/CharSequence$1CodePointIterator"), (10, .class_ 60), (0, u "java/lang/CharSequence$1CharIterator"), (5, .class_ 67), (0, u "java/lang/Object")] 63

/-- java/lang/CharSequence -/
def k6 : Class := { plain "java/lang/CharSequence" (some 0) with
  accessFlags := 1537
  interfaces := #[]
  cf := some (fileOf pool6 2 #[.nestMembers #[47, 59]] #[] 1537 66 #[] #[])
  fields := #[]
  methods := #[]
  instanceTypes := #[]
  staticTypes := #[]
  resolved := Array.replicate 131 none
  statics := none }

def pool7 : Array CpInfo := pool [(1, .class_ 2), (0, u "java/lang/constant/Constable"), (0, .class_ 4), (0, u "java/lang/Object")] 6

/-- java/lang/constant/Constable -/
def k7 : Class := { plain "java/lang/constant/Constable" (some 0) with
  accessFlags := 1537
  interfaces := #[]
  cf := some (fileOf pool7 1 #[] #[] 1537 3 #[] #[])
  fields := #[]
  methods := #[]
  instanceTypes := #[]
  staticTypes := #[]
  resolved := Array.replicate 11 none
  statics := none }

def pool8 : Array CpInfo := pool [(1, .class_ 2), (0, u "java/lang/constant/ConstantDesc"), (0, .class_ 4), (0, u "java/lang/Object")] 32

/-- java/lang/constant/ConstantDesc -/
def k8 : Class := { plain "java/lang/constant/ConstantDesc" (some 0) with
  accessFlags := 1537
  interfaces := #[]
  cf := some (fileOf pool8 1 #[] #[] 1537 3 #[] #[])
  fields := #[]
  methods := #[]
  instanceTypes := #[]
  staticTypes := #[]
  resolved := Array.replicate 37 none
  statics := none }

def pool9 : Array CpInfo := pool [(2, .class_ 4), (1, u "java/lang/Object"), (0, u "<init>"), (0, u "()V"), (2, .fieldref 10 11), (0, .class_ 12), (0, .nameAndType 13 14), (0, u "java/lang/String"), (0, u "value"), (0, u "[B"), (0, .fieldref 10 16), (0, .nameAndType 17 18), (0, u "coder"), (0, u "B"), (2, u "hash"), (0, u "I"), (2, u "hashIsZero"), (0, u "Z"), (11, .fieldref 10 39), (0, .nameAndType 40 26), (0, u "COMPACT_STRINGS"), (66, .class_ 109), (1, u "java/lang/StringLatin1"), (32, u "()Z"), (191, u "()I"), (0, .methodref 10 336), (0, .nameAndType 17 337), (0, u "()B"), (25, u "([BI)C"), (27, u "(II)V"), (35, u "(I)C"), (64, .methodref 10 493), (0, .nameAndType 494 142), (0, u "isLatin1"), (0, .methodref 107 496), (0, .nameAndType 497 363), (0, u "charAt"), (3, u "checkIndex"), (5, u "length"), (67, .class_ 576), (0, u "java/lang/CharSequence"), (22, u "CASE_INSENSITIVE_ORDER"), (0, u "Ljava/util/Comparator;"), (91, u "isEmpty"), (360, .fieldref 1054 1055), (0, .class_ 1056), (0, .nameAndType 1057 1058), (0, u "jdk/internal/util/Preconditions"), (0, u "SIOOBE_FORMATTER"), (0, u "Ljava/util/function/BiFunction;"), (0, .methodref 1054 1060), (0, .nameAndType 501 1061), (0, u "(IILjava/util/function/BiFunction;)I"), (39, u "serialPersistentFields"), (0, u "[Ljava/io/ObjectStreamField;"), (0, .class_ 1104), (0, u "java/lang/String$CaseInsensitiveComparator"), (1, .class_ 1107), (0, u "java/io/Serializable"), (0, .class_ 1109), (0, u "java/lang/Comparable"), (0, .class_ 1111), (0, u "java/lang/constant/Constable"), (0, .class_ 1113), (0, u "java/lang/constant/ConstantDesc"), (2, u "serialVersionUID"), (0, u "J"), (3, u "REPL"), (0, u "C"), (2, u "LATIN1"), (1, u "UTF16")] 323

def k9m0 : Method := { name := "<init>", desc := "()V", sig := { parameters := [], returnType := none }, accessFlags := 1, code := none }
def k9c1 : Code := { maxStack := 2, maxLocals := 1, code := jdk_42_method_54_code, exceptionTable := #[], attributes := #[] }
def k9m1 : Method := { name := "length", desc := "()I", sig := { parameters := [], returnType := some .int }, accessFlags := 1, code := some k9c1 }
def k9c2 : Code := { maxStack := 1, maxLocals := 1, code := jdk_42_method_55_code, exceptionTable := #[], attributes := #[] }
def k9m2 : Method := { name := "isEmpty", desc := "()Z", sig := { parameters := [], returnType := some .boolean }, accessFlags := 1, code := some k9c2 }
def k9c3 : Code := { maxStack := 2, maxLocals := 2, code := jdk_42_method_56_code, exceptionTable := #[], attributes := #[] }
def k9m3 : Method := { name := "charAt", desc := "(I)C", sig := { parameters := [.int], returnType := some .char }, accessFlags := 1, code := some k9c3 }
def k9c4 : Code := { maxStack := 1, maxLocals := 1, code := jdk_42_method_152_code, exceptionTable := #[], attributes := #[] }
def k9m4 : Method := { name := "coder", desc := "()B", sig := { parameters := [], returnType := some .byte }, accessFlags := 0, code := some k9c4 }
def k9c5 : Code := { maxStack := 1, maxLocals := 1, code := jdk_42_method_154_code, exceptionTable := #[], attributes := #[] }
def k9m5 : Method := { name := "isLatin1", desc := "()Z", sig := { parameters := [], returnType := some .boolean }, accessFlags := 0, code := some k9c5 }
def k9c6 : Code := { maxStack := 3, maxLocals := 2, code := jdk_42_method_155_code, exceptionTable := #[], attributes := #[] }
def k9m6 : Method := { name := "checkIndex", desc := "(II)V", sig := { parameters := [.int, .int], returnType := none }, accessFlags := 8, code := some k9c6 }
/-- java/lang/String -/
def k9 : Class := { plain "java/lang/String" (some 0) with
  accessFlags := 49
  interfaces := #[4, 5, 6, 7, 8]
  cf := some (fileOf pool9 10 #[.nestMembers #[1103]] #[{ accessFlags := 1, nameIndex := 5, descriptorIndex := 6, attributes := #[] }, { accessFlags := 1, nameIndex := 507, descriptorIndex := 334, attributes := #[] }, { accessFlags := 1, nameIndex := 692, descriptorIndex := 142, attributes := #[] }, { accessFlags := 1, nameIndex := 497, descriptorIndex := 427, attributes := #[] }, { accessFlags := 0, nameIndex := 17, descriptorIndex := 337, attributes := #[] }, { accessFlags := 0, nameIndex := 494, descriptorIndex := 142, attributes := #[] }, { accessFlags := 8, nameIndex := 501, descriptorIndex := 391, attributes := #[] }] 49 2 #[1106, 1108, 575, 1110, 1112] #[{ accessFlags := 18, nameIndex := 13, descriptorIndex := 14, attributes := #[] }, { accessFlags := 18, nameIndex := 17, descriptorIndex := 18, attributes := #[] }, { accessFlags := 2, nameIndex := 21, descriptorIndex := 22, attributes := #[] }, { accessFlags := 2, nameIndex := 25, descriptorIndex := 26, attributes := #[] }, { accessFlags := 26, nameIndex := 1116, descriptorIndex := 1117, attributes := #[] }, { accessFlags := 24, nameIndex := 40, descriptorIndex := 26, attributes := #[] }, { accessFlags := 26, nameIndex := 1101, descriptorIndex := 1102, attributes := #[] }, { accessFlags := 26, nameIndex := 1121, descriptorIndex := 1122, attributes := #[] }, { accessFlags := 25, nameIndex := 599, descriptorIndex := 600, attributes := #[] }, { accessFlags := 24, nameIndex := 1125, descriptorIndex := 18, attributes := #[] }, { accessFlags := 24, nameIndex := 1127, descriptorIndex := 18, attributes := #[] }])
  fields := #[{ name := "value", type := (.array .byte), accessFlags := 18, slot := 0, constantValue := 0 }, { name := "coder", type := .byte, accessFlags := 18, slot := 1, constantValue := 0 }, { name := "hash", type := .int, accessFlags := 2, slot := 2, constantValue := 0 }, { name := "hashIsZero", type := .boolean, accessFlags := 2, slot := 3, constantValue := 0 }, { name := "serialVersionUID", type := .long, accessFlags := 26, slot := 0, constantValue := 0 }, { name := "COMPACT_STRINGS", type := .boolean, accessFlags := 24, slot := 1, constantValue := 0 }, { name := "serialPersistentFields", type := (.array (.object "java/io/ObjectStreamField")), accessFlags := 26, slot := 2, constantValue := 0 }, { name := "REPL", type := .char, accessFlags := 26, slot := 3, constantValue := 0 }, { name := "CASE_INSENSITIVE_ORDER", type := (.object "java/util/Comparator"), accessFlags := 25, slot := 4, constantValue := 0 }, { name := "LATIN1", type := .byte, accessFlags := 24, slot := 5, constantValue := 0 }, { name := "UTF16", type := .byte, accessFlags := 24, slot := 6, constantValue := 0 }]
  methods := #[k9m0, k9m1, k9m2, k9m3, k9m4, k9m5, k9m6]
  instanceTypes := #[(.array .byte), .byte, .int, .boolean]
  staticTypes := #[.long, .boolean, (.array (.object "java/io/ObjectStreamField")), .char, (.object "java/util/Comparator"), .byte, .byte]
  resolved := Array.replicate 1451 none
  statics := some 0 }

def pool10 : Array CpInfo := pool [(1, .class_ 2), (0, u "java/util/function/Supplier"), (0, .class_ 4), (0, u "java/lang/Object"), (0, u "get"), (0, u "()Ljava/lang/Object;")] 7

def k10m0 : Method := { name := "get", desc := "()Ljava/lang/Object;", sig := { parameters := [], returnType := some (.object "java/lang/Object") }, accessFlags := 1025, code := none }
/-- java/util/function/Supplier -/
def k10 : Class := { plain "java/util/function/Supplier" (some 0) with
  accessFlags := 1537
  interfaces := #[]
  cf := some (fileOf pool10 1 #[] #[{ accessFlags := 1025, nameIndex := 5, descriptorIndex := 6, attributes := #[] }] 1537 3 #[] #[])
  fields := #[]
  methods := #[k10m0]
  instanceTypes := #[]
  staticTypes := #[]
  resolved := Array.replicate 14 none
  statics := none }

def pool11 : Array CpInfo := pool [(2, .class_ 4), (1, u "java/lang/Object"), (0, u "<init>"), (0, u "()V"), (35, .class_ 44), (1, u "java/util/Objects"), (0, u "requireNonNull"), (0, u "(Ljava/lang/Object;)Ljava/lang/Object;"), (47, u "(Ljava/lang/Object;Ljava/lang/String;)Ljava/lang/Object;"), (69, u "(Ljava/lang/Object;Ljava/util/function/Supplier;)Ljava/lang/Object;")] 19

def k11m0 : Method := { name := "<init>", desc := "()V", sig := { parameters := [], returnType := none }, accessFlags := 2, code := none }
def k11c1 : Code := { maxStack := 2, maxLocals := 1, code := jdk_31_method_10_code, exceptionTable := #[], attributes := #[] }
def k11m1 : Method := { name := "requireNonNull", desc := "(Ljava/lang/Object;)Ljava/lang/Object;", sig := { parameters := [(.object "java/lang/Object")], returnType := some (.object "java/lang/Object") }, accessFlags := 9, code := some k11c1 }
def k11c2 : Code := { maxStack := 3, maxLocals := 2, code := jdk_31_method_11_code, exceptionTable := #[], attributes := #[] }
def k11m2 : Method := { name := "requireNonNull", desc := "(Ljava/lang/Object;Ljava/lang/String;)Ljava/lang/Object;", sig := { parameters := [(.object "java/lang/Object"), (.object "java/lang/String")], returnType := some (.object "java/lang/Object") }, accessFlags := 9, code := some k11c2 }
def k11c3 : Code := { maxStack := 3, maxLocals := 2, code := jdk_31_method_16_code, exceptionTable := #[], attributes := #[] }
def k11m3 : Method := { name := "requireNonNull", desc := "(Ljava/lang/Object;Ljava/util/function/Supplier;)Ljava/lang/Object;", sig := { parameters := [(.object "java/lang/Object"), (.object "java/util/function/Supplier")], returnType := some (.object "java/lang/Object") }, accessFlags := 9, code := some k11c3 }
/-- java/util/Objects -/
def k11 : Class := { plain "java/util/Objects" (some 0) with
  accessFlags := 49
  interfaces := #[]
  cf := some (fileOf pool11 42 #[] #[{ accessFlags := 2, nameIndex := 5, descriptorIndex := 6, attributes := #[] }, { accessFlags := 9, nameIndex := 45, descriptorIndex := 46, attributes := #[] }, { accessFlags := 9, nameIndex := 45, descriptorIndex := 94, attributes := #[] }, { accessFlags := 9, nameIndex := 45, descriptorIndex := 164, attributes := #[] }] 49 2 #[] #[])
  fields := #[]
  methods := #[k11m0, k11m1, k11m2, k11m3]
  instanceTypes := #[]
  staticTypes := #[]
  resolved := Array.replicate 184 none
  statics := none }

def pool12 : Array CpInfo := pool [(2, .class_ 4), (1, u "java/lang/Object"), (0, u "<init>"), (0, u "()V"), (0, .methodref 8 9), (0, .class_ 10), (0, .nameAndType 11 12), (0, u "java/lang/String"), (0, u "length"), (0, u "()I"), (1, .class_ 16), (1, u "com/example/versioned_table/versionedtable/Utf8"), (4, .methodref 8 22), (0, .nameAndType 23 24), (0, u "charAt"), (0, u "(I)C"), (4, .long 3), (1, .methodref 14 32), (0, .nameAndType 33 34), (0, u "mostLength"), (0, u "(Ljava/lang/String;)J"), (2, .methodref 38 39), (0, .class_ 40), (0, .nameAndType 41 42), (0, u "java/lang/Character"), (0, u "isSurrogate"), (0, u "(C)Z"), (1, .class_ 46), (1, u "java/util/OptionalInt"), (2, .methodref 44 50), (0, .nameAndType 51 52), (0, u "empty"), (0, u "()Ljava/util/OptionalInt;"), (6, u "MOST_BYTES_PER_CHAR"), (0, u "I"), (5, u "isOver"), (0, u "(Ljava/lang/String;J)Z"), (0, u "unpairedSurrogate"), (0, u "(Ljava/lang/String;)Ljava/util/OptionalInt;")] 2

def k12m0 : Method := { name := "<init>", desc := "()V", sig := { parameters := [], returnType := none }, accessFlags := 2, code := none }
def k12c1 : Code := { maxStack := 4, maxLocals := 1, code := prog_55_method_3_code, exceptionTable := #[], attributes := #[] }
def k12m1 : Method := { name := "mostLength", desc := "(Ljava/lang/String;)J", sig := { parameters := [(.object "java/lang/String")], returnType := some .long }, accessFlags := 8, code := some k12c1 }
def k12c2 : Code := { maxStack := 4, maxLocals := 3, code := prog_55_method_4_code, exceptionTable := #[], attributes := #[] }
def k12m2 : Method := { name := "isOver", desc := "(Ljava/lang/String;J)Z", sig := { parameters := [(.object "java/lang/String"), .long], returnType := some .boolean }, accessFlags := 8, code := some k12c2 }
def k12c3 : Code := { maxStack := 2, maxLocals := 2, code := prog_55_method_5_code, exceptionTable := #[], attributes := #[] }
def k12m3 : Method := { name := "unpairedSurrogate", desc := "(Ljava/lang/String;)Ljava/util/OptionalInt;", sig := { parameters := [(.object "java/lang/String")], returnType := some (.object "java/util/OptionalInt") }, accessFlags := 8, code := some k12c3 }
/-- com/example/versioned_table/versionedtable/Utf8 -/
def k12 : Class := { plain "com/example/versioned_table/versionedtable/Utf8" (some 0) with
  accessFlags := 48
  interfaces := #[]
  cf := some (fileOf pool12 14 #[] #[{ accessFlags := 2, nameIndex := 5, descriptorIndex := 6, attributes := #[] }, { accessFlags := 8, nameIndex := 33, descriptorIndex := 34, attributes := #[] }, { accessFlags := 8, nameIndex := 66, descriptorIndex := 67, attributes := #[] }, { accessFlags := 8, nameIndex := 68, descriptorIndex := 69, attributes := #[] }] 48 2 #[] #[{ accessFlags := 24, nameIndex := 59, descriptorIndex := 60, attributes := #[] }])
  fields := #[{ name := "MOST_BYTES_PER_CHAR", type := .int, accessFlags := 24, slot := 0, constantValue := 0 }]
  methods := #[k12m0, k12m1, k12m2, k12m3]
  instanceTypes := #[]
  staticTypes := #[.int]
  resolved := Array.replicate 72 none
  statics := none }

def pool13 : Array CpInfo := pool [(1, .class_ 2), (0, u "java/lang/String"), (1, .class_ 6), (1, u "java/lang/Object"), (0, u "<init>"), (0, u "()V"), (0, .methodref 1 10), (0, .nameAndType 11 12), (0, u "checkIndex"), (0, u "(II)V"), (1, .class_ 16), (1, u "java/lang/StringLatin1"), (36, u "([BI)C"), (67, u "$assertionsDisabled"), (0, u "Z"), (98, .class_ 223), (1, u "java/lang/StringLatin1$LinesSpliterator"), (28, u "charAt"), (137, .class_ 391), (0, u "java/lang/StringLatin1$CharsSpliterator")] 3

def k13m0 : Method := { name := "<init>", desc := "()V", sig := { parameters := [], returnType := none }, accessFlags := 0, code := none }
def k13c1 : Code := { maxStack := 2, maxLocals := 2, code := jdk_43_method_2_code, exceptionTable := #[], attributes := #[] }
def k13m1 : Method := { name := "charAt", desc := "([BI)C", sig := { parameters := [(.array .byte), .int], returnType := some .char }, accessFlags := 9, code := some k13c1 }
/-- java/lang/StringLatin1 -/
def k13 : Class := { plain "java/lang/StringLatin1" (some 0) with
  accessFlags := 48
  interfaces := #[]
  cf := some (fileOf pool13 14 #[.nestMembers #[390, 221]] #[{ accessFlags := 0, nameIndex := 7, descriptorIndex := 8, attributes := #[] }, { accessFlags := 9, nameIndex := 252, descriptorIndex := 53, attributes := #[] }] 48 4 #[] #[{ accessFlags := 4120, nameIndex := 121, descriptorIndex := 122, attributes := #[] }])
  fields := #[{ name := "$assertionsDisabled", type := .boolean, accessFlags := 4120, slot := 0, constantValue := 0 }]
  methods := #[k13m0, k13m1]
  instanceTypes := #[]
  staticTypes := #[.boolean]
  resolved := Array.replicate 395 none
  statics := none }

def pool14 : Array CpInfo := pool [(2, .class_ 4), (1, u "java/lang/Object"), (0, u "<init>"), (0, u "()V"), (17, .class_ 26), (1, u "jdk/internal/util/Preconditions"), (6, u "checkIndex"), (21, .class_ 56), (0, u "jdk/internal/util/Preconditions$4"), (57, .class_ 115), (0, u "jdk/internal/util/Preconditions$1"), (7, u "SIOOBE_FORMATTER"), (0, u "Ljava/util/function/BiFunction;"), (0, .class_ 126), (0, u "jdk/internal/util/Preconditions$2"), (3, u "AIOOBE_FORMATTER"), (0, .class_ 132), (0, u "jdk/internal/util/Preconditions$3"), (3, u "IOOBE_FORMATTER"), (41, u "(IILjava/util/function/BiFunction;)I")] 15

def k14m0 : Method := { name := "<init>", desc := "()V", sig := { parameters := [], returnType := none }, accessFlags := 1, code := none }
def k14c1 : Code := { maxStack := 3, maxLocals := 3, code := jdk_41_method_11_code, exceptionTable := #[], attributes := #[] }
def k14m1 : Method := { name := "checkIndex", desc := "(IILjava/util/function/BiFunction;)I", sig := { parameters := [.int, .int, (.object "java/util/function/BiFunction")], returnType := some .int }, accessFlags := 9, code := some k14c1 }
/-- jdk/internal/util/Preconditions -/
def k14 : Class := { plain "jdk/internal/util/Preconditions" (some 0) with
  accessFlags := 33
  interfaces := #[]
  cf := some (fileOf pool14 24 #[.nestMembers #[55, 131, 125, 114]] #[{ accessFlags := 1, nameIndex := 5, descriptorIndex := 6, attributes := #[] }, { accessFlags := 9, nameIndex := 33, descriptorIndex := 178, attributes := #[] }] 33 2 #[] #[{ accessFlags := 25, nameIndex := 123, descriptorIndex := 124, attributes := #[] }, { accessFlags := 25, nameIndex := 130, descriptorIndex := 124, attributes := #[] }, { accessFlags := 25, nameIndex := 136, descriptorIndex := 124, attributes := #[] }])
  fields := #[{ name := "SIOOBE_FORMATTER", type := (.object "java/util/function/BiFunction"), accessFlags := 25, slot := 0, constantValue := 0 }, { name := "AIOOBE_FORMATTER", type := (.object "java/util/function/BiFunction"), accessFlags := 25, slot := 1, constantValue := 0 }, { name := "IOOBE_FORMATTER", type := (.object "java/util/function/BiFunction"), accessFlags := 25, slot := 2, constantValue := 0 }]
  methods := #[k14m0, k14m1]
  instanceTypes := #[]
  staticTypes := #[(.object "java/util/function/BiFunction"), (.object "java/util/function/BiFunction"), (.object "java/util/function/BiFunction")]
  resolved := Array.replicate 194 none
  statics := some 1 }

def pool15 : Array CpInfo := pool [(1, .class_ 2), (0, u "java/lang/Character"), (18, u "value"), (0, u "C"), (19, .class_ 44), (1, u "java/lang/Object"), (3, .class_ 50), (1, u "java/lang/Character$CharacterCache"), (24, .integer 55296), (5, u "(C)Z"), (202, u "$assertionsDisabled"), (0, u "Z"), (21, .class_ 309), (1, u "java/lang/Character$UnicodeBlock"), (73, u "TYPE"), (0, u "Ljava/lang/Class;"), (0, .class_ 386), (0, u "java/io/Serializable"), (0, .class_ 388), (0, u "java/lang/Comparable"), (0, .class_ 390), (0, u "java/lang/constant/Constable"), (0, u "MIN_RADIX"), (0, u "I"), (2, u "MAX_RADIX"), (1, u "MIN_VALUE"), (1, u "MAX_VALUE"), (3, u "UNASSIGNED"), (0, u "B"), (0, u "UPPERCASE_LETTER"), (1, u "LOWERCASE_LETTER"), (0, u "TITLECASE_LETTER"), (1, u "MODIFIER_LETTER"), (1, u "OTHER_LETTER"), (1, u "NON_SPACING_MARK"), (1, u "ENCLOSING_MARK"), (1, u "COMBINING_SPACING_MARK"), (1, u "DECIMAL_DIGIT_NUMBER"), (1, u "LETTER_NUMBER"), (1, u "OTHER_NUMBER"), (1, u "SPACE_SEPARATOR"), (1, u "LINE_SEPARATOR"), (1, u "PARAGRAPH_SEPARATOR"), (1, u "CONTROL"), (1, u "FORMAT"), (1, u "PRIVATE_USE"), (1, u "SURROGATE"), (1, u "DASH_PUNCTUATION"), (1, u "START_PUNCTUATION"), (1, u "END_PUNCTUATION"), (1, u "CONNECTOR_PUNCTUATION"), (1, u "OTHER_PUNCTUATION"), (1, u "MATH_SYMBOL"), (1, u "CURRENCY_SYMBOL"), (1, u "MODIFIER_SYMBOL"), (1, u "OTHER_SYMBOL"), (1, u "INITIAL_QUOTE_PUNCTUATION"), (1, u "FINAL_QUOTE_PUNCTUATION"), (1, u "ERROR"), (1, u "DIRECTIONALITY_UNDEFINED"), (0, u "DIRECTIONALITY_LEFT_TO_RIGHT"), (0, u "DIRECTIONALITY_RIGHT_TO_LEFT"), (0, u "DIRECTIONALITY_RIGHT_TO_LEFT_ARABIC"), (0, u "DIRECTIONALITY_EUROPEAN_NUMBER"), (0, u "DIRECTIONALITY_EUROPEAN_NUMBER_SEPARATOR"), (0, u "DIRECTIONALITY_EUROPEAN_NUMBER_TERMINATOR"), (0, u "DIRECTIONALITY_ARABIC_NUMBER"), (0, u "DIRECTIONALITY_COMMON_NUMBER_SEPARATOR"), (0, u "DIRECTIONALITY_NONSPACING_MARK"), (0, u "DIRECTIONALITY_BOUNDARY_NEUTRAL"), (0, u "DIRECTIONALITY_PARAGRAPH_SEPARATOR"), (0, u "DIRECTIONALITY_SEGMENT_SEPARATOR"), (0, u "DIRECTIONALITY_WHITESPACE"), (0, u "DIRECTIONALITY_OTHER_NEUTRALS"), (0, u "DIRECTIONALITY_LEFT_TO_RIGHT_EMBEDDING"), (0, u "DIRECTIONALITY_LEFT_TO_RIGHT_OVERRIDE"), (0, u "DIRECTIONALITY_RIGHT_TO_LEFT_EMBEDDING"), (0, u "DIRECTIONALITY_RIGHT_TO_LEFT_OVERRIDE"), (1, u "DIRECTIONALITY_POP_DIRECTIONAL_FORMAT"), (0, u "DIRECTIONALITY_LEFT_TO_RIGHT_ISOLATE"), (0, u "DIRECTIONALITY_RIGHT_TO_LEFT_ISOLATE"), (0, u "DIRECTIONALITY_FIRST_STRONG_ISOLATE"), (0, u "DIRECTIONALITY_POP_DIRECTIONAL_ISOLATE"), (0, u "MIN_HIGH_SURROGATE"), (0, u "MAX_HIGH_SURROGATE"), (1, u "MIN_LOW_SURROGATE"), (0, u "MAX_LOW_SURROGATE"), (1, u "MIN_SURROGATE"), (0, u "MAX_SURROGATE"), (0, u "MIN_SUPPLEMENTARY_CODE_POINT"), (0, u "MIN_CODE_POINT"), (0, u "MAX_CODE_POINT"), (1, u "serialVersionUID"), (0, u "J"), (2, u "SIZE"), (0, u "BYTES"), (24, u "isSurrogate"), (63, .class_ 596), (0, u "java/lang/Character$UnicodeScript"), (0, .class_ 598), (0, u "java/lang/Character$Subset")] 5

def k15c0 : Code := { maxStack := 2, maxLocals := 1, code := jdk_89_method_16_code, exceptionTable := #[], attributes := #[] }
def k15m0 : Method := { name := "isSurrogate", desc := "(C)Z", sig := { parameters := [.char], returnType := some .boolean }, accessFlags := 9, code := some k15c0 }
/-- java/lang/Character -/
def k15 : Class := { plain "java/lang/Character" (some 0) with
  accessFlags := 49
  interfaces := #[4, 5, 7]
  cf := some (fileOf pool15 1 #[.nestMembers #[48, 595, 307, 597]] #[{ accessFlags := 9, nameIndex := 531, descriptorIndex := 81, attributes := #[] }] 49 42 #[385, 387, 389] #[{ accessFlags := 25, nameIndex := 391, descriptorIndex := 392, attributes := #[] }, { accessFlags := 25, nameIndex := 395, descriptorIndex := 392, attributes := #[] }, { accessFlags := 25, nameIndex := 397, descriptorIndex := 22, attributes := #[] }, { accessFlags := 25, nameIndex := 399, descriptorIndex := 22, attributes := #[] }, { accessFlags := 25, nameIndex := 383, descriptorIndex := 384, attributes := #[] }, { accessFlags := 25, nameIndex := 403, descriptorIndex := 404, attributes := #[] }, { accessFlags := 25, nameIndex := 405, descriptorIndex := 404, attributes := #[] }, { accessFlags := 25, nameIndex := 407, descriptorIndex := 404, attributes := #[] }, { accessFlags := 25, nameIndex := 408, descriptorIndex := 404, attributes := #[] }, { accessFlags := 25, nameIndex := 410, descriptorIndex := 404, attributes := #[] }, { accessFlags := 25, nameIndex := 412, descriptorIndex := 404, attributes := #[] }, { accessFlags := 25, nameIndex := 414, descriptorIndex := 404, attributes := #[] }, { accessFlags := 25, nameIndex := 416, descriptorIndex := 404, attributes := #[] }, { accessFlags := 25, nameIndex := 418, descriptorIndex := 404, attributes := #[] }, { accessFlags := 25, nameIndex := 420, descriptorIndex := 404, attributes := #[] }, { accessFlags := 25, nameIndex := 422, descriptorIndex := 404, attributes := #[] }, { accessFlags := 25, nameIndex := 424, descriptorIndex := 404, attributes := #[] }, { accessFlags := 25, nameIndex := 426, descriptorIndex := 404, attributes := #[] }, { accessFlags := 25, nameIndex := 428, descriptorIndex := 404, attributes := #[] }, { accessFlags := 25, nameIndex := 430, descriptorIndex := 404, attributes := #[] }, { accessFlags := 25, nameIndex := 432, descriptorIndex := 404, attributes := #[] }, { accessFlags := 25, nameIndex := 434, descriptorIndex := 404, attributes := #[] }, { accessFlags := 25, nameIndex := 436, descriptorIndex := 404, attributes := #[] }, { accessFlags := 25, nameIndex := 438, descriptorIndex := 404, attributes := #[] }, { accessFlags := 25, nameIndex := 440, descriptorIndex := 404, attributes := #[] }, { accessFlags := 25, nameIndex := 442, descriptorIndex := 404, attributes := #[] }, { accessFlags := 25, nameIndex := 444, descriptorIndex := 404, attributes := #[] }, { accessFlags := 25, nameIndex := 446, descriptorIndex := 404, attributes := #[] }, { accessFlags := 25, nameIndex := 448, descriptorIndex := 404, attributes := #[] }, { accessFlags := 25, nameIndex := 450, descriptorIndex := 404, attributes := #[] }, { accessFlags := 25, nameIndex := 452, descriptorIndex := 404, attributes := #[] }, { accessFlags := 25, nameIndex := 454, descriptorIndex := 404, attributes := #[] }, { accessFlags := 25, nameIndex := 456, descriptorIndex := 404, attributes := #[] }, { accessFlags := 25, nameIndex := 458, descriptorIndex := 404, attributes := #[] }, { accessFlags := 25, nameIndex := 460, descriptorIndex := 404, attributes := #[] }, { accessFlags := 24, nameIndex := 462, descriptorIndex := 392, attributes := #[] }, { accessFlags := 25, nameIndex := 464, descriptorIndex := 404, attributes := #[] }, { accessFlags := 25, nameIndex := 465, descriptorIndex := 404, attributes := #[] }, { accessFlags := 25, nameIndex := 466, descriptorIndex := 404, attributes := #[] }, { accessFlags := 25, nameIndex := 467, descriptorIndex := 404, attributes := #[] }, { accessFlags := 25, nameIndex := 468, descriptorIndex := 404, attributes := #[] }, { accessFlags := 25, nameIndex := 469, descriptorIndex := 404, attributes := #[] }, { accessFlags := 25, nameIndex := 470, descriptorIndex := 404, attributes := #[] }, { accessFlags := 25, nameIndex := 471, descriptorIndex := 404, attributes := #[] }, { accessFlags := 25, nameIndex := 472, descriptorIndex := 404, attributes := #[] }, { accessFlags := 25, nameIndex := 473, descriptorIndex := 404, attributes := #[] }, { accessFlags := 25, nameIndex := 474, descriptorIndex := 404, attributes := #[] }, { accessFlags := 25, nameIndex := 475, descriptorIndex := 404, attributes := #[] }, { accessFlags := 25, nameIndex := 476, descriptorIndex := 404, attributes := #[] }, { accessFlags := 25, nameIndex := 477, descriptorIndex := 404, attributes := #[] }, { accessFlags := 25, nameIndex := 478, descriptorIndex := 404, attributes := #[] }, { accessFlags := 25, nameIndex := 479, descriptorIndex := 404, attributes := #[] }, { accessFlags := 25, nameIndex := 480, descriptorIndex := 404, attributes := #[] }, { accessFlags := 25, nameIndex := 481, descriptorIndex := 404, attributes := #[] }, { accessFlags := 25, nameIndex := 482, descriptorIndex := 404, attributes := #[] }, { accessFlags := 25, nameIndex := 484, descriptorIndex := 404, attributes := #[] }, { accessFlags := 25, nameIndex := 485, descriptorIndex := 404, attributes := #[] }, { accessFlags := 25, nameIndex := 486, descriptorIndex := 404, attributes := #[] }, { accessFlags := 25, nameIndex := 487, descriptorIndex := 404, attributes := #[] }, { accessFlags := 25, nameIndex := 488, descriptorIndex := 404, attributes := #[] }, { accessFlags := 25, nameIndex := 489, descriptorIndex := 22, attributes := #[] }, { accessFlags := 25, nameIndex := 490, descriptorIndex := 22, attributes := #[] }, { accessFlags := 25, nameIndex := 492, descriptorIndex := 22, attributes := #[] }, { accessFlags := 25, nameIndex := 493, descriptorIndex := 22, attributes := #[] }, { accessFlags := 25, nameIndex := 495, descriptorIndex := 22, attributes := #[] }, { accessFlags := 25, nameIndex := 496, descriptorIndex := 22, attributes := #[] }, { accessFlags := 25, nameIndex := 497, descriptorIndex := 392, attributes := #[] }, { accessFlags := 25, nameIndex := 498, descriptorIndex := 392, attributes := #[] }, { accessFlags := 25, nameIndex := 499, descriptorIndex := 392, attributes := #[] }, { accessFlags := 18, nameIndex := 21, descriptorIndex := 22, attributes := #[] }, { accessFlags := 26, nameIndex := 501, descriptorIndex := 502, attributes := #[] }, { accessFlags := 25, nameIndex := 505, descriptorIndex := 392, attributes := #[] }, { accessFlags := 25, nameIndex := 506, descriptorIndex := 392, attributes := #[] }, { accessFlags := 4120, nameIndex := 284, descriptorIndex := 285, attributes := #[] }])
  fields := #[{ name := "MIN_RADIX", type := .int, accessFlags := 25, slot := 0, constantValue := 0 }, { name := "MAX_RADIX", type := .int, accessFlags := 25, slot := 1, constantValue := 0 }, { name := "MIN_VALUE", type := .char, accessFlags := 25, slot := 2, constantValue := 0 }, { name := "MAX_VALUE", type := .char, accessFlags := 25, slot := 3, constantValue := 0 }, { name := "TYPE", type := (.object "java/lang/Class"), accessFlags := 25, slot := 4, constantValue := 0 }, { name := "UNASSIGNED", type := .byte, accessFlags := 25, slot := 5, constantValue := 0 }, { name := "UPPERCASE_LETTER", type := .byte, accessFlags := 25, slot := 6, constantValue := 0 }, { name := "LOWERCASE_LETTER", type := .byte, accessFlags := 25, slot := 7, constantValue := 0 }, { name := "TITLECASE_LETTER", type := .byte, accessFlags := 25, slot := 8, constantValue := 0 }, { name := "MODIFIER_LETTER", type := .byte, accessFlags := 25, slot := 9, constantValue := 0 }, { name := "OTHER_LETTER", type := .byte, accessFlags := 25, slot := 10, constantValue := 0 }, { name := "NON_SPACING_MARK", type := .byte, accessFlags := 25, slot := 11, constantValue := 0 }, { name := "ENCLOSING_MARK", type := .byte, accessFlags := 25, slot := 12, constantValue := 0 }, { name := "COMBINING_SPACING_MARK", type := .byte, accessFlags := 25, slot := 13, constantValue := 0 }, { name := "DECIMAL_DIGIT_NUMBER", type := .byte, accessFlags := 25, slot := 14, constantValue := 0 }, { name := "LETTER_NUMBER", type := .byte, accessFlags := 25, slot := 15, constantValue := 0 }, { name := "OTHER_NUMBER", type := .byte, accessFlags := 25, slot := 16, constantValue := 0 }, { name := "SPACE_SEPARATOR", type := .byte, accessFlags := 25, slot := 17, constantValue := 0 }, { name := "LINE_SEPARATOR", type := .byte, accessFlags := 25, slot := 18, constantValue := 0 }, { name := "PARAGRAPH_SEPARATOR", type := .byte, accessFlags := 25, slot := 19, constantValue := 0 }, { name := "CONTROL", type := .byte, accessFlags := 25, slot := 20, constantValue := 0 }, { name := "FORMAT", type := .byte, accessFlags := 25, slot := 21, constantValue := 0 }, { name := "PRIVATE_USE", type := .byte, accessFlags := 25, slot := 22, constantValue := 0 }, { name := "SURROGATE", type := .byte, accessFlags := 25, slot := 23, constantValue := 0 }, { name := "DASH_PUNCTUATION", type := .byte, accessFlags := 25, slot := 24, constantValue := 0 }, { name := "START_PUNCTUATION", type := .byte, accessFlags := 25, slot := 25, constantValue := 0 }, { name := "END_PUNCTUATION", type := .byte, accessFlags := 25, slot := 26, constantValue := 0 }, { name := "CONNECTOR_PUNCTUATION", type := .byte, accessFlags := 25, slot := 27, constantValue := 0 }, { name := "OTHER_PUNCTUATION", type := .byte, accessFlags := 25, slot := 28, constantValue := 0 }, { name := "MATH_SYMBOL", type := .byte, accessFlags := 25, slot := 29, constantValue := 0 }, { name := "CURRENCY_SYMBOL", type := .byte, accessFlags := 25, slot := 30, constantValue := 0 }, { name := "MODIFIER_SYMBOL", type := .byte, accessFlags := 25, slot := 31, constantValue := 0 }, { name := "OTHER_SYMBOL", type := .byte, accessFlags := 25, slot := 32, constantValue := 0 }, { name := "INITIAL_QUOTE_PUNCTUATION", type := .byte, accessFlags := 25, slot := 33, constantValue := 0 }, { name := "FINAL_QUOTE_PUNCTUATION", type := .byte, accessFlags := 25, slot := 34, constantValue := 0 }, { name := "ERROR", type := .int, accessFlags := 24, slot := 35, constantValue := 0 }, { name := "DIRECTIONALITY_UNDEFINED", type := .byte, accessFlags := 25, slot := 36, constantValue := 0 }, { name := "DIRECTIONALITY_LEFT_TO_RIGHT", type := .byte, accessFlags := 25, slot := 37, constantValue := 0 }, { name := "DIRECTIONALITY_RIGHT_TO_LEFT", type := .byte, accessFlags := 25, slot := 38, constantValue := 0 }, { name := "DIRECTIONALITY_RIGHT_TO_LEFT_ARABIC", type := .byte, accessFlags := 25, slot := 39, constantValue := 0 }, { name := "DIRECTIONALITY_EUROPEAN_NUMBER", type := .byte, accessFlags := 25, slot := 40, constantValue := 0 }, { name := "DIRECTIONALITY_EUROPEAN_NUMBER_SEPARATOR", type := .byte, accessFlags := 25, slot := 41, constantValue := 0 }, { name := "DIRECTIONALITY_EUROPEAN_NUMBER_TERMINATOR", type := .byte, accessFlags := 25, slot := 42, constantValue := 0 }, { name := "DIRECTIONALITY_ARABIC_NUMBER", type := .byte, accessFlags := 25, slot := 43, constantValue := 0 }, { name := "DIRECTIONALITY_COMMON_NUMBER_SEPARATOR", type := .byte, accessFlags := 25, slot := 44, constantValue := 0 }, { name := "DIRECTIONALITY_NONSPACING_MARK", type := .byte, accessFlags := 25, slot := 45, constantValue := 0 }, { name := "DIRECTIONALITY_BOUNDARY_NEUTRAL", type := .byte, accessFlags := 25, slot := 46, constantValue := 0 }, { name := "DIRECTIONALITY_PARAGRAPH_SEPARATOR", type := .byte, accessFlags := 25, slot := 47, constantValue := 0 }, { name := "DIRECTIONALITY_SEGMENT_SEPARATOR", type := .byte, accessFlags := 25, slot := 48, constantValue := 0 }, { name := "DIRECTIONALITY_WHITESPACE", type := .byte, accessFlags := 25, slot := 49, constantValue := 0 }, { name := "DIRECTIONALITY_OTHER_NEUTRALS", type := .byte, accessFlags := 25, slot := 50, constantValue := 0 }, { name := "DIRECTIONALITY_LEFT_TO_RIGHT_EMBEDDING", type := .byte, accessFlags := 25, slot := 51, constantValue := 0 }, { name := "DIRECTIONALITY_LEFT_TO_RIGHT_OVERRIDE", type := .byte, accessFlags := 25, slot := 52, constantValue := 0 }, { name := "DIRECTIONALITY_RIGHT_TO_LEFT_EMBEDDING", type := .byte, accessFlags := 25, slot := 53, constantValue := 0 }, { name := "DIRECTIONALITY_RIGHT_TO_LEFT_OVERRIDE", type := .byte, accessFlags := 25, slot := 54, constantValue := 0 }, { name := "DIRECTIONALITY_POP_DIRECTIONAL_FORMAT", type := .byte, accessFlags := 25, slot := 55, constantValue := 0 }, { name := "DIRECTIONALITY_LEFT_TO_RIGHT_ISOLATE", type := .byte, accessFlags := 25, slot := 56, constantValue := 0 }, { name := "DIRECTIONALITY_RIGHT_TO_LEFT_ISOLATE", type := .byte, accessFlags := 25, slot := 57, constantValue := 0 }, { name := "DIRECTIONALITY_FIRST_STRONG_ISOLATE", type := .byte, accessFlags := 25, slot := 58, constantValue := 0 }, { name := "DIRECTIONALITY_POP_DIRECTIONAL_ISOLATE", type := .byte, accessFlags := 25, slot := 59, constantValue := 0 }, { name := "MIN_HIGH_SURROGATE", type := .char, accessFlags := 25, slot := 60, constantValue := 0 }, { name := "MAX_HIGH_SURROGATE", type := .char, accessFlags := 25, slot := 61, constantValue := 0 }, { name := "MIN_LOW_SURROGATE", type := .char, accessFlags := 25, slot := 62, constantValue := 0 }, { name := "MAX_LOW_SURROGATE", type := .char, accessFlags := 25, slot := 63, constantValue := 0 }, { name := "MIN_SURROGATE", type := .char, accessFlags := 25, slot := 64, constantValue := 0 }, { name := "MAX_SURROGATE", type := .char, accessFlags := 25, slot := 65, constantValue := 0 }, { name := "MIN_SUPPLEMENTARY_CODE_POINT", type := .int, accessFlags := 25, slot := 66, constantValue := 0 }, { name := "MIN_CODE_POINT", type := .int, accessFlags := 25, slot := 67, constantValue := 0 }, { name := "MAX_CODE_POINT", type := .int, accessFlags := 25, slot := 68, constantValue := 0 }, { name := "value", type := .char, accessFlags := 18, slot := 0, constantValue := 0 }, { name := "serialVersionUID", type := .long, accessFlags := 26, slot := 69, constantValue := 0 }, { name := "SIZE", type := .int, accessFlags := 25, slot := 70, constantValue := 0 }, { name := "BYTES", type := .int, accessFlags := 25, slot := 71, constantValue := 0 }, { name := "$assertionsDisabled", type := .boolean, accessFlags := 4120, slot := 72, constantValue := 0 }]
  methods := #[k15m0]
  instanceTypes := #[.char]
  staticTypes := #[.int, .int, .char, .char, (.object "java/lang/Class"), .byte, .byte, .byte, .byte, .byte, .byte, .byte, .byte, .byte, .byte, .byte, .byte, .byte, .byte, .byte, .byte, .byte, .byte, .byte, .byte, .byte, .byte, .byte, .byte, .byte, .byte, .byte, .byte, .byte, .byte, .int, .byte, .byte, .byte, .byte, .byte, .byte, .byte, .byte, .byte, .byte, .byte, .byte, .byte, .byte, .byte, .byte, .byte, .byte, .byte, .byte, .byte, .byte, .byte, .byte, .char, .char, .char, .char, .char, .char, .int, .int, .int, .long, .int, .int, .boolean]
  resolved := Array.replicate 604 none
  statics := none }

def pool16 : Array CpInfo := pool [(2, .class_ 4), (1, u "java/lang/Object"), (0, u "<init>"), (0, u "()V"), (0, .fieldref 8 9), (0, .class_ 10), (0, .nameAndType 11 12), (0, u "java/util/OptionalInt"), (0, u "isPresent"), (0, u "Z"), (2, u "value"), (0, u "I"), (0, .fieldref 8 18), (0, .nameAndType 19 20), (0, u "EMPTY"), (0, u "Ljava/util/OptionalInt;"), (28, u "empty"), (46, u "()Ljava/util/OptionalInt;"), (2, u "()Z")] 36

def k16m0 : Method := { name := "<init>", desc := "()V", sig := { parameters := [], returnType := none }, accessFlags := 2, code := none }
def k16c1 : Code := { maxStack := 1, maxLocals := 0, code := jdk_2649_method_2_code, exceptionTable := #[], attributes := #[] }
def k16m1 : Method := { name := "empty", desc := "()Ljava/util/OptionalInt;", sig := { parameters := [], returnType := some (.object "java/util/OptionalInt") }, accessFlags := 9, code := some k16c1 }
def k16c2 : Code := { maxStack := 1, maxLocals := 1, code := jdk_2649_method_6_code, exceptionTable := #[], attributes := #[] }
def k16m2 : Method := { name := "isPresent", desc := "()Z", sig := { parameters := [], returnType := some .boolean }, accessFlags := 1, code := some k16c2 }
/-- java/util/OptionalInt -/
def k16 : Class := { plain "java/util/OptionalInt" (some 0) with
  accessFlags := 49
  interfaces := #[]
  cf := some (fileOf pool16 8 #[] #[{ accessFlags := 2, nameIndex := 5, descriptorIndex := 6, attributes := #[] }, { accessFlags := 9, nameIndex := 49, descriptorIndex := 96, attributes := #[] }, { accessFlags := 1, nameIndex := 11, descriptorIndex := 99, attributes := #[] }] 49 2 #[] #[{ accessFlags := 26, nameIndex := 19, descriptorIndex := 20, attributes := #[] }, { accessFlags := 18, nameIndex := 11, descriptorIndex := 12, attributes := #[] }, { accessFlags := 18, nameIndex := 15, descriptorIndex := 16, attributes := #[] }])
  fields := #[{ name := "EMPTY", type := (.object "java/util/OptionalInt"), accessFlags := 26, slot := 0, constantValue := 0 }, { name := "isPresent", type := .boolean, accessFlags := 18, slot := 0, constantValue := 0 }, { name := "value", type := .int, accessFlags := 18, slot := 1, constantValue := 0 }]
  methods := #[k16m0, k16m1, k16m2]
  instanceTypes := #[.boolean, .int]
  staticTypes := #[(.object "java/util/OptionalInt")]
  resolved := Array.replicate 136 none
  statics := some 2 }

def pool17 : Array CpInfo := pool [(1, .methodref 2 3), (0, .class_ 4), (0, .nameAndType 5 6), (0, u "java/lang/Record"), (0, u "<init>"), (0, u "()V"), (0, .string 8), (0, u "key must not be null"), (0, .methodref 10 11), (0, .class_ 12), (0, .nameAndType 13 14), (0, u "java/util/Objects"), (0, u "requireNonNull"), (0, u "(Ljava/lang/Object;Ljava/lang/String;)Ljava/lang/Object;"), (0, .string 16), (0, u "data must not be null"), (0, .string 18), (0, u "expiresAt must not be null"), (0, .string 20), (0, u "lifeId must not be null"), (0, .string 22), (0, u "dataVersion is"), (0, .methodref 24 25), (0, .class_ 26), (0, .nameAndType 27 28), (0, u "com/example/versioned_table/versionedtable/SchemaNumbers"), (0, u "requireSchemaNumber"), (0, u "(ILjava/lang/String;)I"), (0, .fieldref 30 31), (0, .class_ 32), (0, .nameAndType 33 34), (0, u "com/example/versioned_table/versionedtable/StoredRecord"), (0, u "key"), (0, u "Lcom/example/versioned_table/versionedtable/RecordKey;"), (0, .fieldref 30 36), (0, .nameAndType 37 38), (0, u "version"), (0, u "J"), (0, .fieldref 30 40), (0, .nameAndType 41 42), (0, u "data"), (0, u "Ljava/lang/String;"), (0, .fieldref 30 44), (0, .nameAndType 45 46), (0, u "dataVersion"), (0, u "I"), (0, .fieldref 30 48), (0, .nameAndType 49 50), (0, u "expiresAt"), (0, u "Ljava/util/Optional;"), (0, .fieldref 30 52), (0, .nameAndType 53 50), (0, u "lifeId"), (41, u "(Lcom/example/versioned_table/versionedtable/RecordKey;JLjava/lang/String;ILjava/util/Optional;Ljava/util/Optional;)V")] 42

def k17c0 : Code := { maxStack := 3, maxLocals := 8, code := prog_44_method_1_code, exceptionTable := #[], attributes := #[] }
def k17m0 : Method := { name := "<init>", desc := "(Lcom/example/versioned_table/versionedtable/RecordKey;JLjava/lang/String;ILjava/util/Optional;Ljava/util/Optional;)V", sig := { parameters := [(.object "com/example/versioned_table/versionedtable/RecordKey"), .long, (.object "java/lang/String"), .int, (.object "java/util/Optional"), (.object "java/util/Optional")], returnType := none }, accessFlags := 1, code := some k17c0 }
/-- com/example/versioned_table/versionedtable/StoredRecord -/
def k17 : Class := { plain "com/example/versioned_table/versionedtable/StoredRecord" (some 2) with
  accessFlags := 49
  interfaces := #[]
  cf := some (fileOf pool17 30 #[] #[{ accessFlags := 1, nameIndex := 5, descriptorIndex := 95, attributes := #[] }] 49 2 #[] #[{ accessFlags := 18, nameIndex := 33, descriptorIndex := 34, attributes := #[] }, { accessFlags := 18, nameIndex := 37, descriptorIndex := 38, attributes := #[] }, { accessFlags := 18, nameIndex := 41, descriptorIndex := 42, attributes := #[] }, { accessFlags := 18, nameIndex := 45, descriptorIndex := 46, attributes := #[] }, { accessFlags := 18, nameIndex := 49, descriptorIndex := 50, attributes := #[] }, { accessFlags := 18, nameIndex := 53, descriptorIndex := 50, attributes := #[] }])
  fields := #[{ name := "key", type := (.object "com/example/versioned_table/versionedtable/RecordKey"), accessFlags := 18, slot := 0, constantValue := 0 }, { name := "version", type := .long, accessFlags := 18, slot := 1, constantValue := 0 }, { name := "data", type := (.object "java/lang/String"), accessFlags := 18, slot := 2, constantValue := 0 }, { name := "dataVersion", type := .int, accessFlags := 18, slot := 3, constantValue := 0 }, { name := "expiresAt", type := (.object "java/util/Optional"), accessFlags := 18, slot := 4, constantValue := 0 }, { name := "lifeId", type := (.object "java/util/Optional"), accessFlags := 18, slot := 5, constantValue := 0 }]
  methods := #[k17m0]
  instanceTypes := #[(.object "com/example/versioned_table/versionedtable/RecordKey"), .long, (.object "java/lang/String"), .int, (.object "java/util/Optional"), (.object "java/util/Optional")]
  staticTypes := #[]
  resolved := Array.replicate 138 none
  statics := none }

def pool18 : Array CpInfo := pool [(1, .fieldref 2 3), (0, .class_ 4), (0, .nameAndType 5 6), (0, u "java/util/Optional"), (0, u "EMPTY"), (0, u "Ljava/util/Optional;"), (0, .methodref 8 9), (0, .class_ 10), (0, .nameAndType 11 12), (0, u "java/lang/Object"), (0, u "<init>"), (0, u "()V"), (0, .fieldref 2 14), (0, .nameAndType 15 16), (0, u "value"), (0, u "Ljava/lang/Object;"), (0, .methodref 18 19), (0, .class_ 20), (0, .nameAndType 21 22), (0, u "java/util/Objects"), (0, u "requireNonNull"), (0, u "(Ljava/lang/Object;)Ljava/lang/Object;"), (0, .methodref 2 24), (0, .nameAndType 11 25), (0, u "(Ljava/lang/Object;)V"), (17, .methodref 2 44), (0, .nameAndType 45 46), (0, u "isEmpty"), (0, u "()Z"), (0, .interfaceMethodref 48 49), (0, .class_ 50), (0, .nameAndType 51 52), (0, u "java/util/function/Predicate"), (0, u "test"), (0, u "(Ljava/lang/Object;)Z"), (0, .methodref 2 54), (0, .nameAndType 55 56), (0, u "empty"), (0, u "()Ljava/util/Optional;"), (8, u "(Ljava/lang/Object;)Ljava/util/Optional;"), (2, u "isPresent"), (0, .interfaceMethodref 70 71), (0, .class_ 72), (0, .nameAndType 73 74), (0, u "java/util/function/Supplier"), (0, u "get"), (0, u "()Ljava/lang/Object;"), (7, u "of"), (57, u "filter"), (0, u "(Ljava/util/function/Predicate;)Ljava/util/Optional;"), (23, u "orElse"), (2, u "orElseGet"), (0, u "(Ljava/util/function/Supplier;)Ljava/lang/Object;")] 17

def k18c0 : Code := { maxStack := 1, maxLocals := 1, code := jdk_32_method_1_code, exceptionTable := #[], attributes := #[] }
def k18m0 : Method := { name := "empty", desc := "()Ljava/util/Optional;", sig := { parameters := [], returnType := some (.object "java/util/Optional") }, accessFlags := 9, code := some k18c0 }
def k18c1 : Code := { maxStack := 2, maxLocals := 2, code := jdk_32_method_2_code, exceptionTable := #[], attributes := #[] }
def k18m1 : Method := { name := "<init>", desc := "(Ljava/lang/Object;)V", sig := { parameters := [(.object "java/lang/Object")], returnType := none }, accessFlags := 2, code := some k18c1 }
def k18c2 : Code := { maxStack := 3, maxLocals := 1, code := jdk_32_method_3_code, exceptionTable := #[], attributes := #[] }
def k18m2 : Method := { name := "of", desc := "(Ljava/lang/Object;)Ljava/util/Optional;", sig := { parameters := [(.object "java/lang/Object")], returnType := some (.object "java/util/Optional") }, accessFlags := 9, code := some k18c2 }
def k18c3 : Code := { maxStack := 3, maxLocals := 1, code := jdk_32_method_5_code, exceptionTable := #[], attributes := #[] }
def k18m3 : Method := { name := "get", desc := "()Ljava/lang/Object;", sig := { parameters := [], returnType := some (.object "java/lang/Object") }, accessFlags := 1, code := some k18c3 }
def k18c4 : Code := { maxStack := 1, maxLocals := 1, code := jdk_32_method_6_code, exceptionTable := #[], attributes := #[] }
def k18m4 : Method := { name := "isPresent", desc := "()Z", sig := { parameters := [], returnType := some .boolean }, accessFlags := 1, code := some k18c4 }
def k18c5 : Code := { maxStack := 1, maxLocals := 1, code := jdk_32_method_7_code, exceptionTable := #[], attributes := #[] }
def k18m5 : Method := { name := "isEmpty", desc := "()Z", sig := { parameters := [], returnType := some .boolean }, accessFlags := 1, code := some k18c5 }
def k18c6 : Code := { maxStack := 2, maxLocals := 2, code := jdk_32_method_10_code, exceptionTable := #[], attributes := #[] }
def k18m6 : Method := { name := "filter", desc := "(Ljava/util/function/Predicate;)Ljava/util/Optional;", sig := { parameters := [(.object "java/util/function/Predicate")], returnType := some (.object "java/util/Optional") }, accessFlags := 1, code := some k18c6 }
def k18c7 : Code := { maxStack := 1, maxLocals := 2, code := jdk_32_method_15_code, exceptionTable := #[], attributes := #[] }
def k18m7 : Method := { name := "orElse", desc := "(Ljava/lang/Object;)Ljava/lang/Object;", sig := { parameters := [(.object "java/lang/Object")], returnType := some (.object "java/lang/Object") }, accessFlags := 1, code := some k18c7 }
def k18c8 : Code := { maxStack := 1, maxLocals := 2, code := jdk_32_method_16_code, exceptionTable := #[], attributes := #[] }
def k18m8 : Method := { name := "orElseGet", desc := "(Ljava/util/function/Supplier;)Ljava/lang/Object;", sig := { parameters := [(.object "java/util/function/Supplier")], returnType := some (.object "java/lang/Object") }, accessFlags := 1, code := some k18c8 }
/-- java/util/Optional -/
def k18 : Class := { plain "java/util/Optional" (some 0) with
  accessFlags := 49
  interfaces := #[]
  cf := some (fileOf pool18 2 #[] #[{ accessFlags := 9, nameIndex := 55, descriptorIndex := 56, attributes := #[] }, { accessFlags := 2, nameIndex := 11, descriptorIndex := 25, attributes := #[] }, { accessFlags := 9, nameIndex := 82, descriptorIndex := 65, attributes := #[] }, { accessFlags := 1, nameIndex := 73, descriptorIndex := 74, attributes := #[] }, { accessFlags := 1, nameIndex := 68, descriptorIndex := 46, attributes := #[] }, { accessFlags := 1, nameIndex := 45, descriptorIndex := 46, attributes := #[] }, { accessFlags := 1, nameIndex := 140, descriptorIndex := 141, attributes := #[] }, { accessFlags := 1, nameIndex := 165, descriptorIndex := 22, attributes := #[] }, { accessFlags := 1, nameIndex := 168, descriptorIndex := 169, attributes := #[] }] 49 8 #[] #[{ accessFlags := 26, nameIndex := 5, descriptorIndex := 6, attributes := #[] }, { accessFlags := 18, nameIndex := 15, descriptorIndex := 16, attributes := #[] }])
  fields := #[{ name := "EMPTY", type := (.object "java/util/Optional"), accessFlags := 26, slot := 0, constantValue := 0 }, { name := "value", type := (.object "java/lang/Object"), accessFlags := 18, slot := 0, constantValue := 0 }]
  methods := #[k18m0, k18m1, k18m2, k18m3, k18m4, k18m5, k18m6, k18m7, k18m8]
  instanceTypes := #[(.object "java/lang/Object")]
  staticTypes := #[(.object "java/util/Optional")]
  resolved := Array.replicate 187 none
  statics := some 3 }

def pool19 : Array CpInfo := pool [(2, .class_ 4), (1, u "java/lang/Object"), (0, u "<init>"), (0, u "()V"), (0, .class_ 8), (0, u "com/example/versioned_table/versionedtable/SchemaNumbers"), (0, .methodref 7 10), (0, .nameAndType 11 12), (0, u "isSchemaNumber"), (0, u "(I)Z"), (9, u "FIRST"), (0, u "I"), (5, u "requireSchemaNumber"), (0, u "(ILjava/lang/String;)I")] 19

def k19m0 : Method := { name := "<init>", desc := "()V", sig := { parameters := [], returnType := none }, accessFlags := 2, code := none }
def k19c1 : Code := { maxStack := 2, maxLocals := 1, code := prog_40_method_2_code, exceptionTable := #[], attributes := #[] }
def k19m1 : Method := { name := "isSchemaNumber", desc := "(I)Z", sig := { parameters := [.int], returnType := some .boolean }, accessFlags := 9, code := some k19c1 }
def k19c2 : Code := { maxStack := 4, maxLocals := 2, code := prog_40_method_3_code, exceptionTable := #[], attributes := #[] }
def k19m2 : Method := { name := "requireSchemaNumber", desc := "(ILjava/lang/String;)I", sig := { parameters := [.int, (.object "java/lang/String")], returnType := some .int }, accessFlags := 9, code := some k19c2 }
/-- com/example/versioned_table/versionedtable/SchemaNumbers -/
def k19 : Class := { plain "com/example/versioned_table/versionedtable/SchemaNumbers" (some 0) with
  accessFlags := 49
  interfaces := #[]
  cf := some (fileOf pool19 7 #[] #[{ accessFlags := 2, nameIndex := 5, descriptorIndex := 6, attributes := #[] }, { accessFlags := 9, nameIndex := 11, descriptorIndex := 12, attributes := #[] }, { accessFlags := 9, nameIndex := 29, descriptorIndex := 30, attributes := #[] }] 49 2 #[] #[{ accessFlags := 25, nameIndex := 22, descriptorIndex := 23, attributes := #[] }])
  fields := #[{ name := "FIRST", type := .int, accessFlags := 25, slot := 0, constantValue := 0 }]
  methods := #[k19m0, k19m1, k19m2]
  instanceTypes := #[]
  staticTypes := #[.int]
  resolved := Array.replicate 50 none
  statics := none }

def pool20 : Array CpInfo := pool [(1, .methodref 2 3), (0, .class_ 4), (0, .nameAndType 5 6), (0, u "java/lang/Object"), (0, u "<init>"), (0, u "()V"), (0, .methodref 8 9), (0, .class_ 10), (0, .nameAndType 11 12), (0, u "java/util/Optional"), (0, u "empty"), (0, u "()Ljava/util/Optional;"), (0, .fieldref 14 15), (0, .class_ 16), (0, .nameAndType 17 18), (0, u "com/example/versioned_table/versionedtable/KeyHold"), (0, u "lastWritten"), (0, u "Ljava/util/Optional;"), (0, .fieldref 14 20), (0, .nameAndType 21 18), (0, u "idleUntil"), (0, .fieldref 14 23), (0, .nameAndType 24 18), (0, u "pauseUntil"), (0, .fieldref 14 26), (0, .nameAndType 27 28), (0, u "longestRetryWaitNanos"), (0, u "J"), (0, .invokeDynamic 0 30), (0, .nameAndType 31 32), (0, u "test"), (0, u "(J)Ljava/util/function/Predicate;"), (0, .methodref 8 34), (0, .nameAndType 35 36), (0, u "filter"), (0, u "(Ljava/util/function/Predicate;)Ljava/util/Optional;"), (0, .methodref 8 38), (0, .nameAndType 39 40), (0, u "isPresent"), (0, u "()Z"), (0, .methodref 8 42), (0, .nameAndType 43 44), (0, u "get"), (0, u "()Ljava/lang/Object;"), (0, .class_ 46), (0, u "java/lang/Long"), (0, .methodref 45 48), (0, .nameAndType 49 50), (0, u "longValue"), (0, u "()J"), (0, .methodref 14 52), (0, .nameAndType 53 50), (0, u "nextPauseNanos"), (0, .methodref 45 55), (0, .nameAndType 56 57), (0, u "valueOf"), (0, u "(J)Ljava/lang/Long;"), (0, .methodref 8 59), (0, .nameAndType 60 61), (0, u "orElse"), (0, u "(Ljava/lang/Object;)Ljava/lang/Object;"), (0, .fieldref 14 63), (0, .nameAndType 64 28), (0, u "pauses"), (0, .methodref 14 66), (0, .nameAndType 67 6), (0, u "end"), (0, .fieldref 14 69), (0, .nameAndType 70 28), (0, u "began"), (0, .long 8), (1, .methodref 14 74), (0, .nameAndType 75 50), (0, u "pauseNanos"), (0, .methodref 8 77), (0, .nameAndType 78 79), (0, u "of"), (0, u "(Ljava/lang/Object;)Ljava/util/Optional;"), (0, .invokeDynamic 1 81), (0, .nameAndType 31 82), (0, u "(Lcom/example/versioned_table/versionedtable/StoredRecord;)Ljava/util/function/Predicate;"), (0, .fieldref 14 84), (0, .nameAndType 85 86), (0, u "writes"), (0, u "I"), (0, .fieldref 14 88), (0, .nameAndType 89 28), (0, u "attemptNanos"), (0, .invokeDynamic 2 91), (0, .nameAndType 43 92), (0, u "(Lcom/example/versioned_table/versionedtable/KeyHold;J)Ljava/util/function/Supplier;"), (0, .methodref 8 94), (0, .nameAndType 95 96), (0, u "orElseGet"), (0, u "(Ljava/util/function/Supplier;)Ljava/lang/Object;"), (9, .methodref 45 107), (0, .nameAndType 108 109), (0, u "lowestOneBit"), (0, u "(J)J"), (0, .long 2), (1, .methodref 113 114), (0, .class_ 115), (0, .nameAndType 116 117), (0, u "java/lang/Math"), (0, u "max"), (0, u "(JJ)J"), (0, .long 4), (1, .methodref 113 121), (0, .nameAndType 122 117), (0, u "min"), (0, .methodref 14 124), (0, .nameAndType 75 117), (11, u "(Ljava/lang/Object;)Z"), (0, u "PAUSES_PER_HOLD"), (2, u "LONGEST_PAUSE_MULTIPLE"), (3, u "(J)V"), (2, u "waitBefore"), (1, u "landed"), (0, u "(Lcom/example/versioned_table/versionedtable/StoredRecord;Lcom/example/versioned_table/versionedtable/StoredRecord;JJ)V"), (0, u "holds"), (0, u "idleFrom"), (4, u "(JLjava/lang/Long;)Z"), (0, u "lambda$idleFrom$2"), (0, u "lambda$landed$1"), (0, u "(Lcom/example/versioned_table/versionedtable/StoredRecord;Lcom/example/versioned_table/versionedtable/StoredRecord;)Z"), (0, u "lambda$waitBefore$0"), (3, .methodType 136), (0, .methodHandle 6 167), (0, .methodref 14 168), (0, .nameAndType 161 157), (0, .methodType 170), (0, u "(Ljava/lang/Long;)Z"), (0, .methodHandle 6 172), (0, .methodref 14 173), (0, .nameAndType 159 160), (0, .methodType 175), (0, u "(Lcom/example/versioned_table/versionedtable/StoredRecord;)Z"), (0, .methodType 44), (0, .methodHandle 5 178), (0, .methodref 14 179), (0, .nameAndType 158 57), (0, .methodType 181), (0, u "()Ljava/lang/Long;"), (3, .methodHandle 6 186), (0, .methodref 187 188), (0, .class_ 189), (0, .nameAndType 190 191), (0, u "java/lang/invoke/LambdaMetafactory"), (0, u "metafactory"), (0, u "(Ljava/lang/invoke/MethodHandles$Lookup;Ljava/lang/String;Ljava/lang/invoke/MethodType;Ljava/lang/invoke/MethodType;Ljava/lang/invoke/MethodHandle;Ljava/lang/invoke/MethodType;)Ljava/lang/invoke/CallSite;")] 6

def k20c0 : Code := { maxStack := 3, maxLocals := 3, code := prog_11_method_1_code, exceptionTable := #[], attributes := #[] }
def k20m0 : Method := { name := "<init>", desc := "(J)V", sig := { parameters := [.long], returnType := none }, accessFlags := 0, code := some k20c0 }
def k20c1 : Code := { maxStack := 6, maxLocals := 9, code := prog_11_method_2_code, exceptionTable := #[], attributes := #[] }
def k20m1 : Method := { name := "waitBefore", desc := "(J)J", sig := { parameters := [.long], returnType := some .long }, accessFlags := 0, code := some k20c1 }
def k20c2 : Code := { maxStack := 5, maxLocals := 8, code := prog_11_method_3_code, exceptionTable := #[], attributes := #[] }
def k20m2 : Method := { name := "landed", desc := "(Lcom/example/versioned_table/versionedtable/StoredRecord;Lcom/example/versioned_table/versionedtable/StoredRecord;JJ)V", sig := { parameters := [(.object "com/example/versioned_table/versionedtable/StoredRecord"), (.object "com/example/versioned_table/versionedtable/StoredRecord"), .long, .long], returnType := none }, accessFlags := 0, code := some k20c2 }
def k20c3 : Code := { maxStack := 1, maxLocals := 1, code := prog_11_method_4_code, exceptionTable := #[], attributes := #[] }
def k20m3 : Method := { name := "holds", desc := "()Z", sig := { parameters := [], returnType := some .boolean }, accessFlags := 0, code := some k20c3 }
def k20c4 : Code := { maxStack := 4, maxLocals := 5, code := prog_11_method_5_code, exceptionTable := #[], attributes := #[] }
def k20m4 : Method := { name := "idleFrom", desc := "(J)J", sig := { parameters := [.long], returnType := some .long }, accessFlags := 0, code := some k20c4 }
def k20c5 : Code := { maxStack := 2, maxLocals := 1, code := prog_11_method_8_code, exceptionTable := #[], attributes := #[] }
def k20m5 : Method := { name := "end", desc := "()V", sig := { parameters := [], returnType := none }, accessFlags := 2, code := some k20c5 }
def k20c6 : Code := { maxStack := 6, maxLocals := 3, code := prog_11_method_9_code, exceptionTable := #[], attributes := #[] }
def k20m6 : Method := { name := "nextPauseNanos", desc := "()J", sig := { parameters := [], returnType := some .long }, accessFlags := 2, code := some k20c6 }
def k20c7 : Code := { maxStack := 6, maxLocals := 1, code := prog_11_method_10_code, exceptionTable := #[], attributes := #[] }
def k20m7 : Method := { name := "pauseNanos", desc := "()J", sig := { parameters := [], returnType := some .long }, accessFlags := 2, code := some k20c7 }
def k20c8 : Code := { maxStack := 6, maxLocals := 4, code := prog_11_method_11_code, exceptionTable := #[], attributes := #[] }
def k20m8 : Method := { name := "pauseNanos", desc := "(JJ)J", sig := { parameters := [.long, .long], returnType := some .long }, accessFlags := 8, code := some k20c8 }
def k20c9 : Code := { maxStack := 4, maxLocals := 3, code := prog_11_method_13_code, exceptionTable := #[], attributes := #[] }
def k20m9 : Method := { name := "lambda$idleFrom$2", desc := "(J)Ljava/lang/Long;", sig := { parameters := [.long], returnType := some (.object "java/lang/Long") }, accessFlags := 4098, code := some k20c9 }
def k20c10 : Code := { maxStack := 4, maxLocals := 2, code := ⟨#[0x2b, 0xb6, 0x00, 0x7d, 0x2a, 0xb6, 0x00, 0x7d, 0x94, 0x9a, 0x00, 0x15, 0x2b, 0xb6, 0x00, 0x82, 0x2a, 0xb6, 0x00, 0x82, 0xb6, 0x00, 0x85, 0x99, 0x00, 0x07, 0x04, 0xa7, 0x00, 0x04, 0x03, 0xac]⟩, exceptionTable := #[], attributes := #[] }
def k20m10 : Method := { name := "lambda$landed$1", desc := "(Lcom/example/versioned_table/versionedtable/StoredRecord;Lcom/example/versioned_table/versionedtable/StoredRecord;)Z", sig := { parameters := [(.object "com/example/versioned_table/versionedtable/StoredRecord"), (.object "com/example/versioned_table/versionedtable/StoredRecord")], returnType := some .boolean }, accessFlags := 4106, code := some k20c10 }
def k20c11 : Code := { maxStack := 4, maxLocals := 3, code := prog_11_method_15_code, exceptionTable := #[], attributes := #[] }
def k20m11 : Method := { name := "lambda$waitBefore$0", desc := "(JLjava/lang/Long;)Z", sig := { parameters := [.long, (.object "java/lang/Long")], returnType := some .boolean }, accessFlags := 4106, code := some k20c11 }
/-- com/example/versioned_table/versionedtable/KeyHold -/
def k20 : Class := { plain "com/example/versioned_table/versionedtable/KeyHold" (some 0) with
  accessFlags := 48
  interfaces := #[]
  cf := some (fileOf pool20 14 #[.bootstrapMethods #[⟨185, #[165, 166, 169]⟩, ⟨185, #[165, 171, 174]⟩, ⟨185, #[176, 177, 180]⟩, ⟨0, #[]⟩]] #[{ accessFlags := 0, nameIndex := 5, descriptorIndex := 144, attributes := #[] }, { accessFlags := 0, nameIndex := 147, descriptorIndex := 109, attributes := #[] }, { accessFlags := 0, nameIndex := 149, descriptorIndex := 150, attributes := #[] }, { accessFlags := 0, nameIndex := 151, descriptorIndex := 40, attributes := #[] }, { accessFlags := 0, nameIndex := 152, descriptorIndex := 109, attributes := #[] }, { accessFlags := 2, nameIndex := 67, descriptorIndex := 6, attributes := #[] }, { accessFlags := 2, nameIndex := 53, descriptorIndex := 50, attributes := #[] }, { accessFlags := 2, nameIndex := 75, descriptorIndex := 50, attributes := #[] }, { accessFlags := 8, nameIndex := 75, descriptorIndex := 117, attributes := #[] }, { accessFlags := 4098, nameIndex := 158, descriptorIndex := 57, attributes := #[] }, { accessFlags := 4106, nameIndex := 159, descriptorIndex := 160, attributes := #[] }, { accessFlags := 4106, nameIndex := 161, descriptorIndex := 157, attributes := #[] }] 48 2 #[] #[{ accessFlags := 24, nameIndex := 137, descriptorIndex := 86, attributes := #[] }, { accessFlags := 24, nameIndex := 140, descriptorIndex := 28, attributes := #[] }, { accessFlags := 18, nameIndex := 27, descriptorIndex := 28, attributes := #[] }, { accessFlags := 2, nameIndex := 70, descriptorIndex := 28, attributes := #[] }, { accessFlags := 2, nameIndex := 85, descriptorIndex := 86, attributes := #[] }, { accessFlags := 2, nameIndex := 89, descriptorIndex := 28, attributes := #[] }, { accessFlags := 2, nameIndex := 17, descriptorIndex := 18, attributes := #[] }, { accessFlags := 2, nameIndex := 21, descriptorIndex := 18, attributes := #[] }, { accessFlags := 2, nameIndex := 24, descriptorIndex := 18, attributes := #[] }, { accessFlags := 2, nameIndex := 64, descriptorIndex := 28, attributes := #[] }])
  fields := #[{ name := "PAUSES_PER_HOLD", type := .int, accessFlags := 24, slot := 0, constantValue := 0 }, { name := "LONGEST_PAUSE_MULTIPLE", type := .long, accessFlags := 24, slot := 1, constantValue := 0 }, { name := "longestRetryWaitNanos", type := .long, accessFlags := 18, slot := 0, constantValue := 0 }, { name := "began", type := .long, accessFlags := 2, slot := 1, constantValue := 0 }, { name := "writes", type := .int, accessFlags := 2, slot := 2, constantValue := 0 }, { name := "attemptNanos", type := .long, accessFlags := 2, slot := 3, constantValue := 0 }, { name := "lastWritten", type := (.object "java/util/Optional"), accessFlags := 2, slot := 4, constantValue := 0 }, { name := "idleUntil", type := (.object "java/util/Optional"), accessFlags := 2, slot := 5, constantValue := 0 }, { name := "pauseUntil", type := (.object "java/util/Optional"), accessFlags := 2, slot := 6, constantValue := 0 }, { name := "pauses", type := .long, accessFlags := 2, slot := 7, constantValue := 0 }]
  methods := #[k20m0, k20m1, k20m2, k20m3, k20m4, k20m5, k20m6, k20m7, k20m8, k20m9, k20m10, k20m11]
  instanceTypes := #[.long, .long, .int, .long, (.object "java/util/Optional"), (.object "java/util/Optional"), (.object "java/util/Optional"), .long]
  staticTypes := #[.int, .long]
  resolved := Array.replicate 198 none
  callSites := [(1, 17, .makes 34), (2, 5, .makes 35), (4, 6, .makes 36)]
  statics := none }

def pool21 : Array CpInfo := pool [(9, u "test"), (12, .class_ 24), (1, u "java/util/function/Predicate"), (2, .class_ 29), (1, u "java/lang/Object"), (1, u "(Ljava/lang/Object;)Z")] 69

def k21m0 : Method := { name := "test", desc := "(Ljava/lang/Object;)Z", sig := { parameters := [(.object "java/lang/Object")], returnType := some .boolean }, accessFlags := 1025, code := none }
/-- java/util/function/Predicate -/
def k21 : Class := { plain "java/util/function/Predicate" (some 0) with
  accessFlags := 1537
  interfaces := #[]
  cf := some (fileOf pool21 22 #[] #[{ accessFlags := 1025, nameIndex := 9, descriptorIndex := 31, attributes := #[] }] 1537 27 #[] #[])
  fields := #[]
  methods := #[k21m0]
  instanceTypes := #[]
  staticTypes := #[]
  resolved := Array.replicate 101 none
  statics := none }

def pool22 : Array CpInfo := pool [(1, .methodref 2 3), (0, .class_ 4), (0, .nameAndType 5 6), (0, u "java/lang/Object"), (0, u "<init>"), (0, u "()V"), (1, .class_ 10), (1, u "java/lang/Number"), (2, .class_ 14), (0, u "java/io/Serializable"), (0, u "serialVersionUID"), (0, u "J")] 20

def k22c0 : Code := { maxStack := 1, maxLocals := 1, code := jdk_18_method_1_code, exceptionTable := #[], attributes := #[] }
def k22m0 : Method := { name := "<init>", desc := "()V", sig := { parameters := [], returnType := none }, accessFlags := 1, code := some k22c0 }
/-- java/lang/Number -/
def k22 : Class := { plain "java/lang/Number" (some 0) with
  accessFlags := 1057
  interfaces := #[4]
  cf := some (fileOf pool22 8 #[] #[{ accessFlags := 1, nameIndex := 5, descriptorIndex := 6, attributes := #[] }] 1057 2 #[13] #[{ accessFlags := 26, nameIndex := 15, descriptorIndex := 16, attributes := #[] }])
  fields := #[{ name := "serialVersionUID", type := .long, accessFlags := 26, slot := 0, constantValue := 0 }]
  methods := #[k22m0]
  instanceTypes := #[]
  staticTypes := #[.long]
  resolved := Array.replicate 37 none
  statics := none }

def pool23 : Array CpInfo := pool [(1, .class_ 2), (0, u "java/lang/Long"), (55, .nameAndType 59 60), (0, u "<init>"), (0, u "()V"), (24, u "valueOf"), (143, u "(J)Ljava/lang/Long;"), (0, .long 18446744073709551488), (1, .long 127), (1, .fieldref 235 236), (0, .class_ 237), (0, .nameAndType 238 239), (0, u "java/lang/Long$LongCache"), (0, u "cache"), (0, u "[Ljava/lang/Long;"), (0, .methodref 1 241), (0, .nameAndType 59 242), (0, u "(J)V"), (27, .methodref 271 58), (0, .class_ 272), (0, u "java/lang/Number"), (0, .fieldref 1 274), (0, .nameAndType 275 276), (0, u "value"), (0, u "J"), (5, u "longValue"), (0, u "()J"), (39, u "(J)J"), (37, u "TYPE"), (0, u "Ljava/lang/Class;"), (0, .class_ 364), (0, u "java/lang/Comparable"), (0, .class_ 366), (0, u "java/lang/constant/Constable"), (0, .class_ 368), (0, u "java/lang/constant/ConstantDesc"), (0, u "MIN_VALUE"), (1, u "MAX_VALUE"), (4, u "SIZE"), (0, u "I"), (1, u "BYTES"), (1, u "serialVersionUID"), (93, u "lowestOneBit")] 48

def k23c0 : Code := { maxStack := 4, maxLocals := 3, code := jdk_35_method_24_code, exceptionTable := #[], attributes := #[] }
def k23m0 : Method := { name := "valueOf", desc := "(J)Ljava/lang/Long;", sig := { parameters := [.long], returnType := some (.object "java/lang/Long") }, accessFlags := 9, code := some k23c0 }
def k23c1 : Code := { maxStack := 3, maxLocals := 3, code := jdk_35_method_26_code, exceptionTable := #[], attributes := #[] }
def k23m1 : Method := { name := "<init>", desc := "(J)V", sig := { parameters := [.long], returnType := none }, accessFlags := 1, code := some k23c1 }
def k23c2 : Code := { maxStack := 2, maxLocals := 1, code := jdk_35_method_31_code, exceptionTable := #[], attributes := #[] }
def k23m2 : Method := { name := "longValue", desc := "()J", sig := { parameters := [], returnType := some .long }, accessFlags := 1, code := some k23c2 }
def k23c3 : Code := { maxStack := 4, maxLocals := 2, code := jdk_35_method_47_code, exceptionTable := #[], attributes := #[] }
def k23m3 : Method := { name := "lowestOneBit", desc := "(J)J", sig := { parameters := [.long], returnType := some .long }, accessFlags := 9, code := some k23c3 }
/-- java/lang/Long -/
def k23 : Class := { plain "java/lang/Long" (some 22) with
  accessFlags := 49
  interfaces := #[5, 7, 8]
  cf := some (fileOf pool23 1 #[.nestMembers #[235]] #[{ accessFlags := 9, nameIndex := 85, descriptorIndex := 229, attributes := #[] }, { accessFlags := 1, nameIndex := 59, descriptorIndex := 242, attributes := #[] }, { accessFlags := 1, nameIndex := 282, descriptorIndex := 283, attributes := #[] }, { accessFlags := 9, nameIndex := 475, descriptorIndex := 323, attributes := #[] }] 49 271 #[363, 365, 367] #[{ accessFlags := 25, nameIndex := 369, descriptorIndex := 276, attributes := #[] }, { accessFlags := 25, nameIndex := 371, descriptorIndex := 276, attributes := #[] }, { accessFlags := 25, nameIndex := 361, descriptorIndex := 362, attributes := #[] }, { accessFlags := 18, nameIndex := 275, descriptorIndex := 276, attributes := #[] }, { accessFlags := 25, nameIndex := 376, descriptorIndex := 377, attributes := #[] }, { accessFlags := 25, nameIndex := 379, descriptorIndex := 377, attributes := #[] }, { accessFlags := 26, nameIndex := 381, descriptorIndex := 276, attributes := #[] }])
  fields := #[{ name := "MIN_VALUE", type := .long, accessFlags := 25, slot := 0, constantValue := 0 }, { name := "MAX_VALUE", type := .long, accessFlags := 25, slot := 1, constantValue := 0 }, { name := "TYPE", type := (.object "java/lang/Class"), accessFlags := 25, slot := 2, constantValue := 0 }, { name := "value", type := .long, accessFlags := 18, slot := 0, constantValue := 0 }, { name := "SIZE", type := .int, accessFlags := 25, slot := 3, constantValue := 0 }, { name := "BYTES", type := .int, accessFlags := 25, slot := 4, constantValue := 0 }, { name := "serialVersionUID", type := .long, accessFlags := 26, slot := 5, constantValue := 0 }]
  methods := #[k23m0, k23m1, k23m2, k23m3]
  instanceTypes := #[.long]
  staticTypes := #[.long, .long, (.object "java/lang/Class"), .int, .int, .long]
  resolved := Array.replicate 524 none
  statics := none }

def pool24 : Array CpInfo := pool [(1, .class_ 2), (0, u "java/lang/Math"), (1, .class_ 6), (1, u "java/lang/Object"), (0, u "<init>"), (0, u "()V"), (89, .class_ 100), (1, u "java/lang/Math$RandomNumberGeneratorHolder"), (20, u "(JJ)J"), (50, u "negativeZeroFloatBits"), (0, u "J"), (2, u "negativeZeroDoubleBits"), (21, u "max"), (2, u "min"), (43, u "$assertionsDisabled"), (0, u "Z"), (91, u "twoToTheDoubleScaleDown"), (0, u "D"), (4, u "twoToTheDoubleScaleUp"), (9, u "E"), (3, u "PI"), (2, u "TAU"), (2, u "DEGREES_TO_RADIANS"), (0, u "RADIANS_TO_DEGREES")] 94

def k24m0 : Method := { name := "<init>", desc := "()V", sig := { parameters := [], returnType := none }, accessFlags := 2, code := none }
def k24c1 : Code := { maxStack := 4, maxLocals := 4, code := jdk_29_method_66_code, exceptionTable := #[], attributes := #[] }
def k24m1 : Method := { name := "max", desc := "(JJ)J", sig := { parameters := [.long, .long], returnType := some .long }, accessFlags := 9, code := some k24c1 }
def k24c2 : Code := { maxStack := 4, maxLocals := 4, code := jdk_29_method_70_code, exceptionTable := #[], attributes := #[] }
def k24m2 : Method := { name := "min", desc := "(JJ)J", sig := { parameters := [.long, .long], returnType := some .long }, accessFlags := 9, code := some k24c2 }
/-- java/lang/Math -/
def k24 : Class := { plain "java/lang/Math" (some 0) with
  accessFlags := 49
  interfaces := #[]
  cf := some (fileOf pool24 1 #[.nestMembers #[98]] #[{ accessFlags := 2, nameIndex := 7, descriptorIndex := 8, attributes := #[] }, { accessFlags := 9, nameIndex := 198, descriptorIndex := 121, attributes := #[] }, { accessFlags := 9, nameIndex := 201, descriptorIndex := 121, attributes := #[] }] 49 4 #[] #[{ accessFlags := 25, nameIndex := 354, descriptorIndex := 339, attributes := #[] }, { accessFlags := 25, nameIndex := 358, descriptorIndex := 339, attributes := #[] }, { accessFlags := 25, nameIndex := 361, descriptorIndex := 339, attributes := #[] }, { accessFlags := 26, nameIndex := 364, descriptorIndex := 339, attributes := #[] }, { accessFlags := 26, nameIndex := 365, descriptorIndex := 339, attributes := #[] }, { accessFlags := 26, nameIndex := 172, descriptorIndex := 173, attributes := #[] }, { accessFlags := 26, nameIndex := 176, descriptorIndex := 173, attributes := #[] }, { accessFlags := 8, nameIndex := 344, descriptorIndex := 339, attributes := #[] }, { accessFlags := 8, nameIndex := 338, descriptorIndex := 339, attributes := #[] }, { accessFlags := 4120, nameIndex := 245, descriptorIndex := 246, attributes := #[] }])
  fields := #[{ name := "E", type := .double, accessFlags := 25, slot := 0, constantValue := 0 }, { name := "PI", type := .double, accessFlags := 25, slot := 1, constantValue := 0 }, { name := "TAU", type := .double, accessFlags := 25, slot := 2, constantValue := 0 }, { name := "DEGREES_TO_RADIANS", type := .double, accessFlags := 26, slot := 3, constantValue := 0 }, { name := "RADIANS_TO_DEGREES", type := .double, accessFlags := 26, slot := 4, constantValue := 0 }, { name := "negativeZeroFloatBits", type := .long, accessFlags := 26, slot := 5, constantValue := 0 }, { name := "negativeZeroDoubleBits", type := .long, accessFlags := 26, slot := 6, constantValue := 0 }, { name := "twoToTheDoubleScaleUp", type := .double, accessFlags := 8, slot := 7, constantValue := 0 }, { name := "twoToTheDoubleScaleDown", type := .double, accessFlags := 8, slot := 8, constantValue := 0 }, { name := "$assertionsDisabled", type := .boolean, accessFlags := 4120, slot := 9, constantValue := 0 }]
  methods := #[k24m0, k24m1, k24m2]
  instanceTypes := #[]
  staticTypes := #[.double, .double, .double, .double, .double, .long, .long, .double, .double, .boolean]
  resolved := Array.replicate 460 none
  statics := none }

def pool25 : Array CpInfo := pool [(2, .class_ 4), (1, u "java/lang/Object"), (0, u "<init>"), (0, u "()V"), (0, .class_ 8), (0, u "java/lang/Long"), (7, .class_ 18), (1, u "java/lang/Long$LongCache"), (0, u "$assertionsDisabled"), (0, u "Z"), (8, u "archivedCache"), (0, u "[Ljava/lang/Long;"), (7, u "cache")] 24

def k25m0 : Method := { name := "<init>", desc := "()V", sig := { parameters := [], returnType := none }, accessFlags := 2, code := none }
/-- java/lang/Long$LongCache -/
def k25 : Class := { plain "java/lang/Long$LongCache" (some 0) with
  accessFlags := 48
  interfaces := #[]
  cf := some (fileOf pool25 16 #[.nestHost 7] #[{ accessFlags := 2, nameIndex := 5, descriptorIndex := 6, attributes := #[] }] 48 2 #[] #[{ accessFlags := 24, nameIndex := 38, descriptorIndex := 30, attributes := #[] }, { accessFlags := 8, nameIndex := 29, descriptorIndex := 30, attributes := #[] }, { accessFlags := 4120, nameIndex := 19, descriptorIndex := 20, attributes := #[] }])
  fields := #[{ name := "cache", type := (.array (.object "java/lang/Long")), accessFlags := 24, slot := 0, constantValue := 0 }, { name := "archivedCache", type := (.array (.object "java/lang/Long")), accessFlags := 8, slot := 1, constantValue := 0 }, { name := "$assertionsDisabled", type := .boolean, accessFlags := 4120, slot := 2, constantValue := 0 }]
  methods := #[k25m0]
  instanceTypes := #[]
  staticTypes := #[(.array (.object "java/lang/Long")), (.array (.object "java/lang/Long")), .boolean]
  resolved := Array.replicate 63 none
  statics := some 4 }

def pool26 : Array CpInfo := pool [(9, u "<init>"), (6, .class_ 18), (1, u "java/lang/Object"), (0, u "()V"), (1, .class_ 23), (1, u "jdk/internal/util/ArraysSupport"), (0, u "LOG2_ARRAY_LONG_INDEX_SCALE"), (0, u "I"), (2, u "U"), (0, u "Ljdk/internal/misc/Unsafe;"), (8, u "BIG_ENDIAN"), (0, u "Z"), (8, u "LOG2_BYTE_BIT_SIZE"), (4, u "LOG2_ARRAY_INT_INDEX_SCALE"), (54, u "JLA"), (0, u "Ljdk/internal/access/JavaLangAccess;"), (11, u "LOG2_ARRAY_BOOLEAN_INDEX_SCALE"), (9, u "LOG2_ARRAY_BYTE_INDEX_SCALE"), (5, u "LOG2_ARRAY_CHAR_INDEX_SCALE"), (5, u "LOG2_ARRAY_SHORT_INDEX_SCALE"), (18, u "LOG2_ARRAY_FLOAT_INDEX_SCALE"), (24, u "LOG2_ARRAY_DOUBLE_INDEX_SCALE"), (89, u "T_BOOLEAN"), (2, u "T_CHAR"), (1, u "T_FLOAT"), (1, u "T_DOUBLE"), (1, u "T_BYTE"), (1, u "T_SHORT"), (1, u "T_INT"), (1, u "T_LONG"), (1, u "SOFT_MAX_ARRAY_LENGTH")] 83

def k26m0 : Method := { name := "<init>", desc := "()V", sig := { parameters := [], returnType := none }, accessFlags := 2, code := none }
/-- jdk/internal/util/ArraysSupport -/
def k26 : Class := { plain "jdk/internal/util/ArraysSupport" (some 0) with
  accessFlags := 33
  interfaces := #[]
  cf := some (fileOf pool26 21 #[] #[{ accessFlags := 2, nameIndex := 9, descriptorIndex := 19, attributes := #[] }] 33 16 #[] #[{ accessFlags := 24, nameIndex := 28, descriptorIndex := 29, attributes := #[] }, { accessFlags := 26, nameIndex := 38, descriptorIndex := 39, attributes := #[] }, { accessFlags := 25, nameIndex := 121, descriptorIndex := 25, attributes := #[] }, { accessFlags := 25, nameIndex := 131, descriptorIndex := 25, attributes := #[] }, { accessFlags := 25, nameIndex := 137, descriptorIndex := 25, attributes := #[] }, { accessFlags := 25, nameIndex := 143, descriptorIndex := 25, attributes := #[] }, { accessFlags := 25, nameIndex := 53, descriptorIndex := 25, attributes := #[] }, { accessFlags := 25, nameIndex := 24, descriptorIndex := 25, attributes := #[] }, { accessFlags := 25, nameIndex := 162, descriptorIndex := 25, attributes := #[] }, { accessFlags := 25, nameIndex := 187, descriptorIndex := 25, attributes := #[] }, { accessFlags := 26, nameIndex := 48, descriptorIndex := 25, attributes := #[] }, { accessFlags := 25, nameIndex := 277, descriptorIndex := 25, attributes := #[] }, { accessFlags := 25, nameIndex := 280, descriptorIndex := 25, attributes := #[] }, { accessFlags := 25, nameIndex := 282, descriptorIndex := 25, attributes := #[] }, { accessFlags := 25, nameIndex := 284, descriptorIndex := 25, attributes := #[] }, { accessFlags := 25, nameIndex := 286, descriptorIndex := 25, attributes := #[] }, { accessFlags := 25, nameIndex := 288, descriptorIndex := 25, attributes := #[] }, { accessFlags := 25, nameIndex := 290, descriptorIndex := 25, attributes := #[] }, { accessFlags := 25, nameIndex := 292, descriptorIndex := 25, attributes := #[] }, { accessFlags := 26, nameIndex := 108, descriptorIndex := 109, attributes := #[] }, { accessFlags := 25, nameIndex := 294, descriptorIndex := 25, attributes := #[] }])
  fields := #[{ name := "U", type := (.object "jdk/internal/misc/Unsafe"), accessFlags := 24, slot := 0, constantValue := 0 }, { name := "BIG_ENDIAN", type := .boolean, accessFlags := 26, slot := 1, constantValue := 0 }, { name := "LOG2_ARRAY_BOOLEAN_INDEX_SCALE", type := .int, accessFlags := 25, slot := 2, constantValue := 0 }, { name := "LOG2_ARRAY_BYTE_INDEX_SCALE", type := .int, accessFlags := 25, slot := 3, constantValue := 0 }, { name := "LOG2_ARRAY_CHAR_INDEX_SCALE", type := .int, accessFlags := 25, slot := 4, constantValue := 0 }, { name := "LOG2_ARRAY_SHORT_INDEX_SCALE", type := .int, accessFlags := 25, slot := 5, constantValue := 0 }, { name := "LOG2_ARRAY_INT_INDEX_SCALE", type := .int, accessFlags := 25, slot := 6, constantValue := 0 }, { name := "LOG2_ARRAY_LONG_INDEX_SCALE", type := .int, accessFlags := 25, slot := 7, constantValue := 0 }, { name := "LOG2_ARRAY_FLOAT_INDEX_SCALE", type := .int, accessFlags := 25, slot := 8, constantValue := 0 }, { name := "LOG2_ARRAY_DOUBLE_INDEX_SCALE", type := .int, accessFlags := 25, slot := 9, constantValue := 0 }, { name := "LOG2_BYTE_BIT_SIZE", type := .int, accessFlags := 26, slot := 10, constantValue := 0 }, { name := "T_BOOLEAN", type := .int, accessFlags := 25, slot := 11, constantValue := 0 }, { name := "T_CHAR", type := .int, accessFlags := 25, slot := 12, constantValue := 0 }, { name := "T_FLOAT", type := .int, accessFlags := 25, slot := 13, constantValue := 0 }, { name := "T_DOUBLE", type := .int, accessFlags := 25, slot := 14, constantValue := 0 }, { name := "T_BYTE", type := .int, accessFlags := 25, slot := 15, constantValue := 0 }, { name := "T_SHORT", type := .int, accessFlags := 25, slot := 16, constantValue := 0 }, { name := "T_INT", type := .int, accessFlags := 25, slot := 17, constantValue := 0 }, { name := "T_LONG", type := .int, accessFlags := 25, slot := 18, constantValue := 0 }, { name := "JLA", type := (.object "jdk/internal/access/JavaLangAccess"), accessFlags := 26, slot := 19, constantValue := 0 }, { name := "SOFT_MAX_ARRAY_LENGTH", type := .int, accessFlags := 25, slot := 20, constantValue := 0 }]
  methods := #[k26m0]
  instanceTypes := #[]
  staticTypes := #[(.object "jdk/internal/misc/Unsafe"), .boolean, .int, .int, .int, .int, .int, .int, .int, .int, .int, .int, .int, .int, .int, .int, .int, .int, .int, (.object "jdk/internal/access/JavaLangAccess"), .int]
  resolved := Array.replicate 378 none
  statics := none }

def pool27 : Array CpInfo := pool [(1, u "java/lang/Cloneable"), (0, .class_ 1), (0, u "java/lang/Object"), (0, .class_ 3)] 3

/-- java/lang/Cloneable -/
def k27 : Class := { plain "java/lang/Cloneable" (some 0) with
  accessFlags := 1537
  interfaces := #[]
  cf := some (fileOf pool27 2 #[] #[] 1537 4 #[] #[])
  fields := #[]
  methods := #[]
  instanceTypes := #[]
  staticTypes := #[]
  resolved := Array.replicate 8 none
  statics := none }

/-- the primitive byte -/
def k28 : Class := { plain "byte" none with kind := .primitive 'B', accessFlags := 0x411 }
/-- [B -/
def k29 : Class := { plain "[B" (some 0) with kind := .array 28 .byte, interfaces := #[27, 4], accessFlags := 1041 }

/-- the primitive int -/
def k30 : Class := { plain "int" none with kind := .primitive 'I', accessFlags := 0x411 }
/-- [I -/
def k31 : Class := { plain "[I" (some 0) with kind := .array 30 .int, interfaces := #[27, 4], accessFlags := 1041 }

/-- [Ljava/lang/Long; -/
def k32 : Class := { plain "[Ljava/lang/Long;" (some 0) with kind := .array 23 (.object "java/lang/Long"), interfaces := #[27, 4], accessFlags := 1041 }

def classes0 : Array Class := #[k0, k1, k2, k3, k4, k5, k6, k7, k8, k9, k10, k11, k12, k13, k14, k15, k16, k17, k18, k19, k20, k21, k22, k23, k24, k25, k26, k27, k28, k29, k30, k31, k32]
/-- the class that the rule has made for the site at 2 of com/example/versioned_table/versionedtable/RecordKey.requirePart -/
def k33 : Class := Jvm.LamKit.madeRec { classes := classes0 } "com/example/versioned_table/versionedtable/RecordKey" (Jvm.Lambda.Shape.mk "java/util/function/Supplier" "get" (Jvm.ClassFile.MethodDescriptor.mk ([] : List Jvm.ClassFile.FieldType) (Option.some (Jvm.ClassFile.FieldType.object "java/lang/Object"))) ([(Jvm.ClassFile.FieldType.object "java/lang/String")] : List Jvm.ClassFile.FieldType) (6 : Nat) "com/example/versioned_table/versionedtable/RecordKey" "lambda$requirePart$0" (Jvm.ClassFile.MethodDescriptor.mk ([(Jvm.ClassFile.FieldType.object "java/lang/String")] : List Jvm.ClassFile.FieldType) (Option.some (Jvm.ClassFile.FieldType.object "java/lang/String"))) false (Jvm.ClassFile.MethodDescriptor.mk ([] : List Jvm.ClassFile.FieldType) (Option.some (Jvm.ClassFile.FieldType.object "java/lang/String")))) 33

/-- the class that the rule has made for the site at 17 of com/example/versioned_table/versionedtable/KeyHold.waitBefore -/
def k34 : Class := Jvm.LamKit.madeRec { classes := classes0 } "com/example/versioned_table/versionedtable/KeyHold" (Jvm.Lambda.Shape.mk "java/util/function/Predicate" "test" (Jvm.ClassFile.MethodDescriptor.mk ([(Jvm.ClassFile.FieldType.object "java/lang/Object")] : List Jvm.ClassFile.FieldType) (Option.some Jvm.ClassFile.FieldType.boolean)) ([Jvm.ClassFile.FieldType.long] : List Jvm.ClassFile.FieldType) (6 : Nat) "com/example/versioned_table/versionedtable/KeyHold" "lambda$waitBefore$0" (Jvm.ClassFile.MethodDescriptor.mk ([Jvm.ClassFile.FieldType.long, (Jvm.ClassFile.FieldType.object "java/lang/Long")] : List Jvm.ClassFile.FieldType) (Option.some Jvm.ClassFile.FieldType.boolean)) false (Jvm.ClassFile.MethodDescriptor.mk ([(Jvm.ClassFile.FieldType.object "java/lang/Long")] : List Jvm.ClassFile.FieldType) (Option.some Jvm.ClassFile.FieldType.boolean))) 34

/-- the class that the rule has made for the site at 5 of com/example/versioned_table/versionedtable/KeyHold.landed -/
def k35 : Class := Jvm.LamKit.madeRec { classes := classes0 } "com/example/versioned_table/versionedtable/KeyHold" (Jvm.Lambda.Shape.mk "java/util/function/Predicate" "test" (Jvm.ClassFile.MethodDescriptor.mk ([(Jvm.ClassFile.FieldType.object "java/lang/Object")] : List Jvm.ClassFile.FieldType) (Option.some Jvm.ClassFile.FieldType.boolean)) ([(Jvm.ClassFile.FieldType.object "com/example/versioned_table/versionedtable/StoredRecord")] : List Jvm.ClassFile.FieldType) (6 : Nat) "com/example/versioned_table/versionedtable/KeyHold" "lambda$landed$1" (Jvm.ClassFile.MethodDescriptor.mk ([(Jvm.ClassFile.FieldType.object "com/example/versioned_table/versionedtable/StoredRecord"), (Jvm.ClassFile.FieldType.object "com/example/versioned_table/versionedtable/StoredRecord")] : List Jvm.ClassFile.FieldType) (Option.some Jvm.ClassFile.FieldType.boolean)) false (Jvm.ClassFile.MethodDescriptor.mk ([(Jvm.ClassFile.FieldType.object "com/example/versioned_table/versionedtable/StoredRecord")] : List Jvm.ClassFile.FieldType) (Option.some Jvm.ClassFile.FieldType.boolean))) 35

/-- the class that the rule has made for the site at 6 of com/example/versioned_table/versionedtable/KeyHold.idleFrom -/
def k36 : Class := Jvm.LamKit.madeRec { classes := classes0 } "com/example/versioned_table/versionedtable/KeyHold" (Jvm.Lambda.Shape.mk "java/util/function/Supplier" "get" (Jvm.ClassFile.MethodDescriptor.mk ([] : List Jvm.ClassFile.FieldType) (Option.some (Jvm.ClassFile.FieldType.object "java/lang/Object"))) ([(Jvm.ClassFile.FieldType.object "com/example/versioned_table/versionedtable/KeyHold"), Jvm.ClassFile.FieldType.long] : List Jvm.ClassFile.FieldType) (5 : Nat) "com/example/versioned_table/versionedtable/KeyHold" "lambda$idleFrom$2" (Jvm.ClassFile.MethodDescriptor.mk ([Jvm.ClassFile.FieldType.long] : List Jvm.ClassFile.FieldType) (Option.some (Jvm.ClassFile.FieldType.object "java/lang/Long"))) false (Jvm.ClassFile.MethodDescriptor.mk ([] : List Jvm.ClassFile.FieldType) (Option.some (Jvm.ClassFile.FieldType.object "java/lang/Long")))) 36

def heap : Heap := #[{ cls := 9, slots := #[.long 0, .int 1, .null, .int 0, .null, .int 0, .int 0], vm := .statics 9 },
  { cls := 14, slots := #[.null, .null, .null], vm := .statics 14 },
  { cls := 16, slots := #[.ref 262], vm := .statics 16 },
  { cls := 18, slots := #[.ref 263], vm := .statics 18 },
  { cls := 25, slots := #[.ref 5, .null, .int 0], vm := .statics 25 },
  { cls := 32, slots := #[.ref 6, .ref 7, .ref 8, .ref 9, .ref 10, .ref 11, .ref 12, .ref 13, .ref 14, .ref 15, .ref 16, .ref 17, .ref 18, .ref 19, .ref 20, .ref 21, .ref 22, .ref 23, .ref 24, .ref 25, .ref 26, .ref 27, .ref 28, .ref 29, .ref 30, .ref 31, .ref 32, .ref 33, .ref 34, .ref 35, .ref 36, .ref 37, .ref 38, .ref 39, .ref 40, .ref 41, .ref 42, .ref 43, .ref 44, .ref 45, .ref 46, .ref 47, .ref 48, .ref 49, .ref 50, .ref 51, .ref 52, .ref 53, .ref 54, .ref 55, .ref 56, .ref 57, .ref 58, .ref 59, .ref 60, .ref 61, .ref 62, .ref 63, .ref 64, .ref 65, .ref 66, .ref 67, .ref 68, .ref 69, .ref 70, .ref 71, .ref 72, .ref 73, .ref 74, .ref 75, .ref 76, .ref 77, .ref 78, .ref 79, .ref 80, .ref 81, .ref 82, .ref 83, .ref 84, .ref 85, .ref 86, .ref 87, .ref 88, .ref 89, .ref 90, .ref 91, .ref 92, .ref 93, .ref 94, .ref 95, .ref 96, .ref 97, .ref 98, .ref 99, .ref 100, .ref 101, .ref 102, .ref 103, .ref 104, .ref 105, .ref 106, .ref 107, .ref 108, .ref 109, .ref 110, .ref 111, .ref 112, .ref 113, .ref 114, .ref 115, .ref 116, .ref 117, .ref 118, .ref 119, .ref 120, .ref 121, .ref 122, .ref 123, .ref 124, .ref 125, .ref 126, .ref 127, .ref 128, .ref 129, .ref 130, .ref 131, .ref 132, .ref 133, .ref 134, .ref 135, .ref 136, .ref 137, .ref 138, .ref 139, .ref 140, .ref 141, .ref 142, .ref 143, .ref 144, .ref 145, .ref 146, .ref 147, .ref 148, .ref 149, .ref 150, .ref 151, .ref 152, .ref 153, .ref 154, .ref 155, .ref 156, .ref 157, .ref 158, .ref 159, .ref 160, .ref 161, .ref 162, .ref 163, .ref 164, .ref 165, .ref 166, .ref 167, .ref 168, .ref 169, .ref 170, .ref 171, .ref 172, .ref 173, .ref 174, .ref 175, .ref 176, .ref 177, .ref 178, .ref 179, .ref 180, .ref 181, .ref 182, .ref 183, .ref 184, .ref 185, .ref 186, .ref 187, .ref 188, .ref 189, .ref 190, .ref 191, .ref 192, .ref 193, .ref 194, .ref 195, .ref 196, .ref 197, .ref 198, .ref 199, .ref 200, .ref 201, .ref 202, .ref 203, .ref 204, .ref 205, .ref 206, .ref 207, .ref 208, .ref 209, .ref 210, .ref 211, .ref 212, .ref 213, .ref 214, .ref 215, .ref 216, .ref 217, .ref 218, .ref 219, .ref 220, .ref 221, .ref 222, .ref 223, .ref 224, .ref 225, .ref 226, .ref 227, .ref 228, .ref 229, .ref 230, .ref 231, .ref 232, .ref 233, .ref 234, .ref 235, .ref 236, .ref 237, .ref 238, .ref 239, .ref 240, .ref 241, .ref 242, .ref 243, .ref 244, .ref 245, .ref 246, .ref 247, .ref 248, .ref 249, .ref 250, .ref 251, .ref 252, .ref 253, .ref 254, .ref 255, .ref 256, .ref 257, .ref 258, .ref 259, .ref 260, .ref 261], vm := .none },
  { cls := 23, slots := #[.long (-128)], vm := .none },
  { cls := 23, slots := #[.long (-127)], vm := .none },
  { cls := 23, slots := #[.long (-126)], vm := .none },
  { cls := 23, slots := #[.long (-125)], vm := .none },
  { cls := 23, slots := #[.long (-124)], vm := .none },
  { cls := 23, slots := #[.long (-123)], vm := .none },
  { cls := 23, slots := #[.long (-122)], vm := .none },
  { cls := 23, slots := #[.long (-121)], vm := .none },
  { cls := 23, slots := #[.long (-120)], vm := .none },
  { cls := 23, slots := #[.long (-119)], vm := .none },
  { cls := 23, slots := #[.long (-118)], vm := .none },
  { cls := 23, slots := #[.long (-117)], vm := .none },
  { cls := 23, slots := #[.long (-116)], vm := .none },
  { cls := 23, slots := #[.long (-115)], vm := .none },
  { cls := 23, slots := #[.long (-114)], vm := .none },
  { cls := 23, slots := #[.long (-113)], vm := .none },
  { cls := 23, slots := #[.long (-112)], vm := .none },
  { cls := 23, slots := #[.long (-111)], vm := .none },
  { cls := 23, slots := #[.long (-110)], vm := .none },
  { cls := 23, slots := #[.long (-109)], vm := .none },
  { cls := 23, slots := #[.long (-108)], vm := .none },
  { cls := 23, slots := #[.long (-107)], vm := .none },
  { cls := 23, slots := #[.long (-106)], vm := .none },
  { cls := 23, slots := #[.long (-105)], vm := .none },
  { cls := 23, slots := #[.long (-104)], vm := .none },
  { cls := 23, slots := #[.long (-103)], vm := .none },
  { cls := 23, slots := #[.long (-102)], vm := .none },
  { cls := 23, slots := #[.long (-101)], vm := .none },
  { cls := 23, slots := #[.long (-100)], vm := .none },
  { cls := 23, slots := #[.long (-99)], vm := .none },
  { cls := 23, slots := #[.long (-98)], vm := .none },
  { cls := 23, slots := #[.long (-97)], vm := .none },
  { cls := 23, slots := #[.long (-96)], vm := .none },
  { cls := 23, slots := #[.long (-95)], vm := .none },
  { cls := 23, slots := #[.long (-94)], vm := .none },
  { cls := 23, slots := #[.long (-93)], vm := .none },
  { cls := 23, slots := #[.long (-92)], vm := .none },
  { cls := 23, slots := #[.long (-91)], vm := .none },
  { cls := 23, slots := #[.long (-90)], vm := .none },
  { cls := 23, slots := #[.long (-89)], vm := .none },
  { cls := 23, slots := #[.long (-88)], vm := .none },
  { cls := 23, slots := #[.long (-87)], vm := .none },
  { cls := 23, slots := #[.long (-86)], vm := .none },
  { cls := 23, slots := #[.long (-85)], vm := .none },
  { cls := 23, slots := #[.long (-84)], vm := .none },
  { cls := 23, slots := #[.long (-83)], vm := .none },
  { cls := 23, slots := #[.long (-82)], vm := .none },
  { cls := 23, slots := #[.long (-81)], vm := .none },
  { cls := 23, slots := #[.long (-80)], vm := .none },
  { cls := 23, slots := #[.long (-79)], vm := .none },
  { cls := 23, slots := #[.long (-78)], vm := .none },
  { cls := 23, slots := #[.long (-77)], vm := .none },
  { cls := 23, slots := #[.long (-76)], vm := .none },
  { cls := 23, slots := #[.long (-75)], vm := .none },
  { cls := 23, slots := #[.long (-74)], vm := .none },
  { cls := 23, slots := #[.long (-73)], vm := .none },
  { cls := 23, slots := #[.long (-72)], vm := .none },
  { cls := 23, slots := #[.long (-71)], vm := .none },
  { cls := 23, slots := #[.long (-70)], vm := .none },
  { cls := 23, slots := #[.long (-69)], vm := .none },
  { cls := 23, slots := #[.long (-68)], vm := .none },
  { cls := 23, slots := #[.long (-67)], vm := .none },
  { cls := 23, slots := #[.long (-66)], vm := .none },
  { cls := 23, slots := #[.long (-65)], vm := .none },
  { cls := 23, slots := #[.long (-64)], vm := .none },
  { cls := 23, slots := #[.long (-63)], vm := .none },
  { cls := 23, slots := #[.long (-62)], vm := .none },
  { cls := 23, slots := #[.long (-61)], vm := .none },
  { cls := 23, slots := #[.long (-60)], vm := .none },
  { cls := 23, slots := #[.long (-59)], vm := .none },
  { cls := 23, slots := #[.long (-58)], vm := .none },
  { cls := 23, slots := #[.long (-57)], vm := .none },
  { cls := 23, slots := #[.long (-56)], vm := .none },
  { cls := 23, slots := #[.long (-55)], vm := .none },
  { cls := 23, slots := #[.long (-54)], vm := .none },
  { cls := 23, slots := #[.long (-53)], vm := .none },
  { cls := 23, slots := #[.long (-52)], vm := .none },
  { cls := 23, slots := #[.long (-51)], vm := .none },
  { cls := 23, slots := #[.long (-50)], vm := .none },
  { cls := 23, slots := #[.long (-49)], vm := .none },
  { cls := 23, slots := #[.long (-48)], vm := .none },
  { cls := 23, slots := #[.long (-47)], vm := .none },
  { cls := 23, slots := #[.long (-46)], vm := .none },
  { cls := 23, slots := #[.long (-45)], vm := .none },
  { cls := 23, slots := #[.long (-44)], vm := .none },
  { cls := 23, slots := #[.long (-43)], vm := .none },
  { cls := 23, slots := #[.long (-42)], vm := .none },
  { cls := 23, slots := #[.long (-41)], vm := .none },
  { cls := 23, slots := #[.long (-40)], vm := .none },
  { cls := 23, slots := #[.long (-39)], vm := .none },
  { cls := 23, slots := #[.long (-38)], vm := .none },
  { cls := 23, slots := #[.long (-37)], vm := .none },
  { cls := 23, slots := #[.long (-36)], vm := .none },
  { cls := 23, slots := #[.long (-35)], vm := .none },
  { cls := 23, slots := #[.long (-34)], vm := .none },
  { cls := 23, slots := #[.long (-33)], vm := .none },
  { cls := 23, slots := #[.long (-32)], vm := .none },
  { cls := 23, slots := #[.long (-31)], vm := .none },
  { cls := 23, slots := #[.long (-30)], vm := .none },
  { cls := 23, slots := #[.long (-29)], vm := .none },
  { cls := 23, slots := #[.long (-28)], vm := .none },
  { cls := 23, slots := #[.long (-27)], vm := .none },
  { cls := 23, slots := #[.long (-26)], vm := .none },
  { cls := 23, slots := #[.long (-25)], vm := .none },
  { cls := 23, slots := #[.long (-24)], vm := .none },
  { cls := 23, slots := #[.long (-23)], vm := .none },
  { cls := 23, slots := #[.long (-22)], vm := .none },
  { cls := 23, slots := #[.long (-21)], vm := .none },
  { cls := 23, slots := #[.long (-20)], vm := .none },
  { cls := 23, slots := #[.long (-19)], vm := .none },
  { cls := 23, slots := #[.long (-18)], vm := .none },
  { cls := 23, slots := #[.long (-17)], vm := .none },
  { cls := 23, slots := #[.long (-16)], vm := .none },
  { cls := 23, slots := #[.long (-15)], vm := .none },
  { cls := 23, slots := #[.long (-14)], vm := .none },
  { cls := 23, slots := #[.long (-13)], vm := .none },
  { cls := 23, slots := #[.long (-12)], vm := .none },
  { cls := 23, slots := #[.long (-11)], vm := .none },
  { cls := 23, slots := #[.long (-10)], vm := .none },
  { cls := 23, slots := #[.long (-9)], vm := .none },
  { cls := 23, slots := #[.long (-8)], vm := .none },
  { cls := 23, slots := #[.long (-7)], vm := .none },
  { cls := 23, slots := #[.long (-6)], vm := .none },
  { cls := 23, slots := #[.long (-5)], vm := .none },
  { cls := 23, slots := #[.long (-4)], vm := .none },
  { cls := 23, slots := #[.long (-3)], vm := .none },
  { cls := 23, slots := #[.long (-2)], vm := .none },
  { cls := 23, slots := #[.long (-1)], vm := .none },
  { cls := 23, slots := #[.long (0)], vm := .none },
  { cls := 23, slots := #[.long (1)], vm := .none },
  { cls := 23, slots := #[.long (2)], vm := .none },
  { cls := 23, slots := #[.long (3)], vm := .none },
  { cls := 23, slots := #[.long (4)], vm := .none },
  { cls := 23, slots := #[.long (5)], vm := .none },
  { cls := 23, slots := #[.long (6)], vm := .none },
  { cls := 23, slots := #[.long (7)], vm := .none },
  { cls := 23, slots := #[.long (8)], vm := .none },
  { cls := 23, slots := #[.long (9)], vm := .none },
  { cls := 23, slots := #[.long (10)], vm := .none },
  { cls := 23, slots := #[.long (11)], vm := .none },
  { cls := 23, slots := #[.long (12)], vm := .none },
  { cls := 23, slots := #[.long (13)], vm := .none },
  { cls := 23, slots := #[.long (14)], vm := .none },
  { cls := 23, slots := #[.long (15)], vm := .none },
  { cls := 23, slots := #[.long (16)], vm := .none },
  { cls := 23, slots := #[.long (17)], vm := .none },
  { cls := 23, slots := #[.long (18)], vm := .none },
  { cls := 23, slots := #[.long (19)], vm := .none },
  { cls := 23, slots := #[.long (20)], vm := .none },
  { cls := 23, slots := #[.long (21)], vm := .none },
  { cls := 23, slots := #[.long (22)], vm := .none },
  { cls := 23, slots := #[.long (23)], vm := .none },
  { cls := 23, slots := #[.long (24)], vm := .none },
  { cls := 23, slots := #[.long (25)], vm := .none },
  { cls := 23, slots := #[.long (26)], vm := .none },
  { cls := 23, slots := #[.long (27)], vm := .none },
  { cls := 23, slots := #[.long (28)], vm := .none },
  { cls := 23, slots := #[.long (29)], vm := .none },
  { cls := 23, slots := #[.long (30)], vm := .none },
  { cls := 23, slots := #[.long (31)], vm := .none },
  { cls := 23, slots := #[.long (32)], vm := .none },
  { cls := 23, slots := #[.long (33)], vm := .none },
  { cls := 23, slots := #[.long (34)], vm := .none },
  { cls := 23, slots := #[.long (35)], vm := .none },
  { cls := 23, slots := #[.long (36)], vm := .none },
  { cls := 23, slots := #[.long (37)], vm := .none },
  { cls := 23, slots := #[.long (38)], vm := .none },
  { cls := 23, slots := #[.long (39)], vm := .none },
  { cls := 23, slots := #[.long (40)], vm := .none },
  { cls := 23, slots := #[.long (41)], vm := .none },
  { cls := 23, slots := #[.long (42)], vm := .none },
  { cls := 23, slots := #[.long (43)], vm := .none },
  { cls := 23, slots := #[.long (44)], vm := .none },
  { cls := 23, slots := #[.long (45)], vm := .none },
  { cls := 23, slots := #[.long (46)], vm := .none },
  { cls := 23, slots := #[.long (47)], vm := .none },
  { cls := 23, slots := #[.long (48)], vm := .none },
  { cls := 23, slots := #[.long (49)], vm := .none },
  { cls := 23, slots := #[.long (50)], vm := .none },
  { cls := 23, slots := #[.long (51)], vm := .none },
  { cls := 23, slots := #[.long (52)], vm := .none },
  { cls := 23, slots := #[.long (53)], vm := .none },
  { cls := 23, slots := #[.long (54)], vm := .none },
  { cls := 23, slots := #[.long (55)], vm := .none },
  { cls := 23, slots := #[.long (56)], vm := .none },
  { cls := 23, slots := #[.long (57)], vm := .none },
  { cls := 23, slots := #[.long (58)], vm := .none },
  { cls := 23, slots := #[.long (59)], vm := .none },
  { cls := 23, slots := #[.long (60)], vm := .none },
  { cls := 23, slots := #[.long (61)], vm := .none },
  { cls := 23, slots := #[.long (62)], vm := .none },
  { cls := 23, slots := #[.long (63)], vm := .none },
  { cls := 23, slots := #[.long (64)], vm := .none },
  { cls := 23, slots := #[.long (65)], vm := .none },
  { cls := 23, slots := #[.long (66)], vm := .none },
  { cls := 23, slots := #[.long (67)], vm := .none },
  { cls := 23, slots := #[.long (68)], vm := .none },
  { cls := 23, slots := #[.long (69)], vm := .none },
  { cls := 23, slots := #[.long (70)], vm := .none },
  { cls := 23, slots := #[.long (71)], vm := .none },
  { cls := 23, slots := #[.long (72)], vm := .none },
  { cls := 23, slots := #[.long (73)], vm := .none },
  { cls := 23, slots := #[.long (74)], vm := .none },
  { cls := 23, slots := #[.long (75)], vm := .none },
  { cls := 23, slots := #[.long (76)], vm := .none },
  { cls := 23, slots := #[.long (77)], vm := .none },
  { cls := 23, slots := #[.long (78)], vm := .none },
  { cls := 23, slots := #[.long (79)], vm := .none },
  { cls := 23, slots := #[.long (80)], vm := .none },
  { cls := 23, slots := #[.long (81)], vm := .none },
  { cls := 23, slots := #[.long (82)], vm := .none },
  { cls := 23, slots := #[.long (83)], vm := .none },
  { cls := 23, slots := #[.long (84)], vm := .none },
  { cls := 23, slots := #[.long (85)], vm := .none },
  { cls := 23, slots := #[.long (86)], vm := .none },
  { cls := 23, slots := #[.long (87)], vm := .none },
  { cls := 23, slots := #[.long (88)], vm := .none },
  { cls := 23, slots := #[.long (89)], vm := .none },
  { cls := 23, slots := #[.long (90)], vm := .none },
  { cls := 23, slots := #[.long (91)], vm := .none },
  { cls := 23, slots := #[.long (92)], vm := .none },
  { cls := 23, slots := #[.long (93)], vm := .none },
  { cls := 23, slots := #[.long (94)], vm := .none },
  { cls := 23, slots := #[.long (95)], vm := .none },
  { cls := 23, slots := #[.long (96)], vm := .none },
  { cls := 23, slots := #[.long (97)], vm := .none },
  { cls := 23, slots := #[.long (98)], vm := .none },
  { cls := 23, slots := #[.long (99)], vm := .none },
  { cls := 23, slots := #[.long (100)], vm := .none },
  { cls := 23, slots := #[.long (101)], vm := .none },
  { cls := 23, slots := #[.long (102)], vm := .none },
  { cls := 23, slots := #[.long (103)], vm := .none },
  { cls := 23, slots := #[.long (104)], vm := .none },
  { cls := 23, slots := #[.long (105)], vm := .none },
  { cls := 23, slots := #[.long (106)], vm := .none },
  { cls := 23, slots := #[.long (107)], vm := .none },
  { cls := 23, slots := #[.long (108)], vm := .none },
  { cls := 23, slots := #[.long (109)], vm := .none },
  { cls := 23, slots := #[.long (110)], vm := .none },
  { cls := 23, slots := #[.long (111)], vm := .none },
  { cls := 23, slots := #[.long (112)], vm := .none },
  { cls := 23, slots := #[.long (113)], vm := .none },
  { cls := 23, slots := #[.long (114)], vm := .none },
  { cls := 23, slots := #[.long (115)], vm := .none },
  { cls := 23, slots := #[.long (116)], vm := .none },
  { cls := 23, slots := #[.long (117)], vm := .none },
  { cls := 23, slots := #[.long (118)], vm := .none },
  { cls := 23, slots := #[.long (119)], vm := .none },
  { cls := 23, slots := #[.long (120)], vm := .none },
  { cls := 23, slots := #[.long (121)], vm := .none },
  { cls := 23, slots := #[.long (122)], vm := .none },
  { cls := 23, slots := #[.long (123)], vm := .none },
  { cls := 23, slots := #[.long (124)], vm := .none },
  { cls := 23, slots := #[.long (125)], vm := .none },
  { cls := 23, slots := #[.long (126)], vm := .none },
  { cls := 23, slots := #[.long (127)], vm := .none },
  { cls := 16, slots := #[.int 0, .int 0], vm := .none },
  { cls := 18, slots := #[.null], vm := .none }]
def classes : Array Class := #[k0, k1, k2, k3, k4, k5, k6, k7, k8, k9, k10, k11, k12, k13, k14, k15, k16, k17, k18, k19, k20, k21, k22, k23, k24, k25, k26, k27, k28, k29, k30, k31, k32, k33, k34, k35, k36]
def interned : List (Array UInt16 × Addr) := []
def slotsUsed : Nat := 530
def theMethod : MethodId := ⟨1, 1⟩
def args0 : Array Value := #[.long 5, .long 6, .long 7, .long 8, .long 9, .int 3]
def aboutOver (below : List Frame) : State where
  vm := { classes := classes, interned := interned.toArray }
  heap := heap
  slotsUsed := slotsUsed
  threads := #[{ frames := .invoking theMethod args0 :: below }]
def below0 : List Frame := [.native { method := ⟨0, 0⟩, args := #[] }]
def about1 : State := aboutOver below0
def p0 : Program := .bare "" "" ""
def e0 : Env := launch0.env 0 0 0
theorem w_frames : about1.frames = Frame.invoking theMethod args0 :: below0 := rfl
set_option maxRecDepth 65536 in
theorem w_args : argsFit about1.vm theMethod args0 = true := by decide +kernel
set_option maxRecDepth 65536 in
theorem w_heap : heapFits about1 = true := by decide +kernel
set_option maxRecDepth 65536 in
theorem w_runnable : about1.curStatus? = some .runnable := by decide +kernel
set_option maxRecDepth 65536 in
theorem w_alone : about1.alone = true := by decide +kernel
set_option maxRecDepth 65536 in
theorem w_named : about1.methodNamed? x = some theMethod := by decide +kernel
set_option maxRecDepth 65536 in
theorem w_hears : about1.hears theMethod below0 = true := by decide +kernel
set_option maxRecDepth 65536 in
theorem w_ripe : about1.ripe theMethod args0 below0 = true := by decide +kernel
theorem w_running : about1.status = .running := rfl
set_option maxRecDepth 65536 in
theorem w_room : about1.hasRoom e0.platform room_1 = true :=
  launch0.hasRoom_least _ room_1 (by decide +kernel) (by decide +kernel) (by decide +kernel) (by decide +kernel) (by decide +kernel) (by decide +kernel)
theorem allAtoms_all (ts : List Jvm.Cond) (a : Array Jvm.Value) (st : Jvm.State) : (allAtoms ts).before a st = ts.all (fun c => c.before a st) := by
  induction ts with
  | nil => rfl
  | cons c t ih =>
    show (Jvm.Cond.and c (allAtoms t)).before a st = _
    rw [Jvm.Cond.before_and, ih, List.all_cons]
def words1 : List Jvm.Cond := Jvm.Cond.code x code maxLocals ret :: tables_1
/-- a 'code' word, met by the world's own term for the bytes: nothing is compared byte by byte -/
theorem code_word {y : MethodName} {bytes : ByteArray} {mx : Nat} {rt : Option FieldType} {a : Array Value} {s : State} {m : MethodId} {meth : Method} {c : Code} (h1 : s.methodNamed? y = some m) (h2 : s.vm.method? m = some meth) (h3 : meth.code = some c) (h4 : c.code = bytes)
    (h5 : (c.maxLocals == mx && c.exceptionTable.isEmpty && decide (c.maxStack ≤ mostOperands) && decide (meth.sig.returnType = rt) && !meth.locks && decide (parseMethodDescriptor y.desc = some meth.sig)) = true) : (Jvm.Cond.code y bytes mx rt).before a s = true := by
  simp only [Bool.and_eq_true, beq_iff_eq, Bool.not_eq_true', decide_eq_true_eq] at h5
  obtain ⟨⟨⟨⟨⟨g1, g2⟩, g3⟩, g4⟩, g5⟩, g6⟩ := h5
  simp [Cond.before, Cond.holds, Cond.value, h1, h2, h3, h4, g1, g2, g3, g4, g5, g6]
def isCode : Jvm.Cond → Bool
  | .code _ _ _ _ => true
  | _ => false
theorem all_split {L : List Jvm.Cond} {P : Jvm.Cond → Bool} (h1 : L.all (fun c => isCode c || P c) = true) (h2 : ∀ c ∈ L.filter isCode, P c = true) : L.all P = true := by
  refine List.all_eq_true.mpr fun c hc => ?_
  have h := List.all_eq_true.mp h1 c hc
  rcases Bool.eq_false_or_eq_true (isCode c) with hi | hi
  · exact h2 c (List.mem_filter.mpr ⟨hc, hi⟩)
  · simpa [hi] using h
set_option maxRecDepth 65536 in
theorem w_c0 : (Jvm.Cond.code x code maxLocals ret).before args0 about1 = true := code_word (m := ⟨1, 1⟩) (meth := k1m1) (c := k1c1) (by decide +kernel) rfl rfl rfl (by decide +kernel)
set_option maxRecDepth 65536 in
theorem w_c1 : (Jvm.Cond.code ({ cls := "com/example/versioned_table/versionedtable/RecordKey", name := "<init>", desc := "(Ljava/lang/String;Ljava/lang/String;)V" } : Jvm.MethodName) prog_23_method_1_code (3 : Nat) (Option.none : Option Jvm.ClassFile.FieldType)).before args0 about1 = true := code_word (m := ⟨3, 0⟩) (meth := k3m0) (c := k3c0) (by decide +kernel) rfl rfl rfl (by decide +kernel)
set_option maxRecDepth 65536 in
theorem w_c2 : (Jvm.Cond.code ({ cls := "java/lang/Record", name := "<init>", desc := "()V" } : Jvm.MethodName) jdk_30_method_1_code (1 : Nat) (Option.none : Option Jvm.ClassFile.FieldType)).before args0 about1 = true := code_word (m := ⟨2, 0⟩) (meth := k2m0) (c := k2c0) (by decide +kernel) rfl rfl rfl (by decide +kernel)
set_option maxRecDepth 65536 in
theorem w_c3 : (Jvm.Cond.code ({ cls := "java/lang/Object", name := "<init>", desc := "()V" } : Jvm.MethodName) object_method_1_code (1 : Nat) (Option.none : Option Jvm.ClassFile.FieldType)).before args0 about1 = true := code_word (m := ⟨0, 0⟩) (meth := k0m0) (c := k0c0) (by decide +kernel) rfl rfl rfl (by decide +kernel)
set_option maxRecDepth 65536 in
theorem w_c4 : (Jvm.Cond.code ({ cls := "com/example/versioned_table/versionedtable/RecordKey", name := "requirePartition", desc := "(Ljava/lang/String;)V" } : Jvm.MethodName) prog_23_method_5_code (1 : Nat) (Option.none : Option Jvm.ClassFile.FieldType)).before args0 about1 = true := code_word (m := ⟨3, 1⟩) (meth := k3m1) (c := k3c1) (by decide +kernel) rfl rfl rfl (by decide +kernel)
set_option maxRecDepth 65536 in
theorem w_c5 : (Jvm.Cond.code ({ cls := "com/example/versioned_table/versionedtable/RecordKey", name := "requirePart", desc := "(Ljava/lang/String;Ljava/lang/String;I)V" } : Jvm.MethodName) prog_23_method_7_code (3 : Nat) (Option.none : Option Jvm.ClassFile.FieldType)).before args0 about1 = true := code_word (m := ⟨3, 3⟩) (meth := k3m3) (c := k3c3) (by decide +kernel) rfl rfl rfl (by decide +kernel)
set_option maxRecDepth 65536 in
theorem w_c6 : (Jvm.Cond.code ({ cls := "java/util/Objects", name := "requireNonNull", desc := "(Ljava/lang/Object;Ljava/util/function/Supplier;)Ljava/lang/Object;" } : Jvm.MethodName) jdk_31_method_16_code (2 : Nat) (Option.some (Jvm.ClassFile.FieldType.object "java/lang/Object"))).before args0 about1 = true := code_word (m := ⟨11, 3⟩) (meth := k11m3) (c := k11c3) (by decide +kernel) rfl rfl rfl (by decide +kernel)
set_option maxRecDepth 65536 in
theorem w_c7 : (Jvm.Cond.code ({ cls := "java/lang/String", name := "isEmpty", desc := "()Z" } : Jvm.MethodName) jdk_42_method_55_code (1 : Nat) (Option.some Jvm.ClassFile.FieldType.boolean)).before args0 about1 = true := code_word (m := ⟨9, 2⟩) (meth := k9m2) (c := k9c2) (by decide +kernel) rfl rfl rfl (by decide +kernel)
set_option maxRecDepth 65536 in
theorem w_c8 : (Jvm.Cond.code ({ cls := "com/example/versioned_table/versionedtable/RecordKey", name := "requireWellFormed", desc := "(Ljava/lang/String;Ljava/lang/String;)V" } : Jvm.MethodName) prog_23_method_6_code (3 : Nat) (Option.none : Option Jvm.ClassFile.FieldType)).before args0 about1 = true := code_word (m := ⟨3, 2⟩) (meth := k3m2) (c := k3c2) (by decide +kernel) rfl rfl rfl (by decide +kernel)
set_option maxRecDepth 65536 in
theorem w_c9 : (Jvm.Cond.code ({ cls := "com/example/versioned_table/versionedtable/Utf8", name := "unpairedSurrogate", desc := "(Ljava/lang/String;)Ljava/util/OptionalInt;" } : Jvm.MethodName) prog_55_method_5_code (2 : Nat) (Option.some (Jvm.ClassFile.FieldType.object "java/util/OptionalInt"))).before args0 about1 = true := code_word (m := ⟨12, 3⟩) (meth := k12m3) (c := k12c3) (by decide +kernel) rfl rfl rfl (by decide +kernel)
set_option maxRecDepth 65536 in
theorem w_c10 : (Jvm.Cond.code ({ cls := "java/lang/String", name := "length", desc := "()I" } : Jvm.MethodName) jdk_42_method_54_code (1 : Nat) (Option.some Jvm.ClassFile.FieldType.int)).before args0 about1 = true := code_word (m := ⟨9, 1⟩) (meth := k9m1) (c := k9c1) (by decide +kernel) rfl rfl rfl (by decide +kernel)
set_option maxRecDepth 65536 in
theorem w_c11 : (Jvm.Cond.code ({ cls := "java/lang/String", name := "coder", desc := "()B" } : Jvm.MethodName) jdk_42_method_152_code (1 : Nat) (Option.some Jvm.ClassFile.FieldType.byte)).before args0 about1 = true := code_word (m := ⟨9, 4⟩) (meth := k9m4) (c := k9c4) (by decide +kernel) rfl rfl rfl (by decide +kernel)
set_option maxRecDepth 65536 in
theorem w_c12 : (Jvm.Cond.code ({ cls := "java/lang/String", name := "charAt", desc := "(I)C" } : Jvm.MethodName) jdk_42_method_56_code (2 : Nat) (Option.some Jvm.ClassFile.FieldType.char)).before args0 about1 = true := code_word (m := ⟨9, 3⟩) (meth := k9m3) (c := k9c3) (by decide +kernel) rfl rfl rfl (by decide +kernel)
set_option maxRecDepth 65536 in
theorem w_c13 : (Jvm.Cond.code ({ cls := "java/lang/String", name := "isLatin1", desc := "()Z" } : Jvm.MethodName) jdk_42_method_154_code (1 : Nat) (Option.some Jvm.ClassFile.FieldType.boolean)).before args0 about1 = true := code_word (m := ⟨9, 5⟩) (meth := k9m5) (c := k9c5) (by decide +kernel) rfl rfl rfl (by decide +kernel)
set_option maxRecDepth 65536 in
theorem w_c14 : (Jvm.Cond.code ({ cls := "java/lang/StringLatin1", name := "charAt", desc := "([BI)C" } : Jvm.MethodName) jdk_43_method_2_code (2 : Nat) (Option.some Jvm.ClassFile.FieldType.char)).before args0 about1 = true := code_word (m := ⟨13, 1⟩) (meth := k13m1) (c := k13c1) (by decide +kernel) rfl rfl rfl (by decide +kernel)
set_option maxRecDepth 65536 in
theorem w_c15 : (Jvm.Cond.code ({ cls := "java/lang/String", name := "checkIndex", desc := "(II)V" } : Jvm.MethodName) jdk_42_method_155_code (2 : Nat) (Option.none : Option Jvm.ClassFile.FieldType)).before args0 about1 = true := code_word (m := ⟨9, 6⟩) (meth := k9m6) (c := k9c6) (by decide +kernel) rfl rfl rfl (by decide +kernel)
set_option maxRecDepth 65536 in
theorem w_c16 : (Jvm.Cond.code ({ cls := "jdk/internal/util/Preconditions", name := "checkIndex", desc := "(IILjava/util/function/BiFunction;)I" } : Jvm.MethodName) jdk_41_method_11_code (3 : Nat) (Option.some Jvm.ClassFile.FieldType.int)).before args0 about1 = true := code_word (m := ⟨14, 1⟩) (meth := k14m1) (c := k14c1) (by decide +kernel) rfl rfl rfl (by decide +kernel)
set_option maxRecDepth 65536 in
theorem w_c17 : (Jvm.Cond.code ({ cls := "java/lang/Character", name := "isSurrogate", desc := "(C)Z" } : Jvm.MethodName) jdk_89_method_16_code (1 : Nat) (Option.some Jvm.ClassFile.FieldType.boolean)).before args0 about1 = true := code_word (m := ⟨15, 0⟩) (meth := k15m0) (c := k15c0) (by decide +kernel) rfl rfl rfl (by decide +kernel)
set_option maxRecDepth 65536 in
theorem w_c18 : (Jvm.Cond.code ({ cls := "java/util/OptionalInt", name := "empty", desc := "()Ljava/util/OptionalInt;" } : Jvm.MethodName) jdk_2649_method_2_code (0 : Nat) (Option.some (Jvm.ClassFile.FieldType.object "java/util/OptionalInt"))).before args0 about1 = true := code_word (m := ⟨16, 1⟩) (meth := k16m1) (c := k16c1) (by decide +kernel) rfl rfl rfl (by decide +kernel)
set_option maxRecDepth 65536 in
theorem w_c19 : (Jvm.Cond.code ({ cls := "java/util/OptionalInt", name := "isPresent", desc := "()Z" } : Jvm.MethodName) jdk_2649_method_6_code (1 : Nat) (Option.some Jvm.ClassFile.FieldType.boolean)).before args0 about1 = true := code_word (m := ⟨16, 2⟩) (meth := k16m2) (c := k16c2) (by decide +kernel) rfl rfl rfl (by decide +kernel)
set_option maxRecDepth 65536 in
theorem w_c20 : (Jvm.Cond.code ({ cls := "com/example/versioned_table/versionedtable/Utf8", name := "isOver", desc := "(Ljava/lang/String;J)Z" } : Jvm.MethodName) prog_55_method_4_code (3 : Nat) (Option.some Jvm.ClassFile.FieldType.boolean)).before args0 about1 = true := code_word (m := ⟨12, 2⟩) (meth := k12m2) (c := k12c2) (by decide +kernel) rfl rfl rfl (by decide +kernel)
set_option maxRecDepth 65536 in
theorem w_c21 : (Jvm.Cond.code ({ cls := "com/example/versioned_table/versionedtable/Utf8", name := "mostLength", desc := "(Ljava/lang/String;)J" } : Jvm.MethodName) prog_55_method_3_code (1 : Nat) (Option.some Jvm.ClassFile.FieldType.long)).before args0 about1 = true := code_word (m := ⟨12, 1⟩) (meth := k12m1) (c := k12c1) (by decide +kernel) rfl rfl rfl (by decide +kernel)
set_option maxRecDepth 65536 in
theorem w_c22 : (Jvm.Cond.code ({ cls := "java/util/Optional", name := "empty", desc := "()Ljava/util/Optional;" } : Jvm.MethodName) jdk_32_method_1_code (1 : Nat) (Option.some (Jvm.ClassFile.FieldType.object "java/util/Optional"))).before args0 about1 = true := code_word (m := ⟨18, 0⟩) (meth := k18m0) (c := k18c0) (by decide +kernel) rfl rfl rfl (by decide +kernel)
set_option maxRecDepth 65536 in
theorem w_c23 : (Jvm.Cond.code ({ cls := "com/example/versioned_table/versionedtable/StoredRecord", name := "<init>", desc := "(Lcom/example/versioned_table/versionedtable/RecordKey;JLjava/lang/String;ILjava/util/Optional;Ljava/util/Optional;)V" } : Jvm.MethodName) prog_44_method_1_code (8 : Nat) (Option.none : Option Jvm.ClassFile.FieldType)).before args0 about1 = true := code_word (m := ⟨17, 0⟩) (meth := k17m0) (c := k17c0) (by decide +kernel) rfl rfl rfl (by decide +kernel)
set_option maxRecDepth 65536 in
theorem w_c24 : (Jvm.Cond.code ({ cls := "java/util/Objects", name := "requireNonNull", desc := "(Ljava/lang/Object;Ljava/lang/String;)Ljava/lang/Object;" } : Jvm.MethodName) jdk_31_method_11_code (2 : Nat) (Option.some (Jvm.ClassFile.FieldType.object "java/lang/Object"))).before args0 about1 = true := code_word (m := ⟨11, 2⟩) (meth := k11m2) (c := k11c2) (by decide +kernel) rfl rfl rfl (by decide +kernel)
set_option maxRecDepth 65536 in
theorem w_c25 : (Jvm.Cond.code ({ cls := "com/example/versioned_table/versionedtable/SchemaNumbers", name := "requireSchemaNumber", desc := "(ILjava/lang/String;)I" } : Jvm.MethodName) prog_40_method_3_code (2 : Nat) (Option.some Jvm.ClassFile.FieldType.int)).before args0 about1 = true := code_word (m := ⟨19, 2⟩) (meth := k19m2) (c := k19c2) (by decide +kernel) rfl rfl rfl (by decide +kernel)
set_option maxRecDepth 65536 in
theorem w_c26 : (Jvm.Cond.code ({ cls := "com/example/versioned_table/versionedtable/SchemaNumbers", name := "isSchemaNumber", desc := "(I)Z" } : Jvm.MethodName) prog_40_method_2_code (1 : Nat) (Option.some Jvm.ClassFile.FieldType.boolean)).before args0 about1 = true := code_word (m := ⟨19, 1⟩) (meth := k19m1) (c := k19c1) (by decide +kernel) rfl rfl rfl (by decide +kernel)
set_option maxRecDepth 65536 in
theorem w_c27 : (Jvm.Cond.code ({ cls := "com/example/versioned_table/versionedtable/KeyHold", name := "<init>", desc := "(J)V" } : Jvm.MethodName) prog_11_method_1_code (3 : Nat) (Option.none : Option Jvm.ClassFile.FieldType)).before args0 about1 = true := code_word (m := ⟨20, 0⟩) (meth := k20m0) (c := k20c0) (by decide +kernel) rfl rfl rfl (by decide +kernel)
set_option maxRecDepth 65536 in
theorem w_c28 : (Jvm.Cond.code ({ cls := "com/example/versioned_table/versionedtable/KeyHold", name := "waitBefore", desc := "(J)J" } : Jvm.MethodName) prog_11_method_2_code (9 : Nat) (Option.some Jvm.ClassFile.FieldType.long)).before args0 about1 = true := code_word (m := ⟨20, 1⟩) (meth := k20m1) (c := k20c1) (by decide +kernel) rfl rfl rfl (by decide +kernel)
set_option maxRecDepth 65536 in
theorem w_c29 : (Jvm.Cond.code ({ cls := "java/util/Optional", name := "filter", desc := "(Ljava/util/function/Predicate;)Ljava/util/Optional;" } : Jvm.MethodName) jdk_32_method_10_code (2 : Nat) (Option.some (Jvm.ClassFile.FieldType.object "java/util/Optional"))).before args0 about1 = true := code_word (m := ⟨18, 6⟩) (meth := k18m6) (c := k18c6) (by decide +kernel) rfl rfl rfl (by decide +kernel)
set_option maxRecDepth 65536 in
theorem w_c30 : (Jvm.Cond.code ({ cls := "java/util/Objects", name := "requireNonNull", desc := "(Ljava/lang/Object;)Ljava/lang/Object;" } : Jvm.MethodName) jdk_31_method_10_code (1 : Nat) (Option.some (Jvm.ClassFile.FieldType.object "java/lang/Object"))).before args0 about1 = true := code_word (m := ⟨11, 1⟩) (meth := k11m1) (c := k11c1) (by decide +kernel) rfl rfl rfl (by decide +kernel)
set_option maxRecDepth 65536 in
theorem w_c31 : (Jvm.Cond.code ({ cls := "java/util/Optional", name := "isEmpty", desc := "()Z" } : Jvm.MethodName) jdk_32_method_7_code (1 : Nat) (Option.some Jvm.ClassFile.FieldType.boolean)).before args0 about1 = true := code_word (m := ⟨18, 5⟩) (meth := k18m5) (c := k18c5) (by decide +kernel) rfl rfl rfl (by decide +kernel)
set_option maxRecDepth 65536 in
theorem w_c32 : (Jvm.Cond.code ({ cls := "java/util/Optional", name := "isPresent", desc := "()Z" } : Jvm.MethodName) jdk_32_method_6_code (1 : Nat) (Option.some Jvm.ClassFile.FieldType.boolean)).before args0 about1 = true := code_word (m := ⟨18, 4⟩) (meth := k18m4) (c := k18c4) (by decide +kernel) rfl rfl rfl (by decide +kernel)
set_option maxRecDepth 65536 in
theorem w_c33 : (Jvm.Cond.code ({ cls := "com/example/versioned_table/versionedtable/KeyHold", name := "holds", desc := "()Z" } : Jvm.MethodName) prog_11_method_4_code (1 : Nat) (Option.some Jvm.ClassFile.FieldType.boolean)).before args0 about1 = true := code_word (m := ⟨20, 3⟩) (meth := k20m3) (c := k20c3) (by decide +kernel) rfl rfl rfl (by decide +kernel)
set_option maxRecDepth 65536 in
theorem w_c34 : (Jvm.Cond.code ({ cls := "com/example/versioned_table/versionedtable/KeyHold", name := "landed", desc := "(Lcom/example/versioned_table/versionedtable/StoredRecord;Lcom/example/versioned_table/versionedtable/StoredRecord;JJ)V" } : Jvm.MethodName) prog_11_method_3_code (8 : Nat) (Option.none : Option Jvm.ClassFile.FieldType)).before args0 about1 = true := code_word (m := ⟨20, 2⟩) (meth := k20m2) (c := k20c2) (by decide +kernel) rfl rfl rfl (by decide +kernel)
set_option maxRecDepth 65536 in
theorem w_c35 : (Jvm.Cond.code ({ cls := "java/util/Optional", name := "of", desc := "(Ljava/lang/Object;)Ljava/util/Optional;" } : Jvm.MethodName) jdk_32_method_3_code (1 : Nat) (Option.some (Jvm.ClassFile.FieldType.object "java/util/Optional"))).before args0 about1 = true := code_word (m := ⟨18, 2⟩) (meth := k18m2) (c := k18c2) (by decide +kernel) rfl rfl rfl (by decide +kernel)
set_option maxRecDepth 65536 in
theorem w_c36 : (Jvm.Cond.code ({ cls := "java/util/Optional", name := "<init>", desc := "(Ljava/lang/Object;)V" } : Jvm.MethodName) jdk_32_method_2_code (2 : Nat) (Option.none : Option Jvm.ClassFile.FieldType)).before args0 about1 = true := code_word (m := ⟨18, 1⟩) (meth := k18m1) (c := k18c1) (by decide +kernel) rfl rfl rfl (by decide +kernel)
set_option maxRecDepth 65536 in
theorem w_c37 : (Jvm.Cond.code ({ cls := "com/example/versioned_table/versionedtable/KeyHold", name := "idleFrom", desc := "(J)J" } : Jvm.MethodName) prog_11_method_5_code (5 : Nat) (Option.some Jvm.ClassFile.FieldType.long)).before args0 about1 = true := code_word (m := ⟨20, 4⟩) (meth := k20m4) (c := k20c4) (by decide +kernel) rfl rfl rfl (by decide +kernel)
set_option maxRecDepth 65536 in
theorem w_c38 : (Jvm.Cond.code ({ cls := "java/util/Optional", name := "orElseGet", desc := "(Ljava/util/function/Supplier;)Ljava/lang/Object;" } : Jvm.MethodName) jdk_32_method_16_code (2 : Nat) (Option.some (Jvm.ClassFile.FieldType.object "java/lang/Object"))).before args0 about1 = true := code_word (m := ⟨18, 8⟩) (meth := k18m8) (c := k18c8) (by decide +kernel) rfl rfl rfl (by decide +kernel)
set_option maxRecDepth 65536 in
theorem w_c39 : (Jvm.Cond.code ({ cls := "com/example/versioned_table/versionedtable/KeyHold", name := "lambda$idleFrom$2", desc := "(J)Ljava/lang/Long;" } : Jvm.MethodName) prog_11_method_13_code (3 : Nat) (Option.some (Jvm.ClassFile.FieldType.object "java/lang/Long"))).before args0 about1 = true := code_word (m := ⟨20, 9⟩) (meth := k20m9) (c := k20c9) (by decide +kernel) rfl rfl rfl (by decide +kernel)
set_option maxRecDepth 65536 in
theorem w_c40 : (Jvm.Cond.code ({ cls := "com/example/versioned_table/versionedtable/KeyHold", name := "nextPauseNanos", desc := "()J" } : Jvm.MethodName) prog_11_method_9_code (3 : Nat) (Option.some Jvm.ClassFile.FieldType.long)).before args0 about1 = true := code_word (m := ⟨20, 6⟩) (meth := k20m6) (c := k20c6) (by decide +kernel) rfl rfl rfl (by decide +kernel)
set_option maxRecDepth 65536 in
theorem w_c41 : (Jvm.Cond.code ({ cls := "java/lang/Long", name := "lowestOneBit", desc := "(J)J" } : Jvm.MethodName) jdk_35_method_47_code (2 : Nat) (Option.some Jvm.ClassFile.FieldType.long)).before args0 about1 = true := code_word (m := ⟨23, 3⟩) (meth := k23m3) (c := k23c3) (by decide +kernel) rfl rfl rfl (by decide +kernel)
set_option maxRecDepth 65536 in
theorem w_c42 : (Jvm.Cond.code ({ cls := "java/lang/Math", name := "max", desc := "(JJ)J" } : Jvm.MethodName) jdk_29_method_66_code (4 : Nat) (Option.some Jvm.ClassFile.FieldType.long)).before args0 about1 = true := code_word (m := ⟨24, 1⟩) (meth := k24m1) (c := k24c1) (by decide +kernel) rfl rfl rfl (by decide +kernel)
set_option maxRecDepth 65536 in
theorem w_c43 : (Jvm.Cond.code ({ cls := "java/lang/Math", name := "min", desc := "(JJ)J" } : Jvm.MethodName) jdk_29_method_70_code (4 : Nat) (Option.some Jvm.ClassFile.FieldType.long)).before args0 about1 = true := code_word (m := ⟨24, 2⟩) (meth := k24m2) (c := k24c2) (by decide +kernel) rfl rfl rfl (by decide +kernel)
set_option maxRecDepth 65536 in
theorem w_c44 : (Jvm.Cond.code ({ cls := "com/example/versioned_table/versionedtable/KeyHold", name := "pauseNanos", desc := "()J" } : Jvm.MethodName) prog_11_method_10_code (1 : Nat) (Option.some Jvm.ClassFile.FieldType.long)).before args0 about1 = true := code_word (m := ⟨20, 7⟩) (meth := k20m7) (c := k20c7) (by decide +kernel) rfl rfl rfl (by decide +kernel)
set_option maxRecDepth 65536 in
theorem w_c45 : (Jvm.Cond.code ({ cls := "com/example/versioned_table/versionedtable/KeyHold", name := "pauseNanos", desc := "(JJ)J" } : Jvm.MethodName) prog_11_method_11_code (4 : Nat) (Option.some Jvm.ClassFile.FieldType.long)).before args0 about1 = true := code_word (m := ⟨20, 8⟩) (meth := k20m8) (c := k20c8) (by decide +kernel) rfl rfl rfl (by decide +kernel)
set_option maxRecDepth 65536 in
theorem w_c46 : (Jvm.Cond.code ({ cls := "java/lang/Long", name := "valueOf", desc := "(J)Ljava/lang/Long;" } : Jvm.MethodName) jdk_35_method_24_code (3 : Nat) (Option.some (Jvm.ClassFile.FieldType.object "java/lang/Long"))).before args0 about1 = true := code_word (m := ⟨23, 0⟩) (meth := k23m0) (c := k23c0) (by decide +kernel) rfl rfl rfl (by decide +kernel)
set_option maxRecDepth 65536 in
theorem w_c47 : (Jvm.Cond.code ({ cls := "java/lang/Long", name := "<init>", desc := "(J)V" } : Jvm.MethodName) jdk_35_method_26_code (3 : Nat) (Option.none : Option Jvm.ClassFile.FieldType)).before args0 about1 = true := code_word (m := ⟨23, 1⟩) (meth := k23m1) (c := k23c1) (by decide +kernel) rfl rfl rfl (by decide +kernel)
set_option maxRecDepth 65536 in
theorem w_c48 : (Jvm.Cond.code ({ cls := "java/lang/Number", name := "<init>", desc := "()V" } : Jvm.MethodName) jdk_18_method_1_code (1 : Nat) (Option.none : Option Jvm.ClassFile.FieldType)).before args0 about1 = true := code_word (m := ⟨22, 0⟩) (meth := k22m0) (c := k22c0) (by decide +kernel) rfl rfl rfl (by decide +kernel)
set_option maxRecDepth 65536 in
theorem w_c49 : (Jvm.Cond.code ({ cls := "java/lang/Long", name := "longValue", desc := "()J" } : Jvm.MethodName) jdk_35_method_31_code (1 : Nat) (Option.some Jvm.ClassFile.FieldType.long)).before args0 about1 = true := code_word (m := ⟨23, 2⟩) (meth := k23m2) (c := k23c2) (by decide +kernel) rfl rfl rfl (by decide +kernel)
set_option maxRecDepth 65536 in
theorem w_c50 : (Jvm.Cond.code ({ cls := "java/util/Optional", name := "orElse", desc := "(Ljava/lang/Object;)Ljava/lang/Object;" } : Jvm.MethodName) jdk_32_method_15_code (2 : Nat) (Option.some (Jvm.ClassFile.FieldType.object "java/lang/Object"))).before args0 about1 = true := code_word (m := ⟨18, 7⟩) (meth := k18m7) (c := k18c7) (by decide +kernel) rfl rfl rfl (by decide +kernel)
set_option maxRecDepth 65536 in
theorem w_c51 : (Jvm.Cond.code ({ cls := "com/example/versioned_table/versionedtable/KeyHold", name := "end", desc := "()V" } : Jvm.MethodName) prog_11_method_8_code (1 : Nat) (Option.none : Option Jvm.ClassFile.FieldType)).before args0 about1 = true := code_word (m := ⟨20, 5⟩) (meth := k20m5) (c := k20c5) (by decide +kernel) rfl rfl rfl (by decide +kernel)
set_option maxRecDepth 65536 in
theorem w_c52 : (Jvm.Cond.code ({ cls := "com/example/versioned_table/versionedtable/KeyHold", name := "lambda$waitBefore$0", desc := "(JLjava/lang/Long;)Z" } : Jvm.MethodName) prog_11_method_15_code (3 : Nat) (Option.some Jvm.ClassFile.FieldType.boolean)).before args0 about1 = true := code_word (m := ⟨20, 11⟩) (meth := k20m11) (c := k20c11) (by decide +kernel) rfl rfl rfl (by decide +kernel)
set_option maxRecDepth 65536 in
theorem w_c53 : (Jvm.Cond.code ({ cls := "java/util/Optional", name := "get", desc := "()Ljava/lang/Object;" } : Jvm.MethodName) jdk_32_method_5_code (1 : Nat) (Option.some (Jvm.ClassFile.FieldType.object "java/lang/Object"))).before args0 about1 = true := code_word (m := ⟨18, 3⟩) (meth := k18m3) (c := k18c3) (by decide +kernel) rfl rfl rfl (by decide +kernel)
def codes1 : List Jvm.Cond := [Jvm.Cond.code x code maxLocals ret, Jvm.Cond.code ({ cls := "com/example/versioned_table/versionedtable/RecordKey", name := "<init>", desc := "(Ljava/lang/String;Ljava/lang/String;)V" } : Jvm.MethodName) prog_23_method_1_code (3 : Nat) (Option.none : Option Jvm.ClassFile.FieldType), Jvm.Cond.code ({ cls := "java/lang/Record", name := "<init>", desc := "()V" } : Jvm.MethodName) jdk_30_method_1_code (1 : Nat) (Option.none : Option Jvm.ClassFile.FieldType), Jvm.Cond.code ({ cls := "java/lang/Object", name := "<init>", desc := "()V" } : Jvm.MethodName) object_method_1_code (1 : Nat) (Option.none : Option Jvm.ClassFile.FieldType), Jvm.Cond.code ({ cls := "com/example/versioned_table/versionedtable/RecordKey", name := "requirePartition", desc := "(Ljava/lang/String;)V" } : Jvm.MethodName) prog_23_method_5_code (1 : Nat) (Option.none : Option Jvm.ClassFile.FieldType), Jvm.Cond.code ({ cls := "com/example/versioned_table/versionedtable/RecordKey", name := "requirePart", desc := "(Ljava/lang/String;Ljava/lang/String;I)V" } : Jvm.MethodName) prog_23_method_7_code (3 : Nat) (Option.none : Option Jvm.ClassFile.FieldType), Jvm.Cond.code ({ cls := "java/util/Objects", name := "requireNonNull", desc := "(Ljava/lang/Object;Ljava/util/function/Supplier;)Ljava/lang/Object;" } : Jvm.MethodName) jdk_31_method_16_code (2 : Nat) (Option.some (Jvm.ClassFile.FieldType.object "java/lang/Object")), Jvm.Cond.code ({ cls := "java/lang/String", name := "isEmpty", desc := "()Z" } : Jvm.MethodName) jdk_42_method_55_code (1 : Nat) (Option.some Jvm.ClassFile.FieldType.boolean), Jvm.Cond.code ({ cls := "com/example/versioned_table/versionedtable/RecordKey", name := "requireWellFormed", desc := "(Ljava/lang/String;Ljava/lang/String;)V" } : Jvm.MethodName) prog_23_method_6_code (3 : Nat) (Option.none : Option Jvm.ClassFile.FieldType), Jvm.Cond.code ({ cls := "com/example/versioned_table/versionedtable/Utf8", name := "unpairedSurrogate", desc := "(Ljava/lang/String;)Ljava/util/OptionalInt;" } : Jvm.MethodName) prog_55_method_5_code (2 : Nat) (Option.some (Jvm.ClassFile.FieldType.object "java/util/OptionalInt")), Jvm.Cond.code ({ cls := "java/lang/String", name := "length", desc := "()I" } : Jvm.MethodName) jdk_42_method_54_code (1 : Nat) (Option.some Jvm.ClassFile.FieldType.int), Jvm.Cond.code ({ cls := "java/lang/String", name := "coder", desc := "()B" } : Jvm.MethodName) jdk_42_method_152_code (1 : Nat) (Option.some Jvm.ClassFile.FieldType.byte), Jvm.Cond.code ({ cls := "java/lang/String", name := "charAt", desc := "(I)C" } : Jvm.MethodName) jdk_42_method_56_code (2 : Nat) (Option.some Jvm.ClassFile.FieldType.char), Jvm.Cond.code ({ cls := "java/lang/String", name := "isLatin1", desc := "()Z" } : Jvm.MethodName) jdk_42_method_154_code (1 : Nat) (Option.some Jvm.ClassFile.FieldType.boolean), Jvm.Cond.code ({ cls := "java/lang/StringLatin1", name := "charAt", desc := "([BI)C" } : Jvm.MethodName) jdk_43_method_2_code (2 : Nat) (Option.some Jvm.ClassFile.FieldType.char), Jvm.Cond.code ({ cls := "java/lang/String", name := "checkIndex", desc := "(II)V" } : Jvm.MethodName) jdk_42_method_155_code (2 : Nat) (Option.none : Option Jvm.ClassFile.FieldType), Jvm.Cond.code ({ cls := "jdk/internal/util/Preconditions", name := "checkIndex", desc := "(IILjava/util/function/BiFunction;)I" } : Jvm.MethodName) jdk_41_method_11_code (3 : Nat) (Option.some Jvm.ClassFile.FieldType.int), Jvm.Cond.code ({ cls := "java/lang/Character", name := "isSurrogate", desc := "(C)Z" } : Jvm.MethodName) jdk_89_method_16_code (1 : Nat) (Option.some Jvm.ClassFile.FieldType.boolean), Jvm.Cond.code ({ cls := "java/util/OptionalInt", name := "empty", desc := "()Ljava/util/OptionalInt;" } : Jvm.MethodName) jdk_2649_method_2_code (0 : Nat) (Option.some (Jvm.ClassFile.FieldType.object "java/util/OptionalInt")), Jvm.Cond.code ({ cls := "java/util/OptionalInt", name := "isPresent", desc := "()Z" } : Jvm.MethodName) jdk_2649_method_6_code (1 : Nat) (Option.some Jvm.ClassFile.FieldType.boolean), Jvm.Cond.code ({ cls := "com/example/versioned_table/versionedtable/Utf8", name := "isOver", desc := "(Ljava/lang/String;J)Z" } : Jvm.MethodName) prog_55_method_4_code (3 : Nat) (Option.some Jvm.ClassFile.FieldType.boolean), Jvm.Cond.code ({ cls := "com/example/versioned_table/versionedtable/Utf8", name := "mostLength", desc := "(Ljava/lang/String;)J" } : Jvm.MethodName) prog_55_method_3_code (1 : Nat) (Option.some Jvm.ClassFile.FieldType.long), Jvm.Cond.code ({ cls := "java/util/Optional", name := "empty", desc := "()Ljava/util/Optional;" } : Jvm.MethodName) jdk_32_method_1_code (1 : Nat) (Option.some (Jvm.ClassFile.FieldType.object "java/util/Optional")), Jvm.Cond.code ({ cls := "com/example/versioned_table/versionedtable/StoredRecord", name := "<init>", desc := "(Lcom/example/versioned_table/versionedtable/RecordKey;JLjava/lang/String;ILjava/util/Optional;Ljava/util/Optional;)V" } : Jvm.MethodName) prog_44_method_1_code (8 : Nat) (Option.none : Option Jvm.ClassFile.FieldType), Jvm.Cond.code ({ cls := "java/util/Objects", name := "requireNonNull", desc := "(Ljava/lang/Object;Ljava/lang/String;)Ljava/lang/Object;" } : Jvm.MethodName) jdk_31_method_11_code (2 : Nat) (Option.some (Jvm.ClassFile.FieldType.object "java/lang/Object")), Jvm.Cond.code ({ cls := "com/example/versioned_table/versionedtable/SchemaNumbers", name := "requireSchemaNumber", desc := "(ILjava/lang/String;)I" } : Jvm.MethodName) prog_40_method_3_code (2 : Nat) (Option.some Jvm.ClassFile.FieldType.int), Jvm.Cond.code ({ cls := "com/example/versioned_table/versionedtable/SchemaNumbers", name := "isSchemaNumber", desc := "(I)Z" } : Jvm.MethodName) prog_40_method_2_code (1 : Nat) (Option.some Jvm.ClassFile.FieldType.boolean), Jvm.Cond.code ({ cls := "com/example/versioned_table/versionedtable/KeyHold", name := "<init>", desc := "(J)V" } : Jvm.MethodName) prog_11_method_1_code (3 : Nat) (Option.none : Option Jvm.ClassFile.FieldType), Jvm.Cond.code ({ cls := "com/example/versioned_table/versionedtable/KeyHold", name := "waitBefore", desc := "(J)J" } : Jvm.MethodName) prog_11_method_2_code (9 : Nat) (Option.some Jvm.ClassFile.FieldType.long), Jvm.Cond.code ({ cls := "java/util/Optional", name := "filter", desc := "(Ljava/util/function/Predicate;)Ljava/util/Optional;" } : Jvm.MethodName) jdk_32_method_10_code (2 : Nat) (Option.some (Jvm.ClassFile.FieldType.object "java/util/Optional")), Jvm.Cond.code ({ cls := "java/util/Objects", name := "requireNonNull", desc := "(Ljava/lang/Object;)Ljava/lang/Object;" } : Jvm.MethodName) jdk_31_method_10_code (1 : Nat) (Option.some (Jvm.ClassFile.FieldType.object "java/lang/Object")), Jvm.Cond.code ({ cls := "java/util/Optional", name := "isEmpty", desc := "()Z" } : Jvm.MethodName) jdk_32_method_7_code (1 : Nat) (Option.some Jvm.ClassFile.FieldType.boolean), Jvm.Cond.code ({ cls := "java/util/Optional", name := "isPresent", desc := "()Z" } : Jvm.MethodName) jdk_32_method_6_code (1 : Nat) (Option.some Jvm.ClassFile.FieldType.boolean), Jvm.Cond.code ({ cls := "com/example/versioned_table/versionedtable/KeyHold", name := "holds", desc := "()Z" } : Jvm.MethodName) prog_11_method_4_code (1 : Nat) (Option.some Jvm.ClassFile.FieldType.boolean), Jvm.Cond.code ({ cls := "com/example/versioned_table/versionedtable/KeyHold", name := "landed", desc := "(Lcom/example/versioned_table/versionedtable/StoredRecord;Lcom/example/versioned_table/versionedtable/StoredRecord;JJ)V" } : Jvm.MethodName) prog_11_method_3_code (8 : Nat) (Option.none : Option Jvm.ClassFile.FieldType), Jvm.Cond.code ({ cls := "java/util/Optional", name := "of", desc := "(Ljava/lang/Object;)Ljava/util/Optional;" } : Jvm.MethodName) jdk_32_method_3_code (1 : Nat) (Option.some (Jvm.ClassFile.FieldType.object "java/util/Optional")), Jvm.Cond.code ({ cls := "java/util/Optional", name := "<init>", desc := "(Ljava/lang/Object;)V" } : Jvm.MethodName) jdk_32_method_2_code (2 : Nat) (Option.none : Option Jvm.ClassFile.FieldType), Jvm.Cond.code ({ cls := "com/example/versioned_table/versionedtable/KeyHold", name := "idleFrom", desc := "(J)J" } : Jvm.MethodName) prog_11_method_5_code (5 : Nat) (Option.some Jvm.ClassFile.FieldType.long), Jvm.Cond.code ({ cls := "java/util/Optional", name := "orElseGet", desc := "(Ljava/util/function/Supplier;)Ljava/lang/Object;" } : Jvm.MethodName) jdk_32_method_16_code (2 : Nat) (Option.some (Jvm.ClassFile.FieldType.object "java/lang/Object")), Jvm.Cond.code ({ cls := "com/example/versioned_table/versionedtable/KeyHold", name := "lambda$idleFrom$2", desc := "(J)Ljava/lang/Long;" } : Jvm.MethodName) prog_11_method_13_code (3 : Nat) (Option.some (Jvm.ClassFile.FieldType.object "java/lang/Long")), Jvm.Cond.code ({ cls := "com/example/versioned_table/versionedtable/KeyHold", name := "nextPauseNanos", desc := "()J" } : Jvm.MethodName) prog_11_method_9_code (3 : Nat) (Option.some Jvm.ClassFile.FieldType.long), Jvm.Cond.code ({ cls := "java/lang/Long", name := "lowestOneBit", desc := "(J)J" } : Jvm.MethodName) jdk_35_method_47_code (2 : Nat) (Option.some Jvm.ClassFile.FieldType.long), Jvm.Cond.code ({ cls := "java/lang/Math", name := "max", desc := "(JJ)J" } : Jvm.MethodName) jdk_29_method_66_code (4 : Nat) (Option.some Jvm.ClassFile.FieldType.long), Jvm.Cond.code ({ cls := "java/lang/Math", name := "min", desc := "(JJ)J" } : Jvm.MethodName) jdk_29_method_70_code (4 : Nat) (Option.some Jvm.ClassFile.FieldType.long), Jvm.Cond.code ({ cls := "com/example/versioned_table/versionedtable/KeyHold", name := "pauseNanos", desc := "()J" } : Jvm.MethodName) prog_11_method_10_code (1 : Nat) (Option.some Jvm.ClassFile.FieldType.long), Jvm.Cond.code ({ cls := "com/example/versioned_table/versionedtable/KeyHold", name := "pauseNanos", desc := "(JJ)J" } : Jvm.MethodName) prog_11_method_11_code (4 : Nat) (Option.some Jvm.ClassFile.FieldType.long), Jvm.Cond.code ({ cls := "java/lang/Long", name := "valueOf", desc := "(J)Ljava/lang/Long;" } : Jvm.MethodName) jdk_35_method_24_code (3 : Nat) (Option.some (Jvm.ClassFile.FieldType.object "java/lang/Long")), Jvm.Cond.code ({ cls := "java/lang/Long", name := "<init>", desc := "(J)V" } : Jvm.MethodName) jdk_35_method_26_code (3 : Nat) (Option.none : Option Jvm.ClassFile.FieldType), Jvm.Cond.code ({ cls := "java/lang/Number", name := "<init>", desc := "()V" } : Jvm.MethodName) jdk_18_method_1_code (1 : Nat) (Option.none : Option Jvm.ClassFile.FieldType), Jvm.Cond.code ({ cls := "java/lang/Long", name := "longValue", desc := "()J" } : Jvm.MethodName) jdk_35_method_31_code (1 : Nat) (Option.some Jvm.ClassFile.FieldType.long), Jvm.Cond.code ({ cls := "java/util/Optional", name := "orElse", desc := "(Ljava/lang/Object;)Ljava/lang/Object;" } : Jvm.MethodName) jdk_32_method_15_code (2 : Nat) (Option.some (Jvm.ClassFile.FieldType.object "java/lang/Object")), Jvm.Cond.code ({ cls := "com/example/versioned_table/versionedtable/KeyHold", name := "end", desc := "()V" } : Jvm.MethodName) prog_11_method_8_code (1 : Nat) (Option.none : Option Jvm.ClassFile.FieldType), Jvm.Cond.code ({ cls := "com/example/versioned_table/versionedtable/KeyHold", name := "lambda$waitBefore$0", desc := "(JLjava/lang/Long;)Z" } : Jvm.MethodName) prog_11_method_15_code (3 : Nat) (Option.some Jvm.ClassFile.FieldType.boolean), Jvm.Cond.code ({ cls := "java/util/Optional", name := "get", desc := "()Ljava/lang/Object;" } : Jvm.MethodName) jdk_32_method_5_code (1 : Nat) (Option.some (Jvm.ClassFile.FieldType.object "java/lang/Object"))]
set_option maxRecDepth 65536 in
theorem codes_eq : words1.filter isCode = codes1 := rfl
theorem w_codes : ∀ c ∈ words1.filter isCode, c.before args0 about1 = true := by
  rw [codes_eq]
  intro c hc
  simp only [codes1, List.mem_cons, List.not_mem_nil, or_false] at hc
  rcases hc with rfl | rfl | rfl | rfl | rfl | rfl | rfl | rfl | rfl | rfl | rfl | rfl | rfl | rfl | rfl | rfl | rfl | rfl | rfl | rfl | rfl | rfl | rfl | rfl | rfl | rfl | rfl | rfl | rfl | rfl | rfl | rfl | rfl | rfl | rfl | rfl | rfl | rfl | rfl | rfl | rfl | rfl | rfl | rfl | rfl | rfl | rfl | rfl | rfl | rfl | rfl | rfl | rfl | rfl
  · exact w_c0
  · exact w_c1
  · exact w_c2
  · exact w_c3
  · exact w_c4
  · exact w_c5
  · exact w_c6
  · exact w_c7
  · exact w_c8
  · exact w_c9
  · exact w_c10
  · exact w_c11
  · exact w_c12
  · exact w_c13
  · exact w_c14
  · exact w_c15
  · exact w_c16
  · exact w_c17
  · exact w_c18
  · exact w_c19
  · exact w_c20
  · exact w_c21
  · exact w_c22
  · exact w_c23
  · exact w_c24
  · exact w_c25
  · exact w_c26
  · exact w_c27
  · exact w_c28
  · exact w_c29
  · exact w_c30
  · exact w_c31
  · exact w_c32
  · exact w_c33
  · exact w_c34
  · exact w_c35
  · exact w_c36
  · exact w_c37
  · exact w_c38
  · exact w_c39
  · exact w_c40
  · exact w_c41
  · exact w_c42
  · exact w_c43
  · exact w_c44
  · exact w_c45
  · exact w_c46
  · exact w_c47
  · exact w_c48
  · exact w_c49
  · exact w_c50
  · exact w_c51
  · exact w_c52
  · exact w_c53
set_option maxRecDepth 65536 in
theorem w_t1 : (words1.take 24).all (fun c => isCode c || c.before args0 about1) = true := by decide +kernel
set_option maxRecDepth 65536 in
theorem w_t2 : ((words1.drop 24).take 24).all (fun c => isCode c || c.before args0 about1) = true := by decide +kernel
set_option maxRecDepth 65536 in
theorem w_t3 : (((words1.drop 24).drop 24).take 24).all (fun c => isCode c || c.before args0 about1) = true := by decide +kernel
set_option maxRecDepth 65536 in
theorem w_t4 : ((((words1.drop 24).drop 24).drop 24).take 24).all (fun c => isCode c || c.before args0 about1) = true := by decide +kernel
set_option maxRecDepth 65536 in
theorem w_t5 : (((((words1.drop 24).drop 24).drop 24).drop 24).take 24).all (fun c => isCode c || c.before args0 about1) = true := by decide +kernel
set_option maxRecDepth 65536 in
theorem w_t6 : ((((((words1.drop 24).drop 24).drop 24).drop 24).drop 24).take 24).all (fun c => isCode c || c.before args0 about1) = true := by decide +kernel
set_option maxRecDepth 65536 in
theorem w_t7 : (((((((words1.drop 24).drop 24).drop 24).drop 24).drop 24).drop 24).take 24).all (fun c => isCode c || c.before args0 about1) = true := by decide +kernel
set_option maxRecDepth 65536 in
theorem w_t8 : ((((((((words1.drop 24).drop 24).drop 24).drop 24).drop 24).drop 24).drop 24).take 24).all (fun c => isCode c || c.before args0 about1) = true := by decide +kernel
set_option maxRecDepth 65536 in
theorem w_t9 : (((((((((words1.drop 24).drop 24).drop 24).drop 24).drop 24).drop 24).drop 24).drop 24).take 24).all (fun c => isCode c || c.before args0 about1) = true := by decide +kernel
set_option maxRecDepth 65536 in
theorem w_t10 : ((((((((((words1.drop 24).drop 24).drop 24).drop 24).drop 24).drop 24).drop 24).drop 24).drop 24).take 24).all (fun c => isCode c || c.before args0 about1) = true := by decide +kernel
set_option maxRecDepth 65536 in
theorem w_t11 : (((((((((((words1.drop 24).drop 24).drop 24).drop 24).drop 24).drop 24).drop 24).drop 24).drop 24).drop 24).take 24).all (fun c => isCode c || c.before args0 about1) = true := by decide +kernel
set_option maxRecDepth 65536 in
theorem w_t12 : ((((((((((((words1.drop 24).drop 24).drop 24).drop 24).drop 24).drop 24).drop 24).drop 24).drop 24).drop 24).drop 24).take 24).all (fun c => isCode c || c.before args0 about1) = true := by decide +kernel
set_option maxRecDepth 65536 in
theorem w_t13 : (((((((((((((words1.drop 24).drop 24).drop 24).drop 24).drop 24).drop 24).drop 24).drop 24).drop 24).drop 24).drop 24).drop 24).take 24).all (fun c => isCode c || c.before args0 about1) = true := by decide +kernel
set_option maxRecDepth 65536 in
theorem w_t14 : (((((((((((((words1.drop 24).drop 24).drop 24).drop 24).drop 24).drop 24).drop 24).drop 24).drop 24).drop 24).drop 24).drop 24).drop 24).all (fun c => isCode c || c.before args0 about1) = true := by decide +kernel
theorem w_tables : (allAtoms (Jvm.Cond.code x code maxLocals ret :: tables_1)).before args0 about1 = true := by
  rw [allAtoms_all]
  show words1.all (fun c => c.before args0 about1) = true
  refine all_split ?_ w_codes
  rw [← List.take_append_drop 24 words1, List.all_append, w_t1, ← List.take_append_drop 24 (words1.drop 24), List.all_append, w_t2, ← List.take_append_drop 24 ((words1.drop 24).drop 24), List.all_append, w_t3, ← List.take_append_drop 24 (((words1.drop 24).drop 24).drop 24), List.all_append, w_t4, ← List.take_append_drop 24 ((((words1.drop 24).drop 24).drop 24).drop 24), List.all_append, w_t5, ← List.take_append_drop 24 (((((words1.drop 24).drop 24).drop 24).drop 24).drop 24), List.all_append, w_t6, ← List.take_append_drop 24 ((((((words1.drop 24).drop 24).drop 24).drop 24).drop 24).drop 24), List.all_append, w_t7, ← List.take_append_drop 24 (((((((words1.drop 24).drop 24).drop 24).drop 24).drop 24).drop 24).drop 24), List.all_append, w_t8, ← List.take_append_drop 24 ((((((((words1.drop 24).drop 24).drop 24).drop 24).drop 24).drop 24).drop 24).drop 24), List.all_append, w_t9, ← List.take_append_drop 24 (((((((((words1.drop 24).drop 24).drop 24).drop 24).drop 24).drop 24).drop 24).drop 24).drop 24), List.all_append, w_t10, ← List.take_append_drop 24 ((((((((((words1.drop 24).drop 24).drop 24).drop 24).drop 24).drop 24).drop 24).drop 24).drop 24).drop 24), List.all_append, w_t11, ← List.take_append_drop 24 (((((((((((words1.drop 24).drop 24).drop 24).drop 24).drop 24).drop 24).drop 24).drop 24).drop 24).drop 24).drop 24), List.all_append, w_t12, ← List.take_append_drop 24 ((((((((((((words1.drop 24).drop 24).drop 24).drop 24).drop 24).drop 24).drop 24).drop 24).drop 24).drop 24).drop 24).drop 24), List.all_append, w_t13, w_t14]
  rfl
set_option maxRecDepth 65536 in
theorem w_rest : rest_1_c.before args0 about1 = true := by decide +kernel
set_option maxRecDepth 65536 in
theorem w_case : (Jvm.Cond.and given_1 narrow_1).before args0 about1 = true := by decide +kernel
set_option maxRecDepth 65536 in
theorem w_consts : constsHeld consts_1 about1 := Jvm.Lit.constsHeldB_iff.mp (by decide +kernel)
theorem w_applies : (headSpec (Jvm.Cond.code x code maxLocals ret :: tables_1) room_1).applies x e0.platform about1 = true :=
  (Spec.applies_iff w_frames).mpr ⟨w_running, w_runnable, w_alone, w_named, w_hears, w_ripe, w_room, w_tables⟩
theorem atStart : AtStart classFile x code maxLocals ret World_1 tables_1 room_1 Calls_1 rest_1 Pre_1 launch0 p0 e0 about1 theMethod args0 below0 :=
  ⟨lists_1, trivial, launch0.admits_env _ _ _, launch0.least_env, fairChoices_fair.cas, fairChoices_fair.clock, w_frames, w_args, w_heap, w_applies, ⟨w_consts, trivial⟩, w_rest, w_case⟩
end start1
theorem witness_1 : WitnessClaimed_1 := ⟨start1.p0, start1.e0, start1.about1, start1.theMethod, start1.args0, start1.below0, start1.atStart⟩
end Jvm.Pilot.@@N@@
