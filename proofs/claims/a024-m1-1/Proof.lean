import JvmDerived
import JvmDerived.Pilot.@@N@@Statement
import JvmDerived.Pilot.@@N@@Code
set_option linter.unusedVariables false
set_option linter.unusedSimpArgs false
@@BLOCK:NumsL.lean.txt@@
namespace Jvm.Pilot.@@N@@
open Jvm Jvm.ClassFile Sem Op Lib Jvm.Free Jvm.Stand Jvm.LawKit Jvm.RoadKit Bundle Jvm.Pilot.@@N@@.Jvm.D
section Own
variable {p : Program} {l : Launch} {e : Env} {R : Room} {s : State} {m : MethodId} {args : Array Value} {below : List Frame} {meth : Method} {c : Code} {T : State} {locs : List Loc} {cells slots : Nat} {Z : State} {a0 : Array Value} {h : Heap}
/-- from the state A the run comes to the method's end, and Q says what it leaves -/
def OwnFin (p : Program) (e : Env) (below : List Frame) (s : State) (Q : Option Value → Heap → List Loc → Prop) (C S : Nat) (A : State) : Prop :=
  ∃ s₂ o, Steps p.tables e below A s₂ ∧ s₂.status = .running ∧ Ended s₂ below o ∧ ∃ v L, o = .returned v ∧ Q v s₂.heap L ∧ FrameEnd s o s₂ L C S
variable {Q : Option Value → Heap → List Loc → Prop} {C S : Nat}
theorem own_go {A B : State} (h : ∀ t, Steps p.tables e below B t → Steps p.tables e below A t) (k : OwnFin p e below s Q C S B) : OwnFin p e below s Q C S A := by
  obtain ⟨s₂, o, h1, r⟩ := k
  exact ⟨s₂, o, h _ h1, r⟩
theorem own_ret (X : Stand p l e R s m args below meth c T locs cells slots) {v : Option Value} (hlk : meth.locks = false) (hv : meth.sig.returnType = none → v = none) {g : JFrame}
    (hstep : ∀ fs, (∀ (f : JFrame) (acts : List Action), f.method = m → f.locked = none → f.entered = [] → (doReturn e (T.setTop f) acts v).1 = T.setFrames fs) → Steps p.tables e below (T.setTop g) (T.setFrames fs))
    (hc : cells ≤ C) (hs : slots ≤ S) (hQ : Q v T.heap locs) : OwnFin p e below s Q C S (T.setTop g) := by
  obtain ⟨fs, hr, hrun, hended, hW, hsame⟩ := X.leave hv hlk
  exact ⟨_, _, hstep fs hr, hrun, hended, _, _, rfl, hQ, ⟨_, rfl⟩, hW, hsame.mono hc hs⟩
/-- a method's contract, in the form that backOf takes -/
abbrev OwnCtr (l : Launch) (Z : State) (y : MethodName) (ws : List Jvm.Cond) (bytes : ByteArray) (maxL : Nat) (ret : Option FieldType) (rm : Room) (as' : Array Value) (h0 : Heap) (Q : Option Value → Heap → List Loc → Prop) : Prop :=
  MetFree l y (head1 (Jvm.Cond.code y bytes maxL ret :: ws) rm) (fun a U => a = as' ∧ Z.Warmed39 U.vm ∧ U.heap = h0) (fun _ _ _ _ _ => True) (fun _ U o U' => ∃ v L, o = .returned v ∧ Q v U'.heap L ∧ FrameEnd U o U' L rm.cells rm.slots)
theorem own_body {l : Launch} {Z : State} {y : MethodName} {ws : List Jvm.Cond} {bytes : ByteArray} {maxL : Nat} {ret : Option FieldType} {rm : Room} {as' : Array Value} {h0 : Heap} {g0 : MethodId → JFrame}
    (hpl : plainFor y = true) (hef : ∀ m, entryFrame m as' maxL = g0 m)
    (body : ∀ (p : Program) (e : Env) (s : State) (m : MethodId) (below : List Frame) (meth : Method) (c : Code) (s₁ : State), Stand p l e rm s m as' below meth c s₁ [] 0 0 → p.tables.exec = Jvm.exec → c.code = bytes → c.maxLocals = maxL →
      s.vm.findClass y.cls = some m.cls → meth.name = y.name → Z.Warmed39 s.vm → s₁.heap = h0 → meth.sig.returnType = ret → meth.locks = false → OwnFin p e below s Q rm.cells rm.slots (s₁.setTop (g0 m))) :
    OwnCtr l Z y ws bytes maxL ret rm as' h0 Q := by
  refine MetFree.of_bodySF hpl hisR ?_
  intro p e s m args below meth c s₁ Bd hml0 hP hK
  obtain ⟨rfl, hZ, hh⟩ := hP
  have e0 : s₁.heap = h0 := by rw [← hh, Bd.state]; rfl
  have k := body p e s m below meth c s₁ (Stand.of_body Bd) Bd.exec Bd.bytes hml0 (findClass_of_methodNamed Bd.named) (name_of_methodNamed Bd.named Bd.method).1 hZ e0 Bd.returns Bd.notSynchronized
  rw [← hef m] at k
  exact k
/-- a static call by its contract -/
theorem own_callS (X : Stand p l e R s m args below meth c T locs cells slots) (hx : p.tables.exec = Jvm.exec) (hZ : Z.Warmed39 s.vm) {own : String} {index : Nat} {y : MethodName} {bytes : ByteArray} {maxL : Nat} {ret : Option FieldType} {rm : Room} {as' : Array Value} {Q : Option Value → Heap → List Loc → Prop}
    (hown : s.vm.findClass own = some m.cls) (hlink : (Cond.methodLink own index y).before a0 Z = true) (hstat : (Cond.static y).before a0 Z = true) (hinit : (Cond.initialized y.cls).before a0 Z = true) (hcode : (Cond.code y bytes maxL ret).before a0 Z = true)
    (hy : y.cls ≠ "java/lang/invoke/MethodHandle" ∧ y.cls ≠ "java/lang/invoke/VarHandle") {W : Nat} (hM : OwnCtr l Z y [] bytes maxL ret rm as' h Q) (hf : rm.frames + 1 ≤ R.frames) (hl : W + (maxL + 11) + rm.locals ≤ R.locals)
    {g : JFrame} (hg : g.method = m) (hsize : g.locals.size = c.maxLocals) {argsL rest : List Value} (hlen : ∀ sig, parseMethodDescriptor y.desc = some sig → argsL.length = sig.parameters.length)
    (hstack : g.stack = argsL.reverse ++ rest) (hW : 2 * g.monitorRoom + (rest.map fun v => v.category).sum ≤ W) (hdg : decode c.code g.pc = .ok (.invokestatic index, 3)) (eT : T.heap = h) (ha : argsL.toArray = as') (hc : cells + rm.cells ≤ R.cells) (hs : slots + rm.slots ≤ R.slots) :
    ∃ (v : Option Value) (T' : State) (L : List Loc), Stand p l e R s m args below meth c T' (locs ++ L) (cells + rm.cells) (slots + rm.slots) ∧ Q v T'.heap L ∧ ∀ target, Steps p.tables e below (T'.setTop { g with pc := g.pc + 3, stack := v.toList ++ rest }) target → Steps p.tables e below (T.setTop g) target := by
  obtain ⟨v, _, ⟨T', L', k, n⟩, -, X', ⟨L, hQ, l1, y1, z1⟩, st⟩ := Jvm.LawKit.callS X hx (y := y) hown (mvT hZ hlink) (mvT hZ hstat) (mvT hZ hinit) (mvT hZ hcode) hy (backOf (W := W) hM hZ hcode hinit hf hl) hg hsize hlen hstack hW hdg (fun _ _ => ⟨ha, eT, hc, hs⟩)
  dsimp only [Pt.U, Pt.locs, Pt.cells, Pt.slots] at X' l1 y1 z1 st hQ
  subst l1 y1 z1
  exact ⟨v, T', L, X', hQ, st⟩
/-- a constructor by its contract -/
theorem own_callI (X : Stand p l e R s m args below meth c T locs cells slots) (hx : p.tables.exec = Jvm.exec) (hZ : Z.Warmed39 s.vm) {own : String} {index : Nat} {y : MethodName} {bytes : ByteArray} {maxL : Nat} {rm : Room} {as' : Array Value} {Q : Option Value → Heap → List Loc → Prop}
    (hy1 : y.name = "<init>") (hown : s.vm.findClass own = some m.cls) (hlink : (Cond.methodLink own index y).before a0 Z = true) (hinst : (Cond.instanceMethod y).before a0 Z = true) (hinit : (Cond.initialized y.cls).before a0 Z = true) (hcode : (Cond.code y bytes maxL none).before a0 Z = true)
    (hy : y.cls ≠ "java/lang/invoke/MethodHandle" ∧ y.cls ≠ "java/lang/invoke/VarHandle") {W : Nat} (hM : OwnCtr l Z y [] bytes maxL none rm as' h Q) (hf : rm.frames + 1 ≤ R.frames) (hl : W + (maxL + 11) + rm.locals ≤ R.locals)
    {g : JFrame} (hg : g.method = m) (hsize : g.locals.size = c.maxLocals) {a : Addr} {argsL rest : List Value} (hlen : ∀ sig, parseMethodDescriptor y.desc = some sig → argsL.length = sig.parameters.length)
    (hstack : g.stack = argsL.reverse ++ .ref a :: rest) (hW : 2 * g.monitorRoom + (rest.map fun v => v.category).sum ≤ W) (hdg : decode c.code g.pc = .ok (.invokespecial index, 3)) (eT : T.heap = h) (ha : (.ref a :: argsL).toArray = as') (hc : cells + rm.cells ≤ R.cells) (hs : slots + rm.slots ≤ R.slots) :
    ∃ (v : Option Value) (T' : State) (L : List Loc), Stand p l e R s m args below meth c T' (locs ++ L) (cells + rm.cells) (slots + rm.slots) ∧ Q v T'.heap L ∧ ∀ target, Steps p.tables e below (T'.setTop { g with pc := g.pc + 3, stack := v.toList ++ rest }) target → Steps p.tables e below (T.setTop g) target := by
  obtain ⟨v, _, ⟨T', L', k, n⟩, -, X', ⟨L, hQ, l1, y1, z1⟩, st⟩ := X.specialBack hx (y := y) hy1 hown (mvT hZ hlink) (mvT hZ hinst) (mvT hZ hcode) hy (backOf (W := W) hM hZ hcode hinit hf hl) hg hsize (Steps.refl _) hlen hstack hW hdg (fun _ _ => ⟨ha, eT, hc, hs⟩)
  dsimp only [Pt.U, Pt.locs, Pt.cells, Pt.slots] at X' l1 y1 z1 st hQ
  subst l1 y1 z1
  exact ⟨v, T', L, X', hQ, fun t k => st.trans k⟩
/-- an instance method by its contract -/
theorem own_callV (X : Stand p l e R s m args below meth c T locs cells slots) (hx : p.tables.exec = Jvm.exec) (hZ : Z.Warmed39 s.vm) {own K : String} {index : Nat} {y z : MethodName} {bytes : ByteArray} {maxL : Nat} {ret : Option FieldType} {rm : Room} {as' : Array Value} {Q : Option Value → Heap → List Loc → Prop}
    (hown : s.vm.findClass own = some m.cls) (hlink : (Cond.methodLink own index y).before a0 Z = true) (hdecl : (Cond.declares y).before a0 Z = true) (hnf : NotFace s y) (hsel : (Cond.selects K y z).before a0 Z = true) (hinst : (Cond.instanceMethod z).before a0 Z = true) (hinit : (Cond.initialized z.cls).before a0 Z = true) (hcode : (Cond.code z bytes maxL ret).before a0 Z = true)
    (hy : y.cls ≠ "java/lang/invoke/MethodHandle" ∧ y.cls ≠ "java/lang/invoke/VarHandle") {W : Nat} (hM : OwnCtr l Z z [] bytes maxL ret rm as' h Q) (hf : rm.frames + 1 ≤ R.frames) (hl : W + (maxL + 11) + rm.locals ≤ R.locals)
    {b : Addr} (E : Exa Z h b K) {g : JFrame} (hg : g.method = m) (hsize : g.locals.size = c.maxLocals) {argsL rest : List Value} (hlen : ∀ sig, parseMethodDescriptor y.desc = some sig → argsL.length = sig.parameters.length)
    (hstack : g.stack = argsL.reverse ++ .ref b :: rest) (hW : 2 * g.monitorRoom + (rest.map fun v => v.category).sum ≤ W) (hdg : decode c.code g.pc = .ok (.invokevirtual index, 3)) (eT : T.heap = h) (ha : (.ref b :: argsL).toArray = as') (hc : cells + rm.cells ≤ R.cells) (hs : slots + rm.slots ≤ R.slots) :
    ∃ (v : Option Value) (T' : State) (L : List Loc), Stand p l e R s m args below meth c T' (locs ++ L) (cells + rm.cells) (slots + rm.slots) ∧ Q v T'.heap L ∧ ∀ target, Steps p.tables e below (T'.setTop { g with pc := g.pc + 3, stack := v.toList ++ rest }) target → Steps p.tables e below (T.setTop g) target := by
  obtain ⟨cq, kq, qa, qb, qc⟩ := isOf hZ eT E
  obtain ⟨v, _, ⟨T', L', k, n⟩, -, X', ⟨L, hQ, l1, y1, z1⟩, st⟩ := X.virtualBack hx (y := y) (z := z) hown (mvT hZ hlink) (mvT hZ hdecl) hnf (mvT hZ hsel) (mvT hZ hinst) hy (backOf (W := W) hM hZ hcode hinit hf hl) qa qc hg hsize (Steps.refl _) hlen hstack hW hdg (fun _ _ => ⟨ha, eT, hc, hs⟩)
  dsimp only [Pt.U, Pt.locs, Pt.cells, Pt.slots] at X' l1 y1 z1 st hQ
  subst l1 y1 z1
  exact ⟨v, T', L, X', hQ, fun t k => st.trans k⟩
/-- a private instance method, called by invokevirtual, by its contract -/
theorem own_callP (X : Stand p l e R s m args below meth c T locs cells slots) (hx : p.tables.exec = Jvm.exec) (hZ : Z.Warmed39 s.vm) {own : String} {index : Nat} {y : MethodName} {bytes : ByteArray} {maxL : Nat} {ret : Option FieldType} {rm : Room} {as' : Array Value} {Q : Option Value → Heap → List Loc → Prop}
    (hown : s.vm.findClass own = some m.cls) (hlink : (Cond.methodLink own index y).before a0 Z = true) (hinst : (Cond.instanceMethod y).before a0 Z = true) (hsel : (Cond.selects y.cls y y).before a0 Z = true) (hpriv : (Cond.privateMethod y).before a0 Z = true) (hinit : (Cond.initialized y.cls).before a0 Z = true) (hcode : (Cond.code y bytes maxL ret).before a0 Z = true)
    (hy : y.cls ≠ "java/lang/invoke/MethodHandle" ∧ y.cls ≠ "java/lang/invoke/VarHandle") {W : Nat} (hM : OwnCtr l Z y [] bytes maxL ret rm as' h Q) (hf : rm.frames + 1 ≤ R.frames) (hl : W + (maxL + 11) + rm.locals ≤ R.locals)
    {b : Addr} {K : String} (E : Exa Z h b K) {g : JFrame} (hg : g.method = m) (hsize : g.locals.size = c.maxLocals) {argsL rest : List Value} (hlen : ∀ sig, parseMethodDescriptor y.desc = some sig → argsL.length = sig.parameters.length)
    (hstack : g.stack = argsL.reverse ++ .ref b :: rest) (hW : 2 * g.monitorRoom + (rest.map fun v => v.category).sum ≤ W) (hdg : decode c.code g.pc = .ok (.invokevirtual index, 3)) (eT : T.heap = h) (ha : (.ref b :: argsL).toArray = as') (hc : cells + rm.cells ≤ R.cells) (hs : slots + rm.slots ≤ R.slots) :
    ∃ (v : Option Value) (T' : State) (L : List Loc), Stand p l e R s m args below meth c T' (locs ++ L) (cells + rm.cells) (slots + rm.slots) ∧ Q v T'.heap L ∧ ∀ target, Steps p.tables e below (T'.setTop { g with pc := g.pc + 3, stack := v.toList ++ rest }) target → Steps p.tables e below (T.setTop g) target := by
  obtain ⟨cq, q1, q2⟩ := E.cell
  obtain ⟨v, _, ⟨T', L', k, n⟩, -, X', ⟨L, hQ, l1, y1, z1⟩, st⟩ := X.privateBack hx (y := y) hown (mvT hZ hlink) (mvT hZ hinst) (mvT hZ hsel) (Cond.privateMethod_at (mvP hZ hpriv (args := #[]))) (mvT hZ hcode) hy (backOf (W := W) hM hZ hcode hinit hf hl) hg hsize (Steps.refl _) (by rw [eT]; exact q1) q2 hlen hstack hW hdg (fun _ _ => ⟨ha, eT, hc, hs⟩)
  dsimp only [Pt.U, Pt.locs, Pt.cells, Pt.slots] at X' l1 y1 z1 st hQ
  subst l1 y1 z1
  exact ⟨v, T', L, X', hQ, fun t k => st.trans k⟩
theorem own_retI (X : Stand p l e R s m args below meth c T locs cells slots) (hx : p.tables.exec = Jvm.exec) {pc : Nat} {Ls : Array Slot} {z : Int32} {rest : List Value} (hret : meth.sig.returnType = some .int) (hd : decode c.code pc = .ok (.ireturn, 1)) {fs : List Frame}
    (hl : ∀ (f : JFrame) (acts : List Action), f.method = m → f.locked = none → f.entered = [] → (doReturn e (T.setTop f) acts (some (.int z))).1 = T.setFrames fs) : Steps p.tables e below (T.setTop (mkF m pc Ls (.int z :: rest))) (T.setFrames fs) :=
  retOut X hx hret rfl (Or.inl ⟨rfl, Or.inl rfl, _, rfl⟩) hd hl
theorem own_retJ (X : Stand p l e R s m args below meth c T locs cells slots) (hx : p.tables.exec = Jvm.exec) {pc : Nat} {Ls : Array Slot} {z : Int64} {rest : List Value} (hret : meth.sig.returnType = some .long) (hd : decode c.code pc = .ok (.lreturn, 1)) {fs : List Frame}
    (hl : ∀ (f : JFrame) (acts : List Action), f.method = m → f.locked = none → f.entered = [] → (doReturn e (T.setTop f) acts (some (.long z))).1 = T.setFrames fs) : Steps p.tables e below (T.setTop (mkF m pc Ls (.long z :: rest))) (T.setFrames fs) :=
  retOut X hx hret rfl (Or.inr (Or.inl ⟨rfl, rfl, _, rfl⟩)) hd hl
theorem own_retR (X : Stand p l e R s m args below meth c T locs cells slots) (hx : p.tables.exec = Jvm.exec) {pc : Nat} {Ls : Array Slot} {w : Value} {t : FieldType} {rest : List Value} (hret : meth.sig.returnType = some t) (ht : t.isReference = true) (hw : w.isRef = true) (hd : decode c.code pc = .ok (.areturn, 1)) {fs : List Frame}
    (hl : ∀ (f : JFrame) (acts : List Action), f.method = m → f.locked = none → f.entered = [] → (doReturn e (T.setTop f) acts (some w)).1 = T.setFrames fs) : Steps p.tables e below (T.setTop (mkF m pc Ls (w :: rest))) (T.setFrames fs) :=
  retOut X hx hret (by cases t <;> simp [FieldType.isReference] at ht <;> cases w <;> simp [Value.isRef] at hw <;> rfl) (Or.inr (Or.inr (Or.inr (Or.inr ⟨rfl, ht, hw⟩)))) hd hl
theorem own_nf {K : String} {y y' : MethodName} (hsel : (Cond.selects K y' y').before args s = true) (hc : y'.cls = y.cls) : NotFace s y := fun r0 h0 => by
  obtain ⟨c2, r2, m2, q1, q2, q3, q4, kP, hkP, hkPi⟩ := Cond.selects_spec hsel
  have e1 := findClass_of_methodNamed q3
  have e2 := findClass_of_methodNamed h0
  rw [hc, e2] at e1
  have e3 := Option.some.inj e1
  exact ⟨kP, by rw [e3]; exact hkP, hkPi⟩
theorem own_stakeep {h' : Heap} {O n d : String} {v : Value} (F : Sta Z h O n d v) (K : Keep h h' []) : Sta Z h' O n d v := by
  obtain ⟨cf, i, k, f, st, cell, h1, h2, h3, h4, h5, r⟩ := F
  exact ⟨cf, i, k, f, st, cell, h1, h2, h3, h4, K.2.1 _ _ h5 nin0, r⟩
end Own

-- ---- doubles that are halves of whole numbers (over Jvm.FP.Core)
section OwnHalf
open Jvm.FP.Core
def own_half : Datum → Datum
  | .fin s c q => .fin s c (q - 1)
  | d => d
def own_dbl : Datum → Datum
  | .fin s c q => .fin s c (q + 1)
  | d => d
theorem own_two53 : val64 4611686018427387904 = .fin false 4503599627370496 (-51) := by decide +kernel
theorem own_b64 : b64.p = 53 ∧ b64.qmin = -1074 ∧ b64.qmax = 971 ∧ b64.tails = 4503599627370496 := by decide +kernel
/-- the datum of a small whole number other than zero: its last digit's exponent is far from both ends -/
theorem own_shape {i : Int} {s : Bool} {c : Nat} {q : Int} (h : Whole i (.fin s c q)) (hi : i ≠ 0) (hs : i.natAbs < 9007199254740992) (hf : Jvm.FP.Core.fits b64 (.fin s c q)) : s = decide (i < 0) ∧ 0 < c ∧ c < 9007199254740992 ∧ 4503599627370496 ≤ c ∧ -53 < q ∧ q ≤ 0 := by
  obtain ⟨e1, e2, e3, e4⟩ := own_b64
  obtain ⟨hc, hq1, hq2, hcan⟩ := hf
  rw [e1] at hc; rw [e2] at hq1 hcan; rw [e4] at hcan
  have hc' : c < 9007199254740992 := hc
  have hn := whole_natAbs h
  have hc0 : 0 < c := by have := whole_zero h; omega
  have hq : -53 < q := by
    refine Int.lt_of_not_ge fun hle => ?_
    have e : q.toNat = 0 := by omega
    rw [e, Nat.pow_zero, Nat.mul_one] at hn
    have p1 : 2 ^ 53 ≤ 2 ^ (-q).toNat := Nat.pow_le_pow_right (by decide) (by omega)
    have p2 : 1 * 2 ^ (-q).toNat ≤ i.natAbs * 2 ^ (-q).toNat := Nat.mul_le_mul_right _ (by omega)
    have p3 : (2 : Nat) ^ 53 = 9007199254740992 := by decide
    omega
  have hcan' : 4503599627370496 ≤ c := by rcases hcan with h | h <;> omega
  have hq0 : q ≤ 0 := by
    refine Int.not_lt.mp fun hlt => ?_
    have e : (-q).toNat = 0 := by omega
    rw [e, Nat.pow_zero, Nat.mul_one] at hn
    have p1 : 2 ^ 1 ≤ 2 ^ q.toNat := Nat.pow_le_pow_right (by decide) (by omega)
    have p2 : c * 2 ^ 1 ≤ c * 2 ^ q.toNat := Nat.mul_le_mul_left _ p1
    omega
  exact ⟨whole_sign h hi, hc0, hc', hcan', hq, hq0⟩
theorem own_fits {s : Bool} {c : Nat} {q : Int} (h1 : c < 9007199254740992) (h2 : 4503599627370496 ≤ c) (h3 : -60 < q) (h4 : q ≤ 60) : Jvm.FP.Core.fits b64 (.fin s c q) := by
  obtain ⟨e1, e2, e3, e4⟩ := own_b64
  refine ⟨by rw [e1]; exact h1, by rw [e2]; omega, by rw [e3]; omega, Or.inr (by rw [e4]; exact h2)⟩
/-- twice a whole number -/
theorem own_wdbl {i : Int} {s : Bool} {c : Nat} {q : Int} (h : Whole i (.fin s c q)) : Whole (2 * i) (.fin s c (q + 1)) := by
  have h : signed s (c * 2 ^ q.toNat) = i * ((2 ^ (-q).toNat : Nat) : Int) := h
  show signed s (c * 2 ^ (q + 1).toNat) = 2 * i * ((2 ^ (-(q + 1)).toNat : Nat) : Int)
  by_cases hq : 0 ≤ q
  · have e1 : (q + 1).toNat = q.toNat + 1 := by omega
    have e2 : (-(q + 1)).toNat = 0 := by omega
    have e3 : (-q).toNat = 0 := by omega
    rw [e3] at h
    rw [e1, e2, Nat.pow_succ, ← Nat.mul_assoc]
    unfold signed at h ⊢
    cases s <;> simp at h ⊢ <;> omega
  · have e1 : (q + 1).toNat = 0 := by omega
    have e2 : (-q).toNat = (-(q + 1)).toNat + 1 := by omega
    have e3 : q.toNat = 0 := by omega
    rw [e3, e2, Nat.pow_succ] at h
    rw [e1, h, Int.mul_comm 2 i, Int.mul_assoc]
    congr 1
    rw [Int.natCast_mul, Int.mul_comm]
    rfl
theorem own_order (s : Bool) (c : Nat) (q : Int) (t : Bool) (d : Nat) (r : Int) : order (.fin s c (q - 1)) (.fin t d r) = order (.fin s c q) (.fin t d (r + 1)) := by
  show some _ = some _
  have e1 : (q - 1 - min (q - 1) r).toNat = (q - min q (r + 1)).toNat := by omega
  have e2 : (r - min (q - 1) r).toNat = (r + 1 - min q (r + 1)).toNat := by omega
  unfold inUnits
  rw [e1, e2]
theorem own_order' (s : Bool) (c : Nat) (q : Int) (t : Bool) (d : Nat) (r : Int) : order (.fin t d r) (.fin s c (q - 1)) = order (.fin t d (r + 1)) (.fin s c q) := by
  show some _ = some _
  have e1 : (q - 1 - min r (q - 1)).toNat = (q - min (r + 1) q).toNat := by omega
  have e2 : (r - min r (q - 1)).toNat = (r + 1 - min (r + 1) q).toNat := by omega
  unfold inUnits
  rw [e1, e2]
theorem own_sum (s : Bool) (c : Nat) (q : Int) (t : Bool) (d : Nat) (r : Int) : exactSum (.fin s c (q - 1)) (.fin t d r) = own_half (exactSum (.fin s c q) (.fin t d (r + 1))) := by
  have e1 : (q - 1 - min (q - 1) r).toNat = (q - min q (r + 1)).toNat := by omega
  have e2 : (r - min (q - 1) r).toNat = (r + 1 - min q (r + 1)).toNat := by omega
  have e3 : min (q - 1) r = min q (r + 1) - 1 := by omega
  have e4 : sumUnits s c (q - 1) t d r (min (q - 1) r) = sumUnits s c q t d (r + 1) (min q (r + 1)) := by unfold sumUnits inUnits; rw [e1, e2]
  show Datum.fin _ _ _ = Datum.fin _ _ _
  rw [e4, e3]
/-- a half of a small whole number other than zero is rounded to itself -/
theorem own_round {i : Int} {s : Bool} {c : Nat} {q : Int} {s' : Bool} {c' : Nat} {q' : Int} (h : Whole i (.fin s c q)) (h' : Whole i (.fin s' c' q')) (hi : i ≠ 0) (hs : i.natAbs < 9007199254740992) (hf : Jvm.FP.Core.fits b64 (.fin s' c' q')) : round b64 (.fin s c (q - 1)) = .fin s' c' (q' - 1) := by
  obtain ⟨f1, f2, f3, f4, f5, f6⟩ := own_shape h' hi hs hf
  have g1 := whole_sign h hi
  rw [f1, ← g1]
  refine roundRatio_exact good_b64 (by decide) (own_fits f3 f4 (by omega) (by omega)) ?_
  have n1 := whole_natAbs h
  have n2 := whole_natAbs h'
  have e1 : (q - 1 - (q' - 1)).toNat = (q - q').toNat := by omega
  have e2 : (q' - 1 - (q - 1)).toNat = (q' - q).toNat := by omega
  rw [e1, e2, Nat.mul_one]
  -- c 2^q = c' 2^q' , over both signs of the exponents
  have k : c * 2 ^ q.toNat * 2 ^ (-q').toNat = c' * 2 ^ q'.toNat * 2 ^ (-q).toNat := by
    rw [n1, n2, Nat.mul_assoc, Nat.mul_assoc, Nat.mul_comm (2 ^ (-q).toNat)]
  rw [Nat.mul_assoc, Nat.mul_assoc, ← Nat.pow_add, ← Nat.pow_add] at k
  have u1 : q.toNat + (-q').toNat = (q - q').toNat + (q.toNat + (-q').toNat - (q - q').toNat) := by omega
  have u2 : q'.toNat + (-q).toNat = (q' - q).toNat + (q.toNat + (-q').toNat - (q - q').toNat) := by omega
  rw [u1, u2, Nat.pow_add, Nat.pow_add, ← Nat.mul_assoc, ← Nat.mul_assoc] at k
  exact Nat.eq_of_mul_eq_mul_right (Nat.two_pow_pos _) k
/-- the double of a half -/
theorem own_quot (s : Bool) (c : Nat) (q : Int) (t : Bool) (d : Nat) (r : Int) (hd : d ≠ 0) : quotient b64 (.fin s c q) (.fin t d r) = roundRatio b64 (s != t) c d (q - r) := if_neg hd
theorem own_time {x : Int64} (hx : Small53 x) {s : Bool} {c : Nat} {q : Int} (e : val64 (l2d x) = .fin s c q) (h0 : x.toInt ≠ 0) : val64 (ddiv (l2d x) 4611686018427387904) = .fin s c (q - 1) := by
  have w := l2d_whole hx
  have hf := val64_fits (l2d x)
  rw [e] at w hf
  obtain ⟨f1, f2, f3, f4, f5, f6⟩ := own_shape w h0 (by unfold Small53 at hx; omega) hf
  rw [val64_ddiv, e, own_two53]
  rw [own_quot _ _ _ _ _ _ (by decide), Bool.bne_false]
  refine roundRatio_exact good_b64 (by decide) (own_fits f3 f4 (by omega) (by omega)) ?_
  have e1 : (q - (-51) - (q - 1)).toNat = 52 := by omega
  have e2 : (q - 1 - (q - (-51))).toNat = 0 := by omega
  rw [e1, e2, Nat.pow_zero, Nat.mul_one]
theorem own_time0 : ddiv (l2d 0) 4611686018427387904 = l2d 0 := by decide +kernel
/-- halves compare as the whole numbers do -/
theorem own_cmp {x d : Int64} (hx : Small53 x) (hd : Small53 d) : dcmp (ddiv (l2d x) 4611686018427387904) (l2d d) = some (compare x.toInt (2 * d.toInt)) := by
  have wd := l2d_whole hd
  by_cases h0 : x.toInt = 0
  · have e : x = 0 := Int64.toInt_inj.mp h0
    subst e
    rw [own_time0, dcmp_int (l2d_whole hx) wd, show (0 : Int64).toInt = 0 from rfl]
    rw [compare_ite, compare_ite]
    congr 1
    by_cases h1 : (0 : Int) < d.toInt
    · rw [if_pos h1, if_pos (by omega)]
    · by_cases h2 : (0 : Int) = d.toInt
      · rw [if_neg h1, if_pos h2, if_neg (by omega), if_pos (by omega)]
      · rw [if_neg h1, if_neg h2, if_neg (by omega), if_neg (by omega)]
  · obtain ⟨c, q, e⟩ := l2d_shape x
    obtain ⟨d', r, ed⟩ := l2d_shape d
    have wx := l2d_whole hx
    rw [e] at wx; rw [ed] at wd
    show order (val64 (ddiv (l2d x) 4611686018427387904)) (val64 (l2d d)) = _
    rw [own_time hx e h0, ed, own_order]
    exact order_whole wx (own_wdbl wd)
/-- a difference of a half and a whole number: the half of a whole number -/
theorem own_subL {x d : Int64} (hx : Small53 x) (hd : Small53 d) {y : Int64} (hy : y.toInt = x.toInt - 2 * d.toInt) (hy0 : y.toInt ≠ 0) (hys : Small53 y) {s : Bool} {c : Nat} {q : Int} (e : val64 (l2d y) = .fin s c q) : val64 (dsub (ddiv (l2d x) 4611686018427387904) (l2d d)) = .fin s c (q - 1) := by
  have wy := l2d_whole hys
  have fy := val64_fits (l2d y)
  rw [e] at wy fy
  have hn : y.toInt.natAbs < 9007199254740992 := by unfold Small53 at hys; omega
  have wd := l2d_whole hd
  obtain ⟨d', r, ed⟩ := l2d_shape d
  rw [ed] at wd
  rw [val64_dsub]
  by_cases h0 : x.toInt = 0
  · have ex : x = 0 := Int64.toInt_inj.mp h0
    subst ex
    have wz := l2d_whole hx
    obtain ⟨c0, q0, e0⟩ := l2d_shape 0
    rw [own_time0, ed, e0]
    rw [e0] at wz
    -- 0 is its own half: its datum with the exponent one less is 0 too
    have hc0 : c0 = 0 := (whole_zero wz).mpr rfl
    subst hc0
    have w0 : ∀ z : Int, Whole 0 (.fin (decide ((0 : Int64).toInt < 0)) 0 z) := fun z => by
      show signed _ (0 * 2 ^ z.toNat) = 0 * ((2 ^ (-z).toNat : Nat) : Int)
      rw [Nat.zero_mul, signed_zero, Int.zero_mul]
    have k := whole_sum (w0 (q0 + 1)) (whole_negate (own_wdbl wd))
    have e1 : exactSum (.fin (decide ((0 : Int64).toInt < 0)) 0 q0) (negate (.fin (decide (d.toInt < 0)) d' r)) = own_half (exactSum (.fin (decide ((0 : Int64).toInt < 0)) 0 (q0 + 1)) (negate (.fin (decide (d.toInt < 0)) d' (r + 1)))) := by
      have := own_sum (decide ((0 : Int64).toInt < 0)) 0 (q0 + 1) (!(decide (d.toInt < 0))) d' r
      rw [show q0 + 1 - 1 = q0 by omega] at this
      exact this
    rw [e1]
    have ek : (0 : Int) + -(2 * d.toInt) = y.toInt := by rw [hy, h0]; omega
    rw [ek] at k
    exact own_round k wy hy0 hn fy
  · obtain ⟨c0, q0, e0⟩ := l2d_shape x
    have wx := l2d_whole hx
    rw [own_time hx e0 h0, ed]
    rw [e0] at wx
    have k := whole_sum wx (whole_negate (own_wdbl wd))
    have e1 : exactSum (.fin (decide (x.toInt < 0)) c0 (q0 - 1)) (negate (.fin (decide (d.toInt < 0)) d' r)) = own_half (exactSum (.fin (decide (x.toInt < 0)) c0 q0) (negate (.fin (decide (d.toInt < 0)) d' (r + 1)))) := own_sum _ _ _ _ _ _
    rw [e1]
    have ek : x.toInt + -(2 * d.toInt) = y.toInt := by rw [hy]; omega
    rw [ek] at k
    exact own_round k wy hy0 hn fy
theorem own_sum' (s : Bool) (c : Nat) (q : Int) (t : Bool) (d : Nat) (r : Int) : exactSum (.fin t d r) (.fin s c (q - 1)) = own_half (exactSum (.fin t d (r + 1)) (.fin s c q)) := by
  rw [exactSum_comm, own_sum, exactSum_comm]
theorem own_subR {x d : Int64} (hx : Small53 x) (hd : Small53 d) {y : Int64} (hy : y.toInt = 2 * d.toInt - x.toInt) (hy0 : y.toInt ≠ 0) (hys : Small53 y) {s : Bool} {c : Nat} {q : Int} (e : val64 (l2d y) = .fin s c q) : val64 (dsub (l2d d) (ddiv (l2d x) 4611686018427387904)) = .fin s c (q - 1) := by
  have wy := l2d_whole hys
  have fy := val64_fits (l2d y)
  rw [e] at wy fy
  have hn : y.toInt.natAbs < 9007199254740992 := by unfold Small53 at hys; omega
  have wd := l2d_whole hd
  obtain ⟨d', r, ed⟩ := l2d_shape d
  rw [ed] at wd
  rw [val64_dsub]
  by_cases h0 : x.toInt = 0
  · have ex : x = 0 := Int64.toInt_inj.mp h0
    subst ex
    have wz := l2d_whole hx
    obtain ⟨c0, q0, e0⟩ := l2d_shape 0
    rw [own_time0, ed, e0]
    rw [e0] at wz
    have hc0 : c0 = 0 := (whole_zero wz).mpr rfl
    subst hc0
    have w0 : ∀ z : Int, Whole 0 (.fin (decide ((0 : Int64).toInt < 0)) 0 z) := fun z => by
      show signed _ (0 * 2 ^ z.toNat) = 0 * ((2 ^ (-z).toNat : Nat) : Int)
      rw [Nat.zero_mul, signed_zero, Int.zero_mul]
    have k := whole_sum (own_wdbl wd) (whole_negate (w0 (q0 + 1)))
    have e1 : exactSum (.fin (decide (d.toInt < 0)) d' r) (negate (.fin (decide ((0 : Int64).toInt < 0)) 0 q0)) = own_half (exactSum (.fin (decide (d.toInt < 0)) d' (r + 1)) (negate (.fin (decide ((0 : Int64).toInt < 0)) 0 (q0 + 1)))) := by
      have := own_sum' (!(decide ((0 : Int64).toInt < 0))) 0 (q0 + 1) (decide (d.toInt < 0)) d' r
      rw [show q0 + 1 - 1 = q0 by omega] at this
      exact this
    rw [e1]
    have ek : 2 * d.toInt + -(0 : Int) = y.toInt := by rw [hy, h0]; omega
    rw [ek] at k
    exact own_round k wy hy0 hn fy
  · obtain ⟨c0, q0, e0⟩ := l2d_shape x
    have wx := l2d_whole hx
    rw [own_time hx e0 h0, ed]
    rw [e0] at wx
    have k := whole_sum (own_wdbl wd) (whole_negate wx)
    have e1 : exactSum (.fin (decide (d.toInt < 0)) d' r) (negate (.fin (decide (x.toInt < 0)) c0 (q0 - 1))) = own_half (exactSum (.fin (decide (d.toInt < 0)) d' (r + 1)) (negate (.fin (decide (x.toInt < 0)) c0 q0))) := own_sum' _ _ _ _ _ _
    rw [e1]
    have ek : 2 * d.toInt + -x.toInt = y.toInt := by rw [hy]; omega
    rw [ek] at k
    exact own_round k wy hy0 hn fy
/-- the quotient of halves -/
theorem own_ratio {y g g2 : Int64} (hg : Small53 g) (hg0 : g.toInt ≠ 0) (hg2 : Small53 g2) (e2 : g2.toInt = 2 * g.toInt) {A : UInt64} {s : Bool} {c : Nat} {q : Int} (e : val64 (l2d y) = .fin s c q) (eA : val64 A = .fin s c (q - 1)) : ddiv A (l2d g) = ddiv (l2d y) (l2d g2) := by
  obtain ⟨d, r, ed⟩ := l2d_shape g
  have w := l2d_whole hg
  have f := val64_fits (l2d g)
  rw [ed] at w f
  obtain ⟨f1, f2, f3, f4, f5, f6⟩ := own_shape w hg0 (by unfold Small53 at hg; omega) f
  have w2 := l2d_whole hg2
  rw [e2] at w2
  have u := whole_unique good_b64 (by omega) w2 (own_wdbl w) (val64_fits _) (own_fits f3 f4 (by omega) (by omega))
  show of64 (quotient b64 (val64 A) (val64 (l2d g))) = of64 (quotient b64 (val64 (l2d y)) (val64 (l2d g2)))
  rw [e, eA, ed, u]
  have q1 : quotient b64 (.fin s c (q - 1)) (.fin (decide (g.toInt < 0)) d r) = roundRatio b64 (s != decide (g.toInt < 0)) c d (q - 1 - r) := if_neg (by omega)
  have q2 : quotient b64 (.fin s c q) (.fin (decide (g.toInt < 0)) d (r + 1)) = roundRatio b64 (s != decide (g.toInt < 0)) c d (q - (r + 1)) := if_neg (by omega)
  rw [q1, q2, show q - 1 - r = q - (r + 1) by omega]
theorem own_up {x d1 g y g2 : Int64} (hx : Small53 x) (hd : Small53 d1) (hy : y.toInt = x.toInt - 2 * d1.toInt) (hy0 : y.toInt ≠ 0) (hys : Small53 y) (hg : Small53 g) (hg0 : g.toInt ≠ 0) (hg2 : Small53 g2) (e2 : g2.toInt = 2 * g.toInt) :
    ddiv (dsub (ddiv (l2d x) 4611686018427387904) (l2d d1)) (l2d g) = ddiv (l2d y) (l2d g2) := by
  obtain ⟨c, q, e⟩ := l2d_shape y
  exact own_ratio hg hg0 hg2 e2 e (own_subL hx hd hy hy0 hys e)
theorem own_down {x d4 g y g2 : Int64} (hx : Small53 x) (hd : Small53 d4) (hy : y.toInt = 2 * d4.toInt - x.toInt) (hy0 : y.toInt ≠ 0) (hys : Small53 y) (hg : Small53 g) (hg0 : g.toInt ≠ 0) (hg2 : Small53 g2) (e2 : g2.toInt = 2 * g.toInt) :
    ddiv (dsub (l2d d4) (ddiv (l2d x) 4611686018427387904)) (l2d g) = ddiv (l2d y) (l2d g2) := by
  obtain ⟨c, q, e⟩ := l2d_shape y
  exact own_ratio hg hg0 hg2 e2 e (own_subR hx hd hy hy0 hys e)
end OwnHalf
-- ---- the window
theorem own_addL {a b : Int64} (h1 : -4611686018427387904 ≤ a.toInt + b.toInt) (h2 : a.toInt + b.toInt < 4611686018427387904) : (a + b).toInt = a.toInt + b.toInt := by
  rw [Int64.toInt_add]; exact Int.bmod_eq_of_le (by omega) (by omega)
theorem own_subL' {a b : Int64} (h1 : -4611686018427387904 ≤ a.toInt - b.toInt) (h2 : a.toInt - b.toInt < 4611686018427387904) : (a - b).toInt = a.toInt - b.toInt := by
  rw [Int64.toInt_sub]; exact Int.bmod_eq_of_le (by omega) (by omega)
theorem own_two {a : Int64} (h1 : -2305843009213693952 ≤ a.toInt) (h2 : a.toInt < 2305843009213693952) : ((2 : Int64) * a).toInt = 2 * a.toInt := by
  rw [Int64.toInt_mul, show (2 : Int64).toInt = 2 from rfl]; exact Int.bmod_eq_of_le (by omega) (by omega)
theorem own_m48 (x : Int64) : 0 ≤ (x &&& (281474976710655 : Int64)).toInt ∧ (x &&& (281474976710655 : Int64)).toInt < 281474976710656 := by
  have h := c_maskL x 281474976710655 48 (by decide) (by decide)
  have e : ((2 ^ 48 : Nat) : Int) = 281474976710656 := by decide
  rw [h, e]; omega
theorem own_m40 (x : Int64) : 0 ≤ (x &&& (1099511627775 : Int64)).toInt ∧ (x &&& (1099511627775 : Int64)).toInt < 1099511627776 := by
  have h := c_maskL x 1099511627775 40 (by decide) (by decide)
  have e : ((2 ^ 40 : Nat) : Int) = 1099511627776 := by decide
  rw [h, e]; omega
theorem own_m40' (x : Int64) : 1 ≤ ((x &&& (1099511627775 : Int64)) + (1 : Int64)).toInt ∧ ((x &&& (1099511627775 : Int64)) + (1 : Int64)).toInt ≤ 1099511627776 := by
  have h := own_m40 x
  have e1 : (1 : Int64).toInt = 1 := rfl
  rw [own_addL (by rw [e1]; omega) (by rw [e1]; omega), e1]; omega
theorem own_m52 (x : Int64) : -1125899906842624 ≤ ((x &&& (4503599627370495 : Int64)) - (1125899906842624 : Int64)).toInt ∧ ((x &&& (4503599627370495 : Int64)) - (1125899906842624 : Int64)).toInt < 3377699720527872 := by
  have h := c_maskL x 4503599627370495 52 (by decide) (by decide)
  have e : ((2 ^ 52 : Nat) : Int) = 4503599627370496 := by decide
  rw [e] at h
  have e1 : (1125899906842624 : Int64).toInt = 1125899906842624 := by decide
  rw [own_subL' (by rw [e1, h]; omega) (by rw [e1, h]; omega), e1, h]; omega
def own_win (x d1 d2 d3 d4 h1 h2 h3 h4 : Int64) : Prop := 0 ≤ d1.toInt ∧ d1.toInt < d2.toInt ∧ d2.toInt ≤ d3.toInt ∧ d3.toInt < d4.toInt ∧ d4.toInt < 562949953421312 ∧ h1.toInt = 2 * d1.toInt ∧ h2.toInt = 2 * d2.toInt ∧ h3.toInt = 2 * d3.toInt ∧ h4.toInt = 2 * d4.toInt ∧ -1125899906842624 ≤ x.toInt ∧ x.toInt < 3377699720527872
def own_ref (x h1 h2 h3 h4 : Int64) : UInt64 :=
  if h1 < x then (if x < h4 then (if x < h2 then FP.ddiv (FP.l2d (x - h1)) (FP.l2d (h2 - h1)) else (if h3 < x then FP.ddiv (FP.l2d (h4 - x)) (FP.l2d (h4 - h3)) else (4607182418800017408 : UInt64))) else (0 : UInt64)) else (0 : UInt64)
theorem own_small {x : Int64} (h1 : -9007199254740992 < x.toInt) (h2 : x.toInt < 9007199254740992) : Jvm.FP.Core.Small53 x := ⟨h1, h2⟩
theorem own_nzL {a b : Int64} (h : a.toInt < b.toInt) (h1 : -2305843009213693952 ≤ a.toInt) (h2 : b.toInt < 2305843009213693952) : b - a ≠ 0 := fun q => by
  have e : (b - a).toInt = b.toInt - a.toInt := own_subL' (by omega) (by omega)
  rw [q, show (0 : Int64).toInt = 0 from rfl] at e
  omega
theorem own_cmpV {x d h : Int64} (hx : Jvm.FP.Core.Small53 x) (hd : Jvm.FP.Core.Small53 d) (e : h.toInt = 2 * d.toInt) (o : CmpOp) : cmpValue (FP.dcmp (FP.ddiv (FP.l2d x) (4611686018427387904 : UInt64)) (FP.l2d d)) o = lcmpW x h := by
  have k : FP.dcmp (FP.ddiv (FP.l2d x) (4611686018427387904 : UInt64)) (FP.l2d d) = some (compare x.toInt h.toInt) := by rw [e]; exact own_cmp hx hd
  rw [k, Jvm.FP.Core.compare_ite]
  simp only [lcmpW, Int64.lt_iff_toInt_lt, ← Int64.toInt_inj]
  by_cases h1 : x.toInt < h.toInt
  · cases o <;> simp [h1, cmpValue, show ¬ h.toInt < x.toInt by omega, show ¬ x.toInt = h.toInt by omega]
  · by_cases h2 : x.toInt = h.toInt
    · cases o <;> simp [h2, cmpValue]
    · cases o <;> simp [h1, h2, cmpValue, show h.toInt < x.toInt by omega]
theorem own_tmN (x : Int64) : Jvm.Free.Fl.NoNaN64 (FP.ddiv (FP.l2d x) (4611686018427387904 : UInt64)) := Jvm.Free.Fl.ddiv_out (Jvm.Free.Fl.l2d_fin x).noNaN (by unfold Jvm.Free.Fl.Fin64; decide) (by unfold Jvm.Free.Fl.Nz64; decide)
theorem own_qN (a b : Int64) (h : b ≠ 0) : Jvm.Free.Fl.NoNaN64 (FP.ddiv (FP.l2d a) (FP.l2d b)) := Jvm.Free.Fl.ddiv_out (Jvm.Free.Fl.l2d_fin a).noNaN (Jvm.Free.Fl.l2d_fin b) (Jvm.Free.Fl.l2d_nz h)
theorem own_refN {x h1 h2 h3 h4 : Int64} (n1 : h2 - h1 ≠ 0) (n2 : h4 - h3 ≠ 0) : Jvm.Free.Fl.NoNaN64 (own_ref x h1 h2 h3 h4) := by
  unfold own_ref
  split
  · split
    · split
      · exact own_qN _ _ n1
      · split
        · exact own_qN _ _ n2
        · unfold Jvm.Free.Fl.NoNaN64; decide
    · unfold Jvm.Free.Fl.NoNaN64; decide
  · unfold Jvm.Free.Fl.NoNaN64; decide
theorem own_rise {x d1 d2 d3 d4 h1 h2 h3 h4 : Int64} (W : own_win x d1 d2 d3 d4 h1 h2 h3 h4) (c1 : h1 < x) : FP.ddiv (FP.dsub (FP.ddiv (FP.l2d x) (4611686018427387904 : UInt64)) (FP.l2d d1)) (FP.l2d (d2 - d1)) = FP.ddiv (FP.l2d (x - h1)) (FP.l2d (h2 - h1)) := by
  obtain ⟨a1, a2, a3, a4, a5, e1, e2, e3, e4, b1, b2⟩ := W
  have c := Int64.lt_iff_toInt_lt.mp c1
  have g : (d2 - d1).toInt = d2.toInt - d1.toInt := own_subL' (by omega) (by omega)
  have g2 : (h2 - h1).toInt = h2.toInt - h1.toInt := own_subL' (by omega) (by omega)
  have y : (x - h1).toInt = x.toInt - h1.toInt := own_subL' (by omega) (by omega)
  exact own_up (own_small (by omega) (by omega)) (own_small (by omega) (by omega)) (by omega) (by omega) (own_small (by omega) (by omega)) (own_small (by omega) (by omega)) (by omega) (own_small (by omega) (by omega)) (by omega)
theorem own_fall {x d1 d2 d3 d4 h1 h2 h3 h4 : Int64} (W : own_win x d1 d2 d3 d4 h1 h2 h3 h4) (c1 : x < h4) : FP.ddiv (FP.dsub (FP.l2d d4) (FP.ddiv (FP.l2d x) (4611686018427387904 : UInt64))) (FP.l2d (d4 - d3)) = FP.ddiv (FP.l2d (h4 - x)) (FP.l2d (h4 - h3)) := by
  obtain ⟨a1, a2, a3, a4, a5, e1, e2, e3, e4, b1, b2⟩ := W
  have c := Int64.lt_iff_toInt_lt.mp c1
  have g : (d4 - d3).toInt = d4.toInt - d3.toInt := own_subL' (by omega) (by omega)
  have g2 : (h4 - h3).toInt = h4.toInt - h3.toInt := own_subL' (by omega) (by omega)
  have y : (h4 - x).toInt = h4.toInt - x.toInt := own_subL' (by omega) (by omega)
  exact own_down (own_small (by omega) (by omega)) (own_small (by omega) (by omega)) (by omega) (by omega) (own_small (by omega) (by omega)) (own_small (by omega) (by omega)) (by omega) (own_small (by omega) (by omega)) (by omega)

theorem d2_0 : decode jdk_30_method_1_code 0 = .ok (.aload_n 0, 1) := by decide +kernel
theorem d2_1 : decode jdk_30_method_1_code 1 = .ok (.invokespecial 1, 3) := by decide +kernel
theorem d2_4 : decode jdk_30_method_1_code 4 = .ok (.return_, 1) := by decide +kernel
theorem pn_2 : plainFor (⟨"java/lang/Record", "<init>", "()V"⟩ : MethodName) = true := plainFor_of_name (by first | (simp [plainName, overriddenIn]; done) | decide +kernel)
theorem ef_2 (m : MethodId) (a1 : Addr) : entryFrame m #[(.ref a1)] 1 = mkF m 0 #[rv a1] [] := by first | (simp [entryFrame, mkF, argsToLocals, Value.category]; done) | rfl
set_option maxRecDepth 65536 in
set_option maxHeartbeats 40000000 in
theorem rm2 (l : Launch) (Z : State) (a0 : Array Value) (hw : ∀ d ∈ tables_1, d.before a0 Z = true) (ws : List Jvm.Cond) (a1 : Addr) (h0 : Heap) (n0 : Nat) (Z0 : n0 ≤ h0.size) :
    OwnCtr l Z (⟨"java/lang/Record", "<init>", "()V"⟩ : MethodName) ws jdk_30_method_1_code 1 none ({ frames := 1, cells := 0, slots := 0, locals := 12 } : Room) #[(.ref a1)] h0 (fun v h L => v = none ∧ Fr n0 L ∧ h = h0) := by
  refine own_body (g0 := fun m => mkF m 0 #[rv a1] []) pn_2 (fun m => ef_2 m a1) ?_
  intro p e s m below meth c s₁ X0 hx hby hml hown hnm hZ e0 hret hlk
  have hml : c.maxLocals = 1 := hml
  have hown : s.vm.findClass "java/lang/Record" = some m.cls := hown
  have hnm : meth.name = "<init>" := hnm
  have hret : meth.sig.returnType = none := hret
  have N0 := Fr.nil n0
  show OwnFin p e below s _ _ _ (s₁.setTop (mkF m 0 #[rv a1] []))
  refine own_go (fun t_ k_ => XS.aloadN X0.here hx rfl (hb hby d2_0) rfl rfl k_) ?_
  show OwnFin p e below s _ _ _ (s₁.setTop (mkF m 1 #[rv a1] [(.ref a1)]))
  obtain ⟨T1, X1, e1, st1⟩ := initO X0 hx hZ hown (hw _ (List.mem_of_getElem? (i := 13) rfl)) (hw _ (List.mem_of_getElem? (i := 14) rfl)) (hw _ (List.mem_of_getElem? (i := 15) rfl)) e0 (g := (mkF m 1 #[rv a1] [(.ref a1)])) rfl (by rw [hml]; rfl) rfl (hb hby d2_1) (by decide) (W := 0) (by show 2 * 0 + _ ≤ _; exact Nat.le_of_eq rfl) (by decide)
  refine own_go st1 ?_
  show OwnFin p e below s _ _ _ (T1.setTop (mkF m 4 #[rv a1] []))
  refine own_ret X1 (v := none) hlk (fun _ => rfl) (fun fs hr => X1.returnOut hx hret (hb hby d2_4) hr) (by decide) (by decide) ?_
  rw [e1]
  exact ⟨rfl, N0, rfl⟩
theorem d1_0 : decode prog_11_method_1_code 0 = .ok (.aload_n 0, 1) := by decide +kernel
theorem d1_1 : decode prog_11_method_1_code 1 = .ok (.invokespecial 1, 3) := by decide +kernel
theorem d1_4 : decode prog_11_method_1_code 4 = .ok (.lload_n 1, 1) := by decide +kernel
theorem d1_5 : decode prog_11_method_1_code 5 = .ok (.lconst 0, 1) := by decide +kernel
theorem d1_6 : decode prog_11_method_1_code 6 = .ok (.lcmp, 1) := by decide +kernel
theorem d1_7 : decode prog_11_method_1_code 7 = .ok (.ifCond .lt 24, 3) := by decide +kernel
theorem d1_10 : decode prog_11_method_1_code 10 = .ok (.lload_n 1, 1) := by decide +kernel
theorem d1_11 : decode prog_11_method_1_code 11 = .ok (.lload_n 3, 1) := by decide +kernel
theorem d1_12 : decode prog_11_method_1_code 12 = .ok (.lcmp, 1) := by decide +kernel
theorem d1_13 : decode prog_11_method_1_code 13 = .ok (.ifCond .ge 18, 3) := by decide +kernel
theorem d1_16 : decode prog_11_method_1_code 16 = .ok (.lload_n 3, 1) := by decide +kernel
theorem d1_17 : decode prog_11_method_1_code 17 = .ok (.lload 5, 2) := by decide +kernel
theorem d1_19 : decode prog_11_method_1_code 19 = .ok (.lcmp, 1) := by decide +kernel
theorem d1_20 : decode prog_11_method_1_code 20 = .ok (.ifCond .gt 11, 3) := by decide +kernel
theorem d1_23 : decode prog_11_method_1_code 23 = .ok (.lload 5, 2) := by decide +kernel
theorem d1_25 : decode prog_11_method_1_code 25 = .ok (.lload 7, 2) := by decide +kernel
theorem d1_27 : decode prog_11_method_1_code 27 = .ok (.lcmp, 1) := by decide +kernel
theorem d1_28 : decode prog_11_method_1_code 28 = .ok (.ifCond .lt 22, 3) := by decide +kernel
theorem d1_50 : decode prog_11_method_1_code 50 = .ok (.aload_n 0, 1) := by decide +kernel
theorem d1_51 : decode prog_11_method_1_code 51 = .ok (.lload_n 1, 1) := by decide +kernel
theorem d1_52 : decode prog_11_method_1_code 52 = .ok (.putfield 16, 3) := by decide +kernel
theorem d1_55 : decode prog_11_method_1_code 55 = .ok (.aload_n 0, 1) := by decide +kernel
theorem d1_56 : decode prog_11_method_1_code 56 = .ok (.lload_n 3, 1) := by decide +kernel
theorem d1_57 : decode prog_11_method_1_code 57 = .ok (.putfield 22, 3) := by decide +kernel
theorem d1_60 : decode prog_11_method_1_code 60 = .ok (.aload_n 0, 1) := by decide +kernel
theorem d1_61 : decode prog_11_method_1_code 61 = .ok (.lload 5, 2) := by decide +kernel
theorem d1_63 : decode prog_11_method_1_code 63 = .ok (.putfield 25, 3) := by decide +kernel
theorem d1_66 : decode prog_11_method_1_code 66 = .ok (.aload_n 0, 1) := by decide +kernel
theorem d1_67 : decode prog_11_method_1_code 67 = .ok (.lload 7, 2) := by decide +kernel
theorem d1_69 : decode prog_11_method_1_code 69 = .ok (.putfield 28, 3) := by decide +kernel
theorem d1_72 : decode prog_11_method_1_code 72 = .ok (.return_, 1) := by decide +kernel
theorem pn_1 : plainFor (⟨"com/example/thymus/thymus/DueWindow", "<init>", "(JJJJ)V"⟩ : MethodName) = true := plainFor_of_name (by first | (simp [plainName, overriddenIn]; done) | decide +kernel)
theorem pd_1_1 : parseMethodDescriptor "()V" = some ⟨[], none⟩ := by decide +kernel
theorem ef_1 (m : MethodId) (a1 : Addr) (q2 : Int64) (q3 : Int64) (q4 : Int64) (q5 : Int64) : entryFrame m #[(.ref a1), (.long q2), (.long q3), (.long q4), (.long q5)] 9 = mkF m 0 #[rv a1, .val (.long q2), .second, .val (.long q3), .second, .val (.long q4), .second, .val (.long q5), .second] [] := by first | (simp [entryFrame, mkF, argsToLocals, Value.category]; done) | rfl
set_option maxRecDepth 65536 in
set_option maxHeartbeats 40000000 in
theorem rm1 (l : Launch) (Z : State) (a0 : Array Value) (hw : ∀ d ∈ tables_1, d.before a0 Z = true) (ws : List Jvm.Cond) (a1 : Addr) (q2 : Int64) (q3 : Int64) (q4 : Int64) (q5 : Int64) {u_d1 : Value} {u_d2 : Value} {u_d3 : Value} {u_d4 : Value} (h0 : Heap) (n0 : Nat) (Z0 : n0 ≤ h0.size) (E_a1 : Exa Z h0 a1 "com/example/thymus/thymus/DueWindow") (g_a1 : n0 ≤ a1) (F_d1_a1 : Fld Z h0 a1 "com/example/thymus/thymus/DueWindow" "d1" "J" u_d1) (F_d2_a1 : Fld Z h0 a1 "com/example/thymus/thymus/DueWindow" "d2" "J" u_d2) (F_d3_a1 : Fld Z h0 a1 "com/example/thymus/thymus/DueWindow" "d3" "J" u_d3) (F_d4_a1 : Fld Z h0 a1 "com/example/thymus/thymus/DueWindow" "d4" "J" u_d4) (hi1 : ¬ (q2 < (0 : Int64))) (hi2 : q2 < q3) (hi3 : ¬ (q4 < q3)) (hi4 : q4 < q5) :
    OwnCtr l Z (⟨"com/example/thymus/thymus/DueWindow", "<init>", "(JJJJ)V"⟩ : MethodName) ws prog_11_method_1_code 9 none ({ frames := 2, cells := 0, slots := 0, locals := 24 } : Room) #[(.ref a1), (.long q2), (.long q3), (.long q4), (.long q5)] h0 (fun v h L => v = none ∧ Fr n0 L ∧ Keep h0 h [a1] ∧ Exa Z h a1 "com/example/thymus/thymus/DueWindow" ∧ Fld Z h a1 "com/example/thymus/thymus/DueWindow" "d1" "J" (.long q2) ∧ Fld Z h a1 "com/example/thymus/thymus/DueWindow" "d2" "J" (.long q3) ∧ Fld Z h a1 "com/example/thymus/thymus/DueWindow" "d3" "J" (.long q4) ∧ Fld Z h a1 "com/example/thymus/thymus/DueWindow" "d4" "J" (.long q5)) := by
  refine own_body (g0 := fun m => mkF m 0 #[rv a1, .val (.long q2), .second, .val (.long q3), .second, .val (.long q4), .second, .val (.long q5), .second] []) pn_1 (fun m => ef_1 m a1 q2 q3 q4 q5) ?_
  intro p e s m below meth c s₁ X0 hx hby hml hown hnm hZ e0 hret hlk
  have hml : c.maxLocals = 9 := hml
  have hown : s.vm.findClass "com/example/thymus/thymus/DueWindow" = some m.cls := hown
  have hnm : meth.name = "<init>" := hnm
  have hret : meth.sig.returnType = none := hret
  have N0 := Fr.nil n0
  have K0 := Keep.refl h0 [a1]
  show OwnFin p e below s _ _ _ (s₁.setTop (mkF m 0 #[rv a1, .val (.long q2), .second, .val (.long q3), .second, .val (.long q4), .second, .val (.long q5), .second] []))
  refine own_go (fun t_ k_ => XS.aloadN X0.here hx rfl (hb hby d1_0) rfl rfl k_) ?_
  show OwnFin p e below s _ _ _ (s₁.setTop (mkF m 1 #[rv a1, .val (.long q2), .second, .val (.long q3), .second, .val (.long q4), .second, .val (.long q5), .second] [(.ref a1)]))
  obtain ⟨v1, T1, L1, X1, hQ1, st1⟩ := own_callI X0 hx hZ (y := (⟨"java/lang/Record", "<init>", "()V"⟩ : MethodName)) rfl hown (hw _ (List.mem_of_getElem? (i := 8) rfl)) (hw _ (List.mem_of_getElem? (i := 9) rfl)) (hw _ (List.mem_of_getElem? (i := 11) rfl)) (hw _ (List.mem_of_getElem? (i := 12) rfl)) (by decide) (W := 0) (rm2 l Z a0 hw [] a1 h0 n0 Z0) (by decide) (by decide) (g := (mkF m 1 #[rv a1, .val (.long q2), .second, .val (.long q3), .second, .val (.long q4), .second, .val (.long q5), .second] [(.ref a1)])) rfl (by rw [hml]; rfl) (a := a1) (argsL := []) (rest := []) (lenOf pd_1_1 rfl) rfl (by show 2 * 0 + _ ≤ _; exact Nat.le_of_eq rfl) (hb hby d1_1) e0 rfl (by decide) (by decide)
  obtain ⟨rfl, Nq1, e1⟩ := hQ1
  have N1 := Fr.app N0 Nq1
  refine own_go st1 ?_
  show OwnFin p e below s _ _ _ (T1.setTop (mkF m 4 #[rv a1, .val (.long q2), .second, .val (.long q3), .second, .val (.long q4), .second, .val (.long q5), .second] []))
  refine own_go (fun t_ k_ => XS.lloadN X1.here hx rfl (hb hby d1_4) rfl k_) ?_
  show OwnFin p e below s _ _ _ (T1.setTop (mkF m 5 #[rv a1, .val (.long q2), .second, .val (.long q3), .second, .val (.long q4), .second, .val (.long q5), .second] [(.long q2)]))
  refine own_go (fun t_ k_ => XS.lconst X1.here hx rfl (hb hby d1_5) k_) ?_
  show OwnFin p e below s _ _ _ (T1.setTop (mkF m 6 #[rv a1, .val (.long q2), .second, .val (.long q3), .second, .val (.long q4), .second, .val (.long q5), .second] [(.long (0 : Int64)), (.long q2)]))
  refine own_go (fun t_ k_ => XS.lcmp X1.here hx rfl (hb hby d1_6) rfl k_) ?_
  show OwnFin p e below s _ _ _ (T1.setTop (mkF m 7 #[rv a1, .val (.long q2), .second, .val (.long q3), .second, .val (.long q4), .second, .val (.long q5), .second] [(.int (lcmpW q2 (0 : Int64)))]))
  have hc7 : ¬ (q2 < (0 : Int64)) := hi1
  refine own_go (fun t_ k_ => XS.ifNo X1.here hx rfl (hb hby d1_7) rfl ((if0 _ _).trans (flt (mt (lw_lt q2 (0 : Int64)).mp hc7)).1) k_) ?_
  show OwnFin p e below s _ _ _ (T1.setTop (mkF m 10 #[rv a1, .val (.long q2), .second, .val (.long q3), .second, .val (.long q4), .second, .val (.long q5), .second] []))
  refine own_go (fun t_ k_ => XS.lloadN X1.here hx rfl (hb hby d1_10) rfl k_) ?_
  show OwnFin p e below s _ _ _ (T1.setTop (mkF m 11 #[rv a1, .val (.long q2), .second, .val (.long q3), .second, .val (.long q4), .second, .val (.long q5), .second] [(.long q2)]))
  refine own_go (fun t_ k_ => XS.lloadN X1.here hx rfl (hb hby d1_11) rfl k_) ?_
  show OwnFin p e below s _ _ _ (T1.setTop (mkF m 12 #[rv a1, .val (.long q2), .second, .val (.long q3), .second, .val (.long q4), .second, .val (.long q5), .second] [(.long q3), (.long q2)]))
  refine own_go (fun t_ k_ => XS.lcmp X1.here hx rfl (hb hby d1_12) rfl k_) ?_
  show OwnFin p e below s _ _ _ (T1.setTop (mkF m 13 #[rv a1, .val (.long q2), .second, .val (.long q3), .second, .val (.long q4), .second, .val (.long q5), .second] [(.int (lcmpW q2 q3))]))
  have hc13 : q2 < q3 := hi2
  refine own_go (fun t_ k_ => XS.ifNo X1.here hx rfl (hb hby d1_13) rfl ((if0 _ _).trans (tlt ((lw_lt q2 q3).mpr hc13)).2.1) k_) ?_
  show OwnFin p e below s _ _ _ (T1.setTop (mkF m 16 #[rv a1, .val (.long q2), .second, .val (.long q3), .second, .val (.long q4), .second, .val (.long q5), .second] []))
  refine own_go (fun t_ k_ => XS.lloadN X1.here hx rfl (hb hby d1_16) rfl k_) ?_
  show OwnFin p e below s _ _ _ (T1.setTop (mkF m 17 #[rv a1, .val (.long q2), .second, .val (.long q3), .second, .val (.long q4), .second, .val (.long q5), .second] [(.long q3)]))
  refine own_go (fun t_ k_ => XS.lload X1.here hx rfl (hb hby d1_17) rfl k_) ?_
  show OwnFin p e below s _ _ _ (T1.setTop (mkF m 19 #[rv a1, .val (.long q2), .second, .val (.long q3), .second, .val (.long q4), .second, .val (.long q5), .second] [(.long q4), (.long q3)]))
  refine own_go (fun t_ k_ => XS.lcmp X1.here hx rfl (hb hby d1_19) rfl k_) ?_
  show OwnFin p e below s _ _ _ (T1.setTop (mkF m 20 #[rv a1, .val (.long q2), .second, .val (.long q3), .second, .val (.long q4), .second, .val (.long q5), .second] [(.int (lcmpW q3 q4))]))
  have hc20 : ¬ (q4 < q3) := hi3
  refine own_go (fun t_ k_ => XS.ifNo X1.here hx rfl (hb hby d1_20) rfl ((if0 _ _).trans (flt (mt (lw_gt q3 q4).mp hc20)).2.2.1) k_) ?_
  show OwnFin p e below s _ _ _ (T1.setTop (mkF m 23 #[rv a1, .val (.long q2), .second, .val (.long q3), .second, .val (.long q4), .second, .val (.long q5), .second] []))
  refine own_go (fun t_ k_ => XS.lload X1.here hx rfl (hb hby d1_23) rfl k_) ?_
  show OwnFin p e below s _ _ _ (T1.setTop (mkF m 25 #[rv a1, .val (.long q2), .second, .val (.long q3), .second, .val (.long q4), .second, .val (.long q5), .second] [(.long q4)]))
  refine own_go (fun t_ k_ => XS.lload X1.here hx rfl (hb hby d1_25) rfl k_) ?_
  show OwnFin p e below s _ _ _ (T1.setTop (mkF m 27 #[rv a1, .val (.long q2), .second, .val (.long q3), .second, .val (.long q4), .second, .val (.long q5), .second] [(.long q5), (.long q4)]))
  refine own_go (fun t_ k_ => XS.lcmp X1.here hx rfl (hb hby d1_27) rfl k_) ?_
  show OwnFin p e below s _ _ _ (T1.setTop (mkF m 28 #[rv a1, .val (.long q2), .second, .val (.long q3), .second, .val (.long q4), .second, .val (.long q5), .second] [(.int (lcmpW q4 q5))]))
  have hc28 : q4 < q5 := hi4
  refine own_go (fun t_ k_ => XS.ifYes X1.here hx rfl (pc0 := 28) (pc' := 50) rfl (hb hby d1_28) rfl ((if0 _ _).trans (tlt ((lw_lt q4 q5).mpr hc28)).1) (by decide) (by decide) k_) ?_
  show OwnFin p e below s _ _ _ (T1.setTop (mkF m 50 #[rv a1, .val (.long q2), .second, .val (.long q3), .second, .val (.long q4), .second, .val (.long q5), .second] []))
  refine own_go (fun t_ k_ => XS.aloadN X1.here hx rfl (hb hby d1_50) rfl rfl k_) ?_
  show OwnFin p e below s _ _ _ (T1.setTop (mkF m 51 #[rv a1, .val (.long q2), .second, .val (.long q3), .second, .val (.long q4), .second, .val (.long q5), .second] [(.ref a1)]))
  refine own_go (fun t_ k_ => XS.lloadN X1.here hx rfl (hb hby d1_51) rfl k_) ?_
  show OwnFin p e below s _ _ _ (T1.setTop (mkF m 52 #[rv a1, .val (.long q2), .second, .val (.long q3), .second, .val (.long q4), .second, .val (.long q5), .second] [(.long q2), (.ref a1)]))
  obtain ⟨T2, h2, X2, e2, W2, st2⟩ := putF X1 hx hZ hown (host := "") (Or.inl (hw _ (List.mem_of_getElem? (i := 16) rfl))) Via.refl e1 F_d1_a1 E_a1 (Or.inr ⟨(hw _ (List.mem_of_getElem? (i := 17) rfl)), rfl, hnm⟩) (hw _ (List.mem_of_getElem? (i := 3) rfl)) (ty := .long) (by decide) rfl rfl (g := (mkF m 52 #[rv a1, .val (.long q2), .second, .val (.long q3), .second, .val (.long q4), .second, .val (.long q5), .second] [(.long q2), (.ref a1)])) rfl rfl (hb hby d1_52)
  have E_a1_2 := E_a1.wr W2
  have F_d1_a1_2 := F_d1_a1.same W2
  have F_d2_a1_2 := F_d2_a1.other W2 (Or.inr (slot_ne (Or.inr (hw _ (List.mem_of_getElem? (i := 19) rfl))) (Or.inr (hw _ (List.mem_of_getElem? (i := 17) rfl))) (by decide) (t := .long) (t' := .long) (by decide) (by decide)))
  have F_d3_a1_2 := F_d3_a1.other W2 (Or.inr (slot_ne (Or.inr (hw _ (List.mem_of_getElem? (i := 21) rfl))) (Or.inr (hw _ (List.mem_of_getElem? (i := 17) rfl))) (by decide) (t := .long) (t' := .long) (by decide) (by decide)))
  have F_d4_a1_2 := F_d4_a1.other W2 (Or.inr (slot_ne (Or.inr (hw _ (List.mem_of_getElem? (i := 23) rfl))) (Or.inr (hw _ (List.mem_of_getElem? (i := 17) rfl))) (by decide) (t := .long) (t' := .long) (by decide) (by decide)))
  have Z2 : n0 ≤ h2.size := Nat.le_trans Z0 (Keep.of_wr W2).1
  have K2 : Keep h0 h2 [a1] := K0.wr W2 (Or.inl (List.mem_of_getElem? (i := 0) rfl))
  have N2 := Fr.snoc X2 N1 g_a1
  refine own_go st2 ?_
  show OwnFin p e below s _ _ _ (T2.setTop (mkF m 55 #[rv a1, .val (.long q2), .second, .val (.long q3), .second, .val (.long q4), .second, .val (.long q5), .second] []))
  refine own_go (fun t_ k_ => XS.aloadN X2.here hx rfl (hb hby d1_55) rfl rfl k_) ?_
  show OwnFin p e below s _ _ _ (T2.setTop (mkF m 56 #[rv a1, .val (.long q2), .second, .val (.long q3), .second, .val (.long q4), .second, .val (.long q5), .second] [(.ref a1)]))
  refine own_go (fun t_ k_ => XS.lloadN X2.here hx rfl (hb hby d1_56) rfl k_) ?_
  show OwnFin p e below s _ _ _ (T2.setTop (mkF m 57 #[rv a1, .val (.long q2), .second, .val (.long q3), .second, .val (.long q4), .second, .val (.long q5), .second] [(.long q3), (.ref a1)]))
  obtain ⟨T3, h3, X3, e3, W3, st3⟩ := putF X2 hx hZ hown (host := "") (Or.inl (hw _ (List.mem_of_getElem? (i := 18) rfl))) Via.refl e2 F_d2_a1_2 E_a1_2 (Or.inr ⟨(hw _ (List.mem_of_getElem? (i := 19) rfl)), rfl, hnm⟩) (hw _ (List.mem_of_getElem? (i := 3) rfl)) (ty := .long) (by decide) rfl rfl (g := (mkF m 57 #[rv a1, .val (.long q2), .second, .val (.long q3), .second, .val (.long q4), .second, .val (.long q5), .second] [(.long q3), (.ref a1)])) rfl rfl (hb hby d1_57)
  have E_a1_3 := E_a1_2.wr W3
  have F_d1_a1_3 := F_d1_a1_2.other W3 (Or.inr (slot_ne (Or.inr (hw _ (List.mem_of_getElem? (i := 17) rfl))) (Or.inr (hw _ (List.mem_of_getElem? (i := 19) rfl))) (by decide) (t := .long) (t' := .long) (by decide) (by decide)))
  have F_d2_a1_3 := F_d2_a1_2.same W3
  have F_d3_a1_3 := F_d3_a1_2.other W3 (Or.inr (slot_ne (Or.inr (hw _ (List.mem_of_getElem? (i := 21) rfl))) (Or.inr (hw _ (List.mem_of_getElem? (i := 19) rfl))) (by decide) (t := .long) (t' := .long) (by decide) (by decide)))
  have F_d4_a1_3 := F_d4_a1_2.other W3 (Or.inr (slot_ne (Or.inr (hw _ (List.mem_of_getElem? (i := 23) rfl))) (Or.inr (hw _ (List.mem_of_getElem? (i := 19) rfl))) (by decide) (t := .long) (t' := .long) (by decide) (by decide)))
  have Z3 : n0 ≤ h3.size := Nat.le_trans Z2 (Keep.of_wr W3).1
  have K3 : Keep h0 h3 [a1] := K2.wr W3 (Or.inl (List.mem_of_getElem? (i := 0) rfl))
  have N3 := Fr.snoc X3 N2 g_a1
  refine own_go st3 ?_
  show OwnFin p e below s _ _ _ (T3.setTop (mkF m 60 #[rv a1, .val (.long q2), .second, .val (.long q3), .second, .val (.long q4), .second, .val (.long q5), .second] []))
  refine own_go (fun t_ k_ => XS.aloadN X3.here hx rfl (hb hby d1_60) rfl rfl k_) ?_
  show OwnFin p e below s _ _ _ (T3.setTop (mkF m 61 #[rv a1, .val (.long q2), .second, .val (.long q3), .second, .val (.long q4), .second, .val (.long q5), .second] [(.ref a1)]))
  refine own_go (fun t_ k_ => XS.lload X3.here hx rfl (hb hby d1_61) rfl k_) ?_
  show OwnFin p e below s _ _ _ (T3.setTop (mkF m 63 #[rv a1, .val (.long q2), .second, .val (.long q3), .second, .val (.long q4), .second, .val (.long q5), .second] [(.long q4), (.ref a1)]))
  obtain ⟨T4, h4, X4, e4, W4, st4⟩ := putF X3 hx hZ hown (host := "") (Or.inl (hw _ (List.mem_of_getElem? (i := 20) rfl))) Via.refl e3 F_d3_a1_3 E_a1_3 (Or.inr ⟨(hw _ (List.mem_of_getElem? (i := 21) rfl)), rfl, hnm⟩) (hw _ (List.mem_of_getElem? (i := 3) rfl)) (ty := .long) (by decide) rfl rfl (g := (mkF m 63 #[rv a1, .val (.long q2), .second, .val (.long q3), .second, .val (.long q4), .second, .val (.long q5), .second] [(.long q4), (.ref a1)])) rfl rfl (hb hby d1_63)
  have E_a1_4 := E_a1_3.wr W4
  have F_d1_a1_4 := F_d1_a1_3.other W4 (Or.inr (slot_ne (Or.inr (hw _ (List.mem_of_getElem? (i := 17) rfl))) (Or.inr (hw _ (List.mem_of_getElem? (i := 21) rfl))) (by decide) (t := .long) (t' := .long) (by decide) (by decide)))
  have F_d2_a1_4 := F_d2_a1_3.other W4 (Or.inr (slot_ne (Or.inr (hw _ (List.mem_of_getElem? (i := 19) rfl))) (Or.inr (hw _ (List.mem_of_getElem? (i := 21) rfl))) (by decide) (t := .long) (t' := .long) (by decide) (by decide)))
  have F_d3_a1_4 := F_d3_a1_3.same W4
  have F_d4_a1_4 := F_d4_a1_3.other W4 (Or.inr (slot_ne (Or.inr (hw _ (List.mem_of_getElem? (i := 23) rfl))) (Or.inr (hw _ (List.mem_of_getElem? (i := 21) rfl))) (by decide) (t := .long) (t' := .long) (by decide) (by decide)))
  have Z4 : n0 ≤ h4.size := Nat.le_trans Z3 (Keep.of_wr W4).1
  have K4 : Keep h0 h4 [a1] := K3.wr W4 (Or.inl (List.mem_of_getElem? (i := 0) rfl))
  have N4 := Fr.snoc X4 N3 g_a1
  refine own_go st4 ?_
  show OwnFin p e below s _ _ _ (T4.setTop (mkF m 66 #[rv a1, .val (.long q2), .second, .val (.long q3), .second, .val (.long q4), .second, .val (.long q5), .second] []))
  refine own_go (fun t_ k_ => XS.aloadN X4.here hx rfl (hb hby d1_66) rfl rfl k_) ?_
  show OwnFin p e below s _ _ _ (T4.setTop (mkF m 67 #[rv a1, .val (.long q2), .second, .val (.long q3), .second, .val (.long q4), .second, .val (.long q5), .second] [(.ref a1)]))
  refine own_go (fun t_ k_ => XS.lload X4.here hx rfl (hb hby d1_67) rfl k_) ?_
  show OwnFin p e below s _ _ _ (T4.setTop (mkF m 69 #[rv a1, .val (.long q2), .second, .val (.long q3), .second, .val (.long q4), .second, .val (.long q5), .second] [(.long q5), (.ref a1)]))
  obtain ⟨T5, h5, X5, e5, W5, st5⟩ := putF X4 hx hZ hown (host := "") (Or.inl (hw _ (List.mem_of_getElem? (i := 22) rfl))) Via.refl e4 F_d4_a1_4 E_a1_4 (Or.inr ⟨(hw _ (List.mem_of_getElem? (i := 23) rfl)), rfl, hnm⟩) (hw _ (List.mem_of_getElem? (i := 3) rfl)) (ty := .long) (by decide) rfl rfl (g := (mkF m 69 #[rv a1, .val (.long q2), .second, .val (.long q3), .second, .val (.long q4), .second, .val (.long q5), .second] [(.long q5), (.ref a1)])) rfl rfl (hb hby d1_69)
  have E_a1_5 := E_a1_4.wr W5
  have F_d1_a1_5 := F_d1_a1_4.other W5 (Or.inr (slot_ne (Or.inr (hw _ (List.mem_of_getElem? (i := 17) rfl))) (Or.inr (hw _ (List.mem_of_getElem? (i := 23) rfl))) (by decide) (t := .long) (t' := .long) (by decide) (by decide)))
  have F_d2_a1_5 := F_d2_a1_4.other W5 (Or.inr (slot_ne (Or.inr (hw _ (List.mem_of_getElem? (i := 19) rfl))) (Or.inr (hw _ (List.mem_of_getElem? (i := 23) rfl))) (by decide) (t := .long) (t' := .long) (by decide) (by decide)))
  have F_d3_a1_5 := F_d3_a1_4.other W5 (Or.inr (slot_ne (Or.inr (hw _ (List.mem_of_getElem? (i := 21) rfl))) (Or.inr (hw _ (List.mem_of_getElem? (i := 23) rfl))) (by decide) (t := .long) (t' := .long) (by decide) (by decide)))
  have F_d4_a1_5 := F_d4_a1_4.same W5
  have Z5 : n0 ≤ h5.size := Nat.le_trans Z4 (Keep.of_wr W5).1
  have K5 : Keep h0 h5 [a1] := K4.wr W5 (Or.inl (List.mem_of_getElem? (i := 0) rfl))
  have N5 := Fr.snoc X5 N4 g_a1
  refine own_go st5 ?_
  show OwnFin p e below s _ _ _ (T5.setTop (mkF m 72 #[rv a1, .val (.long q2), .second, .val (.long q3), .second, .val (.long q4), .second, .val (.long q5), .second] []))
  refine own_ret X5 (v := none) hlk (fun _ => rfl) (fun fs hr => X5.returnOut hx hret (hb hby d1_72) hr) (by decide) (by decide) ?_
  rw [e5]
  exact ⟨rfl, N5, K5, E_a1_5, F_d1_a1_5, F_d2_a1_5, F_d3_a1_5, F_d4_a1_5⟩
theorem d4_0 : decode prog_11_method_2_code 0 = .ok (.dload_n 1, 1) := by decide +kernel
theorem d4_1 : decode prog_11_method_2_code 1 = .ok (.aload_n 0, 1) := by decide +kernel
theorem d4_2 : decode prog_11_method_2_code 2 = .ok (.getfield 16, 3) := by decide +kernel
theorem d4_5 : decode prog_11_method_2_code 5 = .ok (.l2d, 1) := by decide +kernel
theorem d4_6 : decode prog_11_method_2_code 6 = .ok (.dcmp .g, 1) := by decide +kernel
theorem d4_7 : decode prog_11_method_2_code 7 = .ok (.ifCond .le 13, 3) := by decide +kernel
theorem d4_10 : decode prog_11_method_2_code 10 = .ok (.dload_n 1, 1) := by decide +kernel
theorem d4_11 : decode prog_11_method_2_code 11 = .ok (.aload_n 0, 1) := by decide +kernel
theorem d4_12 : decode prog_11_method_2_code 12 = .ok (.getfield 28, 3) := by decide +kernel
theorem d4_15 : decode prog_11_method_2_code 15 = .ok (.l2d, 1) := by decide +kernel
theorem d4_16 : decode prog_11_method_2_code 16 = .ok (.dcmp .l, 1) := by decide +kernel
theorem d4_17 : decode prog_11_method_2_code 17 = .ok (.ifCond .lt 5, 3) := by decide +kernel
theorem d4_20 : decode prog_11_method_2_code 20 = .ok (.dconst 0, 1) := by decide +kernel
theorem d4_21 : decode prog_11_method_2_code 21 = .ok (.dreturn, 1) := by decide +kernel
theorem d4_22 : decode prog_11_method_2_code 22 = .ok (.dload_n 1, 1) := by decide +kernel
theorem d4_23 : decode prog_11_method_2_code 23 = .ok (.aload_n 0, 1) := by decide +kernel
theorem d4_24 : decode prog_11_method_2_code 24 = .ok (.getfield 22, 3) := by decide +kernel
theorem d4_27 : decode prog_11_method_2_code 27 = .ok (.l2d, 1) := by decide +kernel
theorem d4_28 : decode prog_11_method_2_code 28 = .ok (.dcmp .g, 1) := by decide +kernel
theorem d4_29 : decode prog_11_method_2_code 29 = .ok (.ifCond .ge 22, 3) := by decide +kernel
theorem d4_32 : decode prog_11_method_2_code 32 = .ok (.dload_n 1, 1) := by decide +kernel
theorem d4_33 : decode prog_11_method_2_code 33 = .ok (.aload_n 0, 1) := by decide +kernel
theorem d4_34 : decode prog_11_method_2_code 34 = .ok (.getfield 16, 3) := by decide +kernel
theorem d4_37 : decode prog_11_method_2_code 37 = .ok (.l2d, 1) := by decide +kernel
theorem d4_38 : decode prog_11_method_2_code 38 = .ok (.dsub, 1) := by decide +kernel
theorem d4_39 : decode prog_11_method_2_code 39 = .ok (.aload_n 0, 1) := by decide +kernel
theorem d4_40 : decode prog_11_method_2_code 40 = .ok (.getfield 22, 3) := by decide +kernel
theorem d4_43 : decode prog_11_method_2_code 43 = .ok (.aload_n 0, 1) := by decide +kernel
theorem d4_44 : decode prog_11_method_2_code 44 = .ok (.getfield 16, 3) := by decide +kernel
theorem d4_47 : decode prog_11_method_2_code 47 = .ok (.lsub, 1) := by decide +kernel
theorem d4_48 : decode prog_11_method_2_code 48 = .ok (.l2d, 1) := by decide +kernel
theorem d4_49 : decode prog_11_method_2_code 49 = .ok (.ddiv, 1) := by decide +kernel
theorem d4_50 : decode prog_11_method_2_code 50 = .ok (.dreturn, 1) := by decide +kernel
theorem d4_51 : decode prog_11_method_2_code 51 = .ok (.dload_n 1, 1) := by decide +kernel
theorem d4_52 : decode prog_11_method_2_code 52 = .ok (.aload_n 0, 1) := by decide +kernel
theorem d4_53 : decode prog_11_method_2_code 53 = .ok (.getfield 25, 3) := by decide +kernel
theorem d4_56 : decode prog_11_method_2_code 56 = .ok (.l2d, 1) := by decide +kernel
theorem d4_57 : decode prog_11_method_2_code 57 = .ok (.dcmp .g, 1) := by decide +kernel
theorem d4_58 : decode prog_11_method_2_code 58 = .ok (.ifCond .gt 7, 3) := by decide +kernel
theorem d4_61 : decode prog_11_method_2_code 61 = .ok (.dconst 1, 1) := by decide +kernel
theorem d4_62 : decode prog_11_method_2_code 62 = .ok (.goto 21, 3) := by decide +kernel
theorem d4_65 : decode prog_11_method_2_code 65 = .ok (.aload_n 0, 1) := by decide +kernel
theorem d4_66 : decode prog_11_method_2_code 66 = .ok (.getfield 28, 3) := by decide +kernel
theorem d4_69 : decode prog_11_method_2_code 69 = .ok (.l2d, 1) := by decide +kernel
theorem d4_70 : decode prog_11_method_2_code 70 = .ok (.dload_n 1, 1) := by decide +kernel
theorem d4_71 : decode prog_11_method_2_code 71 = .ok (.dsub, 1) := by decide +kernel
theorem d4_72 : decode prog_11_method_2_code 72 = .ok (.aload_n 0, 1) := by decide +kernel
theorem d4_73 : decode prog_11_method_2_code 73 = .ok (.getfield 28, 3) := by decide +kernel
theorem d4_76 : decode prog_11_method_2_code 76 = .ok (.aload_n 0, 1) := by decide +kernel
theorem d4_77 : decode prog_11_method_2_code 77 = .ok (.getfield 25, 3) := by decide +kernel
theorem d4_80 : decode prog_11_method_2_code 80 = .ok (.lsub, 1) := by decide +kernel
theorem d4_81 : decode prog_11_method_2_code 81 = .ok (.l2d, 1) := by decide +kernel
theorem d4_82 : decode prog_11_method_2_code 82 = .ok (.ddiv, 1) := by decide +kernel
theorem d4_83 : decode prog_11_method_2_code 83 = .ok (.dreturn, 1) := by decide +kernel
theorem pn_4 : plainFor (⟨"com/example/thymus/thymus/DueWindow", "membership", "(D)D"⟩ : MethodName) = true := plainFor_of_name (by first | (simp [plainName, overriddenIn]; done) | decide +kernel)
theorem ef_4 (m : MethodId) (fo : Addr) (tm : UInt64) : entryFrame m #[(.ref fo), (.double tm)] 3 = mkF m 0 #[rv fo, .val (.double tm), .second] [] := by first | (simp [entryFrame, mkF, argsToLocals, Value.category]; done) | rfl
set_option maxRecDepth 65536 in
set_option maxHeartbeats 40000000 in
theorem rm4 (l : Launch) (Z : State) (a0 : Array Value) (hw : ∀ d ∈ tables_1, d.before a0 Z = true) (ws : List Jvm.Cond) (fo : Addr) (tm : UInt64) (px : Int64) (d1 : Int64) (d2 : Int64) (d3 : Int64) (d4 : Int64) (k1 : Int64) (k2 : Int64) (k3 : Int64) (k4 : Int64) (h0 : Heap) (n0 : Nat) (Z0 : n0 ≤ h0.size) (hT : tm = FP.ddiv (FP.l2d px) (4611686018427387904 : UInt64)) (hW : own_win px d1 d2 d3 d4 k1 k2 k3 k4) (F_d1 : Fld Z h0 fo "com/example/thymus/thymus/DueWindow" "d1" "J" (.long d1)) (F_d2 : Fld Z h0 fo "com/example/thymus/thymus/DueWindow" "d2" "J" (.long d2)) (F_d3 : Fld Z h0 fo "com/example/thymus/thymus/DueWindow" "d3" "J" (.long d3)) (F_d4 : Fld Z h0 fo "com/example/thymus/thymus/DueWindow" "d4" "J" (.long d4)) :
    OwnCtr l Z (⟨"com/example/thymus/thymus/DueWindow", "membership", "(D)D"⟩ : MethodName) ws prog_11_method_2_code 3 (some .double) ({ frames := 0, cells := 0, slots := 0, locals := 0 } : Room) #[(.ref fo), (.double tm)] h0 (fun v h L => v = some (.double (own_ref px k1 k2 k3 k4)) ∧ Fr n0 L ∧ h = h0) := by
  refine own_body (g0 := fun m => mkF m 0 #[rv fo, .val (.double tm), .second] []) pn_4 (fun m => ef_4 m fo tm) ?_
  intro p e s m below meth c s₁ X0 hx hby hml hown hnm hZ e0 hret hlk
  have hml : c.maxLocals = 3 := hml
  have hown : s.vm.findClass "com/example/thymus/thymus/DueWindow" = some m.cls := hown
  have hnm : meth.name = "membership" := hnm
  have hret : meth.sig.returnType = (some .double) := hret
  have N0 := Fr.nil n0
  show OwnFin p e below s _ _ _ (s₁.setTop (mkF m 0 #[rv fo, .val (.double tm), .second] []))
  have hW0 := hW
  obtain ⟨w1, w2, w3, w4, w5, w6, w7, w8, w9, w10, w11⟩ := hW0
  have hN : Jvm.Free.Fl.NoNaN64 tm := by rw [hT]; exact own_tmN px
  have hn1 : d2 - d1 ≠ 0 := own_nzL w2 (by omega) (by omega)
  have hn2 : d4 - d3 ≠ 0 := own_nzL w4 (by omega) (by omega)
  refine own_go (fun t_ k_ => XS.dloadN X0.here hx rfl (hb hby d4_0) rfl k_) ?_
  show OwnFin p e below s _ _ _ (s₁.setTop (mkF m 1 #[rv fo, .val (.double tm), .second] [(.double tm)]))
  refine own_go (fun t_ k_ => XS.aloadN X0.here hx rfl (hb hby d4_1) rfl rfl k_) ?_
  show OwnFin p e below s _ _ _ (s₁.setTop (mkF m 2 #[rv fo, .val (.double tm), .second] [(.ref fo), (.double tm)]))
  obtain ⟨T1, X1, e1, st1⟩ := getF X0 hx hZ hown (host := "") (Or.inl (hw _ (List.mem_of_getElem? (i := 16) rfl))) Via.refl e0 F_d1 (g := (mkF m 2 #[rv fo, .val (.double tm), .second] [(.ref fo), (.double tm)])) rfl rfl (hb hby d4_2)
  refine own_go st1 ?_
  show OwnFin p e below s _ _ _ (T1.setTop (mkF m 5 #[rv fo, .val (.double tm), .second] [(.long d1), (.double tm)]))
  refine own_go (fun t_ k_ => XS.l2dS X1.here hx rfl (hb hby d4_5) rfl rfl k_) ?_
  show OwnFin p e below s _ _ _ (T1.setTop (mkF m 6 #[rv fo, .val (.double tm), .second] [(.double (FP.l2d d1)), (.double tm)]))
  refine own_go (fun t_ k_ => XS.dcmpS X1.here hx rfl (hb hby d4_6) rfl (v := (lcmpW px k1)) (by rw [hT]; exact own_cmpV (own_small (by omega) (by omega)) (own_small (by omega) (by omega)) (by omega) _) k_) ?_
  show OwnFin p e below s _ _ _ (T1.setTop (mkF m 7 #[rv fo, .val (.double tm), .second] [(.int (lcmpW px k1))]))
  by_cases hc7 : k1 < px
  · refine own_go (fun t_ k_ => XS.ifNo X1.here hx rfl (hb hby d4_7) rfl ((if0 _ _).trans (tlt ((lw_gt px k1).mpr hc7)).2.2.2) k_) ?_
    show OwnFin p e below s _ _ _ (T1.setTop (mkF m 10 #[rv fo, .val (.double tm), .second] []))
    refine own_go (fun t_ k_ => XS.dloadN X1.here hx rfl (hb hby d4_10) rfl k_) ?_
    show OwnFin p e below s _ _ _ (T1.setTop (mkF m 11 #[rv fo, .val (.double tm), .second] [(.double tm)]))
    refine own_go (fun t_ k_ => XS.aloadN X1.here hx rfl (hb hby d4_11) rfl rfl k_) ?_
    show OwnFin p e below s _ _ _ (T1.setTop (mkF m 12 #[rv fo, .val (.double tm), .second] [(.ref fo), (.double tm)]))
    obtain ⟨T2, X2, e2, st2⟩ := getF X1 hx hZ hown (host := "") (Or.inl (hw _ (List.mem_of_getElem? (i := 22) rfl))) Via.refl e1 F_d4 (g := (mkF m 12 #[rv fo, .val (.double tm), .second] [(.ref fo), (.double tm)])) rfl rfl (hb hby d4_12)
    refine own_go st2 ?_
    show OwnFin p e below s _ _ _ (T2.setTop (mkF m 15 #[rv fo, .val (.double tm), .second] [(.long d4), (.double tm)]))
    refine own_go (fun t_ k_ => XS.l2dS X2.here hx rfl (hb hby d4_15) rfl rfl k_) ?_
    show OwnFin p e below s _ _ _ (T2.setTop (mkF m 16 #[rv fo, .val (.double tm), .second] [(.double (FP.l2d d4)), (.double tm)]))
    refine own_go (fun t_ k_ => XS.dcmpS X2.here hx rfl (hb hby d4_16) rfl (v := (lcmpW px k4)) (by rw [hT]; exact own_cmpV (own_small (by omega) (by omega)) (own_small (by omega) (by omega)) (by omega) _) k_) ?_
    show OwnFin p e below s _ _ _ (T2.setTop (mkF m 17 #[rv fo, .val (.double tm), .second] [(.int (lcmpW px k4))]))
    by_cases hc17 : px < k4
    · refine own_go (fun t_ k_ => XS.ifYes X2.here hx rfl (pc0 := 17) (pc' := 22) rfl (hb hby d4_17) rfl ((if0 _ _).trans (tlt ((lw_lt px k4).mpr hc17)).1) (by decide) (by decide) k_) ?_
      show OwnFin p e below s _ _ _ (T2.setTop (mkF m 22 #[rv fo, .val (.double tm), .second] []))
      refine own_go (fun t_ k_ => XS.dloadN X2.here hx rfl (hb hby d4_22) rfl k_) ?_
      show OwnFin p e below s _ _ _ (T2.setTop (mkF m 23 #[rv fo, .val (.double tm), .second] [(.double tm)]))
      refine own_go (fun t_ k_ => XS.aloadN X2.here hx rfl (hb hby d4_23) rfl rfl k_) ?_
      show OwnFin p e below s _ _ _ (T2.setTop (mkF m 24 #[rv fo, .val (.double tm), .second] [(.ref fo), (.double tm)]))
      obtain ⟨T3, X3, e3, st3⟩ := getF X2 hx hZ hown (host := "") (Or.inl (hw _ (List.mem_of_getElem? (i := 18) rfl))) Via.refl e2 F_d2 (g := (mkF m 24 #[rv fo, .val (.double tm), .second] [(.ref fo), (.double tm)])) rfl rfl (hb hby d4_24)
      refine own_go st3 ?_
      show OwnFin p e below s _ _ _ (T3.setTop (mkF m 27 #[rv fo, .val (.double tm), .second] [(.long d2), (.double tm)]))
      refine own_go (fun t_ k_ => XS.l2dS X3.here hx rfl (hb hby d4_27) rfl rfl k_) ?_
      show OwnFin p e below s _ _ _ (T3.setTop (mkF m 28 #[rv fo, .val (.double tm), .second] [(.double (FP.l2d d2)), (.double tm)]))
      refine own_go (fun t_ k_ => XS.dcmpS X3.here hx rfl (hb hby d4_28) rfl (v := (lcmpW px k2)) (by rw [hT]; exact own_cmpV (own_small (by omega) (by omega)) (own_small (by omega) (by omega)) (by omega) _) k_) ?_
      show OwnFin p e below s _ _ _ (T3.setTop (mkF m 29 #[rv fo, .val (.double tm), .second] [(.int (lcmpW px k2))]))
      by_cases hc29 : px < k2
      · refine own_go (fun t_ k_ => XS.ifNo X3.here hx rfl (hb hby d4_29) rfl ((if0 _ _).trans (tlt ((lw_lt px k2).mpr hc29)).2.1) k_) ?_
        show OwnFin p e below s _ _ _ (T3.setTop (mkF m 32 #[rv fo, .val (.double tm), .second] []))
        refine own_go (fun t_ k_ => XS.dloadN X3.here hx rfl (hb hby d4_32) rfl k_) ?_
        show OwnFin p e below s _ _ _ (T3.setTop (mkF m 33 #[rv fo, .val (.double tm), .second] [(.double tm)]))
        refine own_go (fun t_ k_ => XS.aloadN X3.here hx rfl (hb hby d4_33) rfl rfl k_) ?_
        show OwnFin p e below s _ _ _ (T3.setTop (mkF m 34 #[rv fo, .val (.double tm), .second] [(.ref fo), (.double tm)]))
        obtain ⟨T4, X4, e4, st4⟩ := getF X3 hx hZ hown (host := "") (Or.inl (hw _ (List.mem_of_getElem? (i := 16) rfl))) Via.refl e3 F_d1 (g := (mkF m 34 #[rv fo, .val (.double tm), .second] [(.ref fo), (.double tm)])) rfl rfl (hb hby d4_34)
        refine own_go st4 ?_
        show OwnFin p e below s _ _ _ (T4.setTop (mkF m 37 #[rv fo, .val (.double tm), .second] [(.long d1), (.double tm)]))
        refine own_go (fun t_ k_ => XS.l2dS X4.here hx rfl (hb hby d4_37) rfl rfl k_) ?_
        show OwnFin p e below s _ _ _ (T4.setTop (mkF m 38 #[rv fo, .val (.double tm), .second] [(.double (FP.l2d d1)), (.double tm)]))
        refine own_go (fun t_ k_ => XS.dsubS X4.here hx rfl (hb hby d4_38) rfl (Jvm.Free.Fl.dsub_out hN (Jvm.Free.Fl.l2d_fin _)) rfl k_) ?_
        show OwnFin p e below s _ _ _ (T4.setTop (mkF m 39 #[rv fo, .val (.double tm), .second] [(.double (FP.dsub tm (FP.l2d d1)))]))
        refine own_go (fun t_ k_ => XS.aloadN X4.here hx rfl (hb hby d4_39) rfl rfl k_) ?_
        show OwnFin p e below s _ _ _ (T4.setTop (mkF m 40 #[rv fo, .val (.double tm), .second] [(.ref fo), (.double (FP.dsub tm (FP.l2d d1)))]))
        obtain ⟨T5, X5, e5, st5⟩ := getF X4 hx hZ hown (host := "") (Or.inl (hw _ (List.mem_of_getElem? (i := 18) rfl))) Via.refl e4 F_d2 (g := (mkF m 40 #[rv fo, .val (.double tm), .second] [(.ref fo), (.double (FP.dsub tm (FP.l2d d1)))])) rfl rfl (hb hby d4_40)
        refine own_go st5 ?_
        show OwnFin p e below s _ _ _ (T5.setTop (mkF m 43 #[rv fo, .val (.double tm), .second] [(.long d2), (.double (FP.dsub tm (FP.l2d d1)))]))
        refine own_go (fun t_ k_ => XS.aloadN X5.here hx rfl (hb hby d4_43) rfl rfl k_) ?_
        show OwnFin p e below s _ _ _ (T5.setTop (mkF m 44 #[rv fo, .val (.double tm), .second] [(.ref fo), (.long d2), (.double (FP.dsub tm (FP.l2d d1)))]))
        obtain ⟨T6, X6, e6, st6⟩ := getF X5 hx hZ hown (host := "") (Or.inl (hw _ (List.mem_of_getElem? (i := 16) rfl))) Via.refl e5 F_d1 (g := (mkF m 44 #[rv fo, .val (.double tm), .second] [(.ref fo), (.long d2), (.double (FP.dsub tm (FP.l2d d1)))])) rfl rfl (hb hby d4_44)
        refine own_go st6 ?_
        show OwnFin p e below s _ _ _ (T6.setTop (mkF m 47 #[rv fo, .val (.double tm), .second] [(.long d1), (.long d2), (.double (FP.dsub tm (FP.l2d d1)))]))
        refine own_go (fun t_ k_ => XS.lsub X6.here hx rfl (hb hby d4_47) rfl k_) ?_
        show OwnFin p e below s _ _ _ (T6.setTop (mkF m 48 #[rv fo, .val (.double tm), .second] [(.long (d2 - d1)), (.double (FP.dsub tm (FP.l2d d1)))]))
        refine own_go (fun t_ k_ => XS.l2dS X6.here hx rfl (hb hby d4_48) rfl rfl k_) ?_
        show OwnFin p e below s _ _ _ (T6.setTop (mkF m 49 #[rv fo, .val (.double tm), .second] [(.double (FP.l2d (d2 - d1))), (.double (FP.dsub tm (FP.l2d d1)))]))
        refine own_go (fun t_ k_ => XS.ddivS X6.here hx rfl (hb hby d4_49) rfl (Jvm.Free.Fl.ddiv_out (Jvm.Free.Fl.dsub_out hN (Jvm.Free.Fl.l2d_fin _)) (Jvm.Free.Fl.l2d_fin _) (Jvm.Free.Fl.l2d_nz hn1)) rfl k_) ?_
        show OwnFin p e below s _ _ _ (T6.setTop (mkF m 50 #[rv fo, .val (.double tm), .second] [(.double (FP.ddiv (FP.dsub tm (FP.l2d d1)) (FP.l2d (d2 - d1))))]))
        refine own_ret X6 (v := some (.double (FP.ddiv (FP.dsub tm (FP.l2d d1)) (FP.l2d (d2 - d1))))) hlk (fun hh => by rw [hret] at hh; cases hh) (fun fs hr => retOut X6 hx hret rfl (Or.inr (Or.inr (Or.inl ⟨rfl, rfl, _, rfl⟩))) (hb hby d4_50) hr) (by decide) (by decide) ?_
        rw [e6]
        exact ⟨by rw [own_ref, if_pos hc7, if_pos hc17, if_pos hc29]; rw [hT, own_rise hW hc7], N0, rfl⟩
      · refine own_go (fun t_ k_ => XS.ifYes X3.here hx rfl (pc0 := 29) (pc' := 51) rfl (hb hby d4_29) rfl ((if0 _ _).trans (flt (mt (lw_lt px k2).mp hc29)).2.1) (by decide) (by decide) k_) ?_
        show OwnFin p e below s _ _ _ (T3.setTop (mkF m 51 #[rv fo, .val (.double tm), .second] []))
        refine own_go (fun t_ k_ => XS.dloadN X3.here hx rfl (hb hby d4_51) rfl k_) ?_
        show OwnFin p e below s _ _ _ (T3.setTop (mkF m 52 #[rv fo, .val (.double tm), .second] [(.double tm)]))
        refine own_go (fun t_ k_ => XS.aloadN X3.here hx rfl (hb hby d4_52) rfl rfl k_) ?_
        show OwnFin p e below s _ _ _ (T3.setTop (mkF m 53 #[rv fo, .val (.double tm), .second] [(.ref fo), (.double tm)]))
        obtain ⟨T7, X7, e7, st7⟩ := getF X3 hx hZ hown (host := "") (Or.inl (hw _ (List.mem_of_getElem? (i := 20) rfl))) Via.refl e3 F_d3 (g := (mkF m 53 #[rv fo, .val (.double tm), .second] [(.ref fo), (.double tm)])) rfl rfl (hb hby d4_53)
        refine own_go st7 ?_
        show OwnFin p e below s _ _ _ (T7.setTop (mkF m 56 #[rv fo, .val (.double tm), .second] [(.long d3), (.double tm)]))
        refine own_go (fun t_ k_ => XS.l2dS X7.here hx rfl (hb hby d4_56) rfl rfl k_) ?_
        show OwnFin p e below s _ _ _ (T7.setTop (mkF m 57 #[rv fo, .val (.double tm), .second] [(.double (FP.l2d d3)), (.double tm)]))
        refine own_go (fun t_ k_ => XS.dcmpS X7.here hx rfl (hb hby d4_57) rfl (v := (lcmpW px k3)) (by rw [hT]; exact own_cmpV (own_small (by omega) (by omega)) (own_small (by omega) (by omega)) (by omega) _) k_) ?_
        show OwnFin p e below s _ _ _ (T7.setTop (mkF m 58 #[rv fo, .val (.double tm), .second] [(.int (lcmpW px k3))]))
        by_cases hc58 : k3 < px
        · refine own_go (fun t_ k_ => XS.ifYes X7.here hx rfl (pc0 := 58) (pc' := 65) rfl (hb hby d4_58) rfl ((if0 _ _).trans (tlt ((lw_gt px k3).mpr hc58)).2.2.1) (by decide) (by decide) k_) ?_
          show OwnFin p e below s _ _ _ (T7.setTop (mkF m 65 #[rv fo, .val (.double tm), .second] []))
          refine own_go (fun t_ k_ => XS.aloadN X7.here hx rfl (hb hby d4_65) rfl rfl k_) ?_
          show OwnFin p e below s _ _ _ (T7.setTop (mkF m 66 #[rv fo, .val (.double tm), .second] [(.ref fo)]))
          obtain ⟨T8, X8, e8, st8⟩ := getF X7 hx hZ hown (host := "") (Or.inl (hw _ (List.mem_of_getElem? (i := 22) rfl))) Via.refl e7 F_d4 (g := (mkF m 66 #[rv fo, .val (.double tm), .second] [(.ref fo)])) rfl rfl (hb hby d4_66)
          refine own_go st8 ?_
          show OwnFin p e below s _ _ _ (T8.setTop (mkF m 69 #[rv fo, .val (.double tm), .second] [(.long d4)]))
          refine own_go (fun t_ k_ => XS.l2dS X8.here hx rfl (hb hby d4_69) rfl rfl k_) ?_
          show OwnFin p e below s _ _ _ (T8.setTop (mkF m 70 #[rv fo, .val (.double tm), .second] [(.double (FP.l2d d4))]))
          refine own_go (fun t_ k_ => XS.dloadN X8.here hx rfl (hb hby d4_70) rfl k_) ?_
          show OwnFin p e below s _ _ _ (T8.setTop (mkF m 71 #[rv fo, .val (.double tm), .second] [(.double tm), (.double (FP.l2d d4))]))
          refine own_go (fun t_ k_ => XS.dsubS X8.here hx rfl (hb hby d4_71) rfl (Jvm.Free.Fl.dsub_out' (Jvm.Free.Fl.l2d_fin _) hN) rfl k_) ?_
          show OwnFin p e below s _ _ _ (T8.setTop (mkF m 72 #[rv fo, .val (.double tm), .second] [(.double (FP.dsub (FP.l2d d4) tm))]))
          refine own_go (fun t_ k_ => XS.aloadN X8.here hx rfl (hb hby d4_72) rfl rfl k_) ?_
          show OwnFin p e below s _ _ _ (T8.setTop (mkF m 73 #[rv fo, .val (.double tm), .second] [(.ref fo), (.double (FP.dsub (FP.l2d d4) tm))]))
          obtain ⟨T9, X9, e9, st9⟩ := getF X8 hx hZ hown (host := "") (Or.inl (hw _ (List.mem_of_getElem? (i := 22) rfl))) Via.refl e8 F_d4 (g := (mkF m 73 #[rv fo, .val (.double tm), .second] [(.ref fo), (.double (FP.dsub (FP.l2d d4) tm))])) rfl rfl (hb hby d4_73)
          refine own_go st9 ?_
          show OwnFin p e below s _ _ _ (T9.setTop (mkF m 76 #[rv fo, .val (.double tm), .second] [(.long d4), (.double (FP.dsub (FP.l2d d4) tm))]))
          refine own_go (fun t_ k_ => XS.aloadN X9.here hx rfl (hb hby d4_76) rfl rfl k_) ?_
          show OwnFin p e below s _ _ _ (T9.setTop (mkF m 77 #[rv fo, .val (.double tm), .second] [(.ref fo), (.long d4), (.double (FP.dsub (FP.l2d d4) tm))]))
          obtain ⟨T10, X10, e10, st10⟩ := getF X9 hx hZ hown (host := "") (Or.inl (hw _ (List.mem_of_getElem? (i := 20) rfl))) Via.refl e9 F_d3 (g := (mkF m 77 #[rv fo, .val (.double tm), .second] [(.ref fo), (.long d4), (.double (FP.dsub (FP.l2d d4) tm))])) rfl rfl (hb hby d4_77)
          refine own_go st10 ?_
          show OwnFin p e below s _ _ _ (T10.setTop (mkF m 80 #[rv fo, .val (.double tm), .second] [(.long d3), (.long d4), (.double (FP.dsub (FP.l2d d4) tm))]))
          refine own_go (fun t_ k_ => XS.lsub X10.here hx rfl (hb hby d4_80) rfl k_) ?_
          show OwnFin p e below s _ _ _ (T10.setTop (mkF m 81 #[rv fo, .val (.double tm), .second] [(.long (d4 - d3)), (.double (FP.dsub (FP.l2d d4) tm))]))
          refine own_go (fun t_ k_ => XS.l2dS X10.here hx rfl (hb hby d4_81) rfl rfl k_) ?_
          show OwnFin p e below s _ _ _ (T10.setTop (mkF m 82 #[rv fo, .val (.double tm), .second] [(.double (FP.l2d (d4 - d3))), (.double (FP.dsub (FP.l2d d4) tm))]))
          refine own_go (fun t_ k_ => XS.ddivS X10.here hx rfl (hb hby d4_82) rfl (Jvm.Free.Fl.ddiv_out (Jvm.Free.Fl.dsub_out' (Jvm.Free.Fl.l2d_fin _) hN) (Jvm.Free.Fl.l2d_fin _) (Jvm.Free.Fl.l2d_nz hn2)) rfl k_) ?_
          show OwnFin p e below s _ _ _ (T10.setTop (mkF m 83 #[rv fo, .val (.double tm), .second] [(.double (FP.ddiv (FP.dsub (FP.l2d d4) tm) (FP.l2d (d4 - d3))))]))
          refine own_ret X10 (v := some (.double (FP.ddiv (FP.dsub (FP.l2d d4) tm) (FP.l2d (d4 - d3))))) hlk (fun hh => by rw [hret] at hh; cases hh) (fun fs hr => retOut X10 hx hret rfl (Or.inr (Or.inr (Or.inl ⟨rfl, rfl, _, rfl⟩))) (hb hby d4_83) hr) (by decide) (by decide) ?_
          rw [e10]
          exact ⟨by rw [own_ref, if_pos hc7, if_pos hc17, if_neg hc29, if_pos hc58]; rw [hT, own_fall hW hc17], N0, rfl⟩
        · refine own_go (fun t_ k_ => XS.ifNo X7.here hx rfl (hb hby d4_58) rfl ((if0 _ _).trans (flt (mt (lw_gt px k3).mp hc58)).2.2.1) k_) ?_
          show OwnFin p e below s _ _ _ (T7.setTop (mkF m 61 #[rv fo, .val (.double tm), .second] []))
          refine own_go (fun t_ k_ => XS.dconst1 X7.here hx rfl (hb hby d4_61) (v := 4607182418800017408) (by decide) k_) ?_
          show OwnFin p e below s _ _ _ (T7.setTop (mkF m 62 #[rv fo, .val (.double tm), .second] [(.double (4607182418800017408 : UInt64))]))
          refine own_go (fun t_ k_ => XS.goto X7.here hx rfl (pc0 := 62) (pc' := 83) rfl (hb hby d4_62) (by decide) (by decide) k_) ?_
          show OwnFin p e below s _ _ _ (T7.setTop (mkF m 83 #[rv fo, .val (.double tm), .second] [(.double (4607182418800017408 : UInt64))]))
          refine own_ret X7 (v := some (.double (4607182418800017408 : UInt64))) hlk (fun hh => by rw [hret] at hh; cases hh) (fun fs hr => retOut X7 hx hret rfl (Or.inr (Or.inr (Or.inl ⟨rfl, rfl, _, rfl⟩))) (hb hby d4_83) hr) (by decide) (by decide) ?_
          rw [e7]
          exact ⟨by rw [own_ref, if_pos hc7, if_pos hc17, if_neg hc29, if_neg hc58], N0, rfl⟩
    · refine own_go (fun t_ k_ => XS.ifNo X2.here hx rfl (hb hby d4_17) rfl ((if0 _ _).trans (flt (mt (lw_lt px k4).mp hc17)).1) k_) ?_
      show OwnFin p e below s _ _ _ (T2.setTop (mkF m 20 #[rv fo, .val (.double tm), .second] []))
      refine own_go (fun t_ k_ => XS.dconst0 X2.here hx rfl (hb hby d4_20) (v := 0) (by decide) k_) ?_
      show OwnFin p e below s _ _ _ (T2.setTop (mkF m 21 #[rv fo, .val (.double tm), .second] [(.double (0 : UInt64))]))
      refine own_ret X2 (v := some (.double (0 : UInt64))) hlk (fun hh => by rw [hret] at hh; cases hh) (fun fs hr => retOut X2 hx hret rfl (Or.inr (Or.inr (Or.inl ⟨rfl, rfl, _, rfl⟩))) (hb hby d4_21) hr) (by decide) (by decide) ?_
      rw [e2]
      exact ⟨by rw [own_ref, if_pos hc7, if_neg hc17], N0, rfl⟩
  · refine own_go (fun t_ k_ => XS.ifYes X1.here hx rfl (pc0 := 7) (pc' := 20) rfl (hb hby d4_7) rfl ((if0 _ _).trans (flt (mt (lw_gt px k1).mp hc7)).2.2.2) (by decide) (by decide) k_) ?_
    show OwnFin p e below s _ _ _ (T1.setTop (mkF m 20 #[rv fo, .val (.double tm), .second] []))
    refine own_go (fun t_ k_ => XS.dconst0 X1.here hx rfl (hb hby d4_20) (v := 0) (by decide) k_) ?_
    show OwnFin p e below s _ _ _ (T1.setTop (mkF m 21 #[rv fo, .val (.double tm), .second] [(.double (0 : UInt64))]))
    refine own_ret X1 (v := some (.double (0 : UInt64))) hlk (fun hh => by rw [hret] at hh; cases hh) (fun fs hr => retOut X1 hx hret rfl (Or.inr (Or.inr (Or.inl ⟨rfl, rfl, _, rfl⟩))) (hb hby d4_21) hr) (by decide) (by decide) ?_
    rw [e1]
    exact ⟨by rw [own_ref, if_neg hc7], N0, rfl⟩
theorem d5_0 : decode method_3_code 0 = .ok (.lload_n 0, 1) := by decide +kernel
theorem d5_1 : decode method_3_code 1 = .ok (.lload_n 2, 1) := by decide +kernel
theorem d5_2 : decode method_3_code 2 = .ok (.lcmp, 1) := by decide +kernel
theorem d5_3 : decode method_3_code 3 = .ok (.ifCond .gt 5, 3) := by decide +kernel
theorem d5_6 : decode method_3_code 6 = .ok (.dconst 0, 1) := by decide +kernel
theorem d5_7 : decode method_3_code 7 = .ok (.dreturn, 1) := by decide +kernel
theorem d5_8 : decode method_3_code 8 = .ok (.lload_n 0, 1) := by decide +kernel
theorem d5_9 : decode method_3_code 9 = .ok (.lload 8, 2) := by decide +kernel
theorem d5_11 : decode method_3_code 11 = .ok (.lcmp, 1) := by decide +kernel
theorem d5_12 : decode method_3_code 12 = .ok (.ifCond .lt 5, 3) := by decide +kernel
theorem d5_15 : decode method_3_code 15 = .ok (.dconst 0, 1) := by decide +kernel
theorem d5_16 : decode method_3_code 16 = .ok (.dreturn, 1) := by decide +kernel
theorem d5_17 : decode method_3_code 17 = .ok (.lload_n 0, 1) := by decide +kernel
theorem d5_18 : decode method_3_code 18 = .ok (.lload 4, 2) := by decide +kernel
theorem d5_20 : decode method_3_code 20 = .ok (.lcmp, 1) := by decide +kernel
theorem d5_21 : decode method_3_code 21 = .ok (.ifCond .ge 14, 3) := by decide +kernel
theorem d5_24 : decode method_3_code 24 = .ok (.lload_n 0, 1) := by decide +kernel
theorem d5_25 : decode method_3_code 25 = .ok (.lload_n 2, 1) := by decide +kernel
theorem d5_26 : decode method_3_code 26 = .ok (.lsub, 1) := by decide +kernel
theorem d5_27 : decode method_3_code 27 = .ok (.l2d, 1) := by decide +kernel
theorem d5_28 : decode method_3_code 28 = .ok (.lload 4, 2) := by decide +kernel
theorem d5_30 : decode method_3_code 30 = .ok (.lload_n 2, 1) := by decide +kernel
theorem d5_31 : decode method_3_code 31 = .ok (.lsub, 1) := by decide +kernel
theorem d5_32 : decode method_3_code 32 = .ok (.l2d, 1) := by decide +kernel
theorem d5_33 : decode method_3_code 33 = .ok (.ddiv, 1) := by decide +kernel
theorem d5_34 : decode method_3_code 34 = .ok (.dreturn, 1) := by decide +kernel
theorem d5_35 : decode method_3_code 35 = .ok (.lload_n 0, 1) := by decide +kernel
theorem d5_36 : decode method_3_code 36 = .ok (.lload 6, 2) := by decide +kernel
theorem d5_38 : decode method_3_code 38 = .ok (.lcmp, 1) := by decide +kernel
theorem d5_39 : decode method_3_code 39 = .ok (.ifCond .gt 5, 3) := by decide +kernel
theorem d5_42 : decode method_3_code 42 = .ok (.dconst 1, 1) := by decide +kernel
theorem d5_43 : decode method_3_code 43 = .ok (.dreturn, 1) := by decide +kernel
theorem d5_44 : decode method_3_code 44 = .ok (.lload 8, 2) := by decide +kernel
theorem d5_46 : decode method_3_code 46 = .ok (.lload_n 0, 1) := by decide +kernel
theorem d5_47 : decode method_3_code 47 = .ok (.lsub, 1) := by decide +kernel
theorem d5_48 : decode method_3_code 48 = .ok (.l2d, 1) := by decide +kernel
theorem d5_49 : decode method_3_code 49 = .ok (.lload 8, 2) := by decide +kernel
theorem d5_51 : decode method_3_code 51 = .ok (.lload 6, 2) := by decide +kernel
theorem d5_53 : decode method_3_code 53 = .ok (.lsub, 1) := by decide +kernel
theorem d5_54 : decode method_3_code 54 = .ok (.l2d, 1) := by decide +kernel
theorem d5_55 : decode method_3_code 55 = .ok (.ddiv, 1) := by decide +kernel
theorem d5_56 : decode method_3_code 56 = .ok (.dreturn, 1) := by decide +kernel
theorem pn_5 : plainFor (⟨"com/example/thymus/thymus/DueWindowMembershipPinLaw", "reference", "(JJJJJ)D"⟩ : MethodName) = true := plainFor_of_name (by first | (simp [plainName, overriddenIn]; done) | decide +kernel)
theorem ef_5 (m : MethodId) (px : Int64) (k1 : Int64) (k2 : Int64) (k3 : Int64) (k4 : Int64) : entryFrame m #[(.long px), (.long k1), (.long k2), (.long k3), (.long k4)] 10 = mkF m 0 #[.val (.long px), .second, .val (.long k1), .second, .val (.long k2), .second, .val (.long k3), .second, .val (.long k4), .second] [] := by first | (simp [entryFrame, mkF, argsToLocals, Value.category]; done) | rfl
set_option maxRecDepth 65536 in
set_option maxHeartbeats 40000000 in
theorem rm5 (l : Launch) (Z : State) (a0 : Array Value) (hw : ∀ d ∈ tables_1, d.before a0 Z = true) (ws : List Jvm.Cond) (px : Int64) (k1 : Int64) (k2 : Int64) (k3 : Int64) (k4 : Int64) (h0 : Heap) (n0 : Nat) (Z0 : n0 ≤ h0.size) (hn1 : k2 - k1 ≠ 0) (hn2 : k4 - k3 ≠ 0) :
    OwnCtr l Z (⟨"com/example/thymus/thymus/DueWindowMembershipPinLaw", "reference", "(JJJJJ)D"⟩ : MethodName) ws method_3_code 10 (some .double) ({ frames := 0, cells := 0, slots := 0, locals := 0 } : Room) #[(.long px), (.long k1), (.long k2), (.long k3), (.long k4)] h0 (fun v h L => v = some (.double (own_ref px k1 k2 k3 k4)) ∧ Fr n0 L ∧ h = h0) := by
  refine own_body (g0 := fun m => mkF m 0 #[.val (.long px), .second, .val (.long k1), .second, .val (.long k2), .second, .val (.long k3), .second, .val (.long k4), .second] []) pn_5 (fun m => ef_5 m px k1 k2 k3 k4) ?_
  intro p e s m below meth c s₁ X0 hx hby hml hown hnm hZ e0 hret hlk
  have hml : c.maxLocals = 10 := hml
  have hown : s.vm.findClass "com/example/thymus/thymus/DueWindowMembershipPinLaw" = some m.cls := hown
  have hnm : meth.name = "reference" := hnm
  have hret : meth.sig.returnType = (some .double) := hret
  have N0 := Fr.nil n0
  show OwnFin p e below s _ _ _ (s₁.setTop (mkF m 0 #[.val (.long px), .second, .val (.long k1), .second, .val (.long k2), .second, .val (.long k3), .second, .val (.long k4), .second] []))
  refine own_go (fun t_ k_ => XS.lloadN X0.here hx rfl (hb hby d5_0) rfl k_) ?_
  show OwnFin p e below s _ _ _ (s₁.setTop (mkF m 1 #[.val (.long px), .second, .val (.long k1), .second, .val (.long k2), .second, .val (.long k3), .second, .val (.long k4), .second] [(.long px)]))
  refine own_go (fun t_ k_ => XS.lloadN X0.here hx rfl (hb hby d5_1) rfl k_) ?_
  show OwnFin p e below s _ _ _ (s₁.setTop (mkF m 2 #[.val (.long px), .second, .val (.long k1), .second, .val (.long k2), .second, .val (.long k3), .second, .val (.long k4), .second] [(.long k1), (.long px)]))
  refine own_go (fun t_ k_ => XS.lcmp X0.here hx rfl (hb hby d5_2) rfl k_) ?_
  show OwnFin p e below s _ _ _ (s₁.setTop (mkF m 3 #[.val (.long px), .second, .val (.long k1), .second, .val (.long k2), .second, .val (.long k3), .second, .val (.long k4), .second] [(.int (lcmpW px k1))]))
  by_cases hc3 : k1 < px
  · refine own_go (fun t_ k_ => XS.ifYes X0.here hx rfl (pc0 := 3) (pc' := 8) rfl (hb hby d5_3) rfl ((if0 _ _).trans (tlt ((lw_gt px k1).mpr hc3)).2.2.1) (by decide) (by decide) k_) ?_
    show OwnFin p e below s _ _ _ (s₁.setTop (mkF m 8 #[.val (.long px), .second, .val (.long k1), .second, .val (.long k2), .second, .val (.long k3), .second, .val (.long k4), .second] []))
    refine own_go (fun t_ k_ => XS.lloadN X0.here hx rfl (hb hby d5_8) rfl k_) ?_
    show OwnFin p e below s _ _ _ (s₁.setTop (mkF m 9 #[.val (.long px), .second, .val (.long k1), .second, .val (.long k2), .second, .val (.long k3), .second, .val (.long k4), .second] [(.long px)]))
    refine own_go (fun t_ k_ => XS.lload X0.here hx rfl (hb hby d5_9) rfl k_) ?_
    show OwnFin p e below s _ _ _ (s₁.setTop (mkF m 11 #[.val (.long px), .second, .val (.long k1), .second, .val (.long k2), .second, .val (.long k3), .second, .val (.long k4), .second] [(.long k4), (.long px)]))
    refine own_go (fun t_ k_ => XS.lcmp X0.here hx rfl (hb hby d5_11) rfl k_) ?_
    show OwnFin p e below s _ _ _ (s₁.setTop (mkF m 12 #[.val (.long px), .second, .val (.long k1), .second, .val (.long k2), .second, .val (.long k3), .second, .val (.long k4), .second] [(.int (lcmpW px k4))]))
    by_cases hc12 : px < k4
    · refine own_go (fun t_ k_ => XS.ifYes X0.here hx rfl (pc0 := 12) (pc' := 17) rfl (hb hby d5_12) rfl ((if0 _ _).trans (tlt ((lw_lt px k4).mpr hc12)).1) (by decide) (by decide) k_) ?_
      show OwnFin p e below s _ _ _ (s₁.setTop (mkF m 17 #[.val (.long px), .second, .val (.long k1), .second, .val (.long k2), .second, .val (.long k3), .second, .val (.long k4), .second] []))
      refine own_go (fun t_ k_ => XS.lloadN X0.here hx rfl (hb hby d5_17) rfl k_) ?_
      show OwnFin p e below s _ _ _ (s₁.setTop (mkF m 18 #[.val (.long px), .second, .val (.long k1), .second, .val (.long k2), .second, .val (.long k3), .second, .val (.long k4), .second] [(.long px)]))
      refine own_go (fun t_ k_ => XS.lload X0.here hx rfl (hb hby d5_18) rfl k_) ?_
      show OwnFin p e below s _ _ _ (s₁.setTop (mkF m 20 #[.val (.long px), .second, .val (.long k1), .second, .val (.long k2), .second, .val (.long k3), .second, .val (.long k4), .second] [(.long k2), (.long px)]))
      refine own_go (fun t_ k_ => XS.lcmp X0.here hx rfl (hb hby d5_20) rfl k_) ?_
      show OwnFin p e below s _ _ _ (s₁.setTop (mkF m 21 #[.val (.long px), .second, .val (.long k1), .second, .val (.long k2), .second, .val (.long k3), .second, .val (.long k4), .second] [(.int (lcmpW px k2))]))
      by_cases hc21 : px < k2
      · refine own_go (fun t_ k_ => XS.ifNo X0.here hx rfl (hb hby d5_21) rfl ((if0 _ _).trans (tlt ((lw_lt px k2).mpr hc21)).2.1) k_) ?_
        show OwnFin p e below s _ _ _ (s₁.setTop (mkF m 24 #[.val (.long px), .second, .val (.long k1), .second, .val (.long k2), .second, .val (.long k3), .second, .val (.long k4), .second] []))
        refine own_go (fun t_ k_ => XS.lloadN X0.here hx rfl (hb hby d5_24) rfl k_) ?_
        show OwnFin p e below s _ _ _ (s₁.setTop (mkF m 25 #[.val (.long px), .second, .val (.long k1), .second, .val (.long k2), .second, .val (.long k3), .second, .val (.long k4), .second] [(.long px)]))
        refine own_go (fun t_ k_ => XS.lloadN X0.here hx rfl (hb hby d5_25) rfl k_) ?_
        show OwnFin p e below s _ _ _ (s₁.setTop (mkF m 26 #[.val (.long px), .second, .val (.long k1), .second, .val (.long k2), .second, .val (.long k3), .second, .val (.long k4), .second] [(.long k1), (.long px)]))
        refine own_go (fun t_ k_ => XS.lsub X0.here hx rfl (hb hby d5_26) rfl k_) ?_
        show OwnFin p e below s _ _ _ (s₁.setTop (mkF m 27 #[.val (.long px), .second, .val (.long k1), .second, .val (.long k2), .second, .val (.long k3), .second, .val (.long k4), .second] [(.long (px - k1))]))
        refine own_go (fun t_ k_ => XS.l2dS X0.here hx rfl (hb hby d5_27) rfl rfl k_) ?_
        show OwnFin p e below s _ _ _ (s₁.setTop (mkF m 28 #[.val (.long px), .second, .val (.long k1), .second, .val (.long k2), .second, .val (.long k3), .second, .val (.long k4), .second] [(.double (FP.l2d (px - k1)))]))
        refine own_go (fun t_ k_ => XS.lload X0.here hx rfl (hb hby d5_28) rfl k_) ?_
        show OwnFin p e below s _ _ _ (s₁.setTop (mkF m 30 #[.val (.long px), .second, .val (.long k1), .second, .val (.long k2), .second, .val (.long k3), .second, .val (.long k4), .second] [(.long k2), (.double (FP.l2d (px - k1)))]))
        refine own_go (fun t_ k_ => XS.lloadN X0.here hx rfl (hb hby d5_30) rfl k_) ?_
        show OwnFin p e below s _ _ _ (s₁.setTop (mkF m 31 #[.val (.long px), .second, .val (.long k1), .second, .val (.long k2), .second, .val (.long k3), .second, .val (.long k4), .second] [(.long k1), (.long k2), (.double (FP.l2d (px - k1)))]))
        refine own_go (fun t_ k_ => XS.lsub X0.here hx rfl (hb hby d5_31) rfl k_) ?_
        show OwnFin p e below s _ _ _ (s₁.setTop (mkF m 32 #[.val (.long px), .second, .val (.long k1), .second, .val (.long k2), .second, .val (.long k3), .second, .val (.long k4), .second] [(.long (k2 - k1)), (.double (FP.l2d (px - k1)))]))
        refine own_go (fun t_ k_ => XS.l2dS X0.here hx rfl (hb hby d5_32) rfl rfl k_) ?_
        show OwnFin p e below s _ _ _ (s₁.setTop (mkF m 33 #[.val (.long px), .second, .val (.long k1), .second, .val (.long k2), .second, .val (.long k3), .second, .val (.long k4), .second] [(.double (FP.l2d (k2 - k1))), (.double (FP.l2d (px - k1)))]))
        refine own_go (fun t_ k_ => XS.ddivS X0.here hx rfl (hb hby d5_33) rfl (own_qN _ _ hn1) rfl k_) ?_
        show OwnFin p e below s _ _ _ (s₁.setTop (mkF m 34 #[.val (.long px), .second, .val (.long k1), .second, .val (.long k2), .second, .val (.long k3), .second, .val (.long k4), .second] [(.double (FP.ddiv (FP.l2d (px - k1)) (FP.l2d (k2 - k1))))]))
        refine own_ret X0 (v := some (.double (FP.ddiv (FP.l2d (px - k1)) (FP.l2d (k2 - k1))))) hlk (fun hh => by rw [hret] at hh; cases hh) (fun fs hr => retOut X0 hx hret rfl (Or.inr (Or.inr (Or.inl ⟨rfl, rfl, _, rfl⟩))) (hb hby d5_34) hr) (by decide) (by decide) ?_
        rw [e0]
        exact ⟨by rw [own_ref, if_pos hc3, if_pos hc12, if_pos hc21], N0, rfl⟩
      · refine own_go (fun t_ k_ => XS.ifYes X0.here hx rfl (pc0 := 21) (pc' := 35) rfl (hb hby d5_21) rfl ((if0 _ _).trans (flt (mt (lw_lt px k2).mp hc21)).2.1) (by decide) (by decide) k_) ?_
        show OwnFin p e below s _ _ _ (s₁.setTop (mkF m 35 #[.val (.long px), .second, .val (.long k1), .second, .val (.long k2), .second, .val (.long k3), .second, .val (.long k4), .second] []))
        refine own_go (fun t_ k_ => XS.lloadN X0.here hx rfl (hb hby d5_35) rfl k_) ?_
        show OwnFin p e below s _ _ _ (s₁.setTop (mkF m 36 #[.val (.long px), .second, .val (.long k1), .second, .val (.long k2), .second, .val (.long k3), .second, .val (.long k4), .second] [(.long px)]))
        refine own_go (fun t_ k_ => XS.lload X0.here hx rfl (hb hby d5_36) rfl k_) ?_
        show OwnFin p e below s _ _ _ (s₁.setTop (mkF m 38 #[.val (.long px), .second, .val (.long k1), .second, .val (.long k2), .second, .val (.long k3), .second, .val (.long k4), .second] [(.long k3), (.long px)]))
        refine own_go (fun t_ k_ => XS.lcmp X0.here hx rfl (hb hby d5_38) rfl k_) ?_
        show OwnFin p e below s _ _ _ (s₁.setTop (mkF m 39 #[.val (.long px), .second, .val (.long k1), .second, .val (.long k2), .second, .val (.long k3), .second, .val (.long k4), .second] [(.int (lcmpW px k3))]))
        by_cases hc39 : k3 < px
        · refine own_go (fun t_ k_ => XS.ifYes X0.here hx rfl (pc0 := 39) (pc' := 44) rfl (hb hby d5_39) rfl ((if0 _ _).trans (tlt ((lw_gt px k3).mpr hc39)).2.2.1) (by decide) (by decide) k_) ?_
          show OwnFin p e below s _ _ _ (s₁.setTop (mkF m 44 #[.val (.long px), .second, .val (.long k1), .second, .val (.long k2), .second, .val (.long k3), .second, .val (.long k4), .second] []))
          refine own_go (fun t_ k_ => XS.lload X0.here hx rfl (hb hby d5_44) rfl k_) ?_
          show OwnFin p e below s _ _ _ (s₁.setTop (mkF m 46 #[.val (.long px), .second, .val (.long k1), .second, .val (.long k2), .second, .val (.long k3), .second, .val (.long k4), .second] [(.long k4)]))
          refine own_go (fun t_ k_ => XS.lloadN X0.here hx rfl (hb hby d5_46) rfl k_) ?_
          show OwnFin p e below s _ _ _ (s₁.setTop (mkF m 47 #[.val (.long px), .second, .val (.long k1), .second, .val (.long k2), .second, .val (.long k3), .second, .val (.long k4), .second] [(.long px), (.long k4)]))
          refine own_go (fun t_ k_ => XS.lsub X0.here hx rfl (hb hby d5_47) rfl k_) ?_
          show OwnFin p e below s _ _ _ (s₁.setTop (mkF m 48 #[.val (.long px), .second, .val (.long k1), .second, .val (.long k2), .second, .val (.long k3), .second, .val (.long k4), .second] [(.long (k4 - px))]))
          refine own_go (fun t_ k_ => XS.l2dS X0.here hx rfl (hb hby d5_48) rfl rfl k_) ?_
          show OwnFin p e below s _ _ _ (s₁.setTop (mkF m 49 #[.val (.long px), .second, .val (.long k1), .second, .val (.long k2), .second, .val (.long k3), .second, .val (.long k4), .second] [(.double (FP.l2d (k4 - px)))]))
          refine own_go (fun t_ k_ => XS.lload X0.here hx rfl (hb hby d5_49) rfl k_) ?_
          show OwnFin p e below s _ _ _ (s₁.setTop (mkF m 51 #[.val (.long px), .second, .val (.long k1), .second, .val (.long k2), .second, .val (.long k3), .second, .val (.long k4), .second] [(.long k4), (.double (FP.l2d (k4 - px)))]))
          refine own_go (fun t_ k_ => XS.lload X0.here hx rfl (hb hby d5_51) rfl k_) ?_
          show OwnFin p e below s _ _ _ (s₁.setTop (mkF m 53 #[.val (.long px), .second, .val (.long k1), .second, .val (.long k2), .second, .val (.long k3), .second, .val (.long k4), .second] [(.long k3), (.long k4), (.double (FP.l2d (k4 - px)))]))
          refine own_go (fun t_ k_ => XS.lsub X0.here hx rfl (hb hby d5_53) rfl k_) ?_
          show OwnFin p e below s _ _ _ (s₁.setTop (mkF m 54 #[.val (.long px), .second, .val (.long k1), .second, .val (.long k2), .second, .val (.long k3), .second, .val (.long k4), .second] [(.long (k4 - k3)), (.double (FP.l2d (k4 - px)))]))
          refine own_go (fun t_ k_ => XS.l2dS X0.here hx rfl (hb hby d5_54) rfl rfl k_) ?_
          show OwnFin p e below s _ _ _ (s₁.setTop (mkF m 55 #[.val (.long px), .second, .val (.long k1), .second, .val (.long k2), .second, .val (.long k3), .second, .val (.long k4), .second] [(.double (FP.l2d (k4 - k3))), (.double (FP.l2d (k4 - px)))]))
          refine own_go (fun t_ k_ => XS.ddivS X0.here hx rfl (hb hby d5_55) rfl (own_qN _ _ hn2) rfl k_) ?_
          show OwnFin p e below s _ _ _ (s₁.setTop (mkF m 56 #[.val (.long px), .second, .val (.long k1), .second, .val (.long k2), .second, .val (.long k3), .second, .val (.long k4), .second] [(.double (FP.ddiv (FP.l2d (k4 - px)) (FP.l2d (k4 - k3))))]))
          refine own_ret X0 (v := some (.double (FP.ddiv (FP.l2d (k4 - px)) (FP.l2d (k4 - k3))))) hlk (fun hh => by rw [hret] at hh; cases hh) (fun fs hr => retOut X0 hx hret rfl (Or.inr (Or.inr (Or.inl ⟨rfl, rfl, _, rfl⟩))) (hb hby d5_56) hr) (by decide) (by decide) ?_
          rw [e0]
          exact ⟨by rw [own_ref, if_pos hc3, if_pos hc12, if_neg hc21, if_pos hc39], N0, rfl⟩
        · refine own_go (fun t_ k_ => XS.ifNo X0.here hx rfl (hb hby d5_39) rfl ((if0 _ _).trans (flt (mt (lw_gt px k3).mp hc39)).2.2.1) k_) ?_
          show OwnFin p e below s _ _ _ (s₁.setTop (mkF m 42 #[.val (.long px), .second, .val (.long k1), .second, .val (.long k2), .second, .val (.long k3), .second, .val (.long k4), .second] []))
          refine own_go (fun t_ k_ => XS.dconst1 X0.here hx rfl (hb hby d5_42) (v := 4607182418800017408) (by decide) k_) ?_
          show OwnFin p e below s _ _ _ (s₁.setTop (mkF m 43 #[.val (.long px), .second, .val (.long k1), .second, .val (.long k2), .second, .val (.long k3), .second, .val (.long k4), .second] [(.double (4607182418800017408 : UInt64))]))
          refine own_ret X0 (v := some (.double (4607182418800017408 : UInt64))) hlk (fun hh => by rw [hret] at hh; cases hh) (fun fs hr => retOut X0 hx hret rfl (Or.inr (Or.inr (Or.inl ⟨rfl, rfl, _, rfl⟩))) (hb hby d5_43) hr) (by decide) (by decide) ?_
          rw [e0]
          exact ⟨by rw [own_ref, if_pos hc3, if_pos hc12, if_neg hc21, if_neg hc39], N0, rfl⟩
    · refine own_go (fun t_ k_ => XS.ifNo X0.here hx rfl (hb hby d5_12) rfl ((if0 _ _).trans (flt (mt (lw_lt px k4).mp hc12)).1) k_) ?_
      show OwnFin p e below s _ _ _ (s₁.setTop (mkF m 15 #[.val (.long px), .second, .val (.long k1), .second, .val (.long k2), .second, .val (.long k3), .second, .val (.long k4), .second] []))
      refine own_go (fun t_ k_ => XS.dconst0 X0.here hx rfl (hb hby d5_15) (v := 0) (by decide) k_) ?_
      show OwnFin p e below s _ _ _ (s₁.setTop (mkF m 16 #[.val (.long px), .second, .val (.long k1), .second, .val (.long k2), .second, .val (.long k3), .second, .val (.long k4), .second] [(.double (0 : UInt64))]))
      refine own_ret X0 (v := some (.double (0 : UInt64))) hlk (fun hh => by rw [hret] at hh; cases hh) (fun fs hr => retOut X0 hx hret rfl (Or.inr (Or.inr (Or.inl ⟨rfl, rfl, _, rfl⟩))) (hb hby d5_16) hr) (by decide) (by decide) ?_
      rw [e0]
      exact ⟨by rw [own_ref, if_pos hc3, if_neg hc12], N0, rfl⟩
  · refine own_go (fun t_ k_ => XS.ifNo X0.here hx rfl (hb hby d5_3) rfl ((if0 _ _).trans (flt (mt (lw_gt px k1).mp hc3)).2.2.1) k_) ?_
    show OwnFin p e below s _ _ _ (s₁.setTop (mkF m 6 #[.val (.long px), .second, .val (.long k1), .second, .val (.long k2), .second, .val (.long k3), .second, .val (.long k4), .second] []))
    refine own_go (fun t_ k_ => XS.dconst0 X0.here hx rfl (hb hby d5_6) (v := 0) (by decide) k_) ?_
    show OwnFin p e below s _ _ _ (s₁.setTop (mkF m 7 #[.val (.long px), .second, .val (.long k1), .second, .val (.long k2), .second, .val (.long k3), .second, .val (.long k4), .second] [(.double (0 : UInt64))]))
    refine own_ret X0 (v := some (.double (0 : UInt64))) hlk (fun hh => by rw [hret] at hh; cases hh) (fun fs hr => retOut X0 hx hret rfl (Or.inr (Or.inr (Or.inl ⟨rfl, rfl, _, rfl⟩))) (hb hby d5_7) hr) (by decide) (by decide) ?_
    rw [e0]
    exact ⟨by rw [own_ref, if_neg hc3], N0, rfl⟩
theorem pn_0 : plainFor (⟨"com/example/thymus/thymus/DueWindowMembershipPinLaw", "law", "(JJJJJ)Z"⟩ : MethodName) = true := plainFor_of_name (by first | (simp [plainName, overriddenIn]; done) | decide +kernel)
theorem pd_0_0 : parseMethodDescriptor "(JJJJ)V" = some ⟨[.long, .long, .long, .long], none⟩ := by decide +kernel
theorem pd_0_2 : parseMethodDescriptor "(D)D" = some ⟨[.double], some .double⟩ := by decide +kernel
theorem pd_0_3 : parseMethodDescriptor "(JJJJJ)D" = some ⟨[.long, .long, .long, .long, .long], some .double⟩ := by decide +kernel
theorem ef_0 (m : MethodId) (qa : Int64) (qb : Int64) (qc : Int64) (qd : Int64) (qe : Int64) : entryFrame m #[(.long qa), (.long qb), (.long qc), (.long qd), (.long qe)] maxLocals = mkF m 0 #[.val (.long qa), .second, .val (.long qb), .second, .val (.long qc), .second, .val (.long qd), .second, .val (.long qe), .second, .unset, .unset, .unset, .unset, .unset, .unset, .unset, .unset, .unset, .unset, .unset, .unset, .unset, .unset, .unset, .unset, .unset, .unset, .unset, .unset, .unset, .unset, .unset] [] := by first | (simp [entryFrame, mkF, argsToLocals, Value.category, maxLocals]; done) | rfl
set_option maxRecDepth 65536 in
set_option maxHeartbeats 40000000 in
theorem rm0 (l : Launch) (Z : State) (a0 : Array Value) (hw : ∀ d ∈ tables_1, d.before a0 Z = true) (ws : List Jvm.Cond) (qa : Int64) (qb : Int64) (qc : Int64) (qd : Int64) (qe : Int64) (h0 : Heap) (n0 : Nat) (Z0 : n0 ≤ h0.size) :
    OwnCtr l Z x ws code maxLocals ret room_1 #[(.long qa), (.long qb), (.long qc), (.long qd), (.long qe)] h0 (fun v h L => v = some (.int 1) ∧ Fr n0 L) := by
  refine own_body (g0 := fun m => mkF m 0 #[.val (.long qa), .second, .val (.long qb), .second, .val (.long qc), .second, .val (.long qd), .second, .val (.long qe), .second, .unset, .unset, .unset, .unset, .unset, .unset, .unset, .unset, .unset, .unset, .unset, .unset, .unset, .unset, .unset, .unset, .unset, .unset, .unset, .unset, .unset, .unset, .unset] []) pn_0 (fun m => ef_0 m qa qb qc qd qe) ?_
  intro p e s m below meth c s₁ X0 hx hby hml hown hnm hZ e0 hret hlk
  have hml : c.maxLocals = 33 := hml
  have hown : s.vm.findClass "com/example/thymus/thymus/DueWindowMembershipPinLaw" = some m.cls := hown
  have hnm : meth.name = "law" := hnm
  have hret : meth.sig.returnType = (some .boolean) := hret
  have N0 := Fr.nil n0
  show OwnFin p e below s _ _ _ (s₁.setTop (mkF m 0 #[.val (.long qa), .second, .val (.long qb), .second, .val (.long qc), .second, .val (.long qd), .second, .val (.long qe), .second, .unset, .unset, .unset, .unset, .unset, .unset, .unset, .unset, .unset, .unset, .unset, .unset, .unset, .unset, .unset, .unset, .unset, .unset, .unset, .unset, .unset, .unset, .unset] []))
  refine own_go (fun t_ k_ => XS.lloadN X0.here hx rfl (hb hby at_0) rfl k_) ?_
  show OwnFin p e below s _ _ _ (s₁.setTop (mkF m 1 #[.val (.long qa), .second, .val (.long qb), .second, .val (.long qc), .second, .val (.long qd), .second, .val (.long qe), .second, .unset, .unset, .unset, .unset, .unset, .unset, .unset, .unset, .unset, .unset, .unset, .unset, .unset, .unset, .unset, .unset, .unset, .unset, .unset, .unset, .unset, .unset, .unset] [(.long qa)]))
  refine own_go (X0.ldc2Long hx hown (mvT hZ (hw _ (List.mem_of_getElem? (i := 0) rfl))) (g := (mkF m 1 #[.val (.long qa), .second, .val (.long qb), .second, .val (.long qc), .second, .val (.long qd), .second, .val (.long qe), .second, .unset, .unset, .unset, .unset, .unset, .unset, .unset, .unset, .unset, .unset, .unset, .unset, .unset, .unset, .unset, .unset, .unset, .unset, .unset, .unset, .unset, .unset, .unset] [(.long qa)])) rfl (hb hby at_1)) ?_
  show OwnFin p e below s _ _ _ (s₁.setTop (mkF m 4 #[.val (.long qa), .second, .val (.long qb), .second, .val (.long qc), .second, .val (.long qd), .second, .val (.long qe), .second, .unset, .unset, .unset, .unset, .unset, .unset, .unset, .unset, .unset, .unset, .unset, .unset, .unset, .unset, .unset, .unset, .unset, .unset, .unset, .unset, .unset, .unset, .unset] [(.long (281474976710655 : Int64)), (.long qa)]))
  refine own_go (fun t_ k_ => XS.land X0.here hx rfl (hb hby at_4) rfl k_) ?_
  show OwnFin p e below s _ _ _ (s₁.setTop (mkF m 5 #[.val (.long qa), .second, .val (.long qb), .second, .val (.long qc), .second, .val (.long qd), .second, .val (.long qe), .second, .unset, .unset, .unset, .unset, .unset, .unset, .unset, .unset, .unset, .unset, .unset, .unset, .unset, .unset, .unset, .unset, .unset, .unset, .unset, .unset, .unset, .unset, .unset] [(.long (qa &&& (281474976710655 : Int64)))]))
  obtain ⟨d1, e_d1, f_d1⟩ : ∃ z, (qa &&& (281474976710655 : Int64)) = z ∧ (0 ≤ z.toInt ∧ z.toInt < 281474976710656) := ⟨_, rfl, own_m48 _⟩
  rw [e_d1]
  show OwnFin p e below s _ _ _ (s₁.setTop (mkF m 5 #[.val (.long qa), .second, .val (.long qb), .second, .val (.long qc), .second, .val (.long qd), .second, .val (.long qe), .second, .unset, .unset, .unset, .unset, .unset, .unset, .unset, .unset, .unset, .unset, .unset, .unset, .unset, .unset, .unset, .unset, .unset, .unset, .unset, .unset, .unset, .unset, .unset] [(.long d1)]))
  refine own_go (fun t_ k_ => XS.lstore X0.here hx rfl (hb hby at_5) rfl (l' := #[.val (.long qa), .second, .val (.long qb), .second, .val (.long qc), .second, .val (.long qd), .second, .val (.long qe), .second, .val (.long d1), .second, .unset, .unset, .unset, .unset, .unset, .unset, .unset, .unset, .unset, .unset, .unset, .unset, .unset, .unset, .unset, .unset, .unset, .unset, .unset, .unset, .unset]) rfl k_) ?_
  show OwnFin p e below s _ _ _ (s₁.setTop (mkF m 7 #[.val (.long qa), .second, .val (.long qb), .second, .val (.long qc), .second, .val (.long qd), .second, .val (.long qe), .second, .val (.long d1), .second, .unset, .unset, .unset, .unset, .unset, .unset, .unset, .unset, .unset, .unset, .unset, .unset, .unset, .unset, .unset, .unset, .unset, .unset, .unset, .unset, .unset] []))
  refine own_go (fun t_ k_ => XS.lloadN X0.here hx rfl (hb hby at_7) rfl k_) ?_
  show OwnFin p e below s _ _ _ (s₁.setTop (mkF m 8 #[.val (.long qa), .second, .val (.long qb), .second, .val (.long qc), .second, .val (.long qd), .second, .val (.long qe), .second, .val (.long d1), .second, .unset, .unset, .unset, .unset, .unset, .unset, .unset, .unset, .unset, .unset, .unset, .unset, .unset, .unset, .unset, .unset, .unset, .unset, .unset, .unset, .unset] [(.long qb)]))
  refine own_go (X0.ldc2Long hx hown (mvT hZ (hw _ (List.mem_of_getElem? (i := 1) rfl))) (g := (mkF m 8 #[.val (.long qa), .second, .val (.long qb), .second, .val (.long qc), .second, .val (.long qd), .second, .val (.long qe), .second, .val (.long d1), .second, .unset, .unset, .unset, .unset, .unset, .unset, .unset, .unset, .unset, .unset, .unset, .unset, .unset, .unset, .unset, .unset, .unset, .unset, .unset, .unset, .unset] [(.long qb)])) rfl (hb hby at_8)) ?_
  show OwnFin p e below s _ _ _ (s₁.setTop (mkF m 11 #[.val (.long qa), .second, .val (.long qb), .second, .val (.long qc), .second, .val (.long qd), .second, .val (.long qe), .second, .val (.long d1), .second, .unset, .unset, .unset, .unset, .unset, .unset, .unset, .unset, .unset, .unset, .unset, .unset, .unset, .unset, .unset, .unset, .unset, .unset, .unset, .unset, .unset] [(.long (1099511627775 : Int64)), (.long qb)]))
  refine own_go (fun t_ k_ => XS.land X0.here hx rfl (hb hby at_11) rfl k_) ?_
  show OwnFin p e below s _ _ _ (s₁.setTop (mkF m 12 #[.val (.long qa), .second, .val (.long qb), .second, .val (.long qc), .second, .val (.long qd), .second, .val (.long qe), .second, .val (.long d1), .second, .unset, .unset, .unset, .unset, .unset, .unset, .unset, .unset, .unset, .unset, .unset, .unset, .unset, .unset, .unset, .unset, .unset, .unset, .unset, .unset, .unset] [(.long (qb &&& (1099511627775 : Int64)))]))
  refine own_go (fun t_ k_ => XS.lconst X0.here hx rfl (hb hby at_12) k_) ?_
  show OwnFin p e below s _ _ _ (s₁.setTop (mkF m 13 #[.val (.long qa), .second, .val (.long qb), .second, .val (.long qc), .second, .val (.long qd), .second, .val (.long qe), .second, .val (.long d1), .second, .unset, .unset, .unset, .unset, .unset, .unset, .unset, .unset, .unset, .unset, .unset, .unset, .unset, .unset, .unset, .unset, .unset, .unset, .unset, .unset, .unset] [(.long (1 : Int64)), (.long (qb &&& (1099511627775 : Int64)))]))
  refine own_go (fun t_ k_ => XS.ladd X0.here hx rfl (hb hby at_13) rfl k_) ?_
  show OwnFin p e below s _ _ _ (s₁.setTop (mkF m 14 #[.val (.long qa), .second, .val (.long qb), .second, .val (.long qc), .second, .val (.long qd), .second, .val (.long qe), .second, .val (.long d1), .second, .unset, .unset, .unset, .unset, .unset, .unset, .unset, .unset, .unset, .unset, .unset, .unset, .unset, .unset, .unset, .unset, .unset, .unset, .unset, .unset, .unset] [(.long ((qb &&& (1099511627775 : Int64)) + (1 : Int64)))]))
  obtain ⟨ga, e_ga, f_ga⟩ : ∃ z, ((qb &&& (1099511627775 : Int64)) + (1 : Int64)) = z ∧ (1 ≤ z.toInt ∧ z.toInt ≤ 1099511627776) := ⟨_, rfl, own_m40' _⟩
  rw [e_ga]
  show OwnFin p e below s _ _ _ (s₁.setTop (mkF m 14 #[.val (.long qa), .second, .val (.long qb), .second, .val (.long qc), .second, .val (.long qd), .second, .val (.long qe), .second, .val (.long d1), .second, .unset, .unset, .unset, .unset, .unset, .unset, .unset, .unset, .unset, .unset, .unset, .unset, .unset, .unset, .unset, .unset, .unset, .unset, .unset, .unset, .unset] [(.long ga)]))
  refine own_go (fun t_ k_ => XS.lstore X0.here hx rfl (hb hby at_14) rfl (l' := #[.val (.long qa), .second, .val (.long qb), .second, .val (.long qc), .second, .val (.long qd), .second, .val (.long qe), .second, .val (.long d1), .second, .val (.long ga), .second, .unset, .unset, .unset, .unset, .unset, .unset, .unset, .unset, .unset, .unset, .unset, .unset, .unset, .unset, .unset, .unset, .unset, .unset, .unset]) rfl k_) ?_
  show OwnFin p e below s _ _ _ (s₁.setTop (mkF m 16 #[.val (.long qa), .second, .val (.long qb), .second, .val (.long qc), .second, .val (.long qd), .second, .val (.long qe), .second, .val (.long d1), .second, .val (.long ga), .second, .unset, .unset, .unset, .unset, .unset, .unset, .unset, .unset, .unset, .unset, .unset, .unset, .unset, .unset, .unset, .unset, .unset, .unset, .unset] []))
  refine own_go (fun t_ k_ => XS.lload X0.here hx rfl (hb hby at_16) rfl k_) ?_
  show OwnFin p e below s _ _ _ (s₁.setTop (mkF m 18 #[.val (.long qa), .second, .val (.long qb), .second, .val (.long qc), .second, .val (.long qd), .second, .val (.long qe), .second, .val (.long d1), .second, .val (.long ga), .second, .unset, .unset, .unset, .unset, .unset, .unset, .unset, .unset, .unset, .unset, .unset, .unset, .unset, .unset, .unset, .unset, .unset, .unset, .unset] [(.long qc)]))
  refine own_go (X0.ldc2Long hx hown (mvT hZ (hw _ (List.mem_of_getElem? (i := 1) rfl))) (g := (mkF m 18 #[.val (.long qa), .second, .val (.long qb), .second, .val (.long qc), .second, .val (.long qd), .second, .val (.long qe), .second, .val (.long d1), .second, .val (.long ga), .second, .unset, .unset, .unset, .unset, .unset, .unset, .unset, .unset, .unset, .unset, .unset, .unset, .unset, .unset, .unset, .unset, .unset, .unset, .unset] [(.long qc)])) rfl (hb hby at_18)) ?_
  show OwnFin p e below s _ _ _ (s₁.setTop (mkF m 21 #[.val (.long qa), .second, .val (.long qb), .second, .val (.long qc), .second, .val (.long qd), .second, .val (.long qe), .second, .val (.long d1), .second, .val (.long ga), .second, .unset, .unset, .unset, .unset, .unset, .unset, .unset, .unset, .unset, .unset, .unset, .unset, .unset, .unset, .unset, .unset, .unset, .unset, .unset] [(.long (1099511627775 : Int64)), (.long qc)]))
  refine own_go (fun t_ k_ => XS.land X0.here hx rfl (hb hby at_21) rfl k_) ?_
  show OwnFin p e below s _ _ _ (s₁.setTop (mkF m 22 #[.val (.long qa), .second, .val (.long qb), .second, .val (.long qc), .second, .val (.long qd), .second, .val (.long qe), .second, .val (.long d1), .second, .val (.long ga), .second, .unset, .unset, .unset, .unset, .unset, .unset, .unset, .unset, .unset, .unset, .unset, .unset, .unset, .unset, .unset, .unset, .unset, .unset, .unset] [(.long (qc &&& (1099511627775 : Int64)))]))
  obtain ⟨gb, e_gb, f_gb⟩ : ∃ z, (qc &&& (1099511627775 : Int64)) = z ∧ (0 ≤ z.toInt ∧ z.toInt < 1099511627776) := ⟨_, rfl, own_m40 _⟩
  rw [e_gb]
  show OwnFin p e below s _ _ _ (s₁.setTop (mkF m 22 #[.val (.long qa), .second, .val (.long qb), .second, .val (.long qc), .second, .val (.long qd), .second, .val (.long qe), .second, .val (.long d1), .second, .val (.long ga), .second, .unset, .unset, .unset, .unset, .unset, .unset, .unset, .unset, .unset, .unset, .unset, .unset, .unset, .unset, .unset, .unset, .unset, .unset, .unset] [(.long gb)]))
  refine own_go (fun t_ k_ => XS.lstore X0.here hx rfl (hb hby at_22) rfl (l' := #[.val (.long qa), .second, .val (.long qb), .second, .val (.long qc), .second, .val (.long qd), .second, .val (.long qe), .second, .val (.long d1), .second, .val (.long ga), .second, .val (.long gb), .second, .unset, .unset, .unset, .unset, .unset, .unset, .unset, .unset, .unset, .unset, .unset, .unset, .unset, .unset, .unset, .unset, .unset]) rfl k_) ?_
  show OwnFin p e below s _ _ _ (s₁.setTop (mkF m 24 #[.val (.long qa), .second, .val (.long qb), .second, .val (.long qc), .second, .val (.long qd), .second, .val (.long qe), .second, .val (.long d1), .second, .val (.long ga), .second, .val (.long gb), .second, .unset, .unset, .unset, .unset, .unset, .unset, .unset, .unset, .unset, .unset, .unset, .unset, .unset, .unset, .unset, .unset, .unset] []))
  refine own_go (fun t_ k_ => XS.lload X0.here hx rfl (hb hby at_24) rfl k_) ?_
  show OwnFin p e below s _ _ _ (s₁.setTop (mkF m 26 #[.val (.long qa), .second, .val (.long qb), .second, .val (.long qc), .second, .val (.long qd), .second, .val (.long qe), .second, .val (.long d1), .second, .val (.long ga), .second, .val (.long gb), .second, .unset, .unset, .unset, .unset, .unset, .unset, .unset, .unset, .unset, .unset, .unset, .unset, .unset, .unset, .unset, .unset, .unset] [(.long qd)]))
  refine own_go (X0.ldc2Long hx hown (mvT hZ (hw _ (List.mem_of_getElem? (i := 1) rfl))) (g := (mkF m 26 #[.val (.long qa), .second, .val (.long qb), .second, .val (.long qc), .second, .val (.long qd), .second, .val (.long qe), .second, .val (.long d1), .second, .val (.long ga), .second, .val (.long gb), .second, .unset, .unset, .unset, .unset, .unset, .unset, .unset, .unset, .unset, .unset, .unset, .unset, .unset, .unset, .unset, .unset, .unset] [(.long qd)])) rfl (hb hby at_26)) ?_
  show OwnFin p e below s _ _ _ (s₁.setTop (mkF m 29 #[.val (.long qa), .second, .val (.long qb), .second, .val (.long qc), .second, .val (.long qd), .second, .val (.long qe), .second, .val (.long d1), .second, .val (.long ga), .second, .val (.long gb), .second, .unset, .unset, .unset, .unset, .unset, .unset, .unset, .unset, .unset, .unset, .unset, .unset, .unset, .unset, .unset, .unset, .unset] [(.long (1099511627775 : Int64)), (.long qd)]))
  refine own_go (fun t_ k_ => XS.land X0.here hx rfl (hb hby at_29) rfl k_) ?_
  show OwnFin p e below s _ _ _ (s₁.setTop (mkF m 30 #[.val (.long qa), .second, .val (.long qb), .second, .val (.long qc), .second, .val (.long qd), .second, .val (.long qe), .second, .val (.long d1), .second, .val (.long ga), .second, .val (.long gb), .second, .unset, .unset, .unset, .unset, .unset, .unset, .unset, .unset, .unset, .unset, .unset, .unset, .unset, .unset, .unset, .unset, .unset] [(.long (qd &&& (1099511627775 : Int64)))]))
  refine own_go (fun t_ k_ => XS.lconst X0.here hx rfl (hb hby at_30) k_) ?_
  show OwnFin p e below s _ _ _ (s₁.setTop (mkF m 31 #[.val (.long qa), .second, .val (.long qb), .second, .val (.long qc), .second, .val (.long qd), .second, .val (.long qe), .second, .val (.long d1), .second, .val (.long ga), .second, .val (.long gb), .second, .unset, .unset, .unset, .unset, .unset, .unset, .unset, .unset, .unset, .unset, .unset, .unset, .unset, .unset, .unset, .unset, .unset] [(.long (1 : Int64)), (.long (qd &&& (1099511627775 : Int64)))]))
  refine own_go (fun t_ k_ => XS.ladd X0.here hx rfl (hb hby at_31) rfl k_) ?_
  show OwnFin p e below s _ _ _ (s₁.setTop (mkF m 32 #[.val (.long qa), .second, .val (.long qb), .second, .val (.long qc), .second, .val (.long qd), .second, .val (.long qe), .second, .val (.long d1), .second, .val (.long ga), .second, .val (.long gb), .second, .unset, .unset, .unset, .unset, .unset, .unset, .unset, .unset, .unset, .unset, .unset, .unset, .unset, .unset, .unset, .unset, .unset] [(.long ((qd &&& (1099511627775 : Int64)) + (1 : Int64)))]))
  obtain ⟨gc, e_gc, f_gc⟩ : ∃ z, ((qd &&& (1099511627775 : Int64)) + (1 : Int64)) = z ∧ (1 ≤ z.toInt ∧ z.toInt ≤ 1099511627776) := ⟨_, rfl, own_m40' _⟩
  rw [e_gc]
  show OwnFin p e below s _ _ _ (s₁.setTop (mkF m 32 #[.val (.long qa), .second, .val (.long qb), .second, .val (.long qc), .second, .val (.long qd), .second, .val (.long qe), .second, .val (.long d1), .second, .val (.long ga), .second, .val (.long gb), .second, .unset, .unset, .unset, .unset, .unset, .unset, .unset, .unset, .unset, .unset, .unset, .unset, .unset, .unset, .unset, .unset, .unset] [(.long gc)]))
  refine own_go (fun t_ k_ => XS.lstore X0.here hx rfl (hb hby at_32) rfl (l' := #[.val (.long qa), .second, .val (.long qb), .second, .val (.long qc), .second, .val (.long qd), .second, .val (.long qe), .second, .val (.long d1), .second, .val (.long ga), .second, .val (.long gb), .second, .val (.long gc), .second, .unset, .unset, .unset, .unset, .unset, .unset, .unset, .unset, .unset, .unset, .unset, .unset, .unset, .unset, .unset]) rfl k_) ?_
  show OwnFin p e below s _ _ _ (s₁.setTop (mkF m 34 #[.val (.long qa), .second, .val (.long qb), .second, .val (.long qc), .second, .val (.long qd), .second, .val (.long qe), .second, .val (.long d1), .second, .val (.long ga), .second, .val (.long gb), .second, .val (.long gc), .second, .unset, .unset, .unset, .unset, .unset, .unset, .unset, .unset, .unset, .unset, .unset, .unset, .unset, .unset, .unset] []))
  refine own_go (fun t_ k_ => XS.lload X0.here hx rfl (hb hby at_34) rfl k_) ?_
  show OwnFin p e below s _ _ _ (s₁.setTop (mkF m 36 #[.val (.long qa), .second, .val (.long qb), .second, .val (.long qc), .second, .val (.long qd), .second, .val (.long qe), .second, .val (.long d1), .second, .val (.long ga), .second, .val (.long gb), .second, .val (.long gc), .second, .unset, .unset, .unset, .unset, .unset, .unset, .unset, .unset, .unset, .unset, .unset, .unset, .unset, .unset, .unset] [(.long d1)]))
  refine own_go (fun t_ k_ => XS.lload X0.here hx rfl (hb hby at_36) rfl k_) ?_
  show OwnFin p e below s _ _ _ (s₁.setTop (mkF m 38 #[.val (.long qa), .second, .val (.long qb), .second, .val (.long qc), .second, .val (.long qd), .second, .val (.long qe), .second, .val (.long d1), .second, .val (.long ga), .second, .val (.long gb), .second, .val (.long gc), .second, .unset, .unset, .unset, .unset, .unset, .unset, .unset, .unset, .unset, .unset, .unset, .unset, .unset, .unset, .unset] [(.long ga), (.long d1)]))
  refine own_go (fun t_ k_ => XS.ladd X0.here hx rfl (hb hby at_38) rfl k_) ?_
  show OwnFin p e below s _ _ _ (s₁.setTop (mkF m 39 #[.val (.long qa), .second, .val (.long qb), .second, .val (.long qc), .second, .val (.long qd), .second, .val (.long qe), .second, .val (.long d1), .second, .val (.long ga), .second, .val (.long gb), .second, .val (.long gc), .second, .unset, .unset, .unset, .unset, .unset, .unset, .unset, .unset, .unset, .unset, .unset, .unset, .unset, .unset, .unset] [(.long (d1 + ga))]))
  obtain ⟨d2, e_d2, f_d2⟩ : ∃ z, (d1 + ga) = z ∧ (z.toInt = d1.toInt + ga.toInt) := ⟨_, rfl, own_addL (by omega) (by omega)⟩
  rw [e_d2]
  show OwnFin p e below s _ _ _ (s₁.setTop (mkF m 39 #[.val (.long qa), .second, .val (.long qb), .second, .val (.long qc), .second, .val (.long qd), .second, .val (.long qe), .second, .val (.long d1), .second, .val (.long ga), .second, .val (.long gb), .second, .val (.long gc), .second, .unset, .unset, .unset, .unset, .unset, .unset, .unset, .unset, .unset, .unset, .unset, .unset, .unset, .unset, .unset] [(.long d2)]))
  refine own_go (fun t_ k_ => XS.lstore X0.here hx rfl (hb hby at_39) rfl (l' := #[.val (.long qa), .second, .val (.long qb), .second, .val (.long qc), .second, .val (.long qd), .second, .val (.long qe), .second, .val (.long d1), .second, .val (.long ga), .second, .val (.long gb), .second, .val (.long gc), .second, .val (.long d2), .second, .unset, .unset, .unset, .unset, .unset, .unset, .unset, .unset, .unset, .unset, .unset, .unset, .unset]) rfl k_) ?_
  show OwnFin p e below s _ _ _ (s₁.setTop (mkF m 41 #[.val (.long qa), .second, .val (.long qb), .second, .val (.long qc), .second, .val (.long qd), .second, .val (.long qe), .second, .val (.long d1), .second, .val (.long ga), .second, .val (.long gb), .second, .val (.long gc), .second, .val (.long d2), .second, .unset, .unset, .unset, .unset, .unset, .unset, .unset, .unset, .unset, .unset, .unset, .unset, .unset] []))
  refine own_go (fun t_ k_ => XS.lload X0.here hx rfl (hb hby at_41) rfl k_) ?_
  show OwnFin p e below s _ _ _ (s₁.setTop (mkF m 43 #[.val (.long qa), .second, .val (.long qb), .second, .val (.long qc), .second, .val (.long qd), .second, .val (.long qe), .second, .val (.long d1), .second, .val (.long ga), .second, .val (.long gb), .second, .val (.long gc), .second, .val (.long d2), .second, .unset, .unset, .unset, .unset, .unset, .unset, .unset, .unset, .unset, .unset, .unset, .unset, .unset] [(.long d2)]))
  refine own_go (fun t_ k_ => XS.lload X0.here hx rfl (hb hby at_43) rfl k_) ?_
  show OwnFin p e below s _ _ _ (s₁.setTop (mkF m 45 #[.val (.long qa), .second, .val (.long qb), .second, .val (.long qc), .second, .val (.long qd), .second, .val (.long qe), .second, .val (.long d1), .second, .val (.long ga), .second, .val (.long gb), .second, .val (.long gc), .second, .val (.long d2), .second, .unset, .unset, .unset, .unset, .unset, .unset, .unset, .unset, .unset, .unset, .unset, .unset, .unset] [(.long gb), (.long d2)]))
  refine own_go (fun t_ k_ => XS.ladd X0.here hx rfl (hb hby at_45) rfl k_) ?_
  show OwnFin p e below s _ _ _ (s₁.setTop (mkF m 46 #[.val (.long qa), .second, .val (.long qb), .second, .val (.long qc), .second, .val (.long qd), .second, .val (.long qe), .second, .val (.long d1), .second, .val (.long ga), .second, .val (.long gb), .second, .val (.long gc), .second, .val (.long d2), .second, .unset, .unset, .unset, .unset, .unset, .unset, .unset, .unset, .unset, .unset, .unset, .unset, .unset] [(.long (d2 + gb))]))
  obtain ⟨d3, e_d3, f_d3⟩ : ∃ z, (d2 + gb) = z ∧ (z.toInt = d2.toInt + gb.toInt) := ⟨_, rfl, own_addL (by omega) (by omega)⟩
  rw [e_d3]
  show OwnFin p e below s _ _ _ (s₁.setTop (mkF m 46 #[.val (.long qa), .second, .val (.long qb), .second, .val (.long qc), .second, .val (.long qd), .second, .val (.long qe), .second, .val (.long d1), .second, .val (.long ga), .second, .val (.long gb), .second, .val (.long gc), .second, .val (.long d2), .second, .unset, .unset, .unset, .unset, .unset, .unset, .unset, .unset, .unset, .unset, .unset, .unset, .unset] [(.long d3)]))
  refine own_go (fun t_ k_ => XS.lstore X0.here hx rfl (hb hby at_46) rfl (l' := #[.val (.long qa), .second, .val (.long qb), .second, .val (.long qc), .second, .val (.long qd), .second, .val (.long qe), .second, .val (.long d1), .second, .val (.long ga), .second, .val (.long gb), .second, .val (.long gc), .second, .val (.long d2), .second, .val (.long d3), .second, .unset, .unset, .unset, .unset, .unset, .unset, .unset, .unset, .unset, .unset, .unset]) rfl k_) ?_
  show OwnFin p e below s _ _ _ (s₁.setTop (mkF m 48 #[.val (.long qa), .second, .val (.long qb), .second, .val (.long qc), .second, .val (.long qd), .second, .val (.long qe), .second, .val (.long d1), .second, .val (.long ga), .second, .val (.long gb), .second, .val (.long gc), .second, .val (.long d2), .second, .val (.long d3), .second, .unset, .unset, .unset, .unset, .unset, .unset, .unset, .unset, .unset, .unset, .unset] []))
  refine own_go (fun t_ k_ => XS.lload X0.here hx rfl (hb hby at_48) rfl k_) ?_
  show OwnFin p e below s _ _ _ (s₁.setTop (mkF m 50 #[.val (.long qa), .second, .val (.long qb), .second, .val (.long qc), .second, .val (.long qd), .second, .val (.long qe), .second, .val (.long d1), .second, .val (.long ga), .second, .val (.long gb), .second, .val (.long gc), .second, .val (.long d2), .second, .val (.long d3), .second, .unset, .unset, .unset, .unset, .unset, .unset, .unset, .unset, .unset, .unset, .unset] [(.long d3)]))
  refine own_go (fun t_ k_ => XS.lload X0.here hx rfl (hb hby at_50) rfl k_) ?_
  show OwnFin p e below s _ _ _ (s₁.setTop (mkF m 52 #[.val (.long qa), .second, .val (.long qb), .second, .val (.long qc), .second, .val (.long qd), .second, .val (.long qe), .second, .val (.long d1), .second, .val (.long ga), .second, .val (.long gb), .second, .val (.long gc), .second, .val (.long d2), .second, .val (.long d3), .second, .unset, .unset, .unset, .unset, .unset, .unset, .unset, .unset, .unset, .unset, .unset] [(.long gc), (.long d3)]))
  refine own_go (fun t_ k_ => XS.ladd X0.here hx rfl (hb hby at_52) rfl k_) ?_
  show OwnFin p e below s _ _ _ (s₁.setTop (mkF m 53 #[.val (.long qa), .second, .val (.long qb), .second, .val (.long qc), .second, .val (.long qd), .second, .val (.long qe), .second, .val (.long d1), .second, .val (.long ga), .second, .val (.long gb), .second, .val (.long gc), .second, .val (.long d2), .second, .val (.long d3), .second, .unset, .unset, .unset, .unset, .unset, .unset, .unset, .unset, .unset, .unset, .unset] [(.long (d3 + gc))]))
  obtain ⟨d4, e_d4, f_d4⟩ : ∃ z, (d3 + gc) = z ∧ (z.toInt = d3.toInt + gc.toInt) := ⟨_, rfl, own_addL (by omega) (by omega)⟩
  rw [e_d4]
  show OwnFin p e below s _ _ _ (s₁.setTop (mkF m 53 #[.val (.long qa), .second, .val (.long qb), .second, .val (.long qc), .second, .val (.long qd), .second, .val (.long qe), .second, .val (.long d1), .second, .val (.long ga), .second, .val (.long gb), .second, .val (.long gc), .second, .val (.long d2), .second, .val (.long d3), .second, .unset, .unset, .unset, .unset, .unset, .unset, .unset, .unset, .unset, .unset, .unset] [(.long d4)]))
  refine own_go (fun t_ k_ => XS.lstore X0.here hx rfl (hb hby at_53) rfl (l' := #[.val (.long qa), .second, .val (.long qb), .second, .val (.long qc), .second, .val (.long qd), .second, .val (.long qe), .second, .val (.long d1), .second, .val (.long ga), .second, .val (.long gb), .second, .val (.long gc), .second, .val (.long d2), .second, .val (.long d3), .second, .val (.long d4), .second, .unset, .unset, .unset, .unset, .unset, .unset, .unset, .unset, .unset]) rfl k_) ?_
  show OwnFin p e below s _ _ _ (s₁.setTop (mkF m 55 #[.val (.long qa), .second, .val (.long qb), .second, .val (.long qc), .second, .val (.long qd), .second, .val (.long qe), .second, .val (.long d1), .second, .val (.long ga), .second, .val (.long gb), .second, .val (.long gc), .second, .val (.long d2), .second, .val (.long d3), .second, .val (.long d4), .second, .unset, .unset, .unset, .unset, .unset, .unset, .unset, .unset, .unset] []))
  have z0 : (0 : Int64).toInt = 0 := rfl
  have hi1 : ¬ (d1 < (0 : Int64)) := by rw [Int64.lt_iff_toInt_lt]; omega
  have hi2 : d1 < d2 := by rw [Int64.lt_iff_toInt_lt]; omega
  have hi3 : ¬ (d3 < d2) := by rw [Int64.lt_iff_toInt_lt]; omega
  have hi4 : d3 < d4 := by rw [Int64.lt_iff_toInt_lt]; omega
  obtain ⟨T1, h1, X1, e1, E1, A1, D1, -, st1⟩ := newO X0 hx hZ hown (hw _ (List.mem_of_getElem? (i := 2) rfl)) (hw _ (List.mem_of_getElem? (i := 3) rfl)) (hw _ (List.mem_of_getElem? (i := 4) rfl)) e0 (g := (mkF m 55 #[.val (.long qa), .second, .val (.long qb), .second, .val (.long qc), .second, .val (.long qd), .second, .val (.long qe), .second, .val (.long d1), .second, .val (.long ga), .second, .val (.long gb), .second, .val (.long gc), .second, .val (.long d2), .second, .val (.long d3), .second, .val (.long d4), .second, .unset, .unset, .unset, .unset, .unset, .unset, .unset, .unset, .unset] [])) rfl (hb hby at_55) (by decide) (by decide)
  obtain ⟨b1, g1⟩ : ∃ z, z = h0.size := ⟨_, rfl⟩
  rw [← g1] at A1 D1 st1
  have g_b1 : n0 ≤ b1 := Nat.le_trans Z0 (Nat.le_of_eq g1.symm)
  have Z1 : n0 ≤ h1.size := Nat.le_trans Z0 E1.1
  have E_b1 := A1
  have F_d1_b1 : Fld Z h1 b1 "com/example/thymus/thymus/DueWindow" "d1" "J" (.long (0 : Int64)) := D1 (Or.inr (hw _ (List.mem_of_getElem? (i := 17) rfl))) (ty := .long) (by decide)
  have F_d2_b1 : Fld Z h1 b1 "com/example/thymus/thymus/DueWindow" "d2" "J" (.long (0 : Int64)) := D1 (Or.inr (hw _ (List.mem_of_getElem? (i := 19) rfl))) (ty := .long) (by decide)
  have F_d3_b1 : Fld Z h1 b1 "com/example/thymus/thymus/DueWindow" "d3" "J" (.long (0 : Int64)) := D1 (Or.inr (hw _ (List.mem_of_getElem? (i := 21) rfl))) (ty := .long) (by decide)
  have F_d4_b1 : Fld Z h1 b1 "com/example/thymus/thymus/DueWindow" "d4" "J" (.long (0 : Int64)) := D1 (Or.inr (hw _ (List.mem_of_getElem? (i := 23) rfl))) (ty := .long) (by decide)
  refine own_go st1 ?_
  show OwnFin p e below s _ _ _ (T1.setTop (mkF m 58 #[.val (.long qa), .second, .val (.long qb), .second, .val (.long qc), .second, .val (.long qd), .second, .val (.long qe), .second, .val (.long d1), .second, .val (.long ga), .second, .val (.long gb), .second, .val (.long gc), .second, .val (.long d2), .second, .val (.long d3), .second, .val (.long d4), .second, .unset, .unset, .unset, .unset, .unset, .unset, .unset, .unset, .unset] [(.ref b1)]))
  refine own_go (fun t_ k_ => XS.dup X1.here hx rfl (hb hby at_58) rfl rfl k_) ?_
  show OwnFin p e below s _ _ _ (T1.setTop (mkF m 59 #[.val (.long qa), .second, .val (.long qb), .second, .val (.long qc), .second, .val (.long qd), .second, .val (.long qe), .second, .val (.long d1), .second, .val (.long ga), .second, .val (.long gb), .second, .val (.long gc), .second, .val (.long d2), .second, .val (.long d3), .second, .val (.long d4), .second, .unset, .unset, .unset, .unset, .unset, .unset, .unset, .unset, .unset] [(.ref b1), (.ref b1)]))
  refine own_go (fun t_ k_ => XS.lload X1.here hx rfl (hb hby at_59) rfl k_) ?_
  show OwnFin p e below s _ _ _ (T1.setTop (mkF m 61 #[.val (.long qa), .second, .val (.long qb), .second, .val (.long qc), .second, .val (.long qd), .second, .val (.long qe), .second, .val (.long d1), .second, .val (.long ga), .second, .val (.long gb), .second, .val (.long gc), .second, .val (.long d2), .second, .val (.long d3), .second, .val (.long d4), .second, .unset, .unset, .unset, .unset, .unset, .unset, .unset, .unset, .unset] [(.long d1), (.ref b1), (.ref b1)]))
  refine own_go (fun t_ k_ => XS.lload X1.here hx rfl (hb hby at_61) rfl k_) ?_
  show OwnFin p e below s _ _ _ (T1.setTop (mkF m 63 #[.val (.long qa), .second, .val (.long qb), .second, .val (.long qc), .second, .val (.long qd), .second, .val (.long qe), .second, .val (.long d1), .second, .val (.long ga), .second, .val (.long gb), .second, .val (.long gc), .second, .val (.long d2), .second, .val (.long d3), .second, .val (.long d4), .second, .unset, .unset, .unset, .unset, .unset, .unset, .unset, .unset, .unset] [(.long d2), (.long d1), (.ref b1), (.ref b1)]))
  refine own_go (fun t_ k_ => XS.lload X1.here hx rfl (hb hby at_63) rfl k_) ?_
  show OwnFin p e below s _ _ _ (T1.setTop (mkF m 65 #[.val (.long qa), .second, .val (.long qb), .second, .val (.long qc), .second, .val (.long qd), .second, .val (.long qe), .second, .val (.long d1), .second, .val (.long ga), .second, .val (.long gb), .second, .val (.long gc), .second, .val (.long d2), .second, .val (.long d3), .second, .val (.long d4), .second, .unset, .unset, .unset, .unset, .unset, .unset, .unset, .unset, .unset] [(.long d3), (.long d2), (.long d1), (.ref b1), (.ref b1)]))
  refine own_go (fun t_ k_ => XS.lload X1.here hx rfl (hb hby at_65) rfl k_) ?_
  show OwnFin p e below s _ _ _ (T1.setTop (mkF m 67 #[.val (.long qa), .second, .val (.long qb), .second, .val (.long qc), .second, .val (.long qd), .second, .val (.long qe), .second, .val (.long d1), .second, .val (.long ga), .second, .val (.long gb), .second, .val (.long gc), .second, .val (.long d2), .second, .val (.long d3), .second, .val (.long d4), .second, .unset, .unset, .unset, .unset, .unset, .unset, .unset, .unset, .unset] [(.long d4), (.long d3), (.long d2), (.long d1), (.ref b1), (.ref b1)]))
  obtain ⟨v2, T2, L2, X2, hQ2, st2⟩ := own_callI X1 hx hZ (y := (⟨"com/example/thymus/thymus/DueWindow", "<init>", "(JJJJ)V"⟩ : MethodName)) rfl hown (hw _ (List.mem_of_getElem? (i := 5) rfl)) (hw _ (List.mem_of_getElem? (i := 6) rfl)) (hw _ (List.mem_of_getElem? (i := 4) rfl)) (hw _ (List.mem_of_getElem? (i := 7) rfl)) (by decide) (W := 1) (rm1 l Z a0 hw [] b1 d1 d2 d3 d4 h1 n0 Z1 E_b1 g_b1 F_d1_b1 F_d2_b1 F_d3_b1 F_d4_b1 hi1 hi2 hi3 hi4) (by decide) (by decide) (g := (mkF m 67 #[.val (.long qa), .second, .val (.long qb), .second, .val (.long qc), .second, .val (.long qd), .second, .val (.long qe), .second, .val (.long d1), .second, .val (.long ga), .second, .val (.long gb), .second, .val (.long gc), .second, .val (.long d2), .second, .val (.long d3), .second, .val (.long d4), .second, .unset, .unset, .unset, .unset, .unset, .unset, .unset, .unset, .unset] [(.long d4), (.long d3), (.long d2), (.long d1), (.ref b1), (.ref b1)])) rfl (by rw [hml]; rfl) (a := b1) (argsL := [(.long d1), (.long d2), (.long d3), (.long d4)]) (rest := [(.ref b1)]) (lenOf pd_0_0 rfl) rfl (by show 2 * 0 + _ ≤ _; exact Nat.le_of_eq rfl) (hb hby at_67) e1 rfl (by decide) (by decide)
  obtain ⟨rfl, Nq2, Kq2, Eq2, Fq2_0, Fq2_1, Fq2_2, Fq2_3⟩ := hQ2
  have N2 := Fr.app N0 Nq2
  have E_b1_2 := E_b1.keep Kq2
  have Z2 : n0 ≤ T2.heap.size := Nat.le_trans Z1 Kq2.1
  refine own_go st2 ?_
  show OwnFin p e below s _ _ _ (T2.setTop (mkF m 70 #[.val (.long qa), .second, .val (.long qb), .second, .val (.long qc), .second, .val (.long qd), .second, .val (.long qe), .second, .val (.long d1), .second, .val (.long ga), .second, .val (.long gb), .second, .val (.long gc), .second, .val (.long d2), .second, .val (.long d3), .second, .val (.long d4), .second, .unset, .unset, .unset, .unset, .unset, .unset, .unset, .unset, .unset] [(.ref b1)]))
  refine own_go (fun t_ k_ => XS.astore X2.here hx rfl (hb hby at_70) rfl rfl (l' := #[.val (.long qa), .second, .val (.long qb), .second, .val (.long qc), .second, .val (.long qd), .second, .val (.long qe), .second, .val (.long d1), .second, .val (.long ga), .second, .val (.long gb), .second, .val (.long gc), .second, .val (.long d2), .second, .val (.long d3), .second, .val (.long d4), .second, rv b1, .unset, .unset, .unset, .unset, .unset, .unset, .unset, .unset]) rfl k_) ?_
  show OwnFin p e below s _ _ _ (T2.setTop (mkF m 72 #[.val (.long qa), .second, .val (.long qb), .second, .val (.long qc), .second, .val (.long qd), .second, .val (.long qe), .second, .val (.long d1), .second, .val (.long ga), .second, .val (.long gb), .second, .val (.long gc), .second, .val (.long d2), .second, .val (.long d3), .second, .val (.long d4), .second, rv b1, .unset, .unset, .unset, .unset, .unset, .unset, .unset, .unset] []))
  refine own_go (fun t_ k_ => XS.lload X2.here hx rfl (hb hby at_72) rfl k_) ?_
  show OwnFin p e below s _ _ _ (T2.setTop (mkF m 74 #[.val (.long qa), .second, .val (.long qb), .second, .val (.long qc), .second, .val (.long qd), .second, .val (.long qe), .second, .val (.long d1), .second, .val (.long ga), .second, .val (.long gb), .second, .val (.long gc), .second, .val (.long d2), .second, .val (.long d3), .second, .val (.long d4), .second, rv b1, .unset, .unset, .unset, .unset, .unset, .unset, .unset, .unset] [(.long qe)]))
  refine own_go (X2.ldc2Long hx hown (mvT hZ (hw _ (List.mem_of_getElem? (i := 24) rfl))) (g := (mkF m 74 #[.val (.long qa), .second, .val (.long qb), .second, .val (.long qc), .second, .val (.long qd), .second, .val (.long qe), .second, .val (.long d1), .second, .val (.long ga), .second, .val (.long gb), .second, .val (.long gc), .second, .val (.long d2), .second, .val (.long d3), .second, .val (.long d4), .second, rv b1, .unset, .unset, .unset, .unset, .unset, .unset, .unset, .unset] [(.long qe)])) rfl (hb hby at_74)) ?_
  show OwnFin p e below s _ _ _ (T2.setTop (mkF m 77 #[.val (.long qa), .second, .val (.long qb), .second, .val (.long qc), .second, .val (.long qd), .second, .val (.long qe), .second, .val (.long d1), .second, .val (.long ga), .second, .val (.long gb), .second, .val (.long gc), .second, .val (.long d2), .second, .val (.long d3), .second, .val (.long d4), .second, rv b1, .unset, .unset, .unset, .unset, .unset, .unset, .unset, .unset] [(.long (4503599627370495 : Int64)), (.long qe)]))
  refine own_go (fun t_ k_ => XS.land X2.here hx rfl (hb hby at_77) rfl k_) ?_
  show OwnFin p e below s _ _ _ (T2.setTop (mkF m 78 #[.val (.long qa), .second, .val (.long qb), .second, .val (.long qc), .second, .val (.long qd), .second, .val (.long qe), .second, .val (.long d1), .second, .val (.long ga), .second, .val (.long gb), .second, .val (.long gc), .second, .val (.long d2), .second, .val (.long d3), .second, .val (.long d4), .second, rv b1, .unset, .unset, .unset, .unset, .unset, .unset, .unset, .unset] [(.long (qe &&& (4503599627370495 : Int64)))]))
  refine own_go (X2.ldc2Long hx hown (mvT hZ (hw _ (List.mem_of_getElem? (i := 25) rfl))) (g := (mkF m 78 #[.val (.long qa), .second, .val (.long qb), .second, .val (.long qc), .second, .val (.long qd), .second, .val (.long qe), .second, .val (.long d1), .second, .val (.long ga), .second, .val (.long gb), .second, .val (.long gc), .second, .val (.long d2), .second, .val (.long d3), .second, .val (.long d4), .second, rv b1, .unset, .unset, .unset, .unset, .unset, .unset, .unset, .unset] [(.long (qe &&& (4503599627370495 : Int64)))])) rfl (hb hby at_78)) ?_
  show OwnFin p e below s _ _ _ (T2.setTop (mkF m 81 #[.val (.long qa), .second, .val (.long qb), .second, .val (.long qc), .second, .val (.long qd), .second, .val (.long qe), .second, .val (.long d1), .second, .val (.long ga), .second, .val (.long gb), .second, .val (.long gc), .second, .val (.long d2), .second, .val (.long d3), .second, .val (.long d4), .second, rv b1, .unset, .unset, .unset, .unset, .unset, .unset, .unset, .unset] [(.long (1125899906842624 : Int64)), (.long (qe &&& (4503599627370495 : Int64)))]))
  refine own_go (fun t_ k_ => XS.lsub X2.here hx rfl (hb hby at_81) rfl k_) ?_
  show OwnFin p e below s _ _ _ (T2.setTop (mkF m 82 #[.val (.long qa), .second, .val (.long qb), .second, .val (.long qc), .second, .val (.long qd), .second, .val (.long qe), .second, .val (.long d1), .second, .val (.long ga), .second, .val (.long gb), .second, .val (.long gc), .second, .val (.long d2), .second, .val (.long d3), .second, .val (.long d4), .second, rv b1, .unset, .unset, .unset, .unset, .unset, .unset, .unset, .unset] [(.long ((qe &&& (4503599627370495 : Int64)) - (1125899906842624 : Int64)))]))
  obtain ⟨xx, e_xx, f_xx⟩ : ∃ z, ((qe &&& (4503599627370495 : Int64)) - (1125899906842624 : Int64)) = z ∧ (-1125899906842624 ≤ z.toInt ∧ z.toInt < 3377699720527872) := ⟨_, rfl, own_m52 _⟩
  rw [e_xx]
  show OwnFin p e below s _ _ _ (T2.setTop (mkF m 82 #[.val (.long qa), .second, .val (.long qb), .second, .val (.long qc), .second, .val (.long qd), .second, .val (.long qe), .second, .val (.long d1), .second, .val (.long ga), .second, .val (.long gb), .second, .val (.long gc), .second, .val (.long d2), .second, .val (.long d3), .second, .val (.long d4), .second, rv b1, .unset, .unset, .unset, .unset, .unset, .unset, .unset, .unset] [(.long xx)]))
  refine own_go (fun t_ k_ => XS.lstore X2.here hx rfl (hb hby at_82) rfl (l' := #[.val (.long qa), .second, .val (.long qb), .second, .val (.long qc), .second, .val (.long qd), .second, .val (.long qe), .second, .val (.long d1), .second, .val (.long ga), .second, .val (.long gb), .second, .val (.long gc), .second, .val (.long d2), .second, .val (.long d3), .second, .val (.long d4), .second, rv b1, .val (.long xx), .second, .unset, .unset, .unset, .unset, .unset, .unset]) rfl k_) ?_
  show OwnFin p e below s _ _ _ (T2.setTop (mkF m 84 #[.val (.long qa), .second, .val (.long qb), .second, .val (.long qc), .second, .val (.long qd), .second, .val (.long qe), .second, .val (.long d1), .second, .val (.long ga), .second, .val (.long gb), .second, .val (.long gc), .second, .val (.long d2), .second, .val (.long d3), .second, .val (.long d4), .second, rv b1, .val (.long xx), .second, .unset, .unset, .unset, .unset, .unset, .unset] []))
  refine own_go (fun t_ k_ => XS.lload X2.here hx rfl (hb hby at_84) rfl k_) ?_
  show OwnFin p e below s _ _ _ (T2.setTop (mkF m 86 #[.val (.long qa), .second, .val (.long qb), .second, .val (.long qc), .second, .val (.long qd), .second, .val (.long qe), .second, .val (.long d1), .second, .val (.long ga), .second, .val (.long gb), .second, .val (.long gc), .second, .val (.long d2), .second, .val (.long d3), .second, .val (.long d4), .second, rv b1, .val (.long xx), .second, .unset, .unset, .unset, .unset, .unset, .unset] [(.long xx)]))
  refine own_go (fun t_ k_ => XS.l2dS X2.here hx rfl (hb hby at_86) rfl rfl k_) ?_
  show OwnFin p e below s _ _ _ (T2.setTop (mkF m 87 #[.val (.long qa), .second, .val (.long qb), .second, .val (.long qc), .second, .val (.long qd), .second, .val (.long qe), .second, .val (.long d1), .second, .val (.long ga), .second, .val (.long gb), .second, .val (.long gc), .second, .val (.long d2), .second, .val (.long d3), .second, .val (.long d4), .second, rv b1, .val (.long xx), .second, .unset, .unset, .unset, .unset, .unset, .unset] [(.double (FP.l2d xx))]))
  refine own_go (X2.ldc2DoubleC hx hown (mvT hZ (hw _ (List.mem_of_getElem? (i := 26) rfl))) (g := (mkF m 87 #[.val (.long qa), .second, .val (.long qb), .second, .val (.long qc), .second, .val (.long qd), .second, .val (.long qe), .second, .val (.long d1), .second, .val (.long ga), .second, .val (.long gb), .second, .val (.long gc), .second, .val (.long d2), .second, .val (.long d3), .second, .val (.long d4), .second, rv b1, .val (.long xx), .second, .unset, .unset, .unset, .unset, .unset, .unset] [(.double (FP.l2d xx))])) rfl (hb hby at_87)) ?_
  show OwnFin p e below s _ _ _ (T2.setTop (mkF m 90 #[.val (.long qa), .second, .val (.long qb), .second, .val (.long qc), .second, .val (.long qd), .second, .val (.long qe), .second, .val (.long d1), .second, .val (.long ga), .second, .val (.long gb), .second, .val (.long gc), .second, .val (.long d2), .second, .val (.long d3), .second, .val (.long d4), .second, rv b1, .val (.long xx), .second, .unset, .unset, .unset, .unset, .unset, .unset] [(.double (4611686018427387904 : UInt64)), (.double (FP.l2d xx))]))
  refine own_go (fun t_ k_ => XS.ddivS X2.here hx rfl (hb hby at_90) rfl (own_tmN _) rfl k_) ?_
  show OwnFin p e below s _ _ _ (T2.setTop (mkF m 91 #[.val (.long qa), .second, .val (.long qb), .second, .val (.long qc), .second, .val (.long qd), .second, .val (.long qe), .second, .val (.long d1), .second, .val (.long ga), .second, .val (.long gb), .second, .val (.long gc), .second, .val (.long d2), .second, .val (.long d3), .second, .val (.long d4), .second, rv b1, .val (.long xx), .second, .unset, .unset, .unset, .unset, .unset, .unset] [(.double (FP.ddiv (FP.l2d xx) (4611686018427387904 : UInt64)))]))
  refine own_go (fun t_ k_ => XS.dstore X2.here hx rfl (hb hby at_91) rfl (l' := #[.val (.long qa), .second, .val (.long qb), .second, .val (.long qc), .second, .val (.long qd), .second, .val (.long qe), .second, .val (.long d1), .second, .val (.long ga), .second, .val (.long gb), .second, .val (.long gc), .second, .val (.long d2), .second, .val (.long d3), .second, .val (.long d4), .second, rv b1, .val (.long xx), .second, .val (.double (FP.ddiv (FP.l2d xx) (4611686018427387904 : UInt64))), .second, .unset, .unset, .unset, .unset]) rfl k_) ?_
  show OwnFin p e below s _ _ _ (T2.setTop (mkF m 93 #[.val (.long qa), .second, .val (.long qb), .second, .val (.long qc), .second, .val (.long qd), .second, .val (.long qe), .second, .val (.long d1), .second, .val (.long ga), .second, .val (.long gb), .second, .val (.long gc), .second, .val (.long d2), .second, .val (.long d3), .second, .val (.long d4), .second, rv b1, .val (.long xx), .second, .val (.double (FP.ddiv (FP.l2d xx) (4611686018427387904 : UInt64))), .second, .unset, .unset, .unset, .unset] []))
  obtain ⟨k1, e_k1, f_k1⟩ : ∃ z, ((2 : Int64) * d1) = z ∧ (z.toInt = 2 * d1.toInt) := ⟨_, rfl, own_two (by omega) (by omega)⟩
  obtain ⟨k2, e_k2, f_k2⟩ : ∃ z, ((2 : Int64) * d2) = z ∧ (z.toInt = 2 * d2.toInt) := ⟨_, rfl, own_two (by omega) (by omega)⟩
  obtain ⟨k3, e_k3, f_k3⟩ : ∃ z, ((2 : Int64) * d3) = z ∧ (z.toInt = 2 * d3.toInt) := ⟨_, rfl, own_two (by omega) (by omega)⟩
  obtain ⟨k4, e_k4, f_k4⟩ : ∃ z, ((2 : Int64) * d4) = z ∧ (z.toInt = 2 * d4.toInt) := ⟨_, rfl, own_two (by omega) (by omega)⟩
  have hW : own_win xx d1 d2 d3 d4 k1 k2 k3 k4 := ⟨by omega, by omega, by omega, by omega, by omega, by omega, by omega, by omega, by omega, by omega, by omega⟩
  have hn1 : k2 - k1 ≠ 0 := own_nzL (by omega) (by omega) (by omega)
  have hn2 : k4 - k3 ≠ 0 := own_nzL (by omega) (by omega) (by omega)
  refine own_go (fun t_ k_ => XS.aload X2.here hx rfl (hb hby at_93) rfl rfl k_) ?_
  show OwnFin p e below s _ _ _ (T2.setTop (mkF m 95 #[.val (.long qa), .second, .val (.long qb), .second, .val (.long qc), .second, .val (.long qd), .second, .val (.long qe), .second, .val (.long d1), .second, .val (.long ga), .second, .val (.long gb), .second, .val (.long gc), .second, .val (.long d2), .second, .val (.long d3), .second, .val (.long d4), .second, rv b1, .val (.long xx), .second, .val (.double (FP.ddiv (FP.l2d xx) (4611686018427387904 : UInt64))), .second, .unset, .unset, .unset, .unset] [(.ref b1)]))
  refine own_go (fun t_ k_ => XS.dload X2.here hx rfl (hb hby at_95) rfl k_) ?_
  show OwnFin p e below s _ _ _ (T2.setTop (mkF m 97 #[.val (.long qa), .second, .val (.long qb), .second, .val (.long qc), .second, .val (.long qd), .second, .val (.long qe), .second, .val (.long d1), .second, .val (.long ga), .second, .val (.long gb), .second, .val (.long gc), .second, .val (.long d2), .second, .val (.long d3), .second, .val (.long d4), .second, rv b1, .val (.long xx), .second, .val (.double (FP.ddiv (FP.l2d xx) (4611686018427387904 : UInt64))), .second, .unset, .unset, .unset, .unset] [(.double (FP.ddiv (FP.l2d xx) (4611686018427387904 : UInt64))), (.ref b1)]))
  obtain ⟨v3, T3, L3, X3, hQ3, st3⟩ := own_callV X2 hx hZ (y := (⟨"com/example/thymus/thymus/DueWindow", "membership", "(D)D"⟩ : MethodName)) (z := (⟨"com/example/thymus/thymus/DueWindow", "membership", "(D)D"⟩ : MethodName)) hown (hw _ (List.mem_of_getElem? (i := 27) rfl)) (hw _ (List.mem_of_getElem? (i := 28) rfl)) (notFace_of_selects (args := #[]) (mvT hZ (hw _ (List.mem_of_getElem? (i := 30) rfl)))) (hw _ (List.mem_of_getElem? (i := 30) rfl)) (hw _ (List.mem_of_getElem? (i := 29) rfl)) (hw _ (List.mem_of_getElem? (i := 4) rfl)) (hw _ (List.mem_of_getElem? (i := 31) rfl)) (by decide) (W := 0) (rm4 l Z a0 hw [] b1 (FP.ddiv (FP.l2d xx) (4611686018427387904 : UInt64)) xx d1 d2 d3 d4 k1 k2 k3 k4 T2.heap n0 Z2 rfl hW Fq2_0 Fq2_1 Fq2_2 Fq2_3) (by decide) (by decide) Eq2 (g := (mkF m 97 #[.val (.long qa), .second, .val (.long qb), .second, .val (.long qc), .second, .val (.long qd), .second, .val (.long qe), .second, .val (.long d1), .second, .val (.long ga), .second, .val (.long gb), .second, .val (.long gc), .second, .val (.long d2), .second, .val (.long d3), .second, .val (.long d4), .second, rv b1, .val (.long xx), .second, .val (.double (FP.ddiv (FP.l2d xx) (4611686018427387904 : UInt64))), .second, .unset, .unset, .unset, .unset] [(.double (FP.ddiv (FP.l2d xx) (4611686018427387904 : UInt64))), (.ref b1)])) rfl (by rw [hml]; rfl) (argsL := [(.double (FP.ddiv (FP.l2d xx) (4611686018427387904 : UInt64)))]) (rest := []) (lenOf pd_0_2 rfl) rfl (by show 2 * 0 + _ ≤ _; exact Nat.le_of_eq rfl) (hb hby at_97) rfl rfl (by decide) (by decide)
  obtain ⟨rfl, Nq3, e3⟩ := hQ3
  have N3 := Fr.app N2 Nq3
  refine own_go st3 ?_
  show OwnFin p e below s _ _ _ (T3.setTop (mkF m 100 #[.val (.long qa), .second, .val (.long qb), .second, .val (.long qc), .second, .val (.long qd), .second, .val (.long qe), .second, .val (.long d1), .second, .val (.long ga), .second, .val (.long gb), .second, .val (.long gc), .second, .val (.long d2), .second, .val (.long d3), .second, .val (.long d4), .second, rv b1, .val (.long xx), .second, .val (.double (FP.ddiv (FP.l2d xx) (4611686018427387904 : UInt64))), .second, .unset, .unset, .unset, .unset] [(.double (own_ref xx k1 k2 k3 k4))]))
  refine own_go (fun t_ k_ => XS.dstore X3.here hx rfl (hb hby at_100) rfl (l' := #[.val (.long qa), .second, .val (.long qb), .second, .val (.long qc), .second, .val (.long qd), .second, .val (.long qe), .second, .val (.long d1), .second, .val (.long ga), .second, .val (.long gb), .second, .val (.long gc), .second, .val (.long d2), .second, .val (.long d3), .second, .val (.long d4), .second, rv b1, .val (.long xx), .second, .val (.double (FP.ddiv (FP.l2d xx) (4611686018427387904 : UInt64))), .second, .val (.double (own_ref xx k1 k2 k3 k4)), .second, .unset, .unset]) rfl k_) ?_
  show OwnFin p e below s _ _ _ (T3.setTop (mkF m 102 #[.val (.long qa), .second, .val (.long qb), .second, .val (.long qc), .second, .val (.long qd), .second, .val (.long qe), .second, .val (.long d1), .second, .val (.long ga), .second, .val (.long gb), .second, .val (.long gc), .second, .val (.long d2), .second, .val (.long d3), .second, .val (.long d4), .second, rv b1, .val (.long xx), .second, .val (.double (FP.ddiv (FP.l2d xx) (4611686018427387904 : UInt64))), .second, .val (.double (own_ref xx k1 k2 k3 k4)), .second, .unset, .unset] []))
  refine own_go (fun t_ k_ => XS.lload X3.here hx rfl (hb hby at_102) rfl k_) ?_
  show OwnFin p e below s _ _ _ (T3.setTop (mkF m 104 #[.val (.long qa), .second, .val (.long qb), .second, .val (.long qc), .second, .val (.long qd), .second, .val (.long qe), .second, .val (.long d1), .second, .val (.long ga), .second, .val (.long gb), .second, .val (.long gc), .second, .val (.long d2), .second, .val (.long d3), .second, .val (.long d4), .second, rv b1, .val (.long xx), .second, .val (.double (FP.ddiv (FP.l2d xx) (4611686018427387904 : UInt64))), .second, .val (.double (own_ref xx k1 k2 k3 k4)), .second, .unset, .unset] [(.long xx)]))
  refine own_go (X3.ldc2Long hx hown (mvT hZ (hw _ (List.mem_of_getElem? (i := 32) rfl))) (g := (mkF m 104 #[.val (.long qa), .second, .val (.long qb), .second, .val (.long qc), .second, .val (.long qd), .second, .val (.long qe), .second, .val (.long d1), .second, .val (.long ga), .second, .val (.long gb), .second, .val (.long gc), .second, .val (.long d2), .second, .val (.long d3), .second, .val (.long d4), .second, rv b1, .val (.long xx), .second, .val (.double (FP.ddiv (FP.l2d xx) (4611686018427387904 : UInt64))), .second, .val (.double (own_ref xx k1 k2 k3 k4)), .second, .unset, .unset] [(.long xx)])) rfl (hb hby at_104)) ?_
  show OwnFin p e below s _ _ _ (T3.setTop (mkF m 107 #[.val (.long qa), .second, .val (.long qb), .second, .val (.long qc), .second, .val (.long qd), .second, .val (.long qe), .second, .val (.long d1), .second, .val (.long ga), .second, .val (.long gb), .second, .val (.long gc), .second, .val (.long d2), .second, .val (.long d3), .second, .val (.long d4), .second, rv b1, .val (.long xx), .second, .val (.double (FP.ddiv (FP.l2d xx) (4611686018427387904 : UInt64))), .second, .val (.double (own_ref xx k1 k2 k3 k4)), .second, .unset, .unset] [(.long (2 : Int64)), (.long xx)]))
  refine own_go (fun t_ k_ => XS.lload X3.here hx rfl (hb hby at_107) rfl k_) ?_
  show OwnFin p e below s _ _ _ (T3.setTop (mkF m 109 #[.val (.long qa), .second, .val (.long qb), .second, .val (.long qc), .second, .val (.long qd), .second, .val (.long qe), .second, .val (.long d1), .second, .val (.long ga), .second, .val (.long gb), .second, .val (.long gc), .second, .val (.long d2), .second, .val (.long d3), .second, .val (.long d4), .second, rv b1, .val (.long xx), .second, .val (.double (FP.ddiv (FP.l2d xx) (4611686018427387904 : UInt64))), .second, .val (.double (own_ref xx k1 k2 k3 k4)), .second, .unset, .unset] [(.long d1), (.long (2 : Int64)), (.long xx)]))
  refine own_go (fun t_ k_ => XS.lmul X3.here hx rfl (hb hby at_109) rfl k_) ?_
  show OwnFin p e below s _ _ _ (T3.setTop (mkF m 110 #[.val (.long qa), .second, .val (.long qb), .second, .val (.long qc), .second, .val (.long qd), .second, .val (.long qe), .second, .val (.long d1), .second, .val (.long ga), .second, .val (.long gb), .second, .val (.long gc), .second, .val (.long d2), .second, .val (.long d3), .second, .val (.long d4), .second, rv b1, .val (.long xx), .second, .val (.double (FP.ddiv (FP.l2d xx) (4611686018427387904 : UInt64))), .second, .val (.double (own_ref xx k1 k2 k3 k4)), .second, .unset, .unset] [(.long ((2 : Int64) * d1)), (.long xx)]))
  rw [e_k1]
  show OwnFin p e below s _ _ _ (T3.setTop (mkF m 110 #[.val (.long qa), .second, .val (.long qb), .second, .val (.long qc), .second, .val (.long qd), .second, .val (.long qe), .second, .val (.long d1), .second, .val (.long ga), .second, .val (.long gb), .second, .val (.long gc), .second, .val (.long d2), .second, .val (.long d3), .second, .val (.long d4), .second, rv b1, .val (.long xx), .second, .val (.double (FP.ddiv (FP.l2d xx) (4611686018427387904 : UInt64))), .second, .val (.double (own_ref xx k1 k2 k3 k4)), .second, .unset, .unset] [(.long k1), (.long xx)]))
  refine own_go (X3.ldc2Long hx hown (mvT hZ (hw _ (List.mem_of_getElem? (i := 32) rfl))) (g := (mkF m 110 #[.val (.long qa), .second, .val (.long qb), .second, .val (.long qc), .second, .val (.long qd), .second, .val (.long qe), .second, .val (.long d1), .second, .val (.long ga), .second, .val (.long gb), .second, .val (.long gc), .second, .val (.long d2), .second, .val (.long d3), .second, .val (.long d4), .second, rv b1, .val (.long xx), .second, .val (.double (FP.ddiv (FP.l2d xx) (4611686018427387904 : UInt64))), .second, .val (.double (own_ref xx k1 k2 k3 k4)), .second, .unset, .unset] [(.long k1), (.long xx)])) rfl (hb hby at_110)) ?_
  show OwnFin p e below s _ _ _ (T3.setTop (mkF m 113 #[.val (.long qa), .second, .val (.long qb), .second, .val (.long qc), .second, .val (.long qd), .second, .val (.long qe), .second, .val (.long d1), .second, .val (.long ga), .second, .val (.long gb), .second, .val (.long gc), .second, .val (.long d2), .second, .val (.long d3), .second, .val (.long d4), .second, rv b1, .val (.long xx), .second, .val (.double (FP.ddiv (FP.l2d xx) (4611686018427387904 : UInt64))), .second, .val (.double (own_ref xx k1 k2 k3 k4)), .second, .unset, .unset] [(.long (2 : Int64)), (.long k1), (.long xx)]))
  refine own_go (fun t_ k_ => XS.lload X3.here hx rfl (hb hby at_113) rfl k_) ?_
  show OwnFin p e below s _ _ _ (T3.setTop (mkF m 115 #[.val (.long qa), .second, .val (.long qb), .second, .val (.long qc), .second, .val (.long qd), .second, .val (.long qe), .second, .val (.long d1), .second, .val (.long ga), .second, .val (.long gb), .second, .val (.long gc), .second, .val (.long d2), .second, .val (.long d3), .second, .val (.long d4), .second, rv b1, .val (.long xx), .second, .val (.double (FP.ddiv (FP.l2d xx) (4611686018427387904 : UInt64))), .second, .val (.double (own_ref xx k1 k2 k3 k4)), .second, .unset, .unset] [(.long d2), (.long (2 : Int64)), (.long k1), (.long xx)]))
  refine own_go (fun t_ k_ => XS.lmul X3.here hx rfl (hb hby at_115) rfl k_) ?_
  show OwnFin p e below s _ _ _ (T3.setTop (mkF m 116 #[.val (.long qa), .second, .val (.long qb), .second, .val (.long qc), .second, .val (.long qd), .second, .val (.long qe), .second, .val (.long d1), .second, .val (.long ga), .second, .val (.long gb), .second, .val (.long gc), .second, .val (.long d2), .second, .val (.long d3), .second, .val (.long d4), .second, rv b1, .val (.long xx), .second, .val (.double (FP.ddiv (FP.l2d xx) (4611686018427387904 : UInt64))), .second, .val (.double (own_ref xx k1 k2 k3 k4)), .second, .unset, .unset] [(.long ((2 : Int64) * d2)), (.long k1), (.long xx)]))
  rw [e_k2]
  show OwnFin p e below s _ _ _ (T3.setTop (mkF m 116 #[.val (.long qa), .second, .val (.long qb), .second, .val (.long qc), .second, .val (.long qd), .second, .val (.long qe), .second, .val (.long d1), .second, .val (.long ga), .second, .val (.long gb), .second, .val (.long gc), .second, .val (.long d2), .second, .val (.long d3), .second, .val (.long d4), .second, rv b1, .val (.long xx), .second, .val (.double (FP.ddiv (FP.l2d xx) (4611686018427387904 : UInt64))), .second, .val (.double (own_ref xx k1 k2 k3 k4)), .second, .unset, .unset] [(.long k2), (.long k1), (.long xx)]))
  refine own_go (X3.ldc2Long hx hown (mvT hZ (hw _ (List.mem_of_getElem? (i := 32) rfl))) (g := (mkF m 116 #[.val (.long qa), .second, .val (.long qb), .second, .val (.long qc), .second, .val (.long qd), .second, .val (.long qe), .second, .val (.long d1), .second, .val (.long ga), .second, .val (.long gb), .second, .val (.long gc), .second, .val (.long d2), .second, .val (.long d3), .second, .val (.long d4), .second, rv b1, .val (.long xx), .second, .val (.double (FP.ddiv (FP.l2d xx) (4611686018427387904 : UInt64))), .second, .val (.double (own_ref xx k1 k2 k3 k4)), .second, .unset, .unset] [(.long k2), (.long k1), (.long xx)])) rfl (hb hby at_116)) ?_
  show OwnFin p e below s _ _ _ (T3.setTop (mkF m 119 #[.val (.long qa), .second, .val (.long qb), .second, .val (.long qc), .second, .val (.long qd), .second, .val (.long qe), .second, .val (.long d1), .second, .val (.long ga), .second, .val (.long gb), .second, .val (.long gc), .second, .val (.long d2), .second, .val (.long d3), .second, .val (.long d4), .second, rv b1, .val (.long xx), .second, .val (.double (FP.ddiv (FP.l2d xx) (4611686018427387904 : UInt64))), .second, .val (.double (own_ref xx k1 k2 k3 k4)), .second, .unset, .unset] [(.long (2 : Int64)), (.long k2), (.long k1), (.long xx)]))
  refine own_go (fun t_ k_ => XS.lload X3.here hx rfl (hb hby at_119) rfl k_) ?_
  show OwnFin p e below s _ _ _ (T3.setTop (mkF m 121 #[.val (.long qa), .second, .val (.long qb), .second, .val (.long qc), .second, .val (.long qd), .second, .val (.long qe), .second, .val (.long d1), .second, .val (.long ga), .second, .val (.long gb), .second, .val (.long gc), .second, .val (.long d2), .second, .val (.long d3), .second, .val (.long d4), .second, rv b1, .val (.long xx), .second, .val (.double (FP.ddiv (FP.l2d xx) (4611686018427387904 : UInt64))), .second, .val (.double (own_ref xx k1 k2 k3 k4)), .second, .unset, .unset] [(.long d3), (.long (2 : Int64)), (.long k2), (.long k1), (.long xx)]))
  refine own_go (fun t_ k_ => XS.lmul X3.here hx rfl (hb hby at_121) rfl k_) ?_
  show OwnFin p e below s _ _ _ (T3.setTop (mkF m 122 #[.val (.long qa), .second, .val (.long qb), .second, .val (.long qc), .second, .val (.long qd), .second, .val (.long qe), .second, .val (.long d1), .second, .val (.long ga), .second, .val (.long gb), .second, .val (.long gc), .second, .val (.long d2), .second, .val (.long d3), .second, .val (.long d4), .second, rv b1, .val (.long xx), .second, .val (.double (FP.ddiv (FP.l2d xx) (4611686018427387904 : UInt64))), .second, .val (.double (own_ref xx k1 k2 k3 k4)), .second, .unset, .unset] [(.long ((2 : Int64) * d3)), (.long k2), (.long k1), (.long xx)]))
  rw [e_k3]
  show OwnFin p e below s _ _ _ (T3.setTop (mkF m 122 #[.val (.long qa), .second, .val (.long qb), .second, .val (.long qc), .second, .val (.long qd), .second, .val (.long qe), .second, .val (.long d1), .second, .val (.long ga), .second, .val (.long gb), .second, .val (.long gc), .second, .val (.long d2), .second, .val (.long d3), .second, .val (.long d4), .second, rv b1, .val (.long xx), .second, .val (.double (FP.ddiv (FP.l2d xx) (4611686018427387904 : UInt64))), .second, .val (.double (own_ref xx k1 k2 k3 k4)), .second, .unset, .unset] [(.long k3), (.long k2), (.long k1), (.long xx)]))
  refine own_go (X3.ldc2Long hx hown (mvT hZ (hw _ (List.mem_of_getElem? (i := 32) rfl))) (g := (mkF m 122 #[.val (.long qa), .second, .val (.long qb), .second, .val (.long qc), .second, .val (.long qd), .second, .val (.long qe), .second, .val (.long d1), .second, .val (.long ga), .second, .val (.long gb), .second, .val (.long gc), .second, .val (.long d2), .second, .val (.long d3), .second, .val (.long d4), .second, rv b1, .val (.long xx), .second, .val (.double (FP.ddiv (FP.l2d xx) (4611686018427387904 : UInt64))), .second, .val (.double (own_ref xx k1 k2 k3 k4)), .second, .unset, .unset] [(.long k3), (.long k2), (.long k1), (.long xx)])) rfl (hb hby at_122)) ?_
  show OwnFin p e below s _ _ _ (T3.setTop (mkF m 125 #[.val (.long qa), .second, .val (.long qb), .second, .val (.long qc), .second, .val (.long qd), .second, .val (.long qe), .second, .val (.long d1), .second, .val (.long ga), .second, .val (.long gb), .second, .val (.long gc), .second, .val (.long d2), .second, .val (.long d3), .second, .val (.long d4), .second, rv b1, .val (.long xx), .second, .val (.double (FP.ddiv (FP.l2d xx) (4611686018427387904 : UInt64))), .second, .val (.double (own_ref xx k1 k2 k3 k4)), .second, .unset, .unset] [(.long (2 : Int64)), (.long k3), (.long k2), (.long k1), (.long xx)]))
  refine own_go (fun t_ k_ => XS.lload X3.here hx rfl (hb hby at_125) rfl k_) ?_
  show OwnFin p e below s _ _ _ (T3.setTop (mkF m 127 #[.val (.long qa), .second, .val (.long qb), .second, .val (.long qc), .second, .val (.long qd), .second, .val (.long qe), .second, .val (.long d1), .second, .val (.long ga), .second, .val (.long gb), .second, .val (.long gc), .second, .val (.long d2), .second, .val (.long d3), .second, .val (.long d4), .second, rv b1, .val (.long xx), .second, .val (.double (FP.ddiv (FP.l2d xx) (4611686018427387904 : UInt64))), .second, .val (.double (own_ref xx k1 k2 k3 k4)), .second, .unset, .unset] [(.long d4), (.long (2 : Int64)), (.long k3), (.long k2), (.long k1), (.long xx)]))
  refine own_go (fun t_ k_ => XS.lmul X3.here hx rfl (hb hby at_127) rfl k_) ?_
  show OwnFin p e below s _ _ _ (T3.setTop (mkF m 128 #[.val (.long qa), .second, .val (.long qb), .second, .val (.long qc), .second, .val (.long qd), .second, .val (.long qe), .second, .val (.long d1), .second, .val (.long ga), .second, .val (.long gb), .second, .val (.long gc), .second, .val (.long d2), .second, .val (.long d3), .second, .val (.long d4), .second, rv b1, .val (.long xx), .second, .val (.double (FP.ddiv (FP.l2d xx) (4611686018427387904 : UInt64))), .second, .val (.double (own_ref xx k1 k2 k3 k4)), .second, .unset, .unset] [(.long ((2 : Int64) * d4)), (.long k3), (.long k2), (.long k1), (.long xx)]))
  rw [e_k4]
  show OwnFin p e below s _ _ _ (T3.setTop (mkF m 128 #[.val (.long qa), .second, .val (.long qb), .second, .val (.long qc), .second, .val (.long qd), .second, .val (.long qe), .second, .val (.long d1), .second, .val (.long ga), .second, .val (.long gb), .second, .val (.long gc), .second, .val (.long d2), .second, .val (.long d3), .second, .val (.long d4), .second, rv b1, .val (.long xx), .second, .val (.double (FP.ddiv (FP.l2d xx) (4611686018427387904 : UInt64))), .second, .val (.double (own_ref xx k1 k2 k3 k4)), .second, .unset, .unset] [(.long k4), (.long k3), (.long k2), (.long k1), (.long xx)]))
  obtain ⟨v4, T4, L4, X4, hQ4, st4⟩ := own_callS X3 hx hZ (y := (⟨"com/example/thymus/thymus/DueWindowMembershipPinLaw", "reference", "(JJJJJ)D"⟩ : MethodName)) hown (hw _ (List.mem_of_getElem? (i := 33) rfl)) (hw _ (List.mem_of_getElem? (i := 34) rfl)) (hw _ (List.mem_of_getElem? (i := 35) rfl)) (hw _ (List.mem_of_getElem? (i := 36) rfl)) (by decide) (W := 0) (rm5 l Z a0 hw [] xx k1 k2 k3 k4 T2.heap n0 Z2 hn1 hn2) (by decide) (by decide) (g := (mkF m 128 #[.val (.long qa), .second, .val (.long qb), .second, .val (.long qc), .second, .val (.long qd), .second, .val (.long qe), .second, .val (.long d1), .second, .val (.long ga), .second, .val (.long gb), .second, .val (.long gc), .second, .val (.long d2), .second, .val (.long d3), .second, .val (.long d4), .second, rv b1, .val (.long xx), .second, .val (.double (FP.ddiv (FP.l2d xx) (4611686018427387904 : UInt64))), .second, .val (.double (own_ref xx k1 k2 k3 k4)), .second, .unset, .unset] [(.long k4), (.long k3), (.long k2), (.long k1), (.long xx)])) rfl (by rw [hml]; rfl) (argsL := [(.long xx), (.long k1), (.long k2), (.long k3), (.long k4)]) (rest := []) (lenOf pd_0_3 rfl) rfl (by show 2 * 0 + _ ≤ _; exact Nat.le_of_eq rfl) (hb hby at_128) e3 rfl (by decide) (by decide)
  obtain ⟨rfl, Nq4, e4⟩ := hQ4
  have N4 := Fr.app N3 Nq4
  refine own_go st4 ?_
  show OwnFin p e below s _ _ _ (T4.setTop (mkF m 131 #[.val (.long qa), .second, .val (.long qb), .second, .val (.long qc), .second, .val (.long qd), .second, .val (.long qe), .second, .val (.long d1), .second, .val (.long ga), .second, .val (.long gb), .second, .val (.long gc), .second, .val (.long d2), .second, .val (.long d3), .second, .val (.long d4), .second, rv b1, .val (.long xx), .second, .val (.double (FP.ddiv (FP.l2d xx) (4611686018427387904 : UInt64))), .second, .val (.double (own_ref xx k1 k2 k3 k4)), .second, .unset, .unset] [(.double (own_ref xx k1 k2 k3 k4))]))
  refine own_go (fun t_ k_ => XS.dstore X4.here hx rfl (hb hby at_131) rfl (l' := #[.val (.long qa), .second, .val (.long qb), .second, .val (.long qc), .second, .val (.long qd), .second, .val (.long qe), .second, .val (.long d1), .second, .val (.long ga), .second, .val (.long gb), .second, .val (.long gc), .second, .val (.long d2), .second, .val (.long d3), .second, .val (.long d4), .second, rv b1, .val (.long xx), .second, .val (.double (FP.ddiv (FP.l2d xx) (4611686018427387904 : UInt64))), .second, .val (.double (own_ref xx k1 k2 k3 k4)), .second, .val (.double (own_ref xx k1 k2 k3 k4)), .second]) rfl k_) ?_
  show OwnFin p e below s _ _ _ (T4.setTop (mkF m 133 #[.val (.long qa), .second, .val (.long qb), .second, .val (.long qc), .second, .val (.long qd), .second, .val (.long qe), .second, .val (.long d1), .second, .val (.long ga), .second, .val (.long gb), .second, .val (.long gc), .second, .val (.long d2), .second, .val (.long d3), .second, .val (.long d4), .second, rv b1, .val (.long xx), .second, .val (.double (FP.ddiv (FP.l2d xx) (4611686018427387904 : UInt64))), .second, .val (.double (own_ref xx k1 k2 k3 k4)), .second, .val (.double (own_ref xx k1 k2 k3 k4)), .second] []))
  refine own_go (fun t_ k_ => XS.dload X4.here hx rfl (hb hby at_133) rfl k_) ?_
  show OwnFin p e below s _ _ _ (T4.setTop (mkF m 135 #[.val (.long qa), .second, .val (.long qb), .second, .val (.long qc), .second, .val (.long qd), .second, .val (.long qe), .second, .val (.long d1), .second, .val (.long ga), .second, .val (.long gb), .second, .val (.long gc), .second, .val (.long d2), .second, .val (.long d3), .second, .val (.long d4), .second, rv b1, .val (.long xx), .second, .val (.double (FP.ddiv (FP.l2d xx) (4611686018427387904 : UInt64))), .second, .val (.double (own_ref xx k1 k2 k3 k4)), .second, .val (.double (own_ref xx k1 k2 k3 k4)), .second] [(.double (own_ref xx k1 k2 k3 k4))]))
  refine own_go (fun t_ k_ => XS.dload X4.here hx rfl (hb hby at_135) rfl k_) ?_
  show OwnFin p e below s _ _ _ (T4.setTop (mkF m 137 #[.val (.long qa), .second, .val (.long qb), .second, .val (.long qc), .second, .val (.long qd), .second, .val (.long qe), .second, .val (.long d1), .second, .val (.long ga), .second, .val (.long gb), .second, .val (.long gc), .second, .val (.long d2), .second, .val (.long d3), .second, .val (.long d4), .second, rv b1, .val (.long xx), .second, .val (.double (FP.ddiv (FP.l2d xx) (4611686018427387904 : UInt64))), .second, .val (.double (own_ref xx k1 k2 k3 k4)), .second, .val (.double (own_ref xx k1 k2 k3 k4)), .second] [(.double (own_ref xx k1 k2 k3 k4)), (.double (own_ref xx k1 k2 k3 k4))]))
  refine own_go (fun t_ k_ => XS.dcmpS X4.here hx rfl (hb hby at_137) rfl (v := (0 : Int32)) (Jvm.RoadKit.dcmpV_self (own_refN hn1 hn2) _) k_) ?_
  show OwnFin p e below s _ _ _ (T4.setTop (mkF m 138 #[.val (.long qa), .second, .val (.long qb), .second, .val (.long qc), .second, .val (.long qd), .second, .val (.long qe), .second, .val (.long d1), .second, .val (.long ga), .second, .val (.long gb), .second, .val (.long gc), .second, .val (.long d2), .second, .val (.long d3), .second, .val (.long d4), .second, rv b1, .val (.long xx), .second, .val (.double (FP.ddiv (FP.l2d xx) (4611686018427387904 : UInt64))), .second, .val (.double (own_ref xx k1 k2 k3 k4)), .second, .val (.double (own_ref xx k1 k2 k3 k4)), .second] [(.int (0 : Int32))]))
  refine own_go (fun t_ k_ => XS.ifNo X4.here hx rfl (hb hby at_138) rfl ((if0 _ _).trans (teq (by decide)).2) k_) ?_
  show OwnFin p e below s _ _ _ (T4.setTop (mkF m 141 #[.val (.long qa), .second, .val (.long qb), .second, .val (.long qc), .second, .val (.long qd), .second, .val (.long qe), .second, .val (.long d1), .second, .val (.long ga), .second, .val (.long gb), .second, .val (.long gc), .second, .val (.long d2), .second, .val (.long d3), .second, .val (.long d4), .second, rv b1, .val (.long xx), .second, .val (.double (FP.ddiv (FP.l2d xx) (4611686018427387904 : UInt64))), .second, .val (.double (own_ref xx k1 k2 k3 k4)), .second, .val (.double (own_ref xx k1 k2 k3 k4)), .second] []))
  refine own_go (fun t_ k_ => XS.iconst X4.here hx rfl (hb hby at_141) k_) ?_
  show OwnFin p e below s _ _ _ (T4.setTop (mkF m 142 #[.val (.long qa), .second, .val (.long qb), .second, .val (.long qc), .second, .val (.long qd), .second, .val (.long qe), .second, .val (.long d1), .second, .val (.long ga), .second, .val (.long gb), .second, .val (.long gc), .second, .val (.long d2), .second, .val (.long d3), .second, .val (.long d4), .second, rv b1, .val (.long xx), .second, .val (.double (FP.ddiv (FP.l2d xx) (4611686018427387904 : UInt64))), .second, .val (.double (own_ref xx k1 k2 k3 k4)), .second, .val (.double (own_ref xx k1 k2 k3 k4)), .second] [(.int (1 : Int32))]))
  refine own_go (fun t_ k_ => XS.goto X4.here hx rfl (pc0 := 142) (pc' := 146) rfl (hb hby at_142) (by decide) (by decide) k_) ?_
  show OwnFin p e below s _ _ _ (T4.setTop (mkF m 146 #[.val (.long qa), .second, .val (.long qb), .second, .val (.long qc), .second, .val (.long qd), .second, .val (.long qe), .second, .val (.long d1), .second, .val (.long ga), .second, .val (.long gb), .second, .val (.long gc), .second, .val (.long d2), .second, .val (.long d3), .second, .val (.long d4), .second, rv b1, .val (.long xx), .second, .val (.double (FP.ddiv (FP.l2d xx) (4611686018427387904 : UInt64))), .second, .val (.double (own_ref xx k1 k2 k3 k4)), .second, .val (.double (own_ref xx k1 k2 k3 k4)), .second] [(.int (1 : Int32))]))
  refine own_ret X4 (v := some (.int (1 : Int32))) hlk (fun hh => by rw [hret] at hh; cases hh) (fun fs hr => retN X4 hx (t := .boolean) hret (by simp) (hb hby at_146) hr) (by decide) (by decide) ?_
  exact ⟨rfl, N4⟩
set_option maxRecDepth 65536 in
set_option maxHeartbeats 40000000 in
theorem comes_1 {Post : Tables → Env → Array Value → State → Outcome → State → Prop} (hpost : ∀ tb e args s v u, (limb_1_1.after args s (.returned v) u = true ∧ limb_1_2.after args s (.returned v) u = true ∧ True) → FrameEnd s (.returned v) u (Jvm.fieldLocs frame_1_writes args s ++ Jvm.arrayLocs frame_1_arrays args s ++ Jvm.staticLocs frame_1_statics s) 16 128 → Post tb e args s (.returned v) u) :
    ArmFor flags0 classFile x code maxLocals ret World_1 tables_1 room_1 Calls_1 rest_1 Pre_1 Post := by
  intro l hfl _ _ p e ha hc hk s m args below hf hA hF happ hP
  obtain ⟨hcalls, hrest, hpre⟩ := hP
  obtain ⟨-, -, -, hnamed, -, -, -, hat⟩ := (Spec.applies_iff hf).mp happ
  obtain ⟨hg, hn⟩ := and_e (Cond.before_iff.mp (show (Jvm.Cond.and given_1 narrow_1).before args s = true from hpre))
  obtain ⟨g1, g2⟩ := and_e hg
  obtain ⟨g3, g4⟩ := and_e g2
  obtain ⟨g5, g6⟩ := and_e g4
  obtain ⟨g7, g8⟩ := and_e g6
  obtain ⟨g9, g10⟩ := and_e g8
  obtain ⟨w0, w1, w2, w3, w4, rfl⟩ : ∃ w0 w1 w2 w3 w4 : Value, args = #[w0, w1, w2, w3, w4] := by
    have hs : args.size = 5 := by simpa [Cond.value, given_1] using g1
    obtain ⟨L⟩ := args
    match L, hs with
    | [w0, w1, w2, w3, w4], _ => exact ⟨w0, w1, w2, w3, w4, rfl⟩
  have hw := fun d (hd : d ∈ tables_1) => atoms_spec (ws := Jvm.Cond.code x code maxLocals ret :: tables_1) hat d (List.mem_cons_of_mem _ hd)
  have hfit : Fit s := fun {y c} hc i hi => by
    obtain ⟨ha, rfl⟩ := Array.getElem?_eq_some_iff.mp hc
    have q := List.all_eq_true.mp ((Array.all_eq_true_iff_forall_mem.mp hF) _ (Array.getElem_mem ha)) i (List.mem_range.mpr hi)
    simpa [Array.getElem?_eq_getElem hi] using q
  obtain ⟨i0, ei0⟩ := isL_v g3
  obtain rfl : w0 = (.long i0) := Option.some.inj ei0
  obtain ⟨i1, ei1⟩ := isL_v g5
  obtain rfl : w1 = (.long i1) := Option.some.inj ei1
  obtain ⟨i2, ei2⟩ := isL_v g7
  obtain rfl : w2 = (.long i2) := Option.some.inj ei2
  obtain ⟨i3, ei3⟩ := isL_v g9
  obtain rfl : w3 = (.long i3) := Option.some.inj ei3
  obtain ⟨i4, ei4⟩ := isL_v g10
  obtain rfl : w4 = (.long i4) := Option.some.inj ei4
  obtain ⟨n, o, h1, h2, h3, _, L, rfl, ⟨rfl, N⟩, hq⟩ := rm0 l s _ hw tables_1 i0 i1 i2 i3 i4 s.heap s.heap.size (Nat.le_refl _) p e ha hc hk s m _ below hf ((Spec.applies_iff_loose hf).mp happ).1 ⟨rfl, State.Warmed39.refl s, rfl⟩ trivial
  refine ⟨n, _, h1, h2, h3, hpost _ _ _ _ _ _ ⟨Cond.after_iff.mpr rfl, Cond.after_iff.mpr (eq_i res_at (Term.int_eval (1)) rfl), trivial⟩ ⟨hq.1, hq.2.1, (hq.2.2.sift fun y hy => Or.inr (N y hy)).mono (by decide) (by decide)⟩⟩
theorem main_1_1 : Claimed_1_1 := comes_1 fun _ _ _ _ _ _ h hF => ⟨h.1, hF⟩
theorem main_1_2 : Claimed_1_2 := comes_1 fun _ _ _ _ _ _ h hF => ⟨h.2.1, hF⟩
end Jvm.Pilot.@@N@@
namespace Jvm.Pilot.@@N@@
open Jvm Jvm.ClassFile Sem Op Lib Jvm.Free Jvm.Stand Jvm.Pilot.@@N@@.Jvm.D
/-! MADE BY PROGRAM (witnessworld.py) out of the Statement's table words and the real class files: 10 classes; the members and pool entries that the words name. The judged class is class 1, her method 1. -/
namespace start1
open Jvm.ClassFile
def u (s : String) : CpInfo := .utf8 (stringToUtf16 s)
/-- a pool by its gaps: so many unusable entries, then the entry; so many at the end -/
def gap : Nat → List CpInfo → List CpInfo
  | 0, r => r
  | n + 1, r => .unusable :: gap n r
def poolList (es : List (Nat × CpInfo)) (last : Nat) : List CpInfo := es.foldr (fun e r => gap e.1 (e.2 :: r)) (gap last [])
def pool (es : List (Nat × CpInfo)) (last : Nat) : Array CpInfo := ⟨poolList es last⟩
def fileOf (pool : Array CpInfo) (this : Nat) (attrs : Array Attribute := #[]) (ms : Array MethodInfo := #[]) (fl : Nat := 33) (sup : Nat := 0) (ifs : Array Nat := #[]) (fds : Array FieldInfo := #[]) : ClassFile where
  minorVersion := 0
  majorVersion := 65
  constantPool := pool
  accessFlags := fl
  thisClass := this
  superClass := sup
  interfaces := ifs
  fields := fds
  methods := ms
  attributes := attrs
def plain (name : String) (sup : Option ClassId) : Class where
  name := name
  kind := .ordinary
  loader := none
  accessFlags := 33
  super := sup
  interfaces := #[]
  cf := none
  fields := #[]
  methods := #[]
  instanceTypes := #[]
  staticTypes := #[]
  resolved := #[]
  callSites := []
  init := .initialized
  statics := none
  mirror := none

def pool0 : Array CpInfo := pool [(5, u "<init>"), (0, u "()V"), (1, .class_ 10), (1, u "java/lang/Object")] 113

def k0c0 : Code := { maxStack := 0, maxLocals := 1, code := object_method_1_code, exceptionTable := #[], attributes := #[] }
def k0m0 : Method := { name := "<init>", desc := "()V", sig := { parameters := [], returnType := none }, accessFlags := 1, code := some k0c0 }
/-- java/lang/Object -/
def k0 : Class := { plain "java/lang/Object" none with
  accessFlags := 33
  interfaces := #[]
  cf := some (fileOf pool0 8 #[] #[{ accessFlags := 1, nameIndex := 5, descriptorIndex := 6, attributes := #[] }] 33 0 #[] #[])
  fields := #[]
  methods := #[k0m0]
  instanceTypes := #[]
  staticTypes := #[]
  resolved := Array.replicate 124 none
  statics := none }

def pool1 : Array CpInfo := pool [(2, .class_ 4), (1, u "java/lang/Object"), (0, u "<init>"), (0, u "()V"), (0, .long 281474976710655), (1, .long 1099511627775), (1, .class_ 12), (0, u "com/example/thymus/thymus/DueWindow"), (0, .methodref 11 14), (0, .nameAndType 5 15), (0, u "(JJJJ)V"), (0, .long 4503599627370495), (1, .long 1125899906842624), (1, .double 4611686018427387904), (1, .methodref 11 23), (0, .nameAndType 24 25), (0, u "membership"), (0, u "(D)D"), (0, .long 2), (1, .methodref 29 30), (0, .class_ 31), (0, .nameAndType 32 33), (0, u "com/example/thymus/thymus/DueWindowMembershipPinLaw"), (0, u "reference"), (0, u "(JJJJJ)D"), (2, u "law"), (0, u "(JJJJJ)Z")] 3

def k1m0 : Method := { name := "<init>", desc := "()V", sig := { parameters := [], returnType := none }, accessFlags := 1, code := none }
def k1c1 : Code := { maxStack := 12, maxLocals := 33, code := code, exceptionTable := #[], attributes := #[] }
def k1m1 : Method := { name := "law", desc := "(JJJJJ)Z", sig := { parameters := [.long, .long, .long, .long, .long], returnType := some .boolean }, accessFlags := 9, code := some k1c1 }
def k1c2 : Code := { maxStack := 6, maxLocals := 10, code := method_3_code, exceptionTable := #[], attributes := #[] }
def k1m2 : Method := { name := "reference", desc := "(JJJJJ)D", sig := { parameters := [.long, .long, .long, .long, .long], returnType := some .double }, accessFlags := 10, code := some k1c2 }
/-- com/example/thymus/thymus/DueWindowMembershipPinLaw -/
def k1 : Class := { plain "com/example/thymus/thymus/DueWindowMembershipPinLaw" (some 0) with
  accessFlags := 49
  interfaces := #[]
  cf := some (fileOf pool1 29 #[] #[{ accessFlags := 1, nameIndex := 5, descriptorIndex := 6, attributes := #[] }, { accessFlags := 9, nameIndex := 36, descriptorIndex := 37, attributes := #[] }, { accessFlags := 10, nameIndex := 32, descriptorIndex := 33, attributes := #[] }] 49 2 #[] #[])
  fields := #[]
  methods := #[k1m0, k1m1, k1m2]
  instanceTypes := #[]
  staticTypes := #[]
  resolved := Array.replicate 41 none
  statics := none }

def pool2 : Array CpInfo := pool [(1, .methodref 2 3), (0, .class_ 4), (0, .nameAndType 5 6), (0, u "java/lang/Object"), (0, u "<init>"), (0, u "()V"), (0, .class_ 8), (0, u "java/lang/Record")] 13

def k2c0 : Code := { maxStack := 1, maxLocals := 1, code := jdk_30_method_1_code, exceptionTable := #[], attributes := #[] }
def k2m0 : Method := { name := "<init>", desc := "()V", sig := { parameters := [], returnType := none }, accessFlags := 4, code := some k2c0 }
/-- java/lang/Record -/
def k2 : Class := { plain "java/lang/Record" (some 0) with
  accessFlags := 1057
  interfaces := #[]
  cf := some (fileOf pool2 7 #[] #[{ accessFlags := 4, nameIndex := 5, descriptorIndex := 6, attributes := #[] }] 1057 2 #[] #[])
  fields := #[]
  methods := #[k2m0]
  instanceTypes := #[]
  staticTypes := #[]
  resolved := Array.replicate 22 none
  statics := none }

def pool3 : Array CpInfo := pool [(1, .methodref 2 3), (0, .class_ 4), (0, .nameAndType 5 6), (0, u "java/lang/Record"), (0, u "<init>"), (0, u "()V"), (9, .fieldref 17 18), (0, .class_ 19), (0, .nameAndType 20 21), (0, u "com/example/thymus/thymus/DueWindow"), (0, u "d1"), (0, u "J"), (0, .fieldref 17 23), (0, .nameAndType 24 21), (0, u "d2"), (0, .fieldref 17 26), (0, .nameAndType 27 21), (0, u "d3"), (0, .fieldref 17 29), (0, .nameAndType 30 21), (0, u "d4"), (14, u "membership"), (0, u "(D)D"), (27, u "(JJJJ)V")] 45

def k3c0 : Code := { maxStack := 10, maxLocals := 9, code := prog_11_method_1_code, exceptionTable := #[], attributes := #[] }
def k3m0 : Method := { name := "<init>", desc := "(JJJJ)V", sig := { parameters := [.long, .long, .long, .long], returnType := none }, accessFlags := 1, code := some k3c0 }
def k3c1 : Code := { maxStack := 6, maxLocals := 3, code := prog_11_method_2_code, exceptionTable := #[], attributes := #[] }
def k3m1 : Method := { name := "membership", desc := "(D)D", sig := { parameters := [.double], returnType := some .double }, accessFlags := 1, code := some k3c1 }
/-- com/example/thymus/thymus/DueWindow -/
def k3 : Class := { plain "com/example/thymus/thymus/DueWindow" (some 2) with
  accessFlags := 49
  interfaces := #[]
  cf := some (fileOf pool3 17 #[] #[{ accessFlags := 1, nameIndex := 5, descriptorIndex := 74, attributes := #[] }, { accessFlags := 1, nameIndex := 45, descriptorIndex := 46, attributes := #[] }] 49 2 #[] #[{ accessFlags := 18, nameIndex := 20, descriptorIndex := 21, attributes := #[] }, { accessFlags := 18, nameIndex := 24, descriptorIndex := 21, attributes := #[] }, { accessFlags := 18, nameIndex := 27, descriptorIndex := 21, attributes := #[] }, { accessFlags := 18, nameIndex := 30, descriptorIndex := 21, attributes := #[] }])
  fields := #[{ name := "d1", type := .long, accessFlags := 18, slot := 0, constantValue := 0 }, { name := "d2", type := .long, accessFlags := 18, slot := 1, constantValue := 0 }, { name := "d3", type := .long, accessFlags := 18, slot := 2, constantValue := 0 }, { name := "d4", type := .long, accessFlags := 18, slot := 3, constantValue := 0 }]
  methods := #[k3m0, k3m1]
  instanceTypes := #[.long, .long, .long, .long]
  staticTypes := #[]
  resolved := Array.replicate 120 none
  statics := none }

def pool4 : Array CpInfo := pool [(1, u "java/lang/Cloneable"), (0, .class_ 1), (0, u "java/lang/Object"), (0, .class_ 3)] 3

/-- java/lang/Cloneable -/
def k4 : Class := { plain "java/lang/Cloneable" (some 0) with
  accessFlags := 1537
  interfaces := #[]
  cf := some (fileOf pool4 2 #[] #[] 1537 4 #[] #[])
  fields := #[]
  methods := #[]
  instanceTypes := #[]
  staticTypes := #[]
  resolved := Array.replicate 8 none
  statics := none }

def pool5 : Array CpInfo := pool [(1, u "java/io/Serializable"), (0, .class_ 1), (0, u "java/lang/Object"), (0, .class_ 3)] 3

/-- java/io/Serializable -/
def k5 : Class := { plain "java/io/Serializable" (some 0) with
  accessFlags := 1537
  interfaces := #[]
  cf := some (fileOf pool5 2 #[] #[] 1537 4 #[] #[])
  fields := #[]
  methods := #[]
  instanceTypes := #[]
  staticTypes := #[]
  resolved := Array.replicate 8 none
  statics := none }

/-- the primitive byte -/
def k6 : Class := { plain "byte" none with kind := .primitive 'B', accessFlags := 0x411 }
/-- [B -/
def k7 : Class := { plain "[B" (some 0) with kind := .array 6 .byte, interfaces := #[4, 5], accessFlags := 1041 }

/-- the primitive int -/
def k8 : Class := { plain "int" none with kind := .primitive 'I', accessFlags := 0x411 }
/-- [I -/
def k9 : Class := { plain "[I" (some 0) with kind := .array 8 .int, interfaces := #[4, 5], accessFlags := 1041 }

def heap : Heap := #[]
def classes : Array Class := #[k0, k1, k2, k3, k4, k5, k6, k7, k8, k9]
def interned : List (Array UInt16 × Addr) := []
def slotsUsed : Nat := 0
def theMethod : MethodId := ⟨1, 1⟩
def args0 : Array Value := #[.long 7, .long 300, .long 6, .long 7, .long 27]
def aboutOver (below : List Frame) : State where
  vm := { classes := classes, interned := interned.toArray }
  heap := heap
  slotsUsed := slotsUsed
  threads := #[{ frames := .invoking theMethod args0 :: below }]
def below0 : List Frame := [.native { method := ⟨0, 0⟩, args := #[] }]
def about1 : State := aboutOver below0
def p0 : Program := .bare "" "" ""
def e0 : Env := launch0.env 0 0 0
theorem w_frames : about1.frames = Frame.invoking theMethod args0 :: below0 := rfl
set_option maxRecDepth 65536 in
theorem w_args : argsFit about1.vm theMethod args0 = true := by decide +kernel
set_option maxRecDepth 65536 in
theorem w_heap : heapFits about1 = true := by decide +kernel
set_option maxRecDepth 65536 in
theorem w_runnable : about1.curStatus? = some .runnable := by decide +kernel
set_option maxRecDepth 65536 in
theorem w_alone : about1.alone = true := by decide +kernel
set_option maxRecDepth 65536 in
theorem w_named : about1.methodNamed? x = some theMethod := by decide +kernel
set_option maxRecDepth 65536 in
theorem w_hears : about1.hears theMethod below0 = true := by decide +kernel
set_option maxRecDepth 65536 in
theorem w_ripe : about1.ripe theMethod args0 below0 = true := by decide +kernel
theorem w_running : about1.status = .running := rfl
set_option maxRecDepth 65536 in
theorem w_room : about1.hasRoom e0.platform room_1 = true :=
  launch0.hasRoom_least _ room_1 (by decide +kernel) (by decide +kernel) (by decide +kernel) (by decide +kernel) (by decide +kernel) (by decide +kernel)
theorem allAtoms_all (ts : List Jvm.Cond) (a : Array Jvm.Value) (st : Jvm.State) : (allAtoms ts).before a st = ts.all (fun c => c.before a st) := by
  induction ts with
  | nil => rfl
  | cons c t ih =>
    show (Jvm.Cond.and c (allAtoms t)).before a st = _
    rw [Jvm.Cond.before_and, ih, List.all_cons]
def words1 : List Jvm.Cond := Jvm.Cond.code x code maxLocals ret :: tables_1
/-- a 'code' word, met by the world's own term for the bytes: nothing is compared byte by byte -/
theorem code_word {y : MethodName} {bytes : ByteArray} {mx : Nat} {rt : Option FieldType} {a : Array Value} {s : State} {m : MethodId} {meth : Method} {c : Code} (h1 : s.methodNamed? y = some m) (h2 : s.vm.method? m = some meth) (h3 : meth.code = some c) (h4 : c.code = bytes)
    (h5 : (c.maxLocals == mx && c.exceptionTable.isEmpty && decide (c.maxStack ≤ mostOperands) && decide (meth.sig.returnType = rt) && !meth.locks && decide (parseMethodDescriptor y.desc = some meth.sig)) = true) : (Jvm.Cond.code y bytes mx rt).before a s = true := by
  simp only [Bool.and_eq_true, beq_iff_eq, Bool.not_eq_true', decide_eq_true_eq] at h5
  obtain ⟨⟨⟨⟨⟨g1, g2⟩, g3⟩, g4⟩, g5⟩, g6⟩ := h5
  simp [Cond.before, Cond.holds, Cond.value, h1, h2, h3, h4, g1, g2, g3, g4, g5, g6]
def isCode : Jvm.Cond → Bool
  | .code _ _ _ _ => true
  | _ => false
theorem all_split {L : List Jvm.Cond} {P : Jvm.Cond → Bool} (h1 : L.all (fun c => isCode c || P c) = true) (h2 : ∀ c ∈ L.filter isCode, P c = true) : L.all P = true := by
  refine List.all_eq_true.mpr fun c hc => ?_
  have h := List.all_eq_true.mp h1 c hc
  rcases Bool.eq_false_or_eq_true (isCode c) with hi | hi
  · exact h2 c (List.mem_filter.mpr ⟨hc, hi⟩)
  · simpa [hi] using h
set_option maxRecDepth 65536 in
theorem w_c0 : (Jvm.Cond.code x code maxLocals ret).before args0 about1 = true := code_word (m := ⟨1, 1⟩) (meth := k1m1) (c := k1c1) (by decide +kernel) rfl rfl rfl (by decide +kernel)
set_option maxRecDepth 65536 in
theorem w_c1 : (Jvm.Cond.code ({ cls := "com/example/thymus/thymus/DueWindow", name := "<init>", desc := "(JJJJ)V" } : Jvm.MethodName) prog_11_method_1_code (9 : Nat) (Option.none : Option Jvm.ClassFile.FieldType)).before args0 about1 = true := code_word (m := ⟨3, 0⟩) (meth := k3m0) (c := k3c0) (by decide +kernel) rfl rfl rfl (by decide +kernel)
set_option maxRecDepth 65536 in
theorem w_c2 : (Jvm.Cond.code ({ cls := "java/lang/Record", name := "<init>", desc := "()V" } : Jvm.MethodName) jdk_30_method_1_code (1 : Nat) (Option.none : Option Jvm.ClassFile.FieldType)).before args0 about1 = true := code_word (m := ⟨2, 0⟩) (meth := k2m0) (c := k2c0) (by decide +kernel) rfl rfl rfl (by decide +kernel)
set_option maxRecDepth 65536 in
theorem w_c3 : (Jvm.Cond.code ({ cls := "java/lang/Object", name := "<init>", desc := "()V" } : Jvm.MethodName) object_method_1_code (1 : Nat) (Option.none : Option Jvm.ClassFile.FieldType)).before args0 about1 = true := code_word (m := ⟨0, 0⟩) (meth := k0m0) (c := k0c0) (by decide +kernel) rfl rfl rfl (by decide +kernel)
set_option maxRecDepth 65536 in
theorem w_c4 : (Jvm.Cond.code ({ cls := "com/example/thymus/thymus/DueWindow", name := "membership", desc := "(D)D" } : Jvm.MethodName) prog_11_method_2_code (3 : Nat) (Option.some Jvm.ClassFile.FieldType.double)).before args0 about1 = true := code_word (m := ⟨3, 1⟩) (meth := k3m1) (c := k3c1) (by decide +kernel) rfl rfl rfl (by decide +kernel)
set_option maxRecDepth 65536 in
theorem w_c5 : (Jvm.Cond.code ({ cls := "com/example/thymus/thymus/DueWindowMembershipPinLaw", name := "reference", desc := "(JJJJJ)D" } : Jvm.MethodName) method_3_code (10 : Nat) (Option.some Jvm.ClassFile.FieldType.double)).before args0 about1 = true := code_word (m := ⟨1, 2⟩) (meth := k1m2) (c := k1c2) (by decide +kernel) rfl rfl rfl (by decide +kernel)
def codes1 : List Jvm.Cond := [Jvm.Cond.code x code maxLocals ret, Jvm.Cond.code ({ cls := "com/example/thymus/thymus/DueWindow", name := "<init>", desc := "(JJJJ)V" } : Jvm.MethodName) prog_11_method_1_code (9 : Nat) (Option.none : Option Jvm.ClassFile.FieldType), Jvm.Cond.code ({ cls := "java/lang/Record", name := "<init>", desc := "()V" } : Jvm.MethodName) jdk_30_method_1_code (1 : Nat) (Option.none : Option Jvm.ClassFile.FieldType), Jvm.Cond.code ({ cls := "java/lang/Object", name := "<init>", desc := "()V" } : Jvm.MethodName) object_method_1_code (1 : Nat) (Option.none : Option Jvm.ClassFile.FieldType), Jvm.Cond.code ({ cls := "com/example/thymus/thymus/DueWindow", name := "membership", desc := "(D)D" } : Jvm.MethodName) prog_11_method_2_code (3 : Nat) (Option.some Jvm.ClassFile.FieldType.double), Jvm.Cond.code ({ cls := "com/example/thymus/thymus/DueWindowMembershipPinLaw", name := "reference", desc := "(JJJJJ)D" } : Jvm.MethodName) method_3_code (10 : Nat) (Option.some Jvm.ClassFile.FieldType.double)]
set_option maxRecDepth 65536 in
theorem codes_eq : words1.filter isCode = codes1 := rfl
theorem w_codes : ∀ c ∈ words1.filter isCode, c.before args0 about1 = true := by
  rw [codes_eq]
  intro c hc
  simp only [codes1, List.mem_cons, List.not_mem_nil, or_false] at hc
  rcases hc with rfl | rfl | rfl | rfl | rfl | rfl
  · exact w_c0
  · exact w_c1
  · exact w_c2
  · exact w_c3
  · exact w_c4
  · exact w_c5
set_option maxRecDepth 65536 in
theorem w_t1 : (words1.take 24).all (fun c => isCode c || c.before args0 about1) = true := by decide +kernel
set_option maxRecDepth 65536 in
theorem w_t2 : (words1.drop 24).all (fun c => isCode c || c.before args0 about1) = true := by decide +kernel
theorem w_tables : (allAtoms (Jvm.Cond.code x code maxLocals ret :: tables_1)).before args0 about1 = true := by
  rw [allAtoms_all]
  show words1.all (fun c => c.before args0 about1) = true
  refine all_split ?_ w_codes
  rw [← List.take_append_drop 24 words1, List.all_append, w_t1, w_t2]
  rfl
set_option maxRecDepth 65536 in
theorem w_case : (Jvm.Cond.and given_1 narrow_1).before args0 about1 = true := by decide +kernel
theorem w_applies : (headSpec (Jvm.Cond.code x code maxLocals ret :: tables_1) room_1).applies x e0.platform about1 = true :=
  (Spec.applies_iff w_frames).mpr ⟨w_running, w_runnable, w_alone, w_named, w_hears, w_ripe, w_room, w_tables⟩
theorem atStart : AtStart classFile x code maxLocals ret World_1 tables_1 room_1 Calls_1 rest_1 Pre_1 launch0 p0 e0 about1 theMethod args0 below0 :=
  ⟨lists_1, trivial, launch0.admits_env _ _ _, launch0.least_env, fairChoices_fair.cas, fairChoices_fair.clock, w_frames, w_args, w_heap, w_applies, trivial, trivial, w_case⟩
end start1
theorem witness_1 : WitnessClaimed_1 := ⟨start1.p0, start1.e0, start1.about1, start1.theMethod, start1.args0, start1.below0, start1.atStart⟩
end Jvm.Pilot.@@N@@
