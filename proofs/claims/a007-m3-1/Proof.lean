import JvmDerived
import JvmDerived.Pilot.@@N@@Statement
import JvmDerived.Pilot.@@N@@Code
set_option linter.unusedVariables false
set_option linter.unusedSimpArgs false
@@BLOCK:NumsL.lean.txt@@
namespace Jvm.Pilot.@@N@@
open Jvm Jvm.ClassFile Sem Op Lib Jvm.Free Jvm.Stand Jvm.LawKit Jvm.RoadKit Bundle Jvm.Pilot.@@N@@.Jvm.D
section Own
variable {p : Program} {l : Launch} {e : Env} {R : Room} {s : State} {m : MethodId} {args : Array Value} {below : List Frame} {meth : Method} {c : Code} {T : State} {locs : List Loc} {cells slots : Nat} {Z : State} {a0 : Array Value} {h : Heap}
/-- from the state A the run comes to the method's end, and Q says what it leaves -/
def OwnFin (p : Program) (e : Env) (below : List Frame) (s : State) (Q : Option Value → Heap → List Loc → Prop) (C S : Nat) (A : State) : Prop :=
  ∃ s₂ o, Steps p.tables e below A s₂ ∧ s₂.status = .running ∧ Ended s₂ below o ∧ ∃ v L, o = .returned v ∧ Q v s₂.heap L ∧ FrameEnd s o s₂ L C S
variable {Q : Option Value → Heap → List Loc → Prop} {C S : Nat}
theorem own_go {A B : State} (h : ∀ t, Steps p.tables e below B t → Steps p.tables e below A t) (k : OwnFin p e below s Q C S B) : OwnFin p e below s Q C S A := by
  obtain ⟨s₂, o, h1, r⟩ := k
  exact ⟨s₂, o, h _ h1, r⟩
theorem own_ret (X : Stand p l e R s m args below meth c T locs cells slots) {v : Option Value} (hlk : meth.locks = false) (hv : meth.sig.returnType = none → v = none) {g : JFrame}
    (hstep : ∀ fs, (∀ (f : JFrame) (acts : List Action), f.method = m → f.locked = none → f.entered = [] → (doReturn e (T.setTop f) acts v).1 = T.setFrames fs) → Steps p.tables e below (T.setTop g) (T.setFrames fs))
    (hc : cells ≤ C) (hs : slots ≤ S) (hQ : Q v T.heap locs) : OwnFin p e below s Q C S (T.setTop g) := by
  obtain ⟨fs, hr, hrun, hended, hW, hsame⟩ := X.leave hv hlk
  exact ⟨_, _, hstep fs hr, hrun, hended, _, _, rfl, hQ, ⟨_, rfl⟩, hW, hsame.mono hc hs⟩
/-- a method's contract, in the form that backOf takes -/
abbrev OwnCtr (l : Launch) (Z : State) (y : MethodName) (ws : List Jvm.Cond) (bytes : ByteArray) (maxL : Nat) (ret : Option FieldType) (rm : Room) (as' : Array Value) (h0 : Heap) (Q : Option Value → Heap → List Loc → Prop) : Prop :=
  MetFree l y (head1 (Jvm.Cond.code y bytes maxL ret :: ws) rm) (fun a U => a = as' ∧ Z.Warmed39 U.vm ∧ U.heap = h0) (fun _ _ _ _ _ => True) (fun _ U o U' => ∃ v L, o = .returned v ∧ Q v U'.heap L ∧ FrameEnd U o U' L rm.cells rm.slots)
theorem own_body {l : Launch} {Z : State} {y : MethodName} {ws : List Jvm.Cond} {bytes : ByteArray} {maxL : Nat} {ret : Option FieldType} {rm : Room} {as' : Array Value} {h0 : Heap} {g0 : MethodId → JFrame}
    (hpl : plainFor y = true) (hef : ∀ m, entryFrame m as' maxL = g0 m)
    (body : ∀ (p : Program) (e : Env) (s : State) (m : MethodId) (below : List Frame) (meth : Method) (c : Code) (s₁ : State), Stand p l e rm s m as' below meth c s₁ [] 0 0 → p.tables.exec = Jvm.exec → c.code = bytes → c.maxLocals = maxL →
      s.vm.findClass y.cls = some m.cls → meth.name = y.name → Z.Warmed39 s.vm → s₁.heap = h0 → meth.sig.returnType = ret → meth.locks = false → OwnFin p e below s Q rm.cells rm.slots (s₁.setTop (g0 m))) :
    OwnCtr l Z y ws bytes maxL ret rm as' h0 Q := by
  refine MetFree.of_bodySF hpl hisR ?_
  intro p e s m args below meth c s₁ Bd hml0 hP hK
  obtain ⟨rfl, hZ, hh⟩ := hP
  have e0 : s₁.heap = h0 := by rw [← hh, Bd.state]; rfl
  have k := body p e s m below meth c s₁ (Stand.of_body Bd) Bd.exec Bd.bytes hml0 (findClass_of_methodNamed Bd.named) (name_of_methodNamed Bd.named Bd.method).1 hZ e0 Bd.returns Bd.notSynchronized
  rw [← hef m] at k
  exact k
/-- a static call by its contract -/
theorem own_callS (X : Stand p l e R s m args below meth c T locs cells slots) (hx : p.tables.exec = Jvm.exec) (hZ : Z.Warmed39 s.vm) {own : String} {index : Nat} {y : MethodName} {bytes : ByteArray} {maxL : Nat} {ret : Option FieldType} {rm : Room} {as' : Array Value} {Q : Option Value → Heap → List Loc → Prop}
    (hown : s.vm.findClass own = some m.cls) (hlink : (Cond.methodLink own index y).before a0 Z = true) (hstat : (Cond.static y).before a0 Z = true) (hinit : (Cond.initialized y.cls).before a0 Z = true) (hcode : (Cond.code y bytes maxL ret).before a0 Z = true)
    (hy : y.cls ≠ "java/lang/invoke/MethodHandle" ∧ y.cls ≠ "java/lang/invoke/VarHandle") {W : Nat} (hM : OwnCtr l Z y [] bytes maxL ret rm as' h Q) (hf : rm.frames + 1 ≤ R.frames) (hl : W + (maxL + 11) + rm.locals ≤ R.locals)
    {g : JFrame} (hg : g.method = m) (hsize : g.locals.size = c.maxLocals) {argsL rest : List Value} (hlen : ∀ sig, parseMethodDescriptor y.desc = some sig → argsL.length = sig.parameters.length)
    (hstack : g.stack = argsL.reverse ++ rest) (hW : 2 * g.monitorRoom + (rest.map fun v => v.category).sum ≤ W) (hdg : decode c.code g.pc = .ok (.invokestatic index, 3)) (eT : T.heap = h) (ha : argsL.toArray = as') (hc : cells + rm.cells ≤ R.cells) (hs : slots + rm.slots ≤ R.slots) :
    ∃ (v : Option Value) (T' : State) (L : List Loc), Stand p l e R s m args below meth c T' (locs ++ L) (cells + rm.cells) (slots + rm.slots) ∧ Q v T'.heap L ∧ ∀ target, Steps p.tables e below (T'.setTop { g with pc := g.pc + 3, stack := v.toList ++ rest }) target → Steps p.tables e below (T.setTop g) target := by
  obtain ⟨v, _, ⟨T', L', k, n⟩, -, X', ⟨L, hQ, l1, y1, z1⟩, st⟩ := Jvm.LawKit.callS X hx (y := y) hown (mvT hZ hlink) (mvT hZ hstat) (mvT hZ hinit) (mvT hZ hcode) hy (backOf (W := W) hM hZ hcode hinit hf hl) hg hsize hlen hstack hW hdg (fun _ _ => ⟨ha, eT, hc, hs⟩)
  dsimp only [Pt.U, Pt.locs, Pt.cells, Pt.slots] at X' l1 y1 z1 st hQ
  subst l1 y1 z1
  exact ⟨v, T', L, X', hQ, st⟩
/-- a constructor by its contract -/
theorem own_callI (X : Stand p l e R s m args below meth c T locs cells slots) (hx : p.tables.exec = Jvm.exec) (hZ : Z.Warmed39 s.vm) {own : String} {index : Nat} {y : MethodName} {bytes : ByteArray} {maxL : Nat} {rm : Room} {as' : Array Value} {Q : Option Value → Heap → List Loc → Prop}
    (hy1 : y.name = "<init>") (hown : s.vm.findClass own = some m.cls) (hlink : (Cond.methodLink own index y).before a0 Z = true) (hinst : (Cond.instanceMethod y).before a0 Z = true) (hinit : (Cond.initialized y.cls).before a0 Z = true) (hcode : (Cond.code y bytes maxL none).before a0 Z = true)
    (hy : y.cls ≠ "java/lang/invoke/MethodHandle" ∧ y.cls ≠ "java/lang/invoke/VarHandle") {W : Nat} (hM : OwnCtr l Z y [] bytes maxL none rm as' h Q) (hf : rm.frames + 1 ≤ R.frames) (hl : W + (maxL + 11) + rm.locals ≤ R.locals)
    {g : JFrame} (hg : g.method = m) (hsize : g.locals.size = c.maxLocals) {a : Addr} {argsL rest : List Value} (hlen : ∀ sig, parseMethodDescriptor y.desc = some sig → argsL.length = sig.parameters.length)
    (hstack : g.stack = argsL.reverse ++ .ref a :: rest) (hW : 2 * g.monitorRoom + (rest.map fun v => v.category).sum ≤ W) (hdg : decode c.code g.pc = .ok (.invokespecial index, 3)) (eT : T.heap = h) (ha : (.ref a :: argsL).toArray = as') (hc : cells + rm.cells ≤ R.cells) (hs : slots + rm.slots ≤ R.slots) :
    ∃ (v : Option Value) (T' : State) (L : List Loc), Stand p l e R s m args below meth c T' (locs ++ L) (cells + rm.cells) (slots + rm.slots) ∧ Q v T'.heap L ∧ ∀ target, Steps p.tables e below (T'.setTop { g with pc := g.pc + 3, stack := v.toList ++ rest }) target → Steps p.tables e below (T.setTop g) target := by
  obtain ⟨v, _, ⟨T', L', k, n⟩, -, X', ⟨L, hQ, l1, y1, z1⟩, st⟩ := X.specialBack hx (y := y) hy1 hown (mvT hZ hlink) (mvT hZ hinst) (mvT hZ hcode) hy (backOf (W := W) hM hZ hcode hinit hf hl) hg hsize (Steps.refl _) hlen hstack hW hdg (fun _ _ => ⟨ha, eT, hc, hs⟩)
  dsimp only [Pt.U, Pt.locs, Pt.cells, Pt.slots] at X' l1 y1 z1 st hQ
  subst l1 y1 z1
  exact ⟨v, T', L, X', hQ, fun t k => st.trans k⟩
/-- an instance method by its contract -/
theorem own_callV (X : Stand p l e R s m args below meth c T locs cells slots) (hx : p.tables.exec = Jvm.exec) (hZ : Z.Warmed39 s.vm) {own K : String} {index : Nat} {y z : MethodName} {bytes : ByteArray} {maxL : Nat} {ret : Option FieldType} {rm : Room} {as' : Array Value} {Q : Option Value → Heap → List Loc → Prop}
    (hown : s.vm.findClass own = some m.cls) (hlink : (Cond.methodLink own index y).before a0 Z = true) (hdecl : (Cond.declares y).before a0 Z = true) (hnf : NotFace s y) (hsel : (Cond.selects K y z).before a0 Z = true) (hinst : (Cond.instanceMethod z).before a0 Z = true) (hinit : (Cond.initialized z.cls).before a0 Z = true) (hcode : (Cond.code z bytes maxL ret).before a0 Z = true)
    (hy : y.cls ≠ "java/lang/invoke/MethodHandle" ∧ y.cls ≠ "java/lang/invoke/VarHandle") {W : Nat} (hM : OwnCtr l Z z [] bytes maxL ret rm as' h Q) (hf : rm.frames + 1 ≤ R.frames) (hl : W + (maxL + 11) + rm.locals ≤ R.locals)
    {b : Addr} (E : Exa Z h b K) {g : JFrame} (hg : g.method = m) (hsize : g.locals.size = c.maxLocals) {argsL rest : List Value} (hlen : ∀ sig, parseMethodDescriptor y.desc = some sig → argsL.length = sig.parameters.length)
    (hstack : g.stack = argsL.reverse ++ .ref b :: rest) (hW : 2 * g.monitorRoom + (rest.map fun v => v.category).sum ≤ W) (hdg : decode c.code g.pc = .ok (.invokevirtual index, 3)) (eT : T.heap = h) (ha : (.ref b :: argsL).toArray = as') (hc : cells + rm.cells ≤ R.cells) (hs : slots + rm.slots ≤ R.slots) :
    ∃ (v : Option Value) (T' : State) (L : List Loc), Stand p l e R s m args below meth c T' (locs ++ L) (cells + rm.cells) (slots + rm.slots) ∧ Q v T'.heap L ∧ ∀ target, Steps p.tables e below (T'.setTop { g with pc := g.pc + 3, stack := v.toList ++ rest }) target → Steps p.tables e below (T.setTop g) target := by
  obtain ⟨cq, kq, qa, qb, qc⟩ := isOf hZ eT E
  obtain ⟨v, _, ⟨T', L', k, n⟩, -, X', ⟨L, hQ, l1, y1, z1⟩, st⟩ := X.virtualBack hx (y := y) (z := z) hown (mvT hZ hlink) (mvT hZ hdecl) hnf (mvT hZ hsel) (mvT hZ hinst) hy (backOf (W := W) hM hZ hcode hinit hf hl) qa qc hg hsize (Steps.refl _) hlen hstack hW hdg (fun _ _ => ⟨ha, eT, hc, hs⟩)
  dsimp only [Pt.U, Pt.locs, Pt.cells, Pt.slots] at X' l1 y1 z1 st hQ
  subst l1 y1 z1
  exact ⟨v, T', L, X', hQ, fun t k => st.trans k⟩
/-- a private instance method, called by invokevirtual, by its contract -/
theorem own_callP (X : Stand p l e R s m args below meth c T locs cells slots) (hx : p.tables.exec = Jvm.exec) (hZ : Z.Warmed39 s.vm) {own : String} {index : Nat} {y : MethodName} {bytes : ByteArray} {maxL : Nat} {ret : Option FieldType} {rm : Room} {as' : Array Value} {Q : Option Value → Heap → List Loc → Prop}
    (hown : s.vm.findClass own = some m.cls) (hlink : (Cond.methodLink own index y).before a0 Z = true) (hinst : (Cond.instanceMethod y).before a0 Z = true) (hsel : (Cond.selects y.cls y y).before a0 Z = true) (hpriv : (Cond.privateMethod y).before a0 Z = true) (hinit : (Cond.initialized y.cls).before a0 Z = true) (hcode : (Cond.code y bytes maxL ret).before a0 Z = true)
    (hy : y.cls ≠ "java/lang/invoke/MethodHandle" ∧ y.cls ≠ "java/lang/invoke/VarHandle") {W : Nat} (hM : OwnCtr l Z y [] bytes maxL ret rm as' h Q) (hf : rm.frames + 1 ≤ R.frames) (hl : W + (maxL + 11) + rm.locals ≤ R.locals)
    {b : Addr} {K : String} (E : Exa Z h b K) {g : JFrame} (hg : g.method = m) (hsize : g.locals.size = c.maxLocals) {argsL rest : List Value} (hlen : ∀ sig, parseMethodDescriptor y.desc = some sig → argsL.length = sig.parameters.length)
    (hstack : g.stack = argsL.reverse ++ .ref b :: rest) (hW : 2 * g.monitorRoom + (rest.map fun v => v.category).sum ≤ W) (hdg : decode c.code g.pc = .ok (.invokevirtual index, 3)) (eT : T.heap = h) (ha : (.ref b :: argsL).toArray = as') (hc : cells + rm.cells ≤ R.cells) (hs : slots + rm.slots ≤ R.slots) :
    ∃ (v : Option Value) (T' : State) (L : List Loc), Stand p l e R s m args below meth c T' (locs ++ L) (cells + rm.cells) (slots + rm.slots) ∧ Q v T'.heap L ∧ ∀ target, Steps p.tables e below (T'.setTop { g with pc := g.pc + 3, stack := v.toList ++ rest }) target → Steps p.tables e below (T.setTop g) target := by
  obtain ⟨cq, q1, q2⟩ := E.cell
  obtain ⟨v, _, ⟨T', L', k, n⟩, -, X', ⟨L, hQ, l1, y1, z1⟩, st⟩ := X.privateBack hx (y := y) hown (mvT hZ hlink) (mvT hZ hinst) (mvT hZ hsel) (Cond.privateMethod_at (mvP hZ hpriv (args := #[]))) (mvT hZ hcode) hy (backOf (W := W) hM hZ hcode hinit hf hl) hg hsize (Steps.refl _) (by rw [eT]; exact q1) q2 hlen hstack hW hdg (fun _ _ => ⟨ha, eT, hc, hs⟩)
  dsimp only [Pt.U, Pt.locs, Pt.cells, Pt.slots] at X' l1 y1 z1 st hQ
  subst l1 y1 z1
  exact ⟨v, T', L, X', hQ, fun t k => st.trans k⟩
theorem own_retI (X : Stand p l e R s m args below meth c T locs cells slots) (hx : p.tables.exec = Jvm.exec) {pc : Nat} {Ls : Array Slot} {z : Int32} {rest : List Value} (hret : meth.sig.returnType = some .int) (hd : decode c.code pc = .ok (.ireturn, 1)) {fs : List Frame}
    (hl : ∀ (f : JFrame) (acts : List Action), f.method = m → f.locked = none → f.entered = [] → (doReturn e (T.setTop f) acts (some (.int z))).1 = T.setFrames fs) : Steps p.tables e below (T.setTop (mkF m pc Ls (.int z :: rest))) (T.setFrames fs) :=
  retOut X hx hret rfl (Or.inl ⟨rfl, Or.inl rfl, _, rfl⟩) hd hl
theorem own_retJ (X : Stand p l e R s m args below meth c T locs cells slots) (hx : p.tables.exec = Jvm.exec) {pc : Nat} {Ls : Array Slot} {z : Int64} {rest : List Value} (hret : meth.sig.returnType = some .long) (hd : decode c.code pc = .ok (.lreturn, 1)) {fs : List Frame}
    (hl : ∀ (f : JFrame) (acts : List Action), f.method = m → f.locked = none → f.entered = [] → (doReturn e (T.setTop f) acts (some (.long z))).1 = T.setFrames fs) : Steps p.tables e below (T.setTop (mkF m pc Ls (.long z :: rest))) (T.setFrames fs) :=
  retOut X hx hret rfl (Or.inr (Or.inl ⟨rfl, rfl, _, rfl⟩)) hd hl
theorem own_retR (X : Stand p l e R s m args below meth c T locs cells slots) (hx : p.tables.exec = Jvm.exec) {pc : Nat} {Ls : Array Slot} {w : Value} {t : FieldType} {rest : List Value} (hret : meth.sig.returnType = some t) (ht : t.isReference = true) (hw : w.isRef = true) (hd : decode c.code pc = .ok (.areturn, 1)) {fs : List Frame}
    (hl : ∀ (f : JFrame) (acts : List Action), f.method = m → f.locked = none → f.entered = [] → (doReturn e (T.setTop f) acts (some w)).1 = T.setFrames fs) : Steps p.tables e below (T.setTop (mkF m pc Ls (w :: rest))) (T.setFrames fs) :=
  retOut X hx hret (by cases t <;> simp [FieldType.isReference] at ht <;> cases w <;> simp [Value.isRef] at hw <;> rfl) (Or.inr (Or.inr (Or.inr (Or.inr ⟨rfl, ht, hw⟩)))) hd hl
theorem own_stakeep {h' : Heap} {O n d : String} {v : Value} (F : Sta Z h O n d v) (K : Keep h h' []) : Sta Z h' O n d v := by
  obtain ⟨cf, i, k, f, st, cell, h1, h2, h3, h4, h5, r⟩ := F
  exact ⟨cf, i, k, f, st, cell, h1, h2, h3, h4, K.2.1 _ _ h5 nin0, r⟩
end Own

def own_of (a b : Int32) : Int64 := (a.toInt64 <<< ((32 : Int32) &&& 0x3f).toInt64) ||| (b.toInt64 &&& (4294967295 : Int64))
def own_uns (x : Int32) : Int64 := if x < (0 : Int32) then x.toInt64 + (4294967296 : Int64) else x.toInt64
def own_first (p : Int64) : Int32 := (p >>> ((32 : Int32) &&& 0x3f).toInt64).toInt32
theorem own_nn (x : Int32) : 0 ≤ (x &&& (2147483647 : Int32)).toInt := by
  have h := c_mask x 2147483647 31 (by decide) (by decide)
  rw [h]; omega
theorem own_shl (x : Int64) : (x <<< ((32 : Int32) &&& 0x3f).toInt64) = x * 4294967296 := by
  apply Int64.toBitVec_inj.mp
  rw [Int64.toBitVec_shiftLeft, Int64.toBitVec_mul]
  have h : ((((32 : Int32) &&& 0x3f).toInt64).toBitVec.smod (64 : BitVec 64)) = 32#64 := by decide
  rw [show ((((32 : Int32) &&& 0x3f).toInt64).toBitVec.smod 64) = 32#64 from h]
  rw [BitVec.shiftLeft_eq', BitVec.shiftLeft_eq_mul_twoPow]
  rfl
theorem own_or (x y : Int64) : (x * 4294967296) ||| (y &&& (4294967295 : Int64)) = x * 4294967296 + (y &&& (4294967295 : Int64)) := by
  apply Int64.toBitVec_inj.mp
  rw [Int64.toBitVec_or, Int64.toBitVec_add]
  refine (BitVec.add_eq_or_of_and_eq_zero _ _ ?_).symm
  rw [Int64.toBitVec_mul, Int64.toBitVec_and]
  have e : (4294967296 : Int64).toBitVec = BitVec.twoPow 64 32 := by decide
  rw [e, ← BitVec.shiftLeft_eq_mul_twoPow]
  have hm : ∀ i, i < 64 → 32 ≤ i → ((4294967295 : Int64).toBitVec).getLsbD i = false := by decide
  apply BitVec.eq_of_getLsbD_eq
  intro i hi
  simp only [BitVec.getLsbD_and, BitVec.getLsbD_shiftLeft, BitVec.getLsbD_zero]
  by_cases h : i < 32
  · simp [h]
  · rw [hm i hi (by omega)]; simp
theorem own_e32 : (4294967296 : Int64).toInt = 4294967296 := by decide
theorem own_hiw (a : Int32) : (a.toInt64 * 4294967296).toInt = a.toInt * 4294967296 := by
  have h4 := c_i2l a
  have r1 := rng32 a
  rw [Jvm.Kit.i64_mul (by rw [own_e32, h4]; omega) (by rw [own_e32, h4]; omega), own_e32, h4]
theorem own_of_toInt (a b : Int32) : (own_of a b).toInt = a.toInt * 4294967296 + b.toInt % 4294967296 := by
  unfold own_of
  rw [own_shl, own_or]
  have h3 : (b.toInt64 &&& (4294967295 : Int64)).toInt = b.toInt % 4294967296 := by
    rw [c_maskL b.toInt64 4294967295 32 (by decide) (by decide), c_i2l b]; rfl
  have h2 := own_hiw a
  have r1 := rng32 a
  have m1 := Int.emod_nonneg b.toInt (show (4294967296 : Int) ≠ 0 by decide)
  have m2 := Int.emod_lt_of_pos b.toInt (show (0 : Int) < 4294967296 by decide)
  rw [← h3] at m1 m2 ⊢
  rw [Jvm.Kit.i64_add (by rw [h2]; omega) (by rw [h2]; omega), h2]
theorem own_uns_toInt (b : Int32) : (own_uns b).toInt = b.toInt % 4294967296 := by
  have r2 := rng32 b
  have h5 := c_i2l b
  have z0 : (0 : Int32).toInt = 0 := by decide
  unfold own_uns
  split
  · rename_i hb
    rw [Int32.lt_iff_toInt_lt, z0] at hb
    rw [Jvm.Kit.i64_add (by rw [own_e32, h5]; omega) (by rw [own_e32, h5]; omega), own_e32, h5]
    omega
  · rename_i hb
    rw [Int32.lt_iff_toInt_lt, z0] at hb
    rw [h5]; omega
theorem own_l1 (a b : Int32) : own_of a b = a.toInt64 * (4294967296 : Int64) + own_uns b := by
  apply Int64.toInt_inj.mp
  have h2 := own_hiw a
  have hu := own_uns_toInt b
  have r1 := rng32 a
  have m1 := Int.emod_nonneg b.toInt (show (4294967296 : Int) ≠ 0 by decide)
  have m2 := Int.emod_lt_of_pos b.toInt (show (0 : Int) < 4294967296 by decide)
  rw [own_of_toInt]
  rw [← hu] at m1 m2 ⊢
  rw [Jvm.Kit.i64_add (by rw [h2]; omega) (by rw [h2]; omega), h2]
theorem own_l2 (a b : Int32) : own_first (own_of a b) = a := by
  apply Int32.toInt_inj.mp
  unfold own_first
  have h1 := c_l2i (own_of a b >>> ((32 : Int32) &&& 0x3f).toInt64)
  have h2 := Jvm.Kit.i64_shr (own_of a b) (((32 : Int32) &&& 0x3f).toInt64) (k := 32) (by decide)
  have h0 := own_of_toInt a b
  have r1 := rng32 a
  have r2 := rng32 ((own_of a b >>> ((32 : Int32) &&& 0x3f).toInt64).toInt32)
  rw [h2, h0] at h1
  omega
theorem own_l3 (a b : Int32) : (own_of a b).toInt32 = b := by
  apply Int32.toInt_inj.mp
  have h1 := c_l2i (own_of a b)
  have h0 := own_of_toInt a b
  have r1 := rng32 b
  have r2 := rng32 ((own_of a b).toInt32)
  rw [h0] at h1
  omega

theorem d1_0 : decode prog_30_method_2_code 0 = .ok (.iload_n 0, 1) := by decide +kernel
theorem d1_1 : decode prog_30_method_2_code 1 = .ok (.i2l, 1) := by decide +kernel
theorem d1_2 : decode prog_30_method_2_code 2 = .ok (.bipush 32, 2) := by decide +kernel
theorem d1_4 : decode prog_30_method_2_code 4 = .ok (.lshl, 1) := by decide +kernel
theorem d1_5 : decode prog_30_method_2_code 5 = .ok (.iload_n 1, 1) := by decide +kernel
theorem d1_6 : decode prog_30_method_2_code 6 = .ok (.i2l, 1) := by decide +kernel
theorem d1_7 : decode prog_30_method_2_code 7 = .ok (.ldc2_w 9, 3) := by decide +kernel
theorem d1_10 : decode prog_30_method_2_code 10 = .ok (.land, 1) := by decide +kernel
theorem d1_11 : decode prog_30_method_2_code 11 = .ok (.lor, 1) := by decide +kernel
theorem d1_12 : decode prog_30_method_2_code 12 = .ok (.lreturn, 1) := by decide +kernel
theorem pn_1 : plainFor (⟨"com/example/trapline/trapline/decide/Pairs", "of", "(II)J"⟩ : MethodName) = true := plainFor_of_name (by first | (simp [plainName, overriddenIn]; done) | decide +kernel)
theorem ef_1 (m : MethodId) (p1 : Int32) (p2 : Int32) : entryFrame m #[(.int p1), (.int p2)] 2 = mkF m 0 #[.val (.int p1), .val (.int p2)] [] := by first | (simp [entryFrame, mkF, argsToLocals, Value.category]; done) | rfl
set_option maxRecDepth 65536 in
set_option maxHeartbeats 40000000 in
theorem rm1 (l : Launch) (Z : State) (a0 : Array Value) (hw : ∀ d ∈ tables_1, d.before a0 Z = true) (ws : List Jvm.Cond) (p1 : Int32) (p2 : Int32) (h0 : Heap) (n0 : Nat) (Z0 : n0 ≤ h0.size) :
    OwnCtr l Z (⟨"com/example/trapline/trapline/decide/Pairs", "of", "(II)J"⟩ : MethodName) ws prog_30_method_2_code 2 (some .long) ({ frames := 0, cells := 0, slots := 0, locals := 0 } : Room) #[(.int p1), (.int p2)] h0 (fun v h L => v = some (.long (own_of p1 p2)) ∧ Fr n0 L ∧ h = h0) := by
  refine own_body (g0 := fun m => mkF m 0 #[.val (.int p1), .val (.int p2)] []) pn_1 (fun m => ef_1 m p1 p2) ?_
  intro p e s m below meth c s₁ X0 hx hby hml hown hnm hZ e0 hret hlk
  have hml : c.maxLocals = 2 := hml
  have hown : s.vm.findClass "com/example/trapline/trapline/decide/Pairs" = some m.cls := hown
  have hnm : meth.name = "of" := hnm
  have hret : meth.sig.returnType = (some .long) := hret
  have N0 := Fr.nil n0
  show OwnFin p e below s _ _ _ (s₁.setTop (mkF m 0 #[.val (.int p1), .val (.int p2)] []))
  refine own_go (fun t k => XS.iloadN X0.here hx rfl (hb hby d1_0) rfl k) ?_
  show OwnFin p e below s _ _ _ (s₁.setTop (mkF m 1 #[.val (.int p1), .val (.int p2)] [(.int p1)]))
  refine own_go (fun t k => XS.i2l X0.here hx rfl (hb hby d1_1) rfl k) ?_
  show OwnFin p e below s _ _ _ (s₁.setTop (mkF m 2 #[.val (.int p1), .val (.int p2)] [(.long (p1.toInt64))]))
  refine own_go (fun t k => XS.bipush X0.here hx rfl (hb hby d1_2) k) ?_
  show OwnFin p e below s _ _ _ (s₁.setTop (mkF m 4 #[.val (.int p1), .val (.int p2)] [(.int (32 : Int32)), (.long (p1.toInt64))]))
  refine own_go (fun t k => XS.lshl X0.here hx rfl (hb hby d1_4) rfl k) ?_
  show OwnFin p e below s _ _ _ (s₁.setTop (mkF m 5 #[.val (.int p1), .val (.int p2)] [(.long ((p1.toInt64) <<< ((32 : Int32) &&& 0x3f).toInt64))]))
  refine own_go (fun t k => XS.iloadN X0.here hx rfl (hb hby d1_5) rfl k) ?_
  show OwnFin p e below s _ _ _ (s₁.setTop (mkF m 6 #[.val (.int p1), .val (.int p2)] [(.int p2), (.long ((p1.toInt64) <<< ((32 : Int32) &&& 0x3f).toInt64))]))
  refine own_go (fun t k => XS.i2l X0.here hx rfl (hb hby d1_6) rfl k) ?_
  show OwnFin p e below s _ _ _ (s₁.setTop (mkF m 7 #[.val (.int p1), .val (.int p2)] [(.long (p2.toInt64)), (.long ((p1.toInt64) <<< ((32 : Int32) &&& 0x3f).toInt64))]))
  refine own_go (X0.ldc2Long hx hown (mvT hZ (hw _ (List.mem_of_getElem? (i := 4) rfl))) (g := (mkF m 7 #[.val (.int p1), .val (.int p2)] [(.long (p2.toInt64)), (.long ((p1.toInt64) <<< ((32 : Int32) &&& 0x3f).toInt64))])) rfl (hb hby d1_7)) ?_
  show OwnFin p e below s _ _ _ (s₁.setTop (mkF m 10 #[.val (.int p1), .val (.int p2)] [(.long (4294967295 : Int64)), (.long (p2.toInt64)), (.long ((p1.toInt64) <<< ((32 : Int32) &&& 0x3f).toInt64))]))
  refine own_go (fun t k => XS.land X0.here hx rfl (hb hby d1_10) rfl k) ?_
  show OwnFin p e below s _ _ _ (s₁.setTop (mkF m 11 #[.val (.int p1), .val (.int p2)] [(.long ((p2.toInt64) &&& (4294967295 : Int64))), (.long ((p1.toInt64) <<< ((32 : Int32) &&& 0x3f).toInt64))]))
  refine own_go (fun t k => XS.lor X0.here hx rfl (hb hby d1_11) rfl k) ?_
  show OwnFin p e below s _ _ _ (s₁.setTop (mkF m 12 #[.val (.int p1), .val (.int p2)] [(.long (((p1.toInt64) <<< ((32 : Int32) &&& 0x3f).toInt64) ||| ((p2.toInt64) &&& (4294967295 : Int64))))]))
  refine own_ret X0 (v := some (.long (((p1.toInt64) <<< ((32 : Int32) &&& 0x3f).toInt64) ||| ((p2.toInt64) &&& (4294967295 : Int64))))) hlk (fun hh => by rw [hret] at hh; cases hh) (fun fs hr => own_retJ X0 hx hret (hb hby d1_12) hr) (by decide) (by decide) ?_
  rw [e0]
  exact ⟨rfl, N0, rfl⟩
theorem d2_0 : decode method_2_code 0 = .ok (.iload_n 0, 1) := by decide +kernel
theorem d2_1 : decode method_2_code 1 = .ok (.ifCond .ge 10, 3) := by decide +kernel
theorem d2_4 : decode method_2_code 4 = .ok (.iload_n 0, 1) := by decide +kernel
theorem d2_5 : decode method_2_code 5 = .ok (.i2l, 1) := by decide +kernel
theorem d2_6 : decode method_2_code 6 = .ok (.ldc2_w 7, 3) := by decide +kernel
theorem d2_9 : decode method_2_code 9 = .ok (.ladd, 1) := by decide +kernel
theorem d2_10 : decode method_2_code 10 = .ok (.lreturn, 1) := by decide +kernel
theorem d2_11 : decode method_2_code 11 = .ok (.iload_n 0, 1) := by decide +kernel
theorem d2_12 : decode method_2_code 12 = .ok (.i2l, 1) := by decide +kernel
theorem d2_13 : decode method_2_code 13 = .ok (.lreturn, 1) := by decide +kernel
theorem pn_2 : plainFor (⟨"com/example/trapline/trapline/decide/PairsOfPinLaw", "unsignedOf", "(I)J"⟩ : MethodName) = true := plainFor_of_name (by first | (simp [plainName, overriddenIn]; done) | decide +kernel)
theorem ef_2 (m : MethodId) (p1 : Int32) : entryFrame m #[(.int p1)] 1 = mkF m 0 #[.val (.int p1)] [] := by first | (simp [entryFrame, mkF, argsToLocals, Value.category]; done) | rfl
set_option maxRecDepth 65536 in
set_option maxHeartbeats 40000000 in
theorem rm2 (l : Launch) (Z : State) (a0 : Array Value) (hw : ∀ d ∈ tables_1, d.before a0 Z = true) (ws : List Jvm.Cond) (p1 : Int32) (h0 : Heap) (n0 : Nat) (Z0 : n0 ≤ h0.size) :
    OwnCtr l Z (⟨"com/example/trapline/trapline/decide/PairsOfPinLaw", "unsignedOf", "(I)J"⟩ : MethodName) ws method_2_code 1 (some .long) ({ frames := 0, cells := 0, slots := 0, locals := 0 } : Room) #[(.int p1)] h0 (fun v h L => v = some (.long (own_uns p1)) ∧ Fr n0 L ∧ h = h0) := by
  refine own_body (g0 := fun m => mkF m 0 #[.val (.int p1)] []) pn_2 (fun m => ef_2 m p1) ?_
  intro p e s m below meth c s₁ X0 hx hby hml hown hnm hZ e0 hret hlk
  have hml : c.maxLocals = 1 := hml
  have hown : s.vm.findClass "com/example/trapline/trapline/decide/PairsOfPinLaw" = some m.cls := hown
  have hnm : meth.name = "unsignedOf" := hnm
  have hret : meth.sig.returnType = (some .long) := hret
  have N0 := Fr.nil n0
  show OwnFin p e below s _ _ _ (s₁.setTop (mkF m 0 #[.val (.int p1)] []))
  refine own_go (fun t k => XS.iloadN X0.here hx rfl (hb hby d2_0) rfl k) ?_
  show OwnFin p e below s _ _ _ (s₁.setTop (mkF m 1 #[.val (.int p1)] [(.int p1)]))
  by_cases hc1 : p1 < (0 : Int32)
  · refine own_go (fun t k => XS.ifNo X0.here hx rfl (hb hby d2_1) rfl ((if0 _ _).trans (tlt hc1).2.1) k) ?_
    show OwnFin p e below s _ _ _ (s₁.setTop (mkF m 4 #[.val (.int p1)] []))
    refine own_go (fun t k => XS.iloadN X0.here hx rfl (hb hby d2_4) rfl k) ?_
    show OwnFin p e below s _ _ _ (s₁.setTop (mkF m 5 #[.val (.int p1)] [(.int p1)]))
    refine own_go (fun t k => XS.i2l X0.here hx rfl (hb hby d2_5) rfl k) ?_
    show OwnFin p e below s _ _ _ (s₁.setTop (mkF m 6 #[.val (.int p1)] [(.long (p1.toInt64))]))
    refine own_go (X0.ldc2Long hx hown (mvT hZ (hw _ (List.mem_of_getElem? (i := 5) rfl))) (g := (mkF m 6 #[.val (.int p1)] [(.long (p1.toInt64))])) rfl (hb hby d2_6)) ?_
    show OwnFin p e below s _ _ _ (s₁.setTop (mkF m 9 #[.val (.int p1)] [(.long (4294967296 : Int64)), (.long (p1.toInt64))]))
    refine own_go (fun t k => XS.ladd X0.here hx rfl (hb hby d2_9) rfl k) ?_
    show OwnFin p e below s _ _ _ (s₁.setTop (mkF m 10 #[.val (.int p1)] [(.long ((p1.toInt64) + (4294967296 : Int64)))]))
    refine own_ret X0 (v := some (.long ((p1.toInt64) + (4294967296 : Int64)))) hlk (fun hh => by rw [hret] at hh; cases hh) (fun fs hr => own_retJ X0 hx hret (hb hby d2_10) hr) (by decide) (by decide) ?_
    rw [e0]
    exact ⟨by simp [own_uns, hc1], N0, rfl⟩
  · refine own_go (fun t k => XS.ifYes X0.here hx rfl (pc0 := 1) (pc' := 11) rfl (hb hby d2_1) rfl ((if0 _ _).trans (flt hc1).2.1) (by decide) (by decide) k) ?_
    show OwnFin p e below s _ _ _ (s₁.setTop (mkF m 11 #[.val (.int p1)] []))
    refine own_go (fun t k => XS.iloadN X0.here hx rfl (hb hby d2_11) rfl k) ?_
    show OwnFin p e below s _ _ _ (s₁.setTop (mkF m 12 #[.val (.int p1)] [(.int p1)]))
    refine own_go (fun t k => XS.i2l X0.here hx rfl (hb hby d2_12) rfl k) ?_
    show OwnFin p e below s _ _ _ (s₁.setTop (mkF m 13 #[.val (.int p1)] [(.long (p1.toInt64))]))
    refine own_ret X0 (v := some (.long (p1.toInt64))) hlk (fun hh => by rw [hret] at hh; cases hh) (fun fs hr => own_retJ X0 hx hret (hb hby d2_13) hr) (by decide) (by decide) ?_
    rw [e0]
    exact ⟨by simp [own_uns, hc1], N0, rfl⟩
theorem d3_0 : decode prog_30_method_3_code 0 = .ok (.lload_n 0, 1) := by decide +kernel
theorem d3_1 : decode prog_30_method_3_code 1 = .ok (.bipush 32, 2) := by decide +kernel
theorem d3_3 : decode prog_30_method_3_code 3 = .ok (.lshr, 1) := by decide +kernel
theorem d3_4 : decode prog_30_method_3_code 4 = .ok (.l2i, 1) := by decide +kernel
theorem d3_5 : decode prog_30_method_3_code 5 = .ok (.ireturn, 1) := by decide +kernel
theorem pn_3 : plainFor (⟨"com/example/trapline/trapline/decide/Pairs", "first", "(J)I"⟩ : MethodName) = true := plainFor_of_name (by first | (simp [plainName, overriddenIn]; done) | decide +kernel)
theorem ef_3 (m : MethodId) (q1 : Int64) : entryFrame m #[(.long q1)] 2 = mkF m 0 #[.val (.long q1), .second] [] := by first | (simp [entryFrame, mkF, argsToLocals, Value.category]; done) | rfl
set_option maxRecDepth 65536 in
set_option maxHeartbeats 40000000 in
theorem rm3 (l : Launch) (Z : State) (a0 : Array Value) (hw : ∀ d ∈ tables_1, d.before a0 Z = true) (ws : List Jvm.Cond) (q1 : Int64) (h0 : Heap) (n0 : Nat) (Z0 : n0 ≤ h0.size) :
    OwnCtr l Z (⟨"com/example/trapline/trapline/decide/Pairs", "first", "(J)I"⟩ : MethodName) ws prog_30_method_3_code 2 (some .int) ({ frames := 0, cells := 0, slots := 0, locals := 0 } : Room) #[(.long q1)] h0 (fun v h L => v = some (.int (own_first q1)) ∧ Fr n0 L ∧ h = h0) := by
  refine own_body (g0 := fun m => mkF m 0 #[.val (.long q1), .second] []) pn_3 (fun m => ef_3 m q1) ?_
  intro p e s m below meth c s₁ X0 hx hby hml hown hnm hZ e0 hret hlk
  have hml : c.maxLocals = 2 := hml
  have hown : s.vm.findClass "com/example/trapline/trapline/decide/Pairs" = some m.cls := hown
  have hnm : meth.name = "first" := hnm
  have hret : meth.sig.returnType = (some .int) := hret
  have N0 := Fr.nil n0
  show OwnFin p e below s _ _ _ (s₁.setTop (mkF m 0 #[.val (.long q1), .second] []))
  refine own_go (fun t k => XS.lloadN X0.here hx rfl (hb hby d3_0) rfl k) ?_
  show OwnFin p e below s _ _ _ (s₁.setTop (mkF m 1 #[.val (.long q1), .second] [(.long q1)]))
  refine own_go (fun t k => XS.bipush X0.here hx rfl (hb hby d3_1) k) ?_
  show OwnFin p e below s _ _ _ (s₁.setTop (mkF m 3 #[.val (.long q1), .second] [(.int (32 : Int32)), (.long q1)]))
  refine own_go (fun t k => XS.lshr X0.here hx rfl (hb hby d3_3) rfl k) ?_
  show OwnFin p e below s _ _ _ (s₁.setTop (mkF m 4 #[.val (.long q1), .second] [(.long (q1 >>> ((32 : Int32) &&& 0x3f).toInt64))]))
  refine own_go (fun t k => XS.l2i X0.here hx rfl (hb hby d3_4) rfl k) ?_
  show OwnFin p e below s _ _ _ (s₁.setTop (mkF m 5 #[.val (.long q1), .second] [(.int ((q1 >>> ((32 : Int32) &&& 0x3f).toInt64).toInt32))]))
  refine own_ret X0 (v := some (.int ((q1 >>> ((32 : Int32) &&& 0x3f).toInt64).toInt32))) hlk (fun hh => by rw [hret] at hh; cases hh) (fun fs hr => own_retI X0 hx hret (hb hby d3_5) hr) (by decide) (by decide) ?_
  rw [e0]
  exact ⟨rfl, N0, rfl⟩
theorem d4_0 : decode prog_30_method_4_code 0 = .ok (.lload_n 0, 1) := by decide +kernel
theorem d4_1 : decode prog_30_method_4_code 1 = .ok (.l2i, 1) := by decide +kernel
theorem d4_2 : decode prog_30_method_4_code 2 = .ok (.ireturn, 1) := by decide +kernel
theorem pn_4 : plainFor (⟨"com/example/trapline/trapline/decide/Pairs", "second", "(J)I"⟩ : MethodName) = true := plainFor_of_name (by first | (simp [plainName, overriddenIn]; done) | decide +kernel)
theorem ef_4 (m : MethodId) (q1 : Int64) : entryFrame m #[(.long q1)] 2 = mkF m 0 #[.val (.long q1), .second] [] := by first | (simp [entryFrame, mkF, argsToLocals, Value.category]; done) | rfl
set_option maxRecDepth 65536 in
set_option maxHeartbeats 40000000 in
theorem rm4 (l : Launch) (Z : State) (a0 : Array Value) (hw : ∀ d ∈ tables_1, d.before a0 Z = true) (ws : List Jvm.Cond) (q1 : Int64) (h0 : Heap) (n0 : Nat) (Z0 : n0 ≤ h0.size) :
    OwnCtr l Z (⟨"com/example/trapline/trapline/decide/Pairs", "second", "(J)I"⟩ : MethodName) ws prog_30_method_4_code 2 (some .int) ({ frames := 0, cells := 0, slots := 0, locals := 0 } : Room) #[(.long q1)] h0 (fun v h L => v = some (.int (q1.toInt32)) ∧ Fr n0 L ∧ h = h0) := by
  refine own_body (g0 := fun m => mkF m 0 #[.val (.long q1), .second] []) pn_4 (fun m => ef_4 m q1) ?_
  intro p e s m below meth c s₁ X0 hx hby hml hown hnm hZ e0 hret hlk
  have hml : c.maxLocals = 2 := hml
  have hown : s.vm.findClass "com/example/trapline/trapline/decide/Pairs" = some m.cls := hown
  have hnm : meth.name = "second" := hnm
  have hret : meth.sig.returnType = (some .int) := hret
  have N0 := Fr.nil n0
  show OwnFin p e below s _ _ _ (s₁.setTop (mkF m 0 #[.val (.long q1), .second] []))
  refine own_go (fun t k => XS.lloadN X0.here hx rfl (hb hby d4_0) rfl k) ?_
  show OwnFin p e below s _ _ _ (s₁.setTop (mkF m 1 #[.val (.long q1), .second] [(.long q1)]))
  refine own_go (fun t k => XS.l2i X0.here hx rfl (hb hby d4_1) rfl k) ?_
  show OwnFin p e below s _ _ _ (s₁.setTop (mkF m 2 #[.val (.long q1), .second] [(.int (q1.toInt32))]))
  refine own_ret X0 (v := some (.int (q1.toInt32))) hlk (fun hh => by rw [hret] at hh; cases hh) (fun fs hr => own_retI X0 hx hret (hb hby d4_2) hr) (by decide) (by decide) ?_
  rw [e0]
  exact ⟨rfl, N0, rfl⟩
theorem pn_0 : plainFor (⟨"com/example/trapline/trapline/decide/PairsOfPinLaw", "law", "(IIII)Z"⟩ : MethodName) = true := plainFor_of_name (by first | (simp [plainName, overriddenIn]; done) | decide +kernel)
theorem pd_0_0 : parseMethodDescriptor "(II)J" = some ⟨[.int, .int], some .long⟩ := by decide +kernel
theorem pd_0_1 : parseMethodDescriptor "(I)J" = some ⟨[.int], some .long⟩ := by decide +kernel
theorem pd_0_2 : parseMethodDescriptor "(J)I" = some ⟨[.long], some .int⟩ := by decide +kernel
theorem ef_0 (m : MethodId) (a : Int32) (b : Int32) (c0 : Int32) (d : Int32) : entryFrame m #[(.int a), (.int b), (.int c0), (.int d)] maxLocals = mkF m 0 #[.val (.int a), .val (.int b), .val (.int c0), .val (.int d), .unset, .unset, .unset, .unset, .unset, .unset, .unset, .unset, .unset, .unset, .unset, .unset] [] := by first | (simp [entryFrame, mkF, argsToLocals, Value.category, maxLocals]; done) | rfl
set_option maxRecDepth 65536 in
set_option maxHeartbeats 40000000 in
theorem rm0 (l : Launch) (Z : State) (a0 : Array Value) (hw : ∀ d ∈ tables_1, d.before a0 Z = true) (ws : List Jvm.Cond) (a : Int32) (b : Int32) (c0 : Int32) (d : Int32) (h0 : Heap) (n0 : Nat) (Z0 : n0 ≤ h0.size) :
    OwnCtr l Z x ws code maxLocals ret room_1 #[(.int a), (.int b), (.int c0), (.int d)] h0 (fun v h L => v = some (.int 1) ∧ Fr n0 L) := by
  refine own_body (g0 := fun m => mkF m 0 #[.val (.int a), .val (.int b), .val (.int c0), .val (.int d), .unset, .unset, .unset, .unset, .unset, .unset, .unset, .unset, .unset, .unset, .unset, .unset] []) pn_0 (fun m => ef_0 m a b c0 d) ?_
  intro p e s m below meth c s₁ X0 hx hby hml hown hnm hZ e0 hret hlk
  have hml : c.maxLocals = 16 := hml
  have hown : s.vm.findClass "com/example/trapline/trapline/decide/PairsOfPinLaw" = some m.cls := hown
  have hnm : meth.name = "law" := hnm
  have hret : meth.sig.returnType = (some .boolean) := hret
  have N0 := Fr.nil n0
  show OwnFin p e below s _ _ _ (s₁.setTop (mkF m 0 #[.val (.int a), .val (.int b), .val (.int c0), .val (.int d), .unset, .unset, .unset, .unset, .unset, .unset, .unset, .unset, .unset, .unset, .unset, .unset] []))
  refine own_go (fun t k => XS.iloadN X0.here hx rfl (hb hby at_0) rfl k) ?_
  show OwnFin p e below s _ _ _ (s₁.setTop (mkF m 1 #[.val (.int a), .val (.int b), .val (.int c0), .val (.int d), .unset, .unset, .unset, .unset, .unset, .unset, .unset, .unset, .unset, .unset, .unset, .unset] [(.int a)]))
  refine own_go (fun t k => XS.iloadN X0.here hx rfl (hb hby at_1) rfl k) ?_
  show OwnFin p e below s _ _ _ (s₁.setTop (mkF m 2 #[.val (.int a), .val (.int b), .val (.int c0), .val (.int d), .unset, .unset, .unset, .unset, .unset, .unset, .unset, .unset, .unset, .unset, .unset, .unset] [(.int b), (.int a)]))
  obtain ⟨v1, T1, L1, X1, hQ1, st1⟩ := own_callS X0 hx hZ (y := (⟨"com/example/trapline/trapline/decide/Pairs", "of", "(II)J"⟩ : MethodName)) hown (hw _ (List.mem_of_getElem? (i := 0) rfl)) (hw _ (List.mem_of_getElem? (i := 1) rfl)) (hw _ (List.mem_of_getElem? (i := 2) rfl)) (hw _ (List.mem_of_getElem? (i := 3) rfl)) (by decide) (W := 0) (rm1 l Z a0 hw [] a b h0 n0 Z0) (by decide) (by decide) (g := (mkF m 2 #[.val (.int a), .val (.int b), .val (.int c0), .val (.int d), .unset, .unset, .unset, .unset, .unset, .unset, .unset, .unset, .unset, .unset, .unset, .unset] [(.int b), (.int a)])) rfl (by rw [hml]; rfl) (argsL := [(.int a), (.int b)]) (rest := []) (lenOf pd_0_0 rfl) rfl (by show 2 * 0 + _ ≤ _; exact Nat.le_of_eq rfl) (hb hby at_2) e0 rfl (by decide) (by decide)
  obtain ⟨rfl, Nq1, e1⟩ := hQ1
  have N1 := Fr.app N0 Nq1
  refine own_go st1 ?_
  show OwnFin p e below s _ _ _ (T1.setTop (mkF m 5 #[.val (.int a), .val (.int b), .val (.int c0), .val (.int d), .unset, .unset, .unset, .unset, .unset, .unset, .unset, .unset, .unset, .unset, .unset, .unset] [(.long (own_of a b))]))
  refine own_go (fun t k => XS.lstore X1.here hx rfl (hb hby at_5) rfl (l' := #[.val (.int a), .val (.int b), .val (.int c0), .val (.int d), .val (.long (own_of a b)), .second, .unset, .unset, .unset, .unset, .unset, .unset, .unset, .unset, .unset, .unset]) rfl k) ?_
  show OwnFin p e below s _ _ _ (T1.setTop (mkF m 7 #[.val (.int a), .val (.int b), .val (.int c0), .val (.int d), .val (.long (own_of a b)), .second, .unset, .unset, .unset, .unset, .unset, .unset, .unset, .unset, .unset, .unset] []))
  refine own_go (fun t k => XS.iloadN X1.here hx rfl (hb hby at_7) rfl k) ?_
  show OwnFin p e below s _ _ _ (T1.setTop (mkF m 8 #[.val (.int a), .val (.int b), .val (.int c0), .val (.int d), .val (.long (own_of a b)), .second, .unset, .unset, .unset, .unset, .unset, .unset, .unset, .unset, .unset, .unset] [(.int a)]))
  refine own_go (fun t k => XS.i2l X1.here hx rfl (hb hby at_8) rfl k) ?_
  show OwnFin p e below s _ _ _ (T1.setTop (mkF m 9 #[.val (.int a), .val (.int b), .val (.int c0), .val (.int d), .val (.long (own_of a b)), .second, .unset, .unset, .unset, .unset, .unset, .unset, .unset, .unset, .unset, .unset] [(.long (a.toInt64))]))
  refine own_go (X1.ldc2Long hx hown (mvT hZ (hw _ (List.mem_of_getElem? (i := 5) rfl))) (g := (mkF m 9 #[.val (.int a), .val (.int b), .val (.int c0), .val (.int d), .val (.long (own_of a b)), .second, .unset, .unset, .unset, .unset, .unset, .unset, .unset, .unset, .unset, .unset] [(.long (a.toInt64))])) rfl (hb hby at_9)) ?_
  show OwnFin p e below s _ _ _ (T1.setTop (mkF m 12 #[.val (.int a), .val (.int b), .val (.int c0), .val (.int d), .val (.long (own_of a b)), .second, .unset, .unset, .unset, .unset, .unset, .unset, .unset, .unset, .unset, .unset] [(.long (4294967296 : Int64)), (.long (a.toInt64))]))
  refine own_go (fun t k => XS.lmul X1.here hx rfl (hb hby at_12) rfl k) ?_
  show OwnFin p e below s _ _ _ (T1.setTop (mkF m 13 #[.val (.int a), .val (.int b), .val (.int c0), .val (.int d), .val (.long (own_of a b)), .second, .unset, .unset, .unset, .unset, .unset, .unset, .unset, .unset, .unset, .unset] [(.long ((a.toInt64) * (4294967296 : Int64)))]))
  refine own_go (fun t k => XS.iloadN X1.here hx rfl (hb hby at_13) rfl k) ?_
  show OwnFin p e below s _ _ _ (T1.setTop (mkF m 14 #[.val (.int a), .val (.int b), .val (.int c0), .val (.int d), .val (.long (own_of a b)), .second, .unset, .unset, .unset, .unset, .unset, .unset, .unset, .unset, .unset, .unset] [(.int b), (.long ((a.toInt64) * (4294967296 : Int64)))]))
  obtain ⟨v2, T2, L2, X2, hQ2, st2⟩ := own_callS X1 hx hZ (y := (⟨"com/example/trapline/trapline/decide/PairsOfPinLaw", "unsignedOf", "(I)J"⟩ : MethodName)) hown (hw _ (List.mem_of_getElem? (i := 6) rfl)) (hw _ (List.mem_of_getElem? (i := 7) rfl)) (hw _ (List.mem_of_getElem? (i := 8) rfl)) (hw _ (List.mem_of_getElem? (i := 9) rfl)) (by decide) (W := 2) (rm2 l Z a0 hw [] b h0 n0 Z0) (by decide) (by decide) (g := (mkF m 14 #[.val (.int a), .val (.int b), .val (.int c0), .val (.int d), .val (.long (own_of a b)), .second, .unset, .unset, .unset, .unset, .unset, .unset, .unset, .unset, .unset, .unset] [(.int b), (.long ((a.toInt64) * (4294967296 : Int64)))])) rfl (by rw [hml]; rfl) (argsL := [(.int b)]) (rest := [(.long ((a.toInt64) * (4294967296 : Int64)))]) (lenOf pd_0_1 rfl) rfl (by show 2 * 0 + _ ≤ _; exact Nat.le_of_eq rfl) (hb hby at_14) e1 rfl (by decide) (by decide)
  obtain ⟨rfl, Nq2, e2⟩ := hQ2
  have N2 := Fr.app N1 Nq2
  refine own_go st2 ?_
  show OwnFin p e below s _ _ _ (T2.setTop (mkF m 17 #[.val (.int a), .val (.int b), .val (.int c0), .val (.int d), .val (.long (own_of a b)), .second, .unset, .unset, .unset, .unset, .unset, .unset, .unset, .unset, .unset, .unset] [(.long (own_uns b)), (.long ((a.toInt64) * (4294967296 : Int64)))]))
  refine own_go (fun t k => XS.ladd X2.here hx rfl (hb hby at_17) rfl k) ?_
  show OwnFin p e below s _ _ _ (T2.setTop (mkF m 18 #[.val (.int a), .val (.int b), .val (.int c0), .val (.int d), .val (.long (own_of a b)), .second, .unset, .unset, .unset, .unset, .unset, .unset, .unset, .unset, .unset, .unset] [(.long (((a.toInt64) * (4294967296 : Int64)) + (own_uns b)))]))
  refine own_go (fun t k => XS.lstore X2.here hx rfl (hb hby at_18) rfl (l' := #[.val (.int a), .val (.int b), .val (.int c0), .val (.int d), .val (.long (own_of a b)), .second, .val (.long (((a.toInt64) * (4294967296 : Int64)) + (own_uns b))), .second, .unset, .unset, .unset, .unset, .unset, .unset, .unset, .unset]) rfl k) ?_
  show OwnFin p e below s _ _ _ (T2.setTop (mkF m 20 #[.val (.int a), .val (.int b), .val (.int c0), .val (.int d), .val (.long (own_of a b)), .second, .val (.long (((a.toInt64) * (4294967296 : Int64)) + (own_uns b))), .second, .unset, .unset, .unset, .unset, .unset, .unset, .unset, .unset] []))
  refine own_go (fun t k => XS.lload X2.here hx rfl (hb hby at_20) rfl k) ?_
  show OwnFin p e below s _ _ _ (T2.setTop (mkF m 22 #[.val (.int a), .val (.int b), .val (.int c0), .val (.int d), .val (.long (own_of a b)), .second, .val (.long (((a.toInt64) * (4294967296 : Int64)) + (own_uns b))), .second, .unset, .unset, .unset, .unset, .unset, .unset, .unset, .unset] [(.long (own_of a b))]))
  refine own_go (fun t k => XS.lload X2.here hx rfl (hb hby at_22) rfl k) ?_
  show OwnFin p e below s _ _ _ (T2.setTop (mkF m 24 #[.val (.int a), .val (.int b), .val (.int c0), .val (.int d), .val (.long (own_of a b)), .second, .val (.long (((a.toInt64) * (4294967296 : Int64)) + (own_uns b))), .second, .unset, .unset, .unset, .unset, .unset, .unset, .unset, .unset] [(.long (((a.toInt64) * (4294967296 : Int64)) + (own_uns b))), (.long (own_of a b))]))
  refine own_go (fun t k => XS.lcmp X2.here hx rfl (hb hby at_24) rfl k) ?_
  show OwnFin p e below s _ _ _ (T2.setTop (mkF m 25 #[.val (.int a), .val (.int b), .val (.int c0), .val (.int d), .val (.long (own_of a b)), .second, .val (.long (((a.toInt64) * (4294967296 : Int64)) + (own_uns b))), .second, .unset, .unset, .unset, .unset, .unset, .unset, .unset, .unset] [(.int (lcmpW (own_of a b) (((a.toInt64) * (4294967296 : Int64)) + (own_uns b))))]))
  have hc25 : (own_of a b) = (((a.toInt64) * (4294967296 : Int64)) + (own_uns b)) := own_l1 a b
  refine own_go (fun t k => XS.ifYes X2.here hx rfl (pc0 := 25) (pc' := 30) rfl (hb hby at_25) rfl ((if0 _ _).trans (teq ((lw_eq (own_of a b) (((a.toInt64) * (4294967296 : Int64)) + (own_uns b))).mpr hc25)).1) (by decide) (by decide) k) ?_
  show OwnFin p e below s _ _ _ (T2.setTop (mkF m 30 #[.val (.int a), .val (.int b), .val (.int c0), .val (.int d), .val (.long (own_of a b)), .second, .val (.long (((a.toInt64) * (4294967296 : Int64)) + (own_uns b))), .second, .unset, .unset, .unset, .unset, .unset, .unset, .unset, .unset] []))
  refine own_go (fun t k => XS.lload X2.here hx rfl (hb hby at_30) rfl k) ?_
  show OwnFin p e below s _ _ _ (T2.setTop (mkF m 32 #[.val (.int a), .val (.int b), .val (.int c0), .val (.int d), .val (.long (own_of a b)), .second, .val (.long (((a.toInt64) * (4294967296 : Int64)) + (own_uns b))), .second, .unset, .unset, .unset, .unset, .unset, .unset, .unset, .unset] [(.long (own_of a b))]))
  obtain ⟨v3, T3, L3, X3, hQ3, st3⟩ := own_callS X2 hx hZ (y := (⟨"com/example/trapline/trapline/decide/Pairs", "first", "(J)I"⟩ : MethodName)) hown (hw _ (List.mem_of_getElem? (i := 10) rfl)) (hw _ (List.mem_of_getElem? (i := 11) rfl)) (hw _ (List.mem_of_getElem? (i := 2) rfl)) (hw _ (List.mem_of_getElem? (i := 12) rfl)) (by decide) (W := 0) (rm3 l Z a0 hw [] (own_of a b) h0 n0 Z0) (by decide) (by decide) (g := (mkF m 32 #[.val (.int a), .val (.int b), .val (.int c0), .val (.int d), .val (.long (own_of a b)), .second, .val (.long (((a.toInt64) * (4294967296 : Int64)) + (own_uns b))), .second, .unset, .unset, .unset, .unset, .unset, .unset, .unset, .unset] [(.long (own_of a b))])) rfl (by rw [hml]; rfl) (argsL := [(.long (own_of a b))]) (rest := []) (lenOf pd_0_2 rfl) rfl (by show 2 * 0 + _ ≤ _; exact Nat.le_of_eq rfl) (hb hby at_32) e2 rfl (by decide) (by decide)
  obtain ⟨rfl, Nq3, e3⟩ := hQ3
  have N3 := Fr.app N2 Nq3
  refine own_go st3 ?_
  show OwnFin p e below s _ _ _ (T3.setTop (mkF m 35 #[.val (.int a), .val (.int b), .val (.int c0), .val (.int d), .val (.long (own_of a b)), .second, .val (.long (((a.toInt64) * (4294967296 : Int64)) + (own_uns b))), .second, .unset, .unset, .unset, .unset, .unset, .unset, .unset, .unset] [(.int (own_first (own_of a b)))]))
  refine own_go (fun t k => XS.iloadN X3.here hx rfl (hb hby at_35) rfl k) ?_
  show OwnFin p e below s _ _ _ (T3.setTop (mkF m 36 #[.val (.int a), .val (.int b), .val (.int c0), .val (.int d), .val (.long (own_of a b)), .second, .val (.long (((a.toInt64) * (4294967296 : Int64)) + (own_uns b))), .second, .unset, .unset, .unset, .unset, .unset, .unset, .unset, .unset] [(.int a), (.int (own_first (own_of a b)))]))
  have hc36 : (own_first (own_of a b)) = a := own_l2 a b
  refine own_go (fun t k => XS.icmpYes X3.here hx rfl (pc0 := 36) (pc' := 41) rfl (hb hby at_36) rfl (teq hc36).1 (by decide) (by decide) k) ?_
  show OwnFin p e below s _ _ _ (T3.setTop (mkF m 41 #[.val (.int a), .val (.int b), .val (.int c0), .val (.int d), .val (.long (own_of a b)), .second, .val (.long (((a.toInt64) * (4294967296 : Int64)) + (own_uns b))), .second, .unset, .unset, .unset, .unset, .unset, .unset, .unset, .unset] []))
  refine own_go (fun t k => XS.lload X3.here hx rfl (hb hby at_41) rfl k) ?_
  show OwnFin p e below s _ _ _ (T3.setTop (mkF m 43 #[.val (.int a), .val (.int b), .val (.int c0), .val (.int d), .val (.long (own_of a b)), .second, .val (.long (((a.toInt64) * (4294967296 : Int64)) + (own_uns b))), .second, .unset, .unset, .unset, .unset, .unset, .unset, .unset, .unset] [(.long (own_of a b))]))
  obtain ⟨v4, T4, L4, X4, hQ4, st4⟩ := own_callS X3 hx hZ (y := (⟨"com/example/trapline/trapline/decide/Pairs", "second", "(J)I"⟩ : MethodName)) hown (hw _ (List.mem_of_getElem? (i := 13) rfl)) (hw _ (List.mem_of_getElem? (i := 14) rfl)) (hw _ (List.mem_of_getElem? (i := 2) rfl)) (hw _ (List.mem_of_getElem? (i := 15) rfl)) (by decide) (W := 0) (rm4 l Z a0 hw [] (own_of a b) h0 n0 Z0) (by decide) (by decide) (g := (mkF m 43 #[.val (.int a), .val (.int b), .val (.int c0), .val (.int d), .val (.long (own_of a b)), .second, .val (.long (((a.toInt64) * (4294967296 : Int64)) + (own_uns b))), .second, .unset, .unset, .unset, .unset, .unset, .unset, .unset, .unset] [(.long (own_of a b))])) rfl (by rw [hml]; rfl) (argsL := [(.long (own_of a b))]) (rest := []) (lenOf pd_0_2 rfl) rfl (by show 2 * 0 + _ ≤ _; exact Nat.le_of_eq rfl) (hb hby at_43) e3 rfl (by decide) (by decide)
  obtain ⟨rfl, Nq4, e4⟩ := hQ4
  have N4 := Fr.app N3 Nq4
  refine own_go st4 ?_
  show OwnFin p e below s _ _ _ (T4.setTop (mkF m 46 #[.val (.int a), .val (.int b), .val (.int c0), .val (.int d), .val (.long (own_of a b)), .second, .val (.long (((a.toInt64) * (4294967296 : Int64)) + (own_uns b))), .second, .unset, .unset, .unset, .unset, .unset, .unset, .unset, .unset] [(.int ((own_of a b).toInt32))]))
  refine own_go (fun t k => XS.iloadN X4.here hx rfl (hb hby at_46) rfl k) ?_
  show OwnFin p e below s _ _ _ (T4.setTop (mkF m 47 #[.val (.int a), .val (.int b), .val (.int c0), .val (.int d), .val (.long (own_of a b)), .second, .val (.long (((a.toInt64) * (4294967296 : Int64)) + (own_uns b))), .second, .unset, .unset, .unset, .unset, .unset, .unset, .unset, .unset] [(.int b), (.int ((own_of a b).toInt32))]))
  have hc47 : ((own_of a b).toInt32) = b := own_l3 a b
  refine own_go (fun t k => XS.icmpYes X4.here hx rfl (pc0 := 47) (pc' := 52) rfl (hb hby at_47) rfl (teq hc47).1 (by decide) (by decide) k) ?_
  show OwnFin p e below s _ _ _ (T4.setTop (mkF m 52 #[.val (.int a), .val (.int b), .val (.int c0), .val (.int d), .val (.long (own_of a b)), .second, .val (.long (((a.toInt64) * (4294967296 : Int64)) + (own_uns b))), .second, .unset, .unset, .unset, .unset, .unset, .unset, .unset, .unset] []))
  refine own_go (fun t k => XS.iloadN X4.here hx rfl (hb hby at_52) rfl k) ?_
  show OwnFin p e below s _ _ _ (T4.setTop (mkF m 53 #[.val (.int a), .val (.int b), .val (.int c0), .val (.int d), .val (.long (own_of a b)), .second, .val (.long (((a.toInt64) * (4294967296 : Int64)) + (own_uns b))), .second, .unset, .unset, .unset, .unset, .unset, .unset, .unset, .unset] [(.int b)]))
  refine own_go (X4.ldcInt hx hown (mvT hZ (hw _ (List.mem_of_getElem? (i := 16) rfl))) (g := (mkF m 53 #[.val (.int a), .val (.int b), .val (.int c0), .val (.int d), .val (.long (own_of a b)), .second, .val (.long (((a.toInt64) * (4294967296 : Int64)) + (own_uns b))), .second, .unset, .unset, .unset, .unset, .unset, .unset, .unset, .unset] [(.int b)])) rfl (hb hby at_53)) ?_
  show OwnFin p e below s _ _ _ (T4.setTop (mkF m 55 #[.val (.int a), .val (.int b), .val (.int c0), .val (.int d), .val (.long (own_of a b)), .second, .val (.long (((a.toInt64) * (4294967296 : Int64)) + (own_uns b))), .second, .unset, .unset, .unset, .unset, .unset, .unset, .unset, .unset] [(.int (2147483647 : Int32)), (.int b)]))
  refine own_go (fun t k => XS.iand X4.here hx rfl (hb hby at_55) rfl k) ?_
  show OwnFin p e below s _ _ _ (T4.setTop (mkF m 56 #[.val (.int a), .val (.int b), .val (.int c0), .val (.int d), .val (.long (own_of a b)), .second, .val (.long (((a.toInt64) * (4294967296 : Int64)) + (own_uns b))), .second, .unset, .unset, .unset, .unset, .unset, .unset, .unset, .unset] [(.int (b &&& (2147483647 : Int32)))]))
  refine own_go (fun t k => XS.istore X4.here hx rfl (hb hby at_56) rfl (l' := #[.val (.int a), .val (.int b), .val (.int c0), .val (.int d), .val (.long (own_of a b)), .second, .val (.long (((a.toInt64) * (4294967296 : Int64)) + (own_uns b))), .second, .val (.int (b &&& (2147483647 : Int32))), .unset, .unset, .unset, .unset, .unset, .unset, .unset]) rfl k) ?_
  show OwnFin p e below s _ _ _ (T4.setTop (mkF m 58 #[.val (.int a), .val (.int b), .val (.int c0), .val (.int d), .val (.long (own_of a b)), .second, .val (.long (((a.toInt64) * (4294967296 : Int64)) + (own_uns b))), .second, .val (.int (b &&& (2147483647 : Int32))), .unset, .unset, .unset, .unset, .unset, .unset, .unset] []))
  generalize h_bs : (b &&& (2147483647 : Int32)) = bs
  refine own_go (fun t k => XS.iloadN X4.here hx rfl (hb hby at_58) rfl k) ?_
  show OwnFin p e below s _ _ _ (T4.setTop (mkF m 59 #[.val (.int a), .val (.int b), .val (.int c0), .val (.int d), .val (.long (own_of a b)), .second, .val (.long (((a.toInt64) * (4294967296 : Int64)) + (own_uns b))), .second, .val (.int bs), .unset, .unset, .unset, .unset, .unset, .unset, .unset] [(.int d)]))
  refine own_go (X4.ldcInt hx hown (mvT hZ (hw _ (List.mem_of_getElem? (i := 16) rfl))) (g := (mkF m 59 #[.val (.int a), .val (.int b), .val (.int c0), .val (.int d), .val (.long (own_of a b)), .second, .val (.long (((a.toInt64) * (4294967296 : Int64)) + (own_uns b))), .second, .val (.int bs), .unset, .unset, .unset, .unset, .unset, .unset, .unset] [(.int d)])) rfl (hb hby at_59)) ?_
  show OwnFin p e below s _ _ _ (T4.setTop (mkF m 61 #[.val (.int a), .val (.int b), .val (.int c0), .val (.int d), .val (.long (own_of a b)), .second, .val (.long (((a.toInt64) * (4294967296 : Int64)) + (own_uns b))), .second, .val (.int bs), .unset, .unset, .unset, .unset, .unset, .unset, .unset] [(.int (2147483647 : Int32)), (.int d)]))
  refine own_go (fun t k => XS.iand X4.here hx rfl (hb hby at_61) rfl k) ?_
  show OwnFin p e below s _ _ _ (T4.setTop (mkF m 62 #[.val (.int a), .val (.int b), .val (.int c0), .val (.int d), .val (.long (own_of a b)), .second, .val (.long (((a.toInt64) * (4294967296 : Int64)) + (own_uns b))), .second, .val (.int bs), .unset, .unset, .unset, .unset, .unset, .unset, .unset] [(.int (d &&& (2147483647 : Int32)))]))
  refine own_go (fun t k => XS.istore X4.here hx rfl (hb hby at_62) rfl (l' := #[.val (.int a), .val (.int b), .val (.int c0), .val (.int d), .val (.long (own_of a b)), .second, .val (.long (((a.toInt64) * (4294967296 : Int64)) + (own_uns b))), .second, .val (.int bs), .val (.int (d &&& (2147483647 : Int32))), .unset, .unset, .unset, .unset, .unset, .unset]) rfl k) ?_
  show OwnFin p e below s _ _ _ (T4.setTop (mkF m 64 #[.val (.int a), .val (.int b), .val (.int c0), .val (.int d), .val (.long (own_of a b)), .second, .val (.long (((a.toInt64) * (4294967296 : Int64)) + (own_uns b))), .second, .val (.int bs), .val (.int (d &&& (2147483647 : Int32))), .unset, .unset, .unset, .unset, .unset, .unset] []))
  generalize h_ds : (d &&& (2147483647 : Int32)) = ds
  refine own_go (fun t k => XS.iloadN X4.here hx rfl (hb hby at_64) rfl k) ?_
  show OwnFin p e below s _ _ _ (T4.setTop (mkF m 65 #[.val (.int a), .val (.int b), .val (.int c0), .val (.int d), .val (.long (own_of a b)), .second, .val (.long (((a.toInt64) * (4294967296 : Int64)) + (own_uns b))), .second, .val (.int bs), .val (.int ds), .unset, .unset, .unset, .unset, .unset, .unset] [(.int a)]))
  refine own_go (fun t k => XS.iload X4.here hx rfl (hb hby at_65) rfl k) ?_
  show OwnFin p e below s _ _ _ (T4.setTop (mkF m 67 #[.val (.int a), .val (.int b), .val (.int c0), .val (.int d), .val (.long (own_of a b)), .second, .val (.long (((a.toInt64) * (4294967296 : Int64)) + (own_uns b))), .second, .val (.int bs), .val (.int ds), .unset, .unset, .unset, .unset, .unset, .unset] [(.int bs), (.int a)]))
  obtain ⟨v5, T5, L5, X5, hQ5, st5⟩ := own_callS X4 hx hZ (y := (⟨"com/example/trapline/trapline/decide/Pairs", "of", "(II)J"⟩ : MethodName)) hown (hw _ (List.mem_of_getElem? (i := 0) rfl)) (hw _ (List.mem_of_getElem? (i := 1) rfl)) (hw _ (List.mem_of_getElem? (i := 2) rfl)) (hw _ (List.mem_of_getElem? (i := 3) rfl)) (by decide) (W := 0) (rm1 l Z a0 hw [] a bs h0 n0 Z0) (by decide) (by decide) (g := (mkF m 67 #[.val (.int a), .val (.int b), .val (.int c0), .val (.int d), .val (.long (own_of a b)), .second, .val (.long (((a.toInt64) * (4294967296 : Int64)) + (own_uns b))), .second, .val (.int bs), .val (.int ds), .unset, .unset, .unset, .unset, .unset, .unset] [(.int bs), (.int a)])) rfl (by rw [hml]; rfl) (argsL := [(.int a), (.int bs)]) (rest := []) (lenOf pd_0_0 rfl) rfl (by show 2 * 0 + _ ≤ _; exact Nat.le_of_eq rfl) (hb hby at_67) e4 rfl (by decide) (by decide)
  obtain ⟨rfl, Nq5, e5⟩ := hQ5
  have N5 := Fr.app N4 Nq5
  refine own_go st5 ?_
  show OwnFin p e below s _ _ _ (T5.setTop (mkF m 70 #[.val (.int a), .val (.int b), .val (.int c0), .val (.int d), .val (.long (own_of a b)), .second, .val (.long (((a.toInt64) * (4294967296 : Int64)) + (own_uns b))), .second, .val (.int bs), .val (.int ds), .unset, .unset, .unset, .unset, .unset, .unset] [(.long (own_of a bs))]))
  refine own_go (fun t k => XS.lstore X5.here hx rfl (hb hby at_70) rfl (l' := #[.val (.int a), .val (.int b), .val (.int c0), .val (.int d), .val (.long (own_of a b)), .second, .val (.long (((a.toInt64) * (4294967296 : Int64)) + (own_uns b))), .second, .val (.int bs), .val (.int ds), .val (.long (own_of a bs)), .second, .unset, .unset, .unset, .unset]) rfl k) ?_
  show OwnFin p e below s _ _ _ (T5.setTop (mkF m 72 #[.val (.int a), .val (.int b), .val (.int c0), .val (.int d), .val (.long (own_of a b)), .second, .val (.long (((a.toInt64) * (4294967296 : Int64)) + (own_uns b))), .second, .val (.int bs), .val (.int ds), .val (.long (own_of a bs)), .second, .unset, .unset, .unset, .unset] []))
  refine own_go (fun t k => XS.iloadN X5.here hx rfl (hb hby at_72) rfl k) ?_
  show OwnFin p e below s _ _ _ (T5.setTop (mkF m 73 #[.val (.int a), .val (.int b), .val (.int c0), .val (.int d), .val (.long (own_of a b)), .second, .val (.long (((a.toInt64) * (4294967296 : Int64)) + (own_uns b))), .second, .val (.int bs), .val (.int ds), .val (.long (own_of a bs)), .second, .unset, .unset, .unset, .unset] [(.int c0)]))
  refine own_go (fun t k => XS.iload X5.here hx rfl (hb hby at_73) rfl k) ?_
  show OwnFin p e below s _ _ _ (T5.setTop (mkF m 75 #[.val (.int a), .val (.int b), .val (.int c0), .val (.int d), .val (.long (own_of a b)), .second, .val (.long (((a.toInt64) * (4294967296 : Int64)) + (own_uns b))), .second, .val (.int bs), .val (.int ds), .val (.long (own_of a bs)), .second, .unset, .unset, .unset, .unset] [(.int ds), (.int c0)]))
  obtain ⟨v6, T6, L6, X6, hQ6, st6⟩ := own_callS X5 hx hZ (y := (⟨"com/example/trapline/trapline/decide/Pairs", "of", "(II)J"⟩ : MethodName)) hown (hw _ (List.mem_of_getElem? (i := 0) rfl)) (hw _ (List.mem_of_getElem? (i := 1) rfl)) (hw _ (List.mem_of_getElem? (i := 2) rfl)) (hw _ (List.mem_of_getElem? (i := 3) rfl)) (by decide) (W := 0) (rm1 l Z a0 hw [] c0 ds h0 n0 Z0) (by decide) (by decide) (g := (mkF m 75 #[.val (.int a), .val (.int b), .val (.int c0), .val (.int d), .val (.long (own_of a b)), .second, .val (.long (((a.toInt64) * (4294967296 : Int64)) + (own_uns b))), .second, .val (.int bs), .val (.int ds), .val (.long (own_of a bs)), .second, .unset, .unset, .unset, .unset] [(.int ds), (.int c0)])) rfl (by rw [hml]; rfl) (argsL := [(.int c0), (.int ds)]) (rest := []) (lenOf pd_0_0 rfl) rfl (by show 2 * 0 + _ ≤ _; exact Nat.le_of_eq rfl) (hb hby at_75) e5 rfl (by decide) (by decide)
  obtain ⟨rfl, Nq6, e6⟩ := hQ6
  have N6 := Fr.app N5 Nq6
  refine own_go st6 ?_
  show OwnFin p e below s _ _ _ (T6.setTop (mkF m 78 #[.val (.int a), .val (.int b), .val (.int c0), .val (.int d), .val (.long (own_of a b)), .second, .val (.long (((a.toInt64) * (4294967296 : Int64)) + (own_uns b))), .second, .val (.int bs), .val (.int ds), .val (.long (own_of a bs)), .second, .unset, .unset, .unset, .unset] [(.long (own_of c0 ds))]))
  refine own_go (fun t k => XS.lstore X6.here hx rfl (hb hby at_78) rfl (l' := #[.val (.int a), .val (.int b), .val (.int c0), .val (.int d), .val (.long (own_of a b)), .second, .val (.long (((a.toInt64) * (4294967296 : Int64)) + (own_uns b))), .second, .val (.int bs), .val (.int ds), .val (.long (own_of a bs)), .second, .val (.long (own_of c0 ds)), .second, .unset, .unset]) rfl k) ?_
  show OwnFin p e below s _ _ _ (T6.setTop (mkF m 80 #[.val (.int a), .val (.int b), .val (.int c0), .val (.int d), .val (.long (own_of a b)), .second, .val (.long (((a.toInt64) * (4294967296 : Int64)) + (own_uns b))), .second, .val (.int bs), .val (.int ds), .val (.long (own_of a bs)), .second, .val (.long (own_of c0 ds)), .second, .unset, .unset] []))
  refine own_go (fun t k => XS.iloadN X6.here hx rfl (hb hby at_80) rfl k) ?_
  show OwnFin p e below s _ _ _ (T6.setTop (mkF m 81 #[.val (.int a), .val (.int b), .val (.int c0), .val (.int d), .val (.long (own_of a b)), .second, .val (.long (((a.toInt64) * (4294967296 : Int64)) + (own_uns b))), .second, .val (.int bs), .val (.int ds), .val (.long (own_of a bs)), .second, .val (.long (own_of c0 ds)), .second, .unset, .unset] [(.int a)]))
  refine own_go (fun t k => XS.iloadN X6.here hx rfl (hb hby at_81) rfl k) ?_
  show OwnFin p e below s _ _ _ (T6.setTop (mkF m 82 #[.val (.int a), .val (.int b), .val (.int c0), .val (.int d), .val (.long (own_of a b)), .second, .val (.long (((a.toInt64) * (4294967296 : Int64)) + (own_uns b))), .second, .val (.int bs), .val (.int ds), .val (.long (own_of a bs)), .second, .val (.long (own_of c0 ds)), .second, .unset, .unset] [(.int c0), (.int a)]))
  by_cases hc82 : a < c0
  · refine own_go (fun t k => XS.icmpYes X6.here hx rfl (pc0 := 82) (pc' := 97) rfl (hb hby at_82) rfl (tlt hc82).1 (by decide) (by decide) k) ?_
    show OwnFin p e below s _ _ _ (T6.setTop (mkF m 97 #[.val (.int a), .val (.int b), .val (.int c0), .val (.int d), .val (.long (own_of a b)), .second, .val (.long (((a.toInt64) * (4294967296 : Int64)) + (own_uns b))), .second, .val (.int bs), .val (.int ds), .val (.long (own_of a bs)), .second, .val (.long (own_of c0 ds)), .second, .unset, .unset] []))
    refine own_go (fun t k => XS.iconst X6.here hx rfl (hb hby at_97) k) ?_
    show OwnFin p e below s _ _ _ (T6.setTop (mkF m 98 #[.val (.int a), .val (.int b), .val (.int c0), .val (.int d), .val (.long (own_of a b)), .second, .val (.long (((a.toInt64) * (4294967296 : Int64)) + (own_uns b))), .second, .val (.int bs), .val (.int ds), .val (.long (own_of a bs)), .second, .val (.long (own_of c0 ds)), .second, .unset, .unset] [(.int (1 : Int32))]))
    refine own_go (fun t k => XS.goto X6.here hx rfl (pc0 := 98) (pc' := 102) rfl (hb hby at_98) (by decide) (by decide) k) ?_
    show OwnFin p e below s _ _ _ (T6.setTop (mkF m 102 #[.val (.int a), .val (.int b), .val (.int c0), .val (.int d), .val (.long (own_of a b)), .second, .val (.long (((a.toInt64) * (4294967296 : Int64)) + (own_uns b))), .second, .val (.int bs), .val (.int ds), .val (.long (own_of a bs)), .second, .val (.long (own_of c0 ds)), .second, .unset, .unset] [(.int (1 : Int32))]))
    refine own_go (fun t k => XS.istore X6.here hx rfl (hb hby at_102) rfl (l' := #[.val (.int a), .val (.int b), .val (.int c0), .val (.int d), .val (.long (own_of a b)), .second, .val (.long (((a.toInt64) * (4294967296 : Int64)) + (own_uns b))), .second, .val (.int bs), .val (.int ds), .val (.long (own_of a bs)), .second, .val (.long (own_of c0 ds)), .second, .val (.int (1 : Int32)), .unset]) rfl k) ?_
    show OwnFin p e below s _ _ _ (T6.setTop (mkF m 104 #[.val (.int a), .val (.int b), .val (.int c0), .val (.int d), .val (.long (own_of a b)), .second, .val (.long (((a.toInt64) * (4294967296 : Int64)) + (own_uns b))), .second, .val (.int bs), .val (.int ds), .val (.long (own_of a bs)), .second, .val (.long (own_of c0 ds)), .second, .val (.int (1 : Int32)), .unset] []))
    refine own_go (fun t k => XS.iloadN X6.here hx rfl (hb hby at_104) rfl k) ?_
    show OwnFin p e below s _ _ _ (T6.setTop (mkF m 105 #[.val (.int a), .val (.int b), .val (.int c0), .val (.int d), .val (.long (own_of a b)), .second, .val (.long (((a.toInt64) * (4294967296 : Int64)) + (own_uns b))), .second, .val (.int bs), .val (.int ds), .val (.long (own_of a bs)), .second, .val (.long (own_of c0 ds)), .second, .val (.int (1 : Int32)), .unset] [(.int a)]))
    refine own_go (fun t k => XS.iloadN X6.here hx rfl (hb hby at_105) rfl k) ?_
    show OwnFin p e below s _ _ _ (T6.setTop (mkF m 106 #[.val (.int a), .val (.int b), .val (.int c0), .val (.int d), .val (.long (own_of a b)), .second, .val (.long (((a.toInt64) * (4294967296 : Int64)) + (own_uns b))), .second, .val (.int bs), .val (.int ds), .val (.long (own_of a bs)), .second, .val (.long (own_of c0 ds)), .second, .val (.int (1 : Int32)), .unset] [(.int c0), (.int a)]))
    by_cases hc106 : a = c0
    · refine own_go (fun t k => XS.icmpNo X6.here hx rfl (hb hby at_106) rfl (teq hc106).2 k) ?_
      show OwnFin p e below s _ _ _ (T6.setTop (mkF m 109 #[.val (.int a), .val (.int b), .val (.int c0), .val (.int d), .val (.long (own_of a b)), .second, .val (.long (((a.toInt64) * (4294967296 : Int64)) + (own_uns b))), .second, .val (.int bs), .val (.int ds), .val (.long (own_of a bs)), .second, .val (.long (own_of c0 ds)), .second, .val (.int (1 : Int32)), .unset] []))
      refine own_go (fun t k => XS.iload X6.here hx rfl (hb hby at_109) rfl k) ?_
      show OwnFin p e below s _ _ _ (T6.setTop (mkF m 111 #[.val (.int a), .val (.int b), .val (.int c0), .val (.int d), .val (.long (own_of a b)), .second, .val (.long (((a.toInt64) * (4294967296 : Int64)) + (own_uns b))), .second, .val (.int bs), .val (.int ds), .val (.long (own_of a bs)), .second, .val (.long (own_of c0 ds)), .second, .val (.int (1 : Int32)), .unset] [(.int bs)]))
      refine own_go (fun t k => XS.iload X6.here hx rfl (hb hby at_111) rfl k) ?_
      show OwnFin p e below s _ _ _ (T6.setTop (mkF m 113 #[.val (.int a), .val (.int b), .val (.int c0), .val (.int d), .val (.long (own_of a b)), .second, .val (.long (((a.toInt64) * (4294967296 : Int64)) + (own_uns b))), .second, .val (.int bs), .val (.int ds), .val (.long (own_of a bs)), .second, .val (.long (own_of c0 ds)), .second, .val (.int (1 : Int32)), .unset] [(.int ds), (.int bs)]))
      by_cases hc113 : bs = ds
      · refine own_go (fun t k => XS.icmpNo X6.here hx rfl (hb hby at_113) rfl (teq hc113).2 k) ?_
        show OwnFin p e below s _ _ _ (T6.setTop (mkF m 116 #[.val (.int a), .val (.int b), .val (.int c0), .val (.int d), .val (.long (own_of a b)), .second, .val (.long (((a.toInt64) * (4294967296 : Int64)) + (own_uns b))), .second, .val (.int bs), .val (.int ds), .val (.long (own_of a bs)), .second, .val (.long (own_of c0 ds)), .second, .val (.int (1 : Int32)), .unset] []))
        refine own_go (fun t k => XS.iconst X6.here hx rfl (hb hby at_116) k) ?_
        show OwnFin p e below s _ _ _ (T6.setTop (mkF m 117 #[.val (.int a), .val (.int b), .val (.int c0), .val (.int d), .val (.long (own_of a b)), .second, .val (.long (((a.toInt64) * (4294967296 : Int64)) + (own_uns b))), .second, .val (.int bs), .val (.int ds), .val (.long (own_of a bs)), .second, .val (.long (own_of c0 ds)), .second, .val (.int (1 : Int32)), .unset] [(.int (1 : Int32))]))
        refine own_go (fun t k => XS.goto X6.here hx rfl (pc0 := 117) (pc' := 121) rfl (hb hby at_117) (by decide) (by decide) k) ?_
        show OwnFin p e below s _ _ _ (T6.setTop (mkF m 121 #[.val (.int a), .val (.int b), .val (.int c0), .val (.int d), .val (.long (own_of a b)), .second, .val (.long (((a.toInt64) * (4294967296 : Int64)) + (own_uns b))), .second, .val (.int bs), .val (.int ds), .val (.long (own_of a bs)), .second, .val (.long (own_of c0 ds)), .second, .val (.int (1 : Int32)), .unset] [(.int (1 : Int32))]))
        refine own_go (fun t k => XS.istore X6.here hx rfl (hb hby at_121) rfl (l' := #[.val (.int a), .val (.int b), .val (.int c0), .val (.int d), .val (.long (own_of a b)), .second, .val (.long (((a.toInt64) * (4294967296 : Int64)) + (own_uns b))), .second, .val (.int bs), .val (.int ds), .val (.long (own_of a bs)), .second, .val (.long (own_of c0 ds)), .second, .val (.int (1 : Int32)), .val (.int (1 : Int32))]) rfl k) ?_
        show OwnFin p e below s _ _ _ (T6.setTop (mkF m 123 #[.val (.int a), .val (.int b), .val (.int c0), .val (.int d), .val (.long (own_of a b)), .second, .val (.long (((a.toInt64) * (4294967296 : Int64)) + (own_uns b))), .second, .val (.int bs), .val (.int ds), .val (.long (own_of a bs)), .second, .val (.long (own_of c0 ds)), .second, .val (.int (1 : Int32)), .val (.int (1 : Int32))] []))
        refine own_go (fun t k => XS.lload X6.here hx rfl (hb hby at_123) rfl k) ?_
        show OwnFin p e below s _ _ _ (T6.setTop (mkF m 125 #[.val (.int a), .val (.int b), .val (.int c0), .val (.int d), .val (.long (own_of a b)), .second, .val (.long (((a.toInt64) * (4294967296 : Int64)) + (own_uns b))), .second, .val (.int bs), .val (.int ds), .val (.long (own_of a bs)), .second, .val (.long (own_of c0 ds)), .second, .val (.int (1 : Int32)), .val (.int (1 : Int32))] [(.long (own_of a bs))]))
        refine own_go (fun t k => XS.lload X6.here hx rfl (hb hby at_125) rfl k) ?_
        show OwnFin p e below s _ _ _ (T6.setTop (mkF m 127 #[.val (.int a), .val (.int b), .val (.int c0), .val (.int d), .val (.long (own_of a b)), .second, .val (.long (((a.toInt64) * (4294967296 : Int64)) + (own_uns b))), .second, .val (.int bs), .val (.int ds), .val (.long (own_of a bs)), .second, .val (.long (own_of c0 ds)), .second, .val (.int (1 : Int32)), .val (.int (1 : Int32))] [(.long (own_of c0 ds)), (.long (own_of a bs))]))
        refine own_go (fun t k => XS.lcmp X6.here hx rfl (hb hby at_127) rfl k) ?_
        show OwnFin p e below s _ _ _ (T6.setTop (mkF m 128 #[.val (.int a), .val (.int b), .val (.int c0), .val (.int d), .val (.long (own_of a b)), .second, .val (.long (((a.toInt64) * (4294967296 : Int64)) + (own_uns b))), .second, .val (.int bs), .val (.int ds), .val (.long (own_of a bs)), .second, .val (.long (own_of c0 ds)), .second, .val (.int (1 : Int32)), .val (.int (1 : Int32))] [(.int (lcmpW (own_of a bs) (own_of c0 ds)))]))
        by_cases hc128 : (own_of a bs) < (own_of c0 ds)
        · refine own_go (fun t k => XS.ifNo X6.here hx rfl (hb hby at_128) rfl ((if0 _ _).trans (tlt ((lw_lt (own_of a bs) (own_of c0 ds)).mpr hc128)).2.1) k) ?_
          show OwnFin p e below s _ _ _ (T6.setTop (mkF m 131 #[.val (.int a), .val (.int b), .val (.int c0), .val (.int d), .val (.long (own_of a b)), .second, .val (.long (((a.toInt64) * (4294967296 : Int64)) + (own_uns b))), .second, .val (.int bs), .val (.int ds), .val (.long (own_of a bs)), .second, .val (.long (own_of c0 ds)), .second, .val (.int (1 : Int32)), .val (.int (1 : Int32))] []))
          refine own_go (fun t k => XS.iconst X6.here hx rfl (hb hby at_131) k) ?_
          show OwnFin p e below s _ _ _ (T6.setTop (mkF m 132 #[.val (.int a), .val (.int b), .val (.int c0), .val (.int d), .val (.long (own_of a b)), .second, .val (.long (((a.toInt64) * (4294967296 : Int64)) + (own_uns b))), .second, .val (.int bs), .val (.int ds), .val (.long (own_of a bs)), .second, .val (.long (own_of c0 ds)), .second, .val (.int (1 : Int32)), .val (.int (1 : Int32))] [(.int (1 : Int32))]))
          refine own_go (fun t k => XS.goto X6.here hx rfl (pc0 := 132) (pc' := 136) rfl (hb hby at_132) (by decide) (by decide) k) ?_
          show OwnFin p e below s _ _ _ (T6.setTop (mkF m 136 #[.val (.int a), .val (.int b), .val (.int c0), .val (.int d), .val (.long (own_of a b)), .second, .val (.long (((a.toInt64) * (4294967296 : Int64)) + (own_uns b))), .second, .val (.int bs), .val (.int ds), .val (.long (own_of a bs)), .second, .val (.long (own_of c0 ds)), .second, .val (.int (1 : Int32)), .val (.int (1 : Int32))] [(.int (1 : Int32))]))
          refine own_go (fun t k => XS.iload X6.here hx rfl (hb hby at_136) rfl k) ?_
          show OwnFin p e below s _ _ _ (T6.setTop (mkF m 138 #[.val (.int a), .val (.int b), .val (.int c0), .val (.int d), .val (.long (own_of a b)), .second, .val (.long (((a.toInt64) * (4294967296 : Int64)) + (own_uns b))), .second, .val (.int bs), .val (.int ds), .val (.long (own_of a bs)), .second, .val (.long (own_of c0 ds)), .second, .val (.int (1 : Int32)), .val (.int (1 : Int32))] [(.int (1 : Int32)), (.int (1 : Int32))]))
          refine own_go (fun t k => XS.icmpNo X6.here hx rfl (hb hby at_138) rfl (teq (by decide)).2 k) ?_
          show OwnFin p e below s _ _ _ (T6.setTop (mkF m 141 #[.val (.int a), .val (.int b), .val (.int c0), .val (.int d), .val (.long (own_of a b)), .second, .val (.long (((a.toInt64) * (4294967296 : Int64)) + (own_uns b))), .second, .val (.int bs), .val (.int ds), .val (.long (own_of a bs)), .second, .val (.long (own_of c0 ds)), .second, .val (.int (1 : Int32)), .val (.int (1 : Int32))] []))
          refine own_go (fun t k => XS.lload X6.here hx rfl (hb hby at_141) rfl k) ?_
          show OwnFin p e below s _ _ _ (T6.setTop (mkF m 143 #[.val (.int a), .val (.int b), .val (.int c0), .val (.int d), .val (.long (own_of a b)), .second, .val (.long (((a.toInt64) * (4294967296 : Int64)) + (own_uns b))), .second, .val (.int bs), .val (.int ds), .val (.long (own_of a bs)), .second, .val (.long (own_of c0 ds)), .second, .val (.int (1 : Int32)), .val (.int (1 : Int32))] [(.long (own_of a bs))]))
          refine own_go (fun t k => XS.lload X6.here hx rfl (hb hby at_143) rfl k) ?_
          show OwnFin p e below s _ _ _ (T6.setTop (mkF m 145 #[.val (.int a), .val (.int b), .val (.int c0), .val (.int d), .val (.long (own_of a b)), .second, .val (.long (((a.toInt64) * (4294967296 : Int64)) + (own_uns b))), .second, .val (.int bs), .val (.int ds), .val (.long (own_of a bs)), .second, .val (.long (own_of c0 ds)), .second, .val (.int (1 : Int32)), .val (.int (1 : Int32))] [(.long (own_of c0 ds)), (.long (own_of a bs))]))
          refine own_go (fun t k => XS.lcmp X6.here hx rfl (hb hby at_145) rfl k) ?_
          show OwnFin p e below s _ _ _ (T6.setTop (mkF m 146 #[.val (.int a), .val (.int b), .val (.int c0), .val (.int d), .val (.long (own_of a b)), .second, .val (.long (((a.toInt64) * (4294967296 : Int64)) + (own_uns b))), .second, .val (.int bs), .val (.int ds), .val (.long (own_of a bs)), .second, .val (.long (own_of c0 ds)), .second, .val (.int (1 : Int32)), .val (.int (1 : Int32))] [(.int (lcmpW (own_of a bs) (own_of c0 ds)))]))
          by_cases hc146 : (own_of a bs) = (own_of c0 ds)
          · refine own_go (fun t k => XS.ifNo X6.here hx rfl (hb hby at_146) rfl ((if0 _ _).trans (teq ((lw_eq (own_of a bs) (own_of c0 ds)).mpr hc146)).2) k) ?_
            show OwnFin p e below s _ _ _ (T6.setTop (mkF m 149 #[.val (.int a), .val (.int b), .val (.int c0), .val (.int d), .val (.long (own_of a b)), .second, .val (.long (((a.toInt64) * (4294967296 : Int64)) + (own_uns b))), .second, .val (.int bs), .val (.int ds), .val (.long (own_of a bs)), .second, .val (.long (own_of c0 ds)), .second, .val (.int (1 : Int32)), .val (.int (1 : Int32))] []))
            refine own_go (fun t k => XS.iconst X6.here hx rfl (hb hby at_149) k) ?_
            show OwnFin p e below s _ _ _ (T6.setTop (mkF m 150 #[.val (.int a), .val (.int b), .val (.int c0), .val (.int d), .val (.long (own_of a b)), .second, .val (.long (((a.toInt64) * (4294967296 : Int64)) + (own_uns b))), .second, .val (.int bs), .val (.int ds), .val (.long (own_of a bs)), .second, .val (.long (own_of c0 ds)), .second, .val (.int (1 : Int32)), .val (.int (1 : Int32))] [(.int (1 : Int32))]))
            refine own_go (fun t k => XS.goto X6.here hx rfl (pc0 := 150) (pc' := 154) rfl (hb hby at_150) (by decide) (by decide) k) ?_
            show OwnFin p e below s _ _ _ (T6.setTop (mkF m 154 #[.val (.int a), .val (.int b), .val (.int c0), .val (.int d), .val (.long (own_of a b)), .second, .val (.long (((a.toInt64) * (4294967296 : Int64)) + (own_uns b))), .second, .val (.int bs), .val (.int ds), .val (.long (own_of a bs)), .second, .val (.long (own_of c0 ds)), .second, .val (.int (1 : Int32)), .val (.int (1 : Int32))] [(.int (1 : Int32))]))
            refine own_go (fun t k => XS.iload X6.here hx rfl (hb hby at_154) rfl k) ?_
            show OwnFin p e below s _ _ _ (T6.setTop (mkF m 156 #[.val (.int a), .val (.int b), .val (.int c0), .val (.int d), .val (.long (own_of a b)), .second, .val (.long (((a.toInt64) * (4294967296 : Int64)) + (own_uns b))), .second, .val (.int bs), .val (.int ds), .val (.long (own_of a bs)), .second, .val (.long (own_of c0 ds)), .second, .val (.int (1 : Int32)), .val (.int (1 : Int32))] [(.int (1 : Int32)), (.int (1 : Int32))]))
            refine own_go (fun t k => XS.icmpNo X6.here hx rfl (hb hby at_156) rfl (teq (by decide)).2 k) ?_
            show OwnFin p e below s _ _ _ (T6.setTop (mkF m 159 #[.val (.int a), .val (.int b), .val (.int c0), .val (.int d), .val (.long (own_of a b)), .second, .val (.long (((a.toInt64) * (4294967296 : Int64)) + (own_uns b))), .second, .val (.int bs), .val (.int ds), .val (.long (own_of a bs)), .second, .val (.long (own_of c0 ds)), .second, .val (.int (1 : Int32)), .val (.int (1 : Int32))] []))
            refine own_go (fun t k => XS.iconst X6.here hx rfl (hb hby at_159) k) ?_
            show OwnFin p e below s _ _ _ (T6.setTop (mkF m 160 #[.val (.int a), .val (.int b), .val (.int c0), .val (.int d), .val (.long (own_of a b)), .second, .val (.long (((a.toInt64) * (4294967296 : Int64)) + (own_uns b))), .second, .val (.int bs), .val (.int ds), .val (.long (own_of a bs)), .second, .val (.long (own_of c0 ds)), .second, .val (.int (1 : Int32)), .val (.int (1 : Int32))] [(.int (1 : Int32))]))
            refine own_go (fun t k => XS.goto X6.here hx rfl (pc0 := 160) (pc' := 164) rfl (hb hby at_160) (by decide) (by decide) k) ?_
            show OwnFin p e below s _ _ _ (T6.setTop (mkF m 164 #[.val (.int a), .val (.int b), .val (.int c0), .val (.int d), .val (.long (own_of a b)), .second, .val (.long (((a.toInt64) * (4294967296 : Int64)) + (own_uns b))), .second, .val (.int bs), .val (.int ds), .val (.long (own_of a bs)), .second, .val (.long (own_of c0 ds)), .second, .val (.int (1 : Int32)), .val (.int (1 : Int32))] [(.int (1 : Int32))]))
            refine own_ret X6 (v := some (.int (1 : Int32))) hlk (fun hh => by rw [hret] at hh; cases hh) (fun fs hr => retN X6 hx (t := .boolean) hret (by simp) (hb hby at_164) hr) (by decide) (by decide) ?_
            exact ⟨rfl, N6⟩
          · refine own_go (fun t k => XS.ifYes X6.here hx rfl (pc0 := 146) (pc' := 153) rfl (hb hby at_146) rfl ((if0 _ _).trans (feq (mt (lw_eq (own_of a bs) (own_of c0 ds)).mp hc146)).2) (by decide) (by decide) k) ?_
            show OwnFin p e below s _ _ _ (T6.setTop (mkF m 153 #[.val (.int a), .val (.int b), .val (.int c0), .val (.int d), .val (.long (own_of a b)), .second, .val (.long (((a.toInt64) * (4294967296 : Int64)) + (own_uns b))), .second, .val (.int bs), .val (.int ds), .val (.long (own_of a bs)), .second, .val (.long (own_of c0 ds)), .second, .val (.int (1 : Int32)), .val (.int (1 : Int32))] []))
            refine own_go (fun t k => XS.iconst X6.here hx rfl (hb hby at_153) k) ?_
            show OwnFin p e below s _ _ _ (T6.setTop (mkF m 154 #[.val (.int a), .val (.int b), .val (.int c0), .val (.int d), .val (.long (own_of a b)), .second, .val (.long (((a.toInt64) * (4294967296 : Int64)) + (own_uns b))), .second, .val (.int bs), .val (.int ds), .val (.long (own_of a bs)), .second, .val (.long (own_of c0 ds)), .second, .val (.int (1 : Int32)), .val (.int (1 : Int32))] [(.int (0 : Int32))]))
            refine own_go (fun t k => XS.iload X6.here hx rfl (hb hby at_154) rfl k) ?_
            show OwnFin p e below s _ _ _ (T6.setTop (mkF m 156 #[.val (.int a), .val (.int b), .val (.int c0), .val (.int d), .val (.long (own_of a b)), .second, .val (.long (((a.toInt64) * (4294967296 : Int64)) + (own_uns b))), .second, .val (.int bs), .val (.int ds), .val (.long (own_of a bs)), .second, .val (.long (own_of c0 ds)), .second, .val (.int (1 : Int32)), .val (.int (1 : Int32))] [(.int (1 : Int32)), (.int (0 : Int32))]))
            refine own_go (fun t k => XS.icmpYes X6.here hx rfl (pc0 := 156) (pc' := 163) rfl (hb hby at_156) rfl (feq (by decide)).2 (by decide) (by decide) k) ?_
            show OwnFin p e below s _ _ _ (T6.setTop (mkF m 163 #[.val (.int a), .val (.int b), .val (.int c0), .val (.int d), .val (.long (own_of a b)), .second, .val (.long (((a.toInt64) * (4294967296 : Int64)) + (own_uns b))), .second, .val (.int bs), .val (.int ds), .val (.long (own_of a bs)), .second, .val (.long (own_of c0 ds)), .second, .val (.int (1 : Int32)), .val (.int (1 : Int32))] []))
            refine own_go (fun t k => XS.iconst X6.here hx rfl (hb hby at_163) k) ?_
            show OwnFin p e below s _ _ _ (T6.setTop (mkF m 164 #[.val (.int a), .val (.int b), .val (.int c0), .val (.int d), .val (.long (own_of a b)), .second, .val (.long (((a.toInt64) * (4294967296 : Int64)) + (own_uns b))), .second, .val (.int bs), .val (.int ds), .val (.long (own_of a bs)), .second, .val (.long (own_of c0 ds)), .second, .val (.int (1 : Int32)), .val (.int (1 : Int32))] [(.int (0 : Int32))]))
            have nb := own_nn b
            have nd := own_nn d
            rw [h_bs] at nb
            rw [h_ds] at nd
            have rb := rng32 bs
            have rd := rng32 ds
            have k1 := own_of_toInt a bs
            have k2 := own_of_toInt c0 ds
            rw [Int.emod_eq_of_lt nb (by omega)] at k1
            rw [Int.emod_eq_of_lt nd (by omega)] at k2
            simp only [Int32.lt_iff_toInt_lt, Int64.lt_iff_toInt_lt, ← Int32.toInt_inj, ← Int64.toInt_inj, k1, k2] at hc82 hc106 hc113 hc128 hc146
            omega
        · refine own_go (fun t k => XS.ifYes X6.here hx rfl (pc0 := 128) (pc' := 135) rfl (hb hby at_128) rfl ((if0 _ _).trans (flt (mt (lw_lt (own_of a bs) (own_of c0 ds)).mp hc128)).2.1) (by decide) (by decide) k) ?_
          show OwnFin p e below s _ _ _ (T6.setTop (mkF m 135 #[.val (.int a), .val (.int b), .val (.int c0), .val (.int d), .val (.long (own_of a b)), .second, .val (.long (((a.toInt64) * (4294967296 : Int64)) + (own_uns b))), .second, .val (.int bs), .val (.int ds), .val (.long (own_of a bs)), .second, .val (.long (own_of c0 ds)), .second, .val (.int (1 : Int32)), .val (.int (1 : Int32))] []))
          refine own_go (fun t k => XS.iconst X6.here hx rfl (hb hby at_135) k) ?_
          show OwnFin p e below s _ _ _ (T6.setTop (mkF m 136 #[.val (.int a), .val (.int b), .val (.int c0), .val (.int d), .val (.long (own_of a b)), .second, .val (.long (((a.toInt64) * (4294967296 : Int64)) + (own_uns b))), .second, .val (.int bs), .val (.int ds), .val (.long (own_of a bs)), .second, .val (.long (own_of c0 ds)), .second, .val (.int (1 : Int32)), .val (.int (1 : Int32))] [(.int (0 : Int32))]))
          refine own_go (fun t k => XS.iload X6.here hx rfl (hb hby at_136) rfl k) ?_
          show OwnFin p e below s _ _ _ (T6.setTop (mkF m 138 #[.val (.int a), .val (.int b), .val (.int c0), .val (.int d), .val (.long (own_of a b)), .second, .val (.long (((a.toInt64) * (4294967296 : Int64)) + (own_uns b))), .second, .val (.int bs), .val (.int ds), .val (.long (own_of a bs)), .second, .val (.long (own_of c0 ds)), .second, .val (.int (1 : Int32)), .val (.int (1 : Int32))] [(.int (1 : Int32)), (.int (0 : Int32))]))
          refine own_go (fun t k => XS.icmpYes X6.here hx rfl (pc0 := 138) (pc' := 163) rfl (hb hby at_138) rfl (feq (by decide)).2 (by decide) (by decide) k) ?_
          show OwnFin p e below s _ _ _ (T6.setTop (mkF m 163 #[.val (.int a), .val (.int b), .val (.int c0), .val (.int d), .val (.long (own_of a b)), .second, .val (.long (((a.toInt64) * (4294967296 : Int64)) + (own_uns b))), .second, .val (.int bs), .val (.int ds), .val (.long (own_of a bs)), .second, .val (.long (own_of c0 ds)), .second, .val (.int (1 : Int32)), .val (.int (1 : Int32))] []))
          refine own_go (fun t k => XS.iconst X6.here hx rfl (hb hby at_163) k) ?_
          show OwnFin p e below s _ _ _ (T6.setTop (mkF m 164 #[.val (.int a), .val (.int b), .val (.int c0), .val (.int d), .val (.long (own_of a b)), .second, .val (.long (((a.toInt64) * (4294967296 : Int64)) + (own_uns b))), .second, .val (.int bs), .val (.int ds), .val (.long (own_of a bs)), .second, .val (.long (own_of c0 ds)), .second, .val (.int (1 : Int32)), .val (.int (1 : Int32))] [(.int (0 : Int32))]))
          have nb := own_nn b
          have nd := own_nn d
          rw [h_bs] at nb
          rw [h_ds] at nd
          have rb := rng32 bs
          have rd := rng32 ds
          have k1 := own_of_toInt a bs
          have k2 := own_of_toInt c0 ds
          rw [Int.emod_eq_of_lt nb (by omega)] at k1
          rw [Int.emod_eq_of_lt nd (by omega)] at k2
          simp only [Int32.lt_iff_toInt_lt, Int64.lt_iff_toInt_lt, ← Int32.toInt_inj, ← Int64.toInt_inj, k1, k2] at hc82 hc106 hc113 hc128
          omega
      · refine own_go (fun t k => XS.icmpYes X6.here hx rfl (pc0 := 113) (pc' := 120) rfl (hb hby at_113) rfl (feq hc113).2 (by decide) (by decide) k) ?_
        show OwnFin p e below s _ _ _ (T6.setTop (mkF m 120 #[.val (.int a), .val (.int b), .val (.int c0), .val (.int d), .val (.long (own_of a b)), .second, .val (.long (((a.toInt64) * (4294967296 : Int64)) + (own_uns b))), .second, .val (.int bs), .val (.int ds), .val (.long (own_of a bs)), .second, .val (.long (own_of c0 ds)), .second, .val (.int (1 : Int32)), .unset] []))
        refine own_go (fun t k => XS.iconst X6.here hx rfl (hb hby at_120) k) ?_
        show OwnFin p e below s _ _ _ (T6.setTop (mkF m 121 #[.val (.int a), .val (.int b), .val (.int c0), .val (.int d), .val (.long (own_of a b)), .second, .val (.long (((a.toInt64) * (4294967296 : Int64)) + (own_uns b))), .second, .val (.int bs), .val (.int ds), .val (.long (own_of a bs)), .second, .val (.long (own_of c0 ds)), .second, .val (.int (1 : Int32)), .unset] [(.int (0 : Int32))]))
        refine own_go (fun t k => XS.istore X6.here hx rfl (hb hby at_121) rfl (l' := #[.val (.int a), .val (.int b), .val (.int c0), .val (.int d), .val (.long (own_of a b)), .second, .val (.long (((a.toInt64) * (4294967296 : Int64)) + (own_uns b))), .second, .val (.int bs), .val (.int ds), .val (.long (own_of a bs)), .second, .val (.long (own_of c0 ds)), .second, .val (.int (1 : Int32)), .val (.int (0 : Int32))]) rfl k) ?_
        show OwnFin p e below s _ _ _ (T6.setTop (mkF m 123 #[.val (.int a), .val (.int b), .val (.int c0), .val (.int d), .val (.long (own_of a b)), .second, .val (.long (((a.toInt64) * (4294967296 : Int64)) + (own_uns b))), .second, .val (.int bs), .val (.int ds), .val (.long (own_of a bs)), .second, .val (.long (own_of c0 ds)), .second, .val (.int (1 : Int32)), .val (.int (0 : Int32))] []))
        refine own_go (fun t k => XS.lload X6.here hx rfl (hb hby at_123) rfl k) ?_
        show OwnFin p e below s _ _ _ (T6.setTop (mkF m 125 #[.val (.int a), .val (.int b), .val (.int c0), .val (.int d), .val (.long (own_of a b)), .second, .val (.long (((a.toInt64) * (4294967296 : Int64)) + (own_uns b))), .second, .val (.int bs), .val (.int ds), .val (.long (own_of a bs)), .second, .val (.long (own_of c0 ds)), .second, .val (.int (1 : Int32)), .val (.int (0 : Int32))] [(.long (own_of a bs))]))
        refine own_go (fun t k => XS.lload X6.here hx rfl (hb hby at_125) rfl k) ?_
        show OwnFin p e below s _ _ _ (T6.setTop (mkF m 127 #[.val (.int a), .val (.int b), .val (.int c0), .val (.int d), .val (.long (own_of a b)), .second, .val (.long (((a.toInt64) * (4294967296 : Int64)) + (own_uns b))), .second, .val (.int bs), .val (.int ds), .val (.long (own_of a bs)), .second, .val (.long (own_of c0 ds)), .second, .val (.int (1 : Int32)), .val (.int (0 : Int32))] [(.long (own_of c0 ds)), (.long (own_of a bs))]))
        refine own_go (fun t k => XS.lcmp X6.here hx rfl (hb hby at_127) rfl k) ?_
        show OwnFin p e below s _ _ _ (T6.setTop (mkF m 128 #[.val (.int a), .val (.int b), .val (.int c0), .val (.int d), .val (.long (own_of a b)), .second, .val (.long (((a.toInt64) * (4294967296 : Int64)) + (own_uns b))), .second, .val (.int bs), .val (.int ds), .val (.long (own_of a bs)), .second, .val (.long (own_of c0 ds)), .second, .val (.int (1 : Int32)), .val (.int (0 : Int32))] [(.int (lcmpW (own_of a bs) (own_of c0 ds)))]))
        by_cases hc128 : (own_of a bs) < (own_of c0 ds)
        · refine own_go (fun t k => XS.ifNo X6.here hx rfl (hb hby at_128) rfl ((if0 _ _).trans (tlt ((lw_lt (own_of a bs) (own_of c0 ds)).mpr hc128)).2.1) k) ?_
          show OwnFin p e below s _ _ _ (T6.setTop (mkF m 131 #[.val (.int a), .val (.int b), .val (.int c0), .val (.int d), .val (.long (own_of a b)), .second, .val (.long (((a.toInt64) * (4294967296 : Int64)) + (own_uns b))), .second, .val (.int bs), .val (.int ds), .val (.long (own_of a bs)), .second, .val (.long (own_of c0 ds)), .second, .val (.int (1 : Int32)), .val (.int (0 : Int32))] []))
          refine own_go (fun t k => XS.iconst X6.here hx rfl (hb hby at_131) k) ?_
          show OwnFin p e below s _ _ _ (T6.setTop (mkF m 132 #[.val (.int a), .val (.int b), .val (.int c0), .val (.int d), .val (.long (own_of a b)), .second, .val (.long (((a.toInt64) * (4294967296 : Int64)) + (own_uns b))), .second, .val (.int bs), .val (.int ds), .val (.long (own_of a bs)), .second, .val (.long (own_of c0 ds)), .second, .val (.int (1 : Int32)), .val (.int (0 : Int32))] [(.int (1 : Int32))]))
          refine own_go (fun t k => XS.goto X6.here hx rfl (pc0 := 132) (pc' := 136) rfl (hb hby at_132) (by decide) (by decide) k) ?_
          show OwnFin p e below s _ _ _ (T6.setTop (mkF m 136 #[.val (.int a), .val (.int b), .val (.int c0), .val (.int d), .val (.long (own_of a b)), .second, .val (.long (((a.toInt64) * (4294967296 : Int64)) + (own_uns b))), .second, .val (.int bs), .val (.int ds), .val (.long (own_of a bs)), .second, .val (.long (own_of c0 ds)), .second, .val (.int (1 : Int32)), .val (.int (0 : Int32))] [(.int (1 : Int32))]))
          refine own_go (fun t k => XS.iload X6.here hx rfl (hb hby at_136) rfl k) ?_
          show OwnFin p e below s _ _ _ (T6.setTop (mkF m 138 #[.val (.int a), .val (.int b), .val (.int c0), .val (.int d), .val (.long (own_of a b)), .second, .val (.long (((a.toInt64) * (4294967296 : Int64)) + (own_uns b))), .second, .val (.int bs), .val (.int ds), .val (.long (own_of a bs)), .second, .val (.long (own_of c0 ds)), .second, .val (.int (1 : Int32)), .val (.int (0 : Int32))] [(.int (1 : Int32)), (.int (1 : Int32))]))
          refine own_go (fun t k => XS.icmpNo X6.here hx rfl (hb hby at_138) rfl (teq (by decide)).2 k) ?_
          show OwnFin p e below s _ _ _ (T6.setTop (mkF m 141 #[.val (.int a), .val (.int b), .val (.int c0), .val (.int d), .val (.long (own_of a b)), .second, .val (.long (((a.toInt64) * (4294967296 : Int64)) + (own_uns b))), .second, .val (.int bs), .val (.int ds), .val (.long (own_of a bs)), .second, .val (.long (own_of c0 ds)), .second, .val (.int (1 : Int32)), .val (.int (0 : Int32))] []))
          refine own_go (fun t k => XS.lload X6.here hx rfl (hb hby at_141) rfl k) ?_
          show OwnFin p e below s _ _ _ (T6.setTop (mkF m 143 #[.val (.int a), .val (.int b), .val (.int c0), .val (.int d), .val (.long (own_of a b)), .second, .val (.long (((a.toInt64) * (4294967296 : Int64)) + (own_uns b))), .second, .val (.int bs), .val (.int ds), .val (.long (own_of a bs)), .second, .val (.long (own_of c0 ds)), .second, .val (.int (1 : Int32)), .val (.int (0 : Int32))] [(.long (own_of a bs))]))
          refine own_go (fun t k => XS.lload X6.here hx rfl (hb hby at_143) rfl k) ?_
          show OwnFin p e below s _ _ _ (T6.setTop (mkF m 145 #[.val (.int a), .val (.int b), .val (.int c0), .val (.int d), .val (.long (own_of a b)), .second, .val (.long (((a.toInt64) * (4294967296 : Int64)) + (own_uns b))), .second, .val (.int bs), .val (.int ds), .val (.long (own_of a bs)), .second, .val (.long (own_of c0 ds)), .second, .val (.int (1 : Int32)), .val (.int (0 : Int32))] [(.long (own_of c0 ds)), (.long (own_of a bs))]))
          refine own_go (fun t k => XS.lcmp X6.here hx rfl (hb hby at_145) rfl k) ?_
          show OwnFin p e below s _ _ _ (T6.setTop (mkF m 146 #[.val (.int a), .val (.int b), .val (.int c0), .val (.int d), .val (.long (own_of a b)), .second, .val (.long (((a.toInt64) * (4294967296 : Int64)) + (own_uns b))), .second, .val (.int bs), .val (.int ds), .val (.long (own_of a bs)), .second, .val (.long (own_of c0 ds)), .second, .val (.int (1 : Int32)), .val (.int (0 : Int32))] [(.int (lcmpW (own_of a bs) (own_of c0 ds)))]))
          by_cases hc146 : (own_of a bs) = (own_of c0 ds)
          · refine own_go (fun t k => XS.ifNo X6.here hx rfl (hb hby at_146) rfl ((if0 _ _).trans (teq ((lw_eq (own_of a bs) (own_of c0 ds)).mpr hc146)).2) k) ?_
            show OwnFin p e below s _ _ _ (T6.setTop (mkF m 149 #[.val (.int a), .val (.int b), .val (.int c0), .val (.int d), .val (.long (own_of a b)), .second, .val (.long (((a.toInt64) * (4294967296 : Int64)) + (own_uns b))), .second, .val (.int bs), .val (.int ds), .val (.long (own_of a bs)), .second, .val (.long (own_of c0 ds)), .second, .val (.int (1 : Int32)), .val (.int (0 : Int32))] []))
            refine own_go (fun t k => XS.iconst X6.here hx rfl (hb hby at_149) k) ?_
            show OwnFin p e below s _ _ _ (T6.setTop (mkF m 150 #[.val (.int a), .val (.int b), .val (.int c0), .val (.int d), .val (.long (own_of a b)), .second, .val (.long (((a.toInt64) * (4294967296 : Int64)) + (own_uns b))), .second, .val (.int bs), .val (.int ds), .val (.long (own_of a bs)), .second, .val (.long (own_of c0 ds)), .second, .val (.int (1 : Int32)), .val (.int (0 : Int32))] [(.int (1 : Int32))]))
            refine own_go (fun t k => XS.goto X6.here hx rfl (pc0 := 150) (pc' := 154) rfl (hb hby at_150) (by decide) (by decide) k) ?_
            show OwnFin p e below s _ _ _ (T6.setTop (mkF m 154 #[.val (.int a), .val (.int b), .val (.int c0), .val (.int d), .val (.long (own_of a b)), .second, .val (.long (((a.toInt64) * (4294967296 : Int64)) + (own_uns b))), .second, .val (.int bs), .val (.int ds), .val (.long (own_of a bs)), .second, .val (.long (own_of c0 ds)), .second, .val (.int (1 : Int32)), .val (.int (0 : Int32))] [(.int (1 : Int32))]))
            refine own_go (fun t k => XS.iload X6.here hx rfl (hb hby at_154) rfl k) ?_
            show OwnFin p e below s _ _ _ (T6.setTop (mkF m 156 #[.val (.int a), .val (.int b), .val (.int c0), .val (.int d), .val (.long (own_of a b)), .second, .val (.long (((a.toInt64) * (4294967296 : Int64)) + (own_uns b))), .second, .val (.int bs), .val (.int ds), .val (.long (own_of a bs)), .second, .val (.long (own_of c0 ds)), .second, .val (.int (1 : Int32)), .val (.int (0 : Int32))] [(.int (0 : Int32)), (.int (1 : Int32))]))
            refine own_go (fun t k => XS.icmpYes X6.here hx rfl (pc0 := 156) (pc' := 163) rfl (hb hby at_156) rfl (feq (by decide)).2 (by decide) (by decide) k) ?_
            show OwnFin p e below s _ _ _ (T6.setTop (mkF m 163 #[.val (.int a), .val (.int b), .val (.int c0), .val (.int d), .val (.long (own_of a b)), .second, .val (.long (((a.toInt64) * (4294967296 : Int64)) + (own_uns b))), .second, .val (.int bs), .val (.int ds), .val (.long (own_of a bs)), .second, .val (.long (own_of c0 ds)), .second, .val (.int (1 : Int32)), .val (.int (0 : Int32))] []))
            refine own_go (fun t k => XS.iconst X6.here hx rfl (hb hby at_163) k) ?_
            show OwnFin p e below s _ _ _ (T6.setTop (mkF m 164 #[.val (.int a), .val (.int b), .val (.int c0), .val (.int d), .val (.long (own_of a b)), .second, .val (.long (((a.toInt64) * (4294967296 : Int64)) + (own_uns b))), .second, .val (.int bs), .val (.int ds), .val (.long (own_of a bs)), .second, .val (.long (own_of c0 ds)), .second, .val (.int (1 : Int32)), .val (.int (0 : Int32))] [(.int (0 : Int32))]))
            have nb := own_nn b
            have nd := own_nn d
            rw [h_bs] at nb
            rw [h_ds] at nd
            have rb := rng32 bs
            have rd := rng32 ds
            have k1 := own_of_toInt a bs
            have k2 := own_of_toInt c0 ds
            rw [Int.emod_eq_of_lt nb (by omega)] at k1
            rw [Int.emod_eq_of_lt nd (by omega)] at k2
            simp only [Int32.lt_iff_toInt_lt, Int64.lt_iff_toInt_lt, ← Int32.toInt_inj, ← Int64.toInt_inj, k1, k2] at hc82 hc106 hc113 hc128 hc146
            omega
          · refine own_go (fun t k => XS.ifYes X6.here hx rfl (pc0 := 146) (pc' := 153) rfl (hb hby at_146) rfl ((if0 _ _).trans (feq (mt (lw_eq (own_of a bs) (own_of c0 ds)).mp hc146)).2) (by decide) (by decide) k) ?_
            show OwnFin p e below s _ _ _ (T6.setTop (mkF m 153 #[.val (.int a), .val (.int b), .val (.int c0), .val (.int d), .val (.long (own_of a b)), .second, .val (.long (((a.toInt64) * (4294967296 : Int64)) + (own_uns b))), .second, .val (.int bs), .val (.int ds), .val (.long (own_of a bs)), .second, .val (.long (own_of c0 ds)), .second, .val (.int (1 : Int32)), .val (.int (0 : Int32))] []))
            refine own_go (fun t k => XS.iconst X6.here hx rfl (hb hby at_153) k) ?_
            show OwnFin p e below s _ _ _ (T6.setTop (mkF m 154 #[.val (.int a), .val (.int b), .val (.int c0), .val (.int d), .val (.long (own_of a b)), .second, .val (.long (((a.toInt64) * (4294967296 : Int64)) + (own_uns b))), .second, .val (.int bs), .val (.int ds), .val (.long (own_of a bs)), .second, .val (.long (own_of c0 ds)), .second, .val (.int (1 : Int32)), .val (.int (0 : Int32))] [(.int (0 : Int32))]))
            refine own_go (fun t k => XS.iload X6.here hx rfl (hb hby at_154) rfl k) ?_
            show OwnFin p e below s _ _ _ (T6.setTop (mkF m 156 #[.val (.int a), .val (.int b), .val (.int c0), .val (.int d), .val (.long (own_of a b)), .second, .val (.long (((a.toInt64) * (4294967296 : Int64)) + (own_uns b))), .second, .val (.int bs), .val (.int ds), .val (.long (own_of a bs)), .second, .val (.long (own_of c0 ds)), .second, .val (.int (1 : Int32)), .val (.int (0 : Int32))] [(.int (0 : Int32)), (.int (0 : Int32))]))
            refine own_go (fun t k => XS.icmpNo X6.here hx rfl (hb hby at_156) rfl (teq (by decide)).2 k) ?_
            show OwnFin p e below s _ _ _ (T6.setTop (mkF m 159 #[.val (.int a), .val (.int b), .val (.int c0), .val (.int d), .val (.long (own_of a b)), .second, .val (.long (((a.toInt64) * (4294967296 : Int64)) + (own_uns b))), .second, .val (.int bs), .val (.int ds), .val (.long (own_of a bs)), .second, .val (.long (own_of c0 ds)), .second, .val (.int (1 : Int32)), .val (.int (0 : Int32))] []))
            refine own_go (fun t k => XS.iconst X6.here hx rfl (hb hby at_159) k) ?_
            show OwnFin p e below s _ _ _ (T6.setTop (mkF m 160 #[.val (.int a), .val (.int b), .val (.int c0), .val (.int d), .val (.long (own_of a b)), .second, .val (.long (((a.toInt64) * (4294967296 : Int64)) + (own_uns b))), .second, .val (.int bs), .val (.int ds), .val (.long (own_of a bs)), .second, .val (.long (own_of c0 ds)), .second, .val (.int (1 : Int32)), .val (.int (0 : Int32))] [(.int (1 : Int32))]))
            refine own_go (fun t k => XS.goto X6.here hx rfl (pc0 := 160) (pc' := 164) rfl (hb hby at_160) (by decide) (by decide) k) ?_
            show OwnFin p e below s _ _ _ (T6.setTop (mkF m 164 #[.val (.int a), .val (.int b), .val (.int c0), .val (.int d), .val (.long (own_of a b)), .second, .val (.long (((a.toInt64) * (4294967296 : Int64)) + (own_uns b))), .second, .val (.int bs), .val (.int ds), .val (.long (own_of a bs)), .second, .val (.long (own_of c0 ds)), .second, .val (.int (1 : Int32)), .val (.int (0 : Int32))] [(.int (1 : Int32))]))
            refine own_ret X6 (v := some (.int (1 : Int32))) hlk (fun hh => by rw [hret] at hh; cases hh) (fun fs hr => retN X6 hx (t := .boolean) hret (by simp) (hb hby at_164) hr) (by decide) (by decide) ?_
            exact ⟨rfl, N6⟩
        · refine own_go (fun t k => XS.ifYes X6.here hx rfl (pc0 := 128) (pc' := 135) rfl (hb hby at_128) rfl ((if0 _ _).trans (flt (mt (lw_lt (own_of a bs) (own_of c0 ds)).mp hc128)).2.1) (by decide) (by decide) k) ?_
          show OwnFin p e below s _ _ _ (T6.setTop (mkF m 135 #[.val (.int a), .val (.int b), .val (.int c0), .val (.int d), .val (.long (own_of a b)), .second, .val (.long (((a.toInt64) * (4294967296 : Int64)) + (own_uns b))), .second, .val (.int bs), .val (.int ds), .val (.long (own_of a bs)), .second, .val (.long (own_of c0 ds)), .second, .val (.int (1 : Int32)), .val (.int (0 : Int32))] []))
          refine own_go (fun t k => XS.iconst X6.here hx rfl (hb hby at_135) k) ?_
          show OwnFin p e below s _ _ _ (T6.setTop (mkF m 136 #[.val (.int a), .val (.int b), .val (.int c0), .val (.int d), .val (.long (own_of a b)), .second, .val (.long (((a.toInt64) * (4294967296 : Int64)) + (own_uns b))), .second, .val (.int bs), .val (.int ds), .val (.long (own_of a bs)), .second, .val (.long (own_of c0 ds)), .second, .val (.int (1 : Int32)), .val (.int (0 : Int32))] [(.int (0 : Int32))]))
          refine own_go (fun t k => XS.iload X6.here hx rfl (hb hby at_136) rfl k) ?_
          show OwnFin p e below s _ _ _ (T6.setTop (mkF m 138 #[.val (.int a), .val (.int b), .val (.int c0), .val (.int d), .val (.long (own_of a b)), .second, .val (.long (((a.toInt64) * (4294967296 : Int64)) + (own_uns b))), .second, .val (.int bs), .val (.int ds), .val (.long (own_of a bs)), .second, .val (.long (own_of c0 ds)), .second, .val (.int (1 : Int32)), .val (.int (0 : Int32))] [(.int (1 : Int32)), (.int (0 : Int32))]))
          refine own_go (fun t k => XS.icmpYes X6.here hx rfl (pc0 := 138) (pc' := 163) rfl (hb hby at_138) rfl (feq (by decide)).2 (by decide) (by decide) k) ?_
          show OwnFin p e below s _ _ _ (T6.setTop (mkF m 163 #[.val (.int a), .val (.int b), .val (.int c0), .val (.int d), .val (.long (own_of a b)), .second, .val (.long (((a.toInt64) * (4294967296 : Int64)) + (own_uns b))), .second, .val (.int bs), .val (.int ds), .val (.long (own_of a bs)), .second, .val (.long (own_of c0 ds)), .second, .val (.int (1 : Int32)), .val (.int (0 : Int32))] []))
          refine own_go (fun t k => XS.iconst X6.here hx rfl (hb hby at_163) k) ?_
          show OwnFin p e below s _ _ _ (T6.setTop (mkF m 164 #[.val (.int a), .val (.int b), .val (.int c0), .val (.int d), .val (.long (own_of a b)), .second, .val (.long (((a.toInt64) * (4294967296 : Int64)) + (own_uns b))), .second, .val (.int bs), .val (.int ds), .val (.long (own_of a bs)), .second, .val (.long (own_of c0 ds)), .second, .val (.int (1 : Int32)), .val (.int (0 : Int32))] [(.int (0 : Int32))]))
          have nb := own_nn b
          have nd := own_nn d
          rw [h_bs] at nb
          rw [h_ds] at nd
          have rb := rng32 bs
          have rd := rng32 ds
          have k1 := own_of_toInt a bs
          have k2 := own_of_toInt c0 ds
          rw [Int.emod_eq_of_lt nb (by omega)] at k1
          rw [Int.emod_eq_of_lt nd (by omega)] at k2
          simp only [Int32.lt_iff_toInt_lt, Int64.lt_iff_toInt_lt, ← Int32.toInt_inj, ← Int64.toInt_inj, k1, k2] at hc82 hc106 hc113 hc128
          omega
    · refine own_go (fun t k => XS.icmpYes X6.here hx rfl (pc0 := 106) (pc' := 120) rfl (hb hby at_106) rfl (feq hc106).2 (by decide) (by decide) k) ?_
      show OwnFin p e below s _ _ _ (T6.setTop (mkF m 120 #[.val (.int a), .val (.int b), .val (.int c0), .val (.int d), .val (.long (own_of a b)), .second, .val (.long (((a.toInt64) * (4294967296 : Int64)) + (own_uns b))), .second, .val (.int bs), .val (.int ds), .val (.long (own_of a bs)), .second, .val (.long (own_of c0 ds)), .second, .val (.int (1 : Int32)), .unset] []))
      refine own_go (fun t k => XS.iconst X6.here hx rfl (hb hby at_120) k) ?_
      show OwnFin p e below s _ _ _ (T6.setTop (mkF m 121 #[.val (.int a), .val (.int b), .val (.int c0), .val (.int d), .val (.long (own_of a b)), .second, .val (.long (((a.toInt64) * (4294967296 : Int64)) + (own_uns b))), .second, .val (.int bs), .val (.int ds), .val (.long (own_of a bs)), .second, .val (.long (own_of c0 ds)), .second, .val (.int (1 : Int32)), .unset] [(.int (0 : Int32))]))
      refine own_go (fun t k => XS.istore X6.here hx rfl (hb hby at_121) rfl (l' := #[.val (.int a), .val (.int b), .val (.int c0), .val (.int d), .val (.long (own_of a b)), .second, .val (.long (((a.toInt64) * (4294967296 : Int64)) + (own_uns b))), .second, .val (.int bs), .val (.int ds), .val (.long (own_of a bs)), .second, .val (.long (own_of c0 ds)), .second, .val (.int (1 : Int32)), .val (.int (0 : Int32))]) rfl k) ?_
      show OwnFin p e below s _ _ _ (T6.setTop (mkF m 123 #[.val (.int a), .val (.int b), .val (.int c0), .val (.int d), .val (.long (own_of a b)), .second, .val (.long (((a.toInt64) * (4294967296 : Int64)) + (own_uns b))), .second, .val (.int bs), .val (.int ds), .val (.long (own_of a bs)), .second, .val (.long (own_of c0 ds)), .second, .val (.int (1 : Int32)), .val (.int (0 : Int32))] []))
      refine own_go (fun t k => XS.lload X6.here hx rfl (hb hby at_123) rfl k) ?_
      show OwnFin p e below s _ _ _ (T6.setTop (mkF m 125 #[.val (.int a), .val (.int b), .val (.int c0), .val (.int d), .val (.long (own_of a b)), .second, .val (.long (((a.toInt64) * (4294967296 : Int64)) + (own_uns b))), .second, .val (.int bs), .val (.int ds), .val (.long (own_of a bs)), .second, .val (.long (own_of c0 ds)), .second, .val (.int (1 : Int32)), .val (.int (0 : Int32))] [(.long (own_of a bs))]))
      refine own_go (fun t k => XS.lload X6.here hx rfl (hb hby at_125) rfl k) ?_
      show OwnFin p e below s _ _ _ (T6.setTop (mkF m 127 #[.val (.int a), .val (.int b), .val (.int c0), .val (.int d), .val (.long (own_of a b)), .second, .val (.long (((a.toInt64) * (4294967296 : Int64)) + (own_uns b))), .second, .val (.int bs), .val (.int ds), .val (.long (own_of a bs)), .second, .val (.long (own_of c0 ds)), .second, .val (.int (1 : Int32)), .val (.int (0 : Int32))] [(.long (own_of c0 ds)), (.long (own_of a bs))]))
      refine own_go (fun t k => XS.lcmp X6.here hx rfl (hb hby at_127) rfl k) ?_
      show OwnFin p e below s _ _ _ (T6.setTop (mkF m 128 #[.val (.int a), .val (.int b), .val (.int c0), .val (.int d), .val (.long (own_of a b)), .second, .val (.long (((a.toInt64) * (4294967296 : Int64)) + (own_uns b))), .second, .val (.int bs), .val (.int ds), .val (.long (own_of a bs)), .second, .val (.long (own_of c0 ds)), .second, .val (.int (1 : Int32)), .val (.int (0 : Int32))] [(.int (lcmpW (own_of a bs) (own_of c0 ds)))]))
      by_cases hc128 : (own_of a bs) < (own_of c0 ds)
      · refine own_go (fun t k => XS.ifNo X6.here hx rfl (hb hby at_128) rfl ((if0 _ _).trans (tlt ((lw_lt (own_of a bs) (own_of c0 ds)).mpr hc128)).2.1) k) ?_
        show OwnFin p e below s _ _ _ (T6.setTop (mkF m 131 #[.val (.int a), .val (.int b), .val (.int c0), .val (.int d), .val (.long (own_of a b)), .second, .val (.long (((a.toInt64) * (4294967296 : Int64)) + (own_uns b))), .second, .val (.int bs), .val (.int ds), .val (.long (own_of a bs)), .second, .val (.long (own_of c0 ds)), .second, .val (.int (1 : Int32)), .val (.int (0 : Int32))] []))
        refine own_go (fun t k => XS.iconst X6.here hx rfl (hb hby at_131) k) ?_
        show OwnFin p e below s _ _ _ (T6.setTop (mkF m 132 #[.val (.int a), .val (.int b), .val (.int c0), .val (.int d), .val (.long (own_of a b)), .second, .val (.long (((a.toInt64) * (4294967296 : Int64)) + (own_uns b))), .second, .val (.int bs), .val (.int ds), .val (.long (own_of a bs)), .second, .val (.long (own_of c0 ds)), .second, .val (.int (1 : Int32)), .val (.int (0 : Int32))] [(.int (1 : Int32))]))
        refine own_go (fun t k => XS.goto X6.here hx rfl (pc0 := 132) (pc' := 136) rfl (hb hby at_132) (by decide) (by decide) k) ?_
        show OwnFin p e below s _ _ _ (T6.setTop (mkF m 136 #[.val (.int a), .val (.int b), .val (.int c0), .val (.int d), .val (.long (own_of a b)), .second, .val (.long (((a.toInt64) * (4294967296 : Int64)) + (own_uns b))), .second, .val (.int bs), .val (.int ds), .val (.long (own_of a bs)), .second, .val (.long (own_of c0 ds)), .second, .val (.int (1 : Int32)), .val (.int (0 : Int32))] [(.int (1 : Int32))]))
        refine own_go (fun t k => XS.iload X6.here hx rfl (hb hby at_136) rfl k) ?_
        show OwnFin p e below s _ _ _ (T6.setTop (mkF m 138 #[.val (.int a), .val (.int b), .val (.int c0), .val (.int d), .val (.long (own_of a b)), .second, .val (.long (((a.toInt64) * (4294967296 : Int64)) + (own_uns b))), .second, .val (.int bs), .val (.int ds), .val (.long (own_of a bs)), .second, .val (.long (own_of c0 ds)), .second, .val (.int (1 : Int32)), .val (.int (0 : Int32))] [(.int (1 : Int32)), (.int (1 : Int32))]))
        refine own_go (fun t k => XS.icmpNo X6.here hx rfl (hb hby at_138) rfl (teq (by decide)).2 k) ?_
        show OwnFin p e below s _ _ _ (T6.setTop (mkF m 141 #[.val (.int a), .val (.int b), .val (.int c0), .val (.int d), .val (.long (own_of a b)), .second, .val (.long (((a.toInt64) * (4294967296 : Int64)) + (own_uns b))), .second, .val (.int bs), .val (.int ds), .val (.long (own_of a bs)), .second, .val (.long (own_of c0 ds)), .second, .val (.int (1 : Int32)), .val (.int (0 : Int32))] []))
        refine own_go (fun t k => XS.lload X6.here hx rfl (hb hby at_141) rfl k) ?_
        show OwnFin p e below s _ _ _ (T6.setTop (mkF m 143 #[.val (.int a), .val (.int b), .val (.int c0), .val (.int d), .val (.long (own_of a b)), .second, .val (.long (((a.toInt64) * (4294967296 : Int64)) + (own_uns b))), .second, .val (.int bs), .val (.int ds), .val (.long (own_of a bs)), .second, .val (.long (own_of c0 ds)), .second, .val (.int (1 : Int32)), .val (.int (0 : Int32))] [(.long (own_of a bs))]))
        refine own_go (fun t k => XS.lload X6.here hx rfl (hb hby at_143) rfl k) ?_
        show OwnFin p e below s _ _ _ (T6.setTop (mkF m 145 #[.val (.int a), .val (.int b), .val (.int c0), .val (.int d), .val (.long (own_of a b)), .second, .val (.long (((a.toInt64) * (4294967296 : Int64)) + (own_uns b))), .second, .val (.int bs), .val (.int ds), .val (.long (own_of a bs)), .second, .val (.long (own_of c0 ds)), .second, .val (.int (1 : Int32)), .val (.int (0 : Int32))] [(.long (own_of c0 ds)), (.long (own_of a bs))]))
        refine own_go (fun t k => XS.lcmp X6.here hx rfl (hb hby at_145) rfl k) ?_
        show OwnFin p e below s _ _ _ (T6.setTop (mkF m 146 #[.val (.int a), .val (.int b), .val (.int c0), .val (.int d), .val (.long (own_of a b)), .second, .val (.long (((a.toInt64) * (4294967296 : Int64)) + (own_uns b))), .second, .val (.int bs), .val (.int ds), .val (.long (own_of a bs)), .second, .val (.long (own_of c0 ds)), .second, .val (.int (1 : Int32)), .val (.int (0 : Int32))] [(.int (lcmpW (own_of a bs) (own_of c0 ds)))]))
        by_cases hc146 : (own_of a bs) = (own_of c0 ds)
        · refine own_go (fun t k => XS.ifNo X6.here hx rfl (hb hby at_146) rfl ((if0 _ _).trans (teq ((lw_eq (own_of a bs) (own_of c0 ds)).mpr hc146)).2) k) ?_
          show OwnFin p e below s _ _ _ (T6.setTop (mkF m 149 #[.val (.int a), .val (.int b), .val (.int c0), .val (.int d), .val (.long (own_of a b)), .second, .val (.long (((a.toInt64) * (4294967296 : Int64)) + (own_uns b))), .second, .val (.int bs), .val (.int ds), .val (.long (own_of a bs)), .second, .val (.long (own_of c0 ds)), .second, .val (.int (1 : Int32)), .val (.int (0 : Int32))] []))
          refine own_go (fun t k => XS.iconst X6.here hx rfl (hb hby at_149) k) ?_
          show OwnFin p e below s _ _ _ (T6.setTop (mkF m 150 #[.val (.int a), .val (.int b), .val (.int c0), .val (.int d), .val (.long (own_of a b)), .second, .val (.long (((a.toInt64) * (4294967296 : Int64)) + (own_uns b))), .second, .val (.int bs), .val (.int ds), .val (.long (own_of a bs)), .second, .val (.long (own_of c0 ds)), .second, .val (.int (1 : Int32)), .val (.int (0 : Int32))] [(.int (1 : Int32))]))
          refine own_go (fun t k => XS.goto X6.here hx rfl (pc0 := 150) (pc' := 154) rfl (hb hby at_150) (by decide) (by decide) k) ?_
          show OwnFin p e below s _ _ _ (T6.setTop (mkF m 154 #[.val (.int a), .val (.int b), .val (.int c0), .val (.int d), .val (.long (own_of a b)), .second, .val (.long (((a.toInt64) * (4294967296 : Int64)) + (own_uns b))), .second, .val (.int bs), .val (.int ds), .val (.long (own_of a bs)), .second, .val (.long (own_of c0 ds)), .second, .val (.int (1 : Int32)), .val (.int (0 : Int32))] [(.int (1 : Int32))]))
          refine own_go (fun t k => XS.iload X6.here hx rfl (hb hby at_154) rfl k) ?_
          show OwnFin p e below s _ _ _ (T6.setTop (mkF m 156 #[.val (.int a), .val (.int b), .val (.int c0), .val (.int d), .val (.long (own_of a b)), .second, .val (.long (((a.toInt64) * (4294967296 : Int64)) + (own_uns b))), .second, .val (.int bs), .val (.int ds), .val (.long (own_of a bs)), .second, .val (.long (own_of c0 ds)), .second, .val (.int (1 : Int32)), .val (.int (0 : Int32))] [(.int (0 : Int32)), (.int (1 : Int32))]))
          refine own_go (fun t k => XS.icmpYes X6.here hx rfl (pc0 := 156) (pc' := 163) rfl (hb hby at_156) rfl (feq (by decide)).2 (by decide) (by decide) k) ?_
          show OwnFin p e below s _ _ _ (T6.setTop (mkF m 163 #[.val (.int a), .val (.int b), .val (.int c0), .val (.int d), .val (.long (own_of a b)), .second, .val (.long (((a.toInt64) * (4294967296 : Int64)) + (own_uns b))), .second, .val (.int bs), .val (.int ds), .val (.long (own_of a bs)), .second, .val (.long (own_of c0 ds)), .second, .val (.int (1 : Int32)), .val (.int (0 : Int32))] []))
          refine own_go (fun t k => XS.iconst X6.here hx rfl (hb hby at_163) k) ?_
          show OwnFin p e below s _ _ _ (T6.setTop (mkF m 164 #[.val (.int a), .val (.int b), .val (.int c0), .val (.int d), .val (.long (own_of a b)), .second, .val (.long (((a.toInt64) * (4294967296 : Int64)) + (own_uns b))), .second, .val (.int bs), .val (.int ds), .val (.long (own_of a bs)), .second, .val (.long (own_of c0 ds)), .second, .val (.int (1 : Int32)), .val (.int (0 : Int32))] [(.int (0 : Int32))]))
          have nb := own_nn b
          have nd := own_nn d
          rw [h_bs] at nb
          rw [h_ds] at nd
          have rb := rng32 bs
          have rd := rng32 ds
          have k1 := own_of_toInt a bs
          have k2 := own_of_toInt c0 ds
          rw [Int.emod_eq_of_lt nb (by omega)] at k1
          rw [Int.emod_eq_of_lt nd (by omega)] at k2
          simp only [Int32.lt_iff_toInt_lt, Int64.lt_iff_toInt_lt, ← Int32.toInt_inj, ← Int64.toInt_inj, k1, k2] at hc82 hc106 hc128 hc146
          omega
        · refine own_go (fun t k => XS.ifYes X6.here hx rfl (pc0 := 146) (pc' := 153) rfl (hb hby at_146) rfl ((if0 _ _).trans (feq (mt (lw_eq (own_of a bs) (own_of c0 ds)).mp hc146)).2) (by decide) (by decide) k) ?_
          show OwnFin p e below s _ _ _ (T6.setTop (mkF m 153 #[.val (.int a), .val (.int b), .val (.int c0), .val (.int d), .val (.long (own_of a b)), .second, .val (.long (((a.toInt64) * (4294967296 : Int64)) + (own_uns b))), .second, .val (.int bs), .val (.int ds), .val (.long (own_of a bs)), .second, .val (.long (own_of c0 ds)), .second, .val (.int (1 : Int32)), .val (.int (0 : Int32))] []))
          refine own_go (fun t k => XS.iconst X6.here hx rfl (hb hby at_153) k) ?_
          show OwnFin p e below s _ _ _ (T6.setTop (mkF m 154 #[.val (.int a), .val (.int b), .val (.int c0), .val (.int d), .val (.long (own_of a b)), .second, .val (.long (((a.toInt64) * (4294967296 : Int64)) + (own_uns b))), .second, .val (.int bs), .val (.int ds), .val (.long (own_of a bs)), .second, .val (.long (own_of c0 ds)), .second, .val (.int (1 : Int32)), .val (.int (0 : Int32))] [(.int (0 : Int32))]))
          refine own_go (fun t k => XS.iload X6.here hx rfl (hb hby at_154) rfl k) ?_
          show OwnFin p e below s _ _ _ (T6.setTop (mkF m 156 #[.val (.int a), .val (.int b), .val (.int c0), .val (.int d), .val (.long (own_of a b)), .second, .val (.long (((a.toInt64) * (4294967296 : Int64)) + (own_uns b))), .second, .val (.int bs), .val (.int ds), .val (.long (own_of a bs)), .second, .val (.long (own_of c0 ds)), .second, .val (.int (1 : Int32)), .val (.int (0 : Int32))] [(.int (0 : Int32)), (.int (0 : Int32))]))
          refine own_go (fun t k => XS.icmpNo X6.here hx rfl (hb hby at_156) rfl (teq (by decide)).2 k) ?_
          show OwnFin p e below s _ _ _ (T6.setTop (mkF m 159 #[.val (.int a), .val (.int b), .val (.int c0), .val (.int d), .val (.long (own_of a b)), .second, .val (.long (((a.toInt64) * (4294967296 : Int64)) + (own_uns b))), .second, .val (.int bs), .val (.int ds), .val (.long (own_of a bs)), .second, .val (.long (own_of c0 ds)), .second, .val (.int (1 : Int32)), .val (.int (0 : Int32))] []))
          refine own_go (fun t k => XS.iconst X6.here hx rfl (hb hby at_159) k) ?_
          show OwnFin p e below s _ _ _ (T6.setTop (mkF m 160 #[.val (.int a), .val (.int b), .val (.int c0), .val (.int d), .val (.long (own_of a b)), .second, .val (.long (((a.toInt64) * (4294967296 : Int64)) + (own_uns b))), .second, .val (.int bs), .val (.int ds), .val (.long (own_of a bs)), .second, .val (.long (own_of c0 ds)), .second, .val (.int (1 : Int32)), .val (.int (0 : Int32))] [(.int (1 : Int32))]))
          refine own_go (fun t k => XS.goto X6.here hx rfl (pc0 := 160) (pc' := 164) rfl (hb hby at_160) (by decide) (by decide) k) ?_
          show OwnFin p e below s _ _ _ (T6.setTop (mkF m 164 #[.val (.int a), .val (.int b), .val (.int c0), .val (.int d), .val (.long (own_of a b)), .second, .val (.long (((a.toInt64) * (4294967296 : Int64)) + (own_uns b))), .second, .val (.int bs), .val (.int ds), .val (.long (own_of a bs)), .second, .val (.long (own_of c0 ds)), .second, .val (.int (1 : Int32)), .val (.int (0 : Int32))] [(.int (1 : Int32))]))
          refine own_ret X6 (v := some (.int (1 : Int32))) hlk (fun hh => by rw [hret] at hh; cases hh) (fun fs hr => retN X6 hx (t := .boolean) hret (by simp) (hb hby at_164) hr) (by decide) (by decide) ?_
          exact ⟨rfl, N6⟩
      · refine own_go (fun t k => XS.ifYes X6.here hx rfl (pc0 := 128) (pc' := 135) rfl (hb hby at_128) rfl ((if0 _ _).trans (flt (mt (lw_lt (own_of a bs) (own_of c0 ds)).mp hc128)).2.1) (by decide) (by decide) k) ?_
        show OwnFin p e below s _ _ _ (T6.setTop (mkF m 135 #[.val (.int a), .val (.int b), .val (.int c0), .val (.int d), .val (.long (own_of a b)), .second, .val (.long (((a.toInt64) * (4294967296 : Int64)) + (own_uns b))), .second, .val (.int bs), .val (.int ds), .val (.long (own_of a bs)), .second, .val (.long (own_of c0 ds)), .second, .val (.int (1 : Int32)), .val (.int (0 : Int32))] []))
        refine own_go (fun t k => XS.iconst X6.here hx rfl (hb hby at_135) k) ?_
        show OwnFin p e below s _ _ _ (T6.setTop (mkF m 136 #[.val (.int a), .val (.int b), .val (.int c0), .val (.int d), .val (.long (own_of a b)), .second, .val (.long (((a.toInt64) * (4294967296 : Int64)) + (own_uns b))), .second, .val (.int bs), .val (.int ds), .val (.long (own_of a bs)), .second, .val (.long (own_of c0 ds)), .second, .val (.int (1 : Int32)), .val (.int (0 : Int32))] [(.int (0 : Int32))]))
        refine own_go (fun t k => XS.iload X6.here hx rfl (hb hby at_136) rfl k) ?_
        show OwnFin p e below s _ _ _ (T6.setTop (mkF m 138 #[.val (.int a), .val (.int b), .val (.int c0), .val (.int d), .val (.long (own_of a b)), .second, .val (.long (((a.toInt64) * (4294967296 : Int64)) + (own_uns b))), .second, .val (.int bs), .val (.int ds), .val (.long (own_of a bs)), .second, .val (.long (own_of c0 ds)), .second, .val (.int (1 : Int32)), .val (.int (0 : Int32))] [(.int (1 : Int32)), (.int (0 : Int32))]))
        refine own_go (fun t k => XS.icmpYes X6.here hx rfl (pc0 := 138) (pc' := 163) rfl (hb hby at_138) rfl (feq (by decide)).2 (by decide) (by decide) k) ?_
        show OwnFin p e below s _ _ _ (T6.setTop (mkF m 163 #[.val (.int a), .val (.int b), .val (.int c0), .val (.int d), .val (.long (own_of a b)), .second, .val (.long (((a.toInt64) * (4294967296 : Int64)) + (own_uns b))), .second, .val (.int bs), .val (.int ds), .val (.long (own_of a bs)), .second, .val (.long (own_of c0 ds)), .second, .val (.int (1 : Int32)), .val (.int (0 : Int32))] []))
        refine own_go (fun t k => XS.iconst X6.here hx rfl (hb hby at_163) k) ?_
        show OwnFin p e below s _ _ _ (T6.setTop (mkF m 164 #[.val (.int a), .val (.int b), .val (.int c0), .val (.int d), .val (.long (own_of a b)), .second, .val (.long (((a.toInt64) * (4294967296 : Int64)) + (own_uns b))), .second, .val (.int bs), .val (.int ds), .val (.long (own_of a bs)), .second, .val (.long (own_of c0 ds)), .second, .val (.int (1 : Int32)), .val (.int (0 : Int32))] [(.int (0 : Int32))]))
        have nb := own_nn b
        have nd := own_nn d
        rw [h_bs] at nb
        rw [h_ds] at nd
        have rb := rng32 bs
        have rd := rng32 ds
        have k1 := own_of_toInt a bs
        have k2 := own_of_toInt c0 ds
        rw [Int.emod_eq_of_lt nb (by omega)] at k1
        rw [Int.emod_eq_of_lt nd (by omega)] at k2
        simp only [Int32.lt_iff_toInt_lt, Int64.lt_iff_toInt_lt, ← Int32.toInt_inj, ← Int64.toInt_inj, k1, k2] at hc82 hc106 hc128
        omega
  · refine own_go (fun t k => XS.icmpNo X6.here hx rfl (hb hby at_82) rfl (flt hc82).1 k) ?_
    show OwnFin p e below s _ _ _ (T6.setTop (mkF m 85 #[.val (.int a), .val (.int b), .val (.int c0), .val (.int d), .val (.long (own_of a b)), .second, .val (.long (((a.toInt64) * (4294967296 : Int64)) + (own_uns b))), .second, .val (.int bs), .val (.int ds), .val (.long (own_of a bs)), .second, .val (.long (own_of c0 ds)), .second, .unset, .unset] []))
    refine own_go (fun t k => XS.iloadN X6.here hx rfl (hb hby at_85) rfl k) ?_
    show OwnFin p e below s _ _ _ (T6.setTop (mkF m 86 #[.val (.int a), .val (.int b), .val (.int c0), .val (.int d), .val (.long (own_of a b)), .second, .val (.long (((a.toInt64) * (4294967296 : Int64)) + (own_uns b))), .second, .val (.int bs), .val (.int ds), .val (.long (own_of a bs)), .second, .val (.long (own_of c0 ds)), .second, .unset, .unset] [(.int a)]))
    refine own_go (fun t k => XS.iloadN X6.here hx rfl (hb hby at_86) rfl k) ?_
    show OwnFin p e below s _ _ _ (T6.setTop (mkF m 87 #[.val (.int a), .val (.int b), .val (.int c0), .val (.int d), .val (.long (own_of a b)), .second, .val (.long (((a.toInt64) * (4294967296 : Int64)) + (own_uns b))), .second, .val (.int bs), .val (.int ds), .val (.long (own_of a bs)), .second, .val (.long (own_of c0 ds)), .second, .unset, .unset] [(.int c0), (.int a)]))
    by_cases hc87 : a = c0
    · refine own_go (fun t k => XS.icmpNo X6.here hx rfl (hb hby at_87) rfl (teq hc87).2 k) ?_
      show OwnFin p e below s _ _ _ (T6.setTop (mkF m 90 #[.val (.int a), .val (.int b), .val (.int c0), .val (.int d), .val (.long (own_of a b)), .second, .val (.long (((a.toInt64) * (4294967296 : Int64)) + (own_uns b))), .second, .val (.int bs), .val (.int ds), .val (.long (own_of a bs)), .second, .val (.long (own_of c0 ds)), .second, .unset, .unset] []))
      refine own_go (fun t k => XS.iload X6.here hx rfl (hb hby at_90) rfl k) ?_
      show OwnFin p e below s _ _ _ (T6.setTop (mkF m 92 #[.val (.int a), .val (.int b), .val (.int c0), .val (.int d), .val (.long (own_of a b)), .second, .val (.long (((a.toInt64) * (4294967296 : Int64)) + (own_uns b))), .second, .val (.int bs), .val (.int ds), .val (.long (own_of a bs)), .second, .val (.long (own_of c0 ds)), .second, .unset, .unset] [(.int bs)]))
      refine own_go (fun t k => XS.iload X6.here hx rfl (hb hby at_92) rfl k) ?_
      show OwnFin p e below s _ _ _ (T6.setTop (mkF m 94 #[.val (.int a), .val (.int b), .val (.int c0), .val (.int d), .val (.long (own_of a b)), .second, .val (.long (((a.toInt64) * (4294967296 : Int64)) + (own_uns b))), .second, .val (.int bs), .val (.int ds), .val (.long (own_of a bs)), .second, .val (.long (own_of c0 ds)), .second, .unset, .unset] [(.int ds), (.int bs)]))
      by_cases hc94 : bs < ds
      · refine own_go (fun t k => XS.icmpNo X6.here hx rfl (hb hby at_94) rfl (tlt hc94).2.1 k) ?_
        show OwnFin p e below s _ _ _ (T6.setTop (mkF m 97 #[.val (.int a), .val (.int b), .val (.int c0), .val (.int d), .val (.long (own_of a b)), .second, .val (.long (((a.toInt64) * (4294967296 : Int64)) + (own_uns b))), .second, .val (.int bs), .val (.int ds), .val (.long (own_of a bs)), .second, .val (.long (own_of c0 ds)), .second, .unset, .unset] []))
        refine own_go (fun t k => XS.iconst X6.here hx rfl (hb hby at_97) k) ?_
        show OwnFin p e below s _ _ _ (T6.setTop (mkF m 98 #[.val (.int a), .val (.int b), .val (.int c0), .val (.int d), .val (.long (own_of a b)), .second, .val (.long (((a.toInt64) * (4294967296 : Int64)) + (own_uns b))), .second, .val (.int bs), .val (.int ds), .val (.long (own_of a bs)), .second, .val (.long (own_of c0 ds)), .second, .unset, .unset] [(.int (1 : Int32))]))
        refine own_go (fun t k => XS.goto X6.here hx rfl (pc0 := 98) (pc' := 102) rfl (hb hby at_98) (by decide) (by decide) k) ?_
        show OwnFin p e below s _ _ _ (T6.setTop (mkF m 102 #[.val (.int a), .val (.int b), .val (.int c0), .val (.int d), .val (.long (own_of a b)), .second, .val (.long (((a.toInt64) * (4294967296 : Int64)) + (own_uns b))), .second, .val (.int bs), .val (.int ds), .val (.long (own_of a bs)), .second, .val (.long (own_of c0 ds)), .second, .unset, .unset] [(.int (1 : Int32))]))
        refine own_go (fun t k => XS.istore X6.here hx rfl (hb hby at_102) rfl (l' := #[.val (.int a), .val (.int b), .val (.int c0), .val (.int d), .val (.long (own_of a b)), .second, .val (.long (((a.toInt64) * (4294967296 : Int64)) + (own_uns b))), .second, .val (.int bs), .val (.int ds), .val (.long (own_of a bs)), .second, .val (.long (own_of c0 ds)), .second, .val (.int (1 : Int32)), .unset]) rfl k) ?_
        show OwnFin p e below s _ _ _ (T6.setTop (mkF m 104 #[.val (.int a), .val (.int b), .val (.int c0), .val (.int d), .val (.long (own_of a b)), .second, .val (.long (((a.toInt64) * (4294967296 : Int64)) + (own_uns b))), .second, .val (.int bs), .val (.int ds), .val (.long (own_of a bs)), .second, .val (.long (own_of c0 ds)), .second, .val (.int (1 : Int32)), .unset] []))
        refine own_go (fun t k => XS.iloadN X6.here hx rfl (hb hby at_104) rfl k) ?_
        show OwnFin p e below s _ _ _ (T6.setTop (mkF m 105 #[.val (.int a), .val (.int b), .val (.int c0), .val (.int d), .val (.long (own_of a b)), .second, .val (.long (((a.toInt64) * (4294967296 : Int64)) + (own_uns b))), .second, .val (.int bs), .val (.int ds), .val (.long (own_of a bs)), .second, .val (.long (own_of c0 ds)), .second, .val (.int (1 : Int32)), .unset] [(.int a)]))
        refine own_go (fun t k => XS.iloadN X6.here hx rfl (hb hby at_105) rfl k) ?_
        show OwnFin p e below s _ _ _ (T6.setTop (mkF m 106 #[.val (.int a), .val (.int b), .val (.int c0), .val (.int d), .val (.long (own_of a b)), .second, .val (.long (((a.toInt64) * (4294967296 : Int64)) + (own_uns b))), .second, .val (.int bs), .val (.int ds), .val (.long (own_of a bs)), .second, .val (.long (own_of c0 ds)), .second, .val (.int (1 : Int32)), .unset] [(.int c0), (.int a)]))
        refine own_go (fun t k => XS.icmpNo X6.here hx rfl (hb hby at_106) rfl (teq hc87).2 k) ?_
        show OwnFin p e below s _ _ _ (T6.setTop (mkF m 109 #[.val (.int a), .val (.int b), .val (.int c0), .val (.int d), .val (.long (own_of a b)), .second, .val (.long (((a.toInt64) * (4294967296 : Int64)) + (own_uns b))), .second, .val (.int bs), .val (.int ds), .val (.long (own_of a bs)), .second, .val (.long (own_of c0 ds)), .second, .val (.int (1 : Int32)), .unset] []))
        refine own_go (fun t k => XS.iload X6.here hx rfl (hb hby at_109) rfl k) ?_
        show OwnFin p e below s _ _ _ (T6.setTop (mkF m 111 #[.val (.int a), .val (.int b), .val (.int c0), .val (.int d), .val (.long (own_of a b)), .second, .val (.long (((a.toInt64) * (4294967296 : Int64)) + (own_uns b))), .second, .val (.int bs), .val (.int ds), .val (.long (own_of a bs)), .second, .val (.long (own_of c0 ds)), .second, .val (.int (1 : Int32)), .unset] [(.int bs)]))
        refine own_go (fun t k => XS.iload X6.here hx rfl (hb hby at_111) rfl k) ?_
        show OwnFin p e below s _ _ _ (T6.setTop (mkF m 113 #[.val (.int a), .val (.int b), .val (.int c0), .val (.int d), .val (.long (own_of a b)), .second, .val (.long (((a.toInt64) * (4294967296 : Int64)) + (own_uns b))), .second, .val (.int bs), .val (.int ds), .val (.long (own_of a bs)), .second, .val (.long (own_of c0 ds)), .second, .val (.int (1 : Int32)), .unset] [(.int ds), (.int bs)]))
        by_cases hc113 : bs = ds
        · refine own_go (fun t k => XS.icmpNo X6.here hx rfl (hb hby at_113) rfl (teq hc113).2 k) ?_
          show OwnFin p e below s _ _ _ (T6.setTop (mkF m 116 #[.val (.int a), .val (.int b), .val (.int c0), .val (.int d), .val (.long (own_of a b)), .second, .val (.long (((a.toInt64) * (4294967296 : Int64)) + (own_uns b))), .second, .val (.int bs), .val (.int ds), .val (.long (own_of a bs)), .second, .val (.long (own_of c0 ds)), .second, .val (.int (1 : Int32)), .unset] []))
          refine own_go (fun t k => XS.iconst X6.here hx rfl (hb hby at_116) k) ?_
          show OwnFin p e below s _ _ _ (T6.setTop (mkF m 117 #[.val (.int a), .val (.int b), .val (.int c0), .val (.int d), .val (.long (own_of a b)), .second, .val (.long (((a.toInt64) * (4294967296 : Int64)) + (own_uns b))), .second, .val (.int bs), .val (.int ds), .val (.long (own_of a bs)), .second, .val (.long (own_of c0 ds)), .second, .val (.int (1 : Int32)), .unset] [(.int (1 : Int32))]))
          refine own_go (fun t k => XS.goto X6.here hx rfl (pc0 := 117) (pc' := 121) rfl (hb hby at_117) (by decide) (by decide) k) ?_
          show OwnFin p e below s _ _ _ (T6.setTop (mkF m 121 #[.val (.int a), .val (.int b), .val (.int c0), .val (.int d), .val (.long (own_of a b)), .second, .val (.long (((a.toInt64) * (4294967296 : Int64)) + (own_uns b))), .second, .val (.int bs), .val (.int ds), .val (.long (own_of a bs)), .second, .val (.long (own_of c0 ds)), .second, .val (.int (1 : Int32)), .unset] [(.int (1 : Int32))]))
          refine own_go (fun t k => XS.istore X6.here hx rfl (hb hby at_121) rfl (l' := #[.val (.int a), .val (.int b), .val (.int c0), .val (.int d), .val (.long (own_of a b)), .second, .val (.long (((a.toInt64) * (4294967296 : Int64)) + (own_uns b))), .second, .val (.int bs), .val (.int ds), .val (.long (own_of a bs)), .second, .val (.long (own_of c0 ds)), .second, .val (.int (1 : Int32)), .val (.int (1 : Int32))]) rfl k) ?_
          show OwnFin p e below s _ _ _ (T6.setTop (mkF m 123 #[.val (.int a), .val (.int b), .val (.int c0), .val (.int d), .val (.long (own_of a b)), .second, .val (.long (((a.toInt64) * (4294967296 : Int64)) + (own_uns b))), .second, .val (.int bs), .val (.int ds), .val (.long (own_of a bs)), .second, .val (.long (own_of c0 ds)), .second, .val (.int (1 : Int32)), .val (.int (1 : Int32))] []))
          refine own_go (fun t k => XS.lload X6.here hx rfl (hb hby at_123) rfl k) ?_
          show OwnFin p e below s _ _ _ (T6.setTop (mkF m 125 #[.val (.int a), .val (.int b), .val (.int c0), .val (.int d), .val (.long (own_of a b)), .second, .val (.long (((a.toInt64) * (4294967296 : Int64)) + (own_uns b))), .second, .val (.int bs), .val (.int ds), .val (.long (own_of a bs)), .second, .val (.long (own_of c0 ds)), .second, .val (.int (1 : Int32)), .val (.int (1 : Int32))] [(.long (own_of a bs))]))
          refine own_go (fun t k => XS.lload X6.here hx rfl (hb hby at_125) rfl k) ?_
          show OwnFin p e below s _ _ _ (T6.setTop (mkF m 127 #[.val (.int a), .val (.int b), .val (.int c0), .val (.int d), .val (.long (own_of a b)), .second, .val (.long (((a.toInt64) * (4294967296 : Int64)) + (own_uns b))), .second, .val (.int bs), .val (.int ds), .val (.long (own_of a bs)), .second, .val (.long (own_of c0 ds)), .second, .val (.int (1 : Int32)), .val (.int (1 : Int32))] [(.long (own_of c0 ds)), (.long (own_of a bs))]))
          refine own_go (fun t k => XS.lcmp X6.here hx rfl (hb hby at_127) rfl k) ?_
          show OwnFin p e below s _ _ _ (T6.setTop (mkF m 128 #[.val (.int a), .val (.int b), .val (.int c0), .val (.int d), .val (.long (own_of a b)), .second, .val (.long (((a.toInt64) * (4294967296 : Int64)) + (own_uns b))), .second, .val (.int bs), .val (.int ds), .val (.long (own_of a bs)), .second, .val (.long (own_of c0 ds)), .second, .val (.int (1 : Int32)), .val (.int (1 : Int32))] [(.int (lcmpW (own_of a bs) (own_of c0 ds)))]))
          by_cases hc128 : (own_of a bs) < (own_of c0 ds)
          · refine own_go (fun t k => XS.ifNo X6.here hx rfl (hb hby at_128) rfl ((if0 _ _).trans (tlt ((lw_lt (own_of a bs) (own_of c0 ds)).mpr hc128)).2.1) k) ?_
            show OwnFin p e below s _ _ _ (T6.setTop (mkF m 131 #[.val (.int a), .val (.int b), .val (.int c0), .val (.int d), .val (.long (own_of a b)), .second, .val (.long (((a.toInt64) * (4294967296 : Int64)) + (own_uns b))), .second, .val (.int bs), .val (.int ds), .val (.long (own_of a bs)), .second, .val (.long (own_of c0 ds)), .second, .val (.int (1 : Int32)), .val (.int (1 : Int32))] []))
            refine own_go (fun t k => XS.iconst X6.here hx rfl (hb hby at_131) k) ?_
            show OwnFin p e below s _ _ _ (T6.setTop (mkF m 132 #[.val (.int a), .val (.int b), .val (.int c0), .val (.int d), .val (.long (own_of a b)), .second, .val (.long (((a.toInt64) * (4294967296 : Int64)) + (own_uns b))), .second, .val (.int bs), .val (.int ds), .val (.long (own_of a bs)), .second, .val (.long (own_of c0 ds)), .second, .val (.int (1 : Int32)), .val (.int (1 : Int32))] [(.int (1 : Int32))]))
            refine own_go (fun t k => XS.goto X6.here hx rfl (pc0 := 132) (pc' := 136) rfl (hb hby at_132) (by decide) (by decide) k) ?_
            show OwnFin p e below s _ _ _ (T6.setTop (mkF m 136 #[.val (.int a), .val (.int b), .val (.int c0), .val (.int d), .val (.long (own_of a b)), .second, .val (.long (((a.toInt64) * (4294967296 : Int64)) + (own_uns b))), .second, .val (.int bs), .val (.int ds), .val (.long (own_of a bs)), .second, .val (.long (own_of c0 ds)), .second, .val (.int (1 : Int32)), .val (.int (1 : Int32))] [(.int (1 : Int32))]))
            refine own_go (fun t k => XS.iload X6.here hx rfl (hb hby at_136) rfl k) ?_
            show OwnFin p e below s _ _ _ (T6.setTop (mkF m 138 #[.val (.int a), .val (.int b), .val (.int c0), .val (.int d), .val (.long (own_of a b)), .second, .val (.long (((a.toInt64) * (4294967296 : Int64)) + (own_uns b))), .second, .val (.int bs), .val (.int ds), .val (.long (own_of a bs)), .second, .val (.long (own_of c0 ds)), .second, .val (.int (1 : Int32)), .val (.int (1 : Int32))] [(.int (1 : Int32)), (.int (1 : Int32))]))
            refine own_go (fun t k => XS.icmpNo X6.here hx rfl (hb hby at_138) rfl (teq (by decide)).2 k) ?_
            show OwnFin p e below s _ _ _ (T6.setTop (mkF m 141 #[.val (.int a), .val (.int b), .val (.int c0), .val (.int d), .val (.long (own_of a b)), .second, .val (.long (((a.toInt64) * (4294967296 : Int64)) + (own_uns b))), .second, .val (.int bs), .val (.int ds), .val (.long (own_of a bs)), .second, .val (.long (own_of c0 ds)), .second, .val (.int (1 : Int32)), .val (.int (1 : Int32))] []))
            refine own_go (fun t k => XS.lload X6.here hx rfl (hb hby at_141) rfl k) ?_
            show OwnFin p e below s _ _ _ (T6.setTop (mkF m 143 #[.val (.int a), .val (.int b), .val (.int c0), .val (.int d), .val (.long (own_of a b)), .second, .val (.long (((a.toInt64) * (4294967296 : Int64)) + (own_uns b))), .second, .val (.int bs), .val (.int ds), .val (.long (own_of a bs)), .second, .val (.long (own_of c0 ds)), .second, .val (.int (1 : Int32)), .val (.int (1 : Int32))] [(.long (own_of a bs))]))
            refine own_go (fun t k => XS.lload X6.here hx rfl (hb hby at_143) rfl k) ?_
            show OwnFin p e below s _ _ _ (T6.setTop (mkF m 145 #[.val (.int a), .val (.int b), .val (.int c0), .val (.int d), .val (.long (own_of a b)), .second, .val (.long (((a.toInt64) * (4294967296 : Int64)) + (own_uns b))), .second, .val (.int bs), .val (.int ds), .val (.long (own_of a bs)), .second, .val (.long (own_of c0 ds)), .second, .val (.int (1 : Int32)), .val (.int (1 : Int32))] [(.long (own_of c0 ds)), (.long (own_of a bs))]))
            refine own_go (fun t k => XS.lcmp X6.here hx rfl (hb hby at_145) rfl k) ?_
            show OwnFin p e below s _ _ _ (T6.setTop (mkF m 146 #[.val (.int a), .val (.int b), .val (.int c0), .val (.int d), .val (.long (own_of a b)), .second, .val (.long (((a.toInt64) * (4294967296 : Int64)) + (own_uns b))), .second, .val (.int bs), .val (.int ds), .val (.long (own_of a bs)), .second, .val (.long (own_of c0 ds)), .second, .val (.int (1 : Int32)), .val (.int (1 : Int32))] [(.int (lcmpW (own_of a bs) (own_of c0 ds)))]))
            by_cases hc146 : (own_of a bs) = (own_of c0 ds)
            · refine own_go (fun t k => XS.ifNo X6.here hx rfl (hb hby at_146) rfl ((if0 _ _).trans (teq ((lw_eq (own_of a bs) (own_of c0 ds)).mpr hc146)).2) k) ?_
              show OwnFin p e below s _ _ _ (T6.setTop (mkF m 149 #[.val (.int a), .val (.int b), .val (.int c0), .val (.int d), .val (.long (own_of a b)), .second, .val (.long (((a.toInt64) * (4294967296 : Int64)) + (own_uns b))), .second, .val (.int bs), .val (.int ds), .val (.long (own_of a bs)), .second, .val (.long (own_of c0 ds)), .second, .val (.int (1 : Int32)), .val (.int (1 : Int32))] []))
              refine own_go (fun t k => XS.iconst X6.here hx rfl (hb hby at_149) k) ?_
              show OwnFin p e below s _ _ _ (T6.setTop (mkF m 150 #[.val (.int a), .val (.int b), .val (.int c0), .val (.int d), .val (.long (own_of a b)), .second, .val (.long (((a.toInt64) * (4294967296 : Int64)) + (own_uns b))), .second, .val (.int bs), .val (.int ds), .val (.long (own_of a bs)), .second, .val (.long (own_of c0 ds)), .second, .val (.int (1 : Int32)), .val (.int (1 : Int32))] [(.int (1 : Int32))]))
              refine own_go (fun t k => XS.goto X6.here hx rfl (pc0 := 150) (pc' := 154) rfl (hb hby at_150) (by decide) (by decide) k) ?_
              show OwnFin p e below s _ _ _ (T6.setTop (mkF m 154 #[.val (.int a), .val (.int b), .val (.int c0), .val (.int d), .val (.long (own_of a b)), .second, .val (.long (((a.toInt64) * (4294967296 : Int64)) + (own_uns b))), .second, .val (.int bs), .val (.int ds), .val (.long (own_of a bs)), .second, .val (.long (own_of c0 ds)), .second, .val (.int (1 : Int32)), .val (.int (1 : Int32))] [(.int (1 : Int32))]))
              refine own_go (fun t k => XS.iload X6.here hx rfl (hb hby at_154) rfl k) ?_
              show OwnFin p e below s _ _ _ (T6.setTop (mkF m 156 #[.val (.int a), .val (.int b), .val (.int c0), .val (.int d), .val (.long (own_of a b)), .second, .val (.long (((a.toInt64) * (4294967296 : Int64)) + (own_uns b))), .second, .val (.int bs), .val (.int ds), .val (.long (own_of a bs)), .second, .val (.long (own_of c0 ds)), .second, .val (.int (1 : Int32)), .val (.int (1 : Int32))] [(.int (1 : Int32)), (.int (1 : Int32))]))
              refine own_go (fun t k => XS.icmpNo X6.here hx rfl (hb hby at_156) rfl (teq (by decide)).2 k) ?_
              show OwnFin p e below s _ _ _ (T6.setTop (mkF m 159 #[.val (.int a), .val (.int b), .val (.int c0), .val (.int d), .val (.long (own_of a b)), .second, .val (.long (((a.toInt64) * (4294967296 : Int64)) + (own_uns b))), .second, .val (.int bs), .val (.int ds), .val (.long (own_of a bs)), .second, .val (.long (own_of c0 ds)), .second, .val (.int (1 : Int32)), .val (.int (1 : Int32))] []))
              refine own_go (fun t k => XS.iconst X6.here hx rfl (hb hby at_159) k) ?_
              show OwnFin p e below s _ _ _ (T6.setTop (mkF m 160 #[.val (.int a), .val (.int b), .val (.int c0), .val (.int d), .val (.long (own_of a b)), .second, .val (.long (((a.toInt64) * (4294967296 : Int64)) + (own_uns b))), .second, .val (.int bs), .val (.int ds), .val (.long (own_of a bs)), .second, .val (.long (own_of c0 ds)), .second, .val (.int (1 : Int32)), .val (.int (1 : Int32))] [(.int (1 : Int32))]))
              refine own_go (fun t k => XS.goto X6.here hx rfl (pc0 := 160) (pc' := 164) rfl (hb hby at_160) (by decide) (by decide) k) ?_
              show OwnFin p e below s _ _ _ (T6.setTop (mkF m 164 #[.val (.int a), .val (.int b), .val (.int c0), .val (.int d), .val (.long (own_of a b)), .second, .val (.long (((a.toInt64) * (4294967296 : Int64)) + (own_uns b))), .second, .val (.int bs), .val (.int ds), .val (.long (own_of a bs)), .second, .val (.long (own_of c0 ds)), .second, .val (.int (1 : Int32)), .val (.int (1 : Int32))] [(.int (1 : Int32))]))
              refine own_ret X6 (v := some (.int (1 : Int32))) hlk (fun hh => by rw [hret] at hh; cases hh) (fun fs hr => retN X6 hx (t := .boolean) hret (by simp) (hb hby at_164) hr) (by decide) (by decide) ?_
              exact ⟨rfl, N6⟩
            · refine own_go (fun t k => XS.ifYes X6.here hx rfl (pc0 := 146) (pc' := 153) rfl (hb hby at_146) rfl ((if0 _ _).trans (feq (mt (lw_eq (own_of a bs) (own_of c0 ds)).mp hc146)).2) (by decide) (by decide) k) ?_
              show OwnFin p e below s _ _ _ (T6.setTop (mkF m 153 #[.val (.int a), .val (.int b), .val (.int c0), .val (.int d), .val (.long (own_of a b)), .second, .val (.long (((a.toInt64) * (4294967296 : Int64)) + (own_uns b))), .second, .val (.int bs), .val (.int ds), .val (.long (own_of a bs)), .second, .val (.long (own_of c0 ds)), .second, .val (.int (1 : Int32)), .val (.int (1 : Int32))] []))
              refine own_go (fun t k => XS.iconst X6.here hx rfl (hb hby at_153) k) ?_
              show OwnFin p e below s _ _ _ (T6.setTop (mkF m 154 #[.val (.int a), .val (.int b), .val (.int c0), .val (.int d), .val (.long (own_of a b)), .second, .val (.long (((a.toInt64) * (4294967296 : Int64)) + (own_uns b))), .second, .val (.int bs), .val (.int ds), .val (.long (own_of a bs)), .second, .val (.long (own_of c0 ds)), .second, .val (.int (1 : Int32)), .val (.int (1 : Int32))] [(.int (0 : Int32))]))
              refine own_go (fun t k => XS.iload X6.here hx rfl (hb hby at_154) rfl k) ?_
              show OwnFin p e below s _ _ _ (T6.setTop (mkF m 156 #[.val (.int a), .val (.int b), .val (.int c0), .val (.int d), .val (.long (own_of a b)), .second, .val (.long (((a.toInt64) * (4294967296 : Int64)) + (own_uns b))), .second, .val (.int bs), .val (.int ds), .val (.long (own_of a bs)), .second, .val (.long (own_of c0 ds)), .second, .val (.int (1 : Int32)), .val (.int (1 : Int32))] [(.int (1 : Int32)), (.int (0 : Int32))]))
              refine own_go (fun t k => XS.icmpYes X6.here hx rfl (pc0 := 156) (pc' := 163) rfl (hb hby at_156) rfl (feq (by decide)).2 (by decide) (by decide) k) ?_
              show OwnFin p e below s _ _ _ (T6.setTop (mkF m 163 #[.val (.int a), .val (.int b), .val (.int c0), .val (.int d), .val (.long (own_of a b)), .second, .val (.long (((a.toInt64) * (4294967296 : Int64)) + (own_uns b))), .second, .val (.int bs), .val (.int ds), .val (.long (own_of a bs)), .second, .val (.long (own_of c0 ds)), .second, .val (.int (1 : Int32)), .val (.int (1 : Int32))] []))
              refine own_go (fun t k => XS.iconst X6.here hx rfl (hb hby at_163) k) ?_
              show OwnFin p e below s _ _ _ (T6.setTop (mkF m 164 #[.val (.int a), .val (.int b), .val (.int c0), .val (.int d), .val (.long (own_of a b)), .second, .val (.long (((a.toInt64) * (4294967296 : Int64)) + (own_uns b))), .second, .val (.int bs), .val (.int ds), .val (.long (own_of a bs)), .second, .val (.long (own_of c0 ds)), .second, .val (.int (1 : Int32)), .val (.int (1 : Int32))] [(.int (0 : Int32))]))
              have nb := own_nn b
              have nd := own_nn d
              rw [h_bs] at nb
              rw [h_ds] at nd
              have rb := rng32 bs
              have rd := rng32 ds
              have k1 := own_of_toInt a bs
              have k2 := own_of_toInt c0 ds
              rw [Int.emod_eq_of_lt nb (by omega)] at k1
              rw [Int.emod_eq_of_lt nd (by omega)] at k2
              simp only [Int32.lt_iff_toInt_lt, Int64.lt_iff_toInt_lt, ← Int32.toInt_inj, ← Int64.toInt_inj, k1, k2] at hc82 hc87 hc94 hc113 hc128 hc146
              omega
          · refine own_go (fun t k => XS.ifYes X6.here hx rfl (pc0 := 128) (pc' := 135) rfl (hb hby at_128) rfl ((if0 _ _).trans (flt (mt (lw_lt (own_of a bs) (own_of c0 ds)).mp hc128)).2.1) (by decide) (by decide) k) ?_
            show OwnFin p e below s _ _ _ (T6.setTop (mkF m 135 #[.val (.int a), .val (.int b), .val (.int c0), .val (.int d), .val (.long (own_of a b)), .second, .val (.long (((a.toInt64) * (4294967296 : Int64)) + (own_uns b))), .second, .val (.int bs), .val (.int ds), .val (.long (own_of a bs)), .second, .val (.long (own_of c0 ds)), .second, .val (.int (1 : Int32)), .val (.int (1 : Int32))] []))
            refine own_go (fun t k => XS.iconst X6.here hx rfl (hb hby at_135) k) ?_
            show OwnFin p e below s _ _ _ (T6.setTop (mkF m 136 #[.val (.int a), .val (.int b), .val (.int c0), .val (.int d), .val (.long (own_of a b)), .second, .val (.long (((a.toInt64) * (4294967296 : Int64)) + (own_uns b))), .second, .val (.int bs), .val (.int ds), .val (.long (own_of a bs)), .second, .val (.long (own_of c0 ds)), .second, .val (.int (1 : Int32)), .val (.int (1 : Int32))] [(.int (0 : Int32))]))
            refine own_go (fun t k => XS.iload X6.here hx rfl (hb hby at_136) rfl k) ?_
            show OwnFin p e below s _ _ _ (T6.setTop (mkF m 138 #[.val (.int a), .val (.int b), .val (.int c0), .val (.int d), .val (.long (own_of a b)), .second, .val (.long (((a.toInt64) * (4294967296 : Int64)) + (own_uns b))), .second, .val (.int bs), .val (.int ds), .val (.long (own_of a bs)), .second, .val (.long (own_of c0 ds)), .second, .val (.int (1 : Int32)), .val (.int (1 : Int32))] [(.int (1 : Int32)), (.int (0 : Int32))]))
            refine own_go (fun t k => XS.icmpYes X6.here hx rfl (pc0 := 138) (pc' := 163) rfl (hb hby at_138) rfl (feq (by decide)).2 (by decide) (by decide) k) ?_
            show OwnFin p e below s _ _ _ (T6.setTop (mkF m 163 #[.val (.int a), .val (.int b), .val (.int c0), .val (.int d), .val (.long (own_of a b)), .second, .val (.long (((a.toInt64) * (4294967296 : Int64)) + (own_uns b))), .second, .val (.int bs), .val (.int ds), .val (.long (own_of a bs)), .second, .val (.long (own_of c0 ds)), .second, .val (.int (1 : Int32)), .val (.int (1 : Int32))] []))
            refine own_go (fun t k => XS.iconst X6.here hx rfl (hb hby at_163) k) ?_
            show OwnFin p e below s _ _ _ (T6.setTop (mkF m 164 #[.val (.int a), .val (.int b), .val (.int c0), .val (.int d), .val (.long (own_of a b)), .second, .val (.long (((a.toInt64) * (4294967296 : Int64)) + (own_uns b))), .second, .val (.int bs), .val (.int ds), .val (.long (own_of a bs)), .second, .val (.long (own_of c0 ds)), .second, .val (.int (1 : Int32)), .val (.int (1 : Int32))] [(.int (0 : Int32))]))
            have nb := own_nn b
            have nd := own_nn d
            rw [h_bs] at nb
            rw [h_ds] at nd
            have rb := rng32 bs
            have rd := rng32 ds
            have k1 := own_of_toInt a bs
            have k2 := own_of_toInt c0 ds
            rw [Int.emod_eq_of_lt nb (by omega)] at k1
            rw [Int.emod_eq_of_lt nd (by omega)] at k2
            simp only [Int32.lt_iff_toInt_lt, Int64.lt_iff_toInt_lt, ← Int32.toInt_inj, ← Int64.toInt_inj, k1, k2] at hc82 hc87 hc94 hc113 hc128
            omega
        · refine own_go (fun t k => XS.icmpYes X6.here hx rfl (pc0 := 113) (pc' := 120) rfl (hb hby at_113) rfl (feq hc113).2 (by decide) (by decide) k) ?_
          show OwnFin p e below s _ _ _ (T6.setTop (mkF m 120 #[.val (.int a), .val (.int b), .val (.int c0), .val (.int d), .val (.long (own_of a b)), .second, .val (.long (((a.toInt64) * (4294967296 : Int64)) + (own_uns b))), .second, .val (.int bs), .val (.int ds), .val (.long (own_of a bs)), .second, .val (.long (own_of c0 ds)), .second, .val (.int (1 : Int32)), .unset] []))
          refine own_go (fun t k => XS.iconst X6.here hx rfl (hb hby at_120) k) ?_
          show OwnFin p e below s _ _ _ (T6.setTop (mkF m 121 #[.val (.int a), .val (.int b), .val (.int c0), .val (.int d), .val (.long (own_of a b)), .second, .val (.long (((a.toInt64) * (4294967296 : Int64)) + (own_uns b))), .second, .val (.int bs), .val (.int ds), .val (.long (own_of a bs)), .second, .val (.long (own_of c0 ds)), .second, .val (.int (1 : Int32)), .unset] [(.int (0 : Int32))]))
          refine own_go (fun t k => XS.istore X6.here hx rfl (hb hby at_121) rfl (l' := #[.val (.int a), .val (.int b), .val (.int c0), .val (.int d), .val (.long (own_of a b)), .second, .val (.long (((a.toInt64) * (4294967296 : Int64)) + (own_uns b))), .second, .val (.int bs), .val (.int ds), .val (.long (own_of a bs)), .second, .val (.long (own_of c0 ds)), .second, .val (.int (1 : Int32)), .val (.int (0 : Int32))]) rfl k) ?_
          show OwnFin p e below s _ _ _ (T6.setTop (mkF m 123 #[.val (.int a), .val (.int b), .val (.int c0), .val (.int d), .val (.long (own_of a b)), .second, .val (.long (((a.toInt64) * (4294967296 : Int64)) + (own_uns b))), .second, .val (.int bs), .val (.int ds), .val (.long (own_of a bs)), .second, .val (.long (own_of c0 ds)), .second, .val (.int (1 : Int32)), .val (.int (0 : Int32))] []))
          refine own_go (fun t k => XS.lload X6.here hx rfl (hb hby at_123) rfl k) ?_
          show OwnFin p e below s _ _ _ (T6.setTop (mkF m 125 #[.val (.int a), .val (.int b), .val (.int c0), .val (.int d), .val (.long (own_of a b)), .second, .val (.long (((a.toInt64) * (4294967296 : Int64)) + (own_uns b))), .second, .val (.int bs), .val (.int ds), .val (.long (own_of a bs)), .second, .val (.long (own_of c0 ds)), .second, .val (.int (1 : Int32)), .val (.int (0 : Int32))] [(.long (own_of a bs))]))
          refine own_go (fun t k => XS.lload X6.here hx rfl (hb hby at_125) rfl k) ?_
          show OwnFin p e below s _ _ _ (T6.setTop (mkF m 127 #[.val (.int a), .val (.int b), .val (.int c0), .val (.int d), .val (.long (own_of a b)), .second, .val (.long (((a.toInt64) * (4294967296 : Int64)) + (own_uns b))), .second, .val (.int bs), .val (.int ds), .val (.long (own_of a bs)), .second, .val (.long (own_of c0 ds)), .second, .val (.int (1 : Int32)), .val (.int (0 : Int32))] [(.long (own_of c0 ds)), (.long (own_of a bs))]))
          refine own_go (fun t k => XS.lcmp X6.here hx rfl (hb hby at_127) rfl k) ?_
          show OwnFin p e below s _ _ _ (T6.setTop (mkF m 128 #[.val (.int a), .val (.int b), .val (.int c0), .val (.int d), .val (.long (own_of a b)), .second, .val (.long (((a.toInt64) * (4294967296 : Int64)) + (own_uns b))), .second, .val (.int bs), .val (.int ds), .val (.long (own_of a bs)), .second, .val (.long (own_of c0 ds)), .second, .val (.int (1 : Int32)), .val (.int (0 : Int32))] [(.int (lcmpW (own_of a bs) (own_of c0 ds)))]))
          by_cases hc128 : (own_of a bs) < (own_of c0 ds)
          · refine own_go (fun t k => XS.ifNo X6.here hx rfl (hb hby at_128) rfl ((if0 _ _).trans (tlt ((lw_lt (own_of a bs) (own_of c0 ds)).mpr hc128)).2.1) k) ?_
            show OwnFin p e below s _ _ _ (T6.setTop (mkF m 131 #[.val (.int a), .val (.int b), .val (.int c0), .val (.int d), .val (.long (own_of a b)), .second, .val (.long (((a.toInt64) * (4294967296 : Int64)) + (own_uns b))), .second, .val (.int bs), .val (.int ds), .val (.long (own_of a bs)), .second, .val (.long (own_of c0 ds)), .second, .val (.int (1 : Int32)), .val (.int (0 : Int32))] []))
            refine own_go (fun t k => XS.iconst X6.here hx rfl (hb hby at_131) k) ?_
            show OwnFin p e below s _ _ _ (T6.setTop (mkF m 132 #[.val (.int a), .val (.int b), .val (.int c0), .val (.int d), .val (.long (own_of a b)), .second, .val (.long (((a.toInt64) * (4294967296 : Int64)) + (own_uns b))), .second, .val (.int bs), .val (.int ds), .val (.long (own_of a bs)), .second, .val (.long (own_of c0 ds)), .second, .val (.int (1 : Int32)), .val (.int (0 : Int32))] [(.int (1 : Int32))]))
            refine own_go (fun t k => XS.goto X6.here hx rfl (pc0 := 132) (pc' := 136) rfl (hb hby at_132) (by decide) (by decide) k) ?_
            show OwnFin p e below s _ _ _ (T6.setTop (mkF m 136 #[.val (.int a), .val (.int b), .val (.int c0), .val (.int d), .val (.long (own_of a b)), .second, .val (.long (((a.toInt64) * (4294967296 : Int64)) + (own_uns b))), .second, .val (.int bs), .val (.int ds), .val (.long (own_of a bs)), .second, .val (.long (own_of c0 ds)), .second, .val (.int (1 : Int32)), .val (.int (0 : Int32))] [(.int (1 : Int32))]))
            refine own_go (fun t k => XS.iload X6.here hx rfl (hb hby at_136) rfl k) ?_
            show OwnFin p e below s _ _ _ (T6.setTop (mkF m 138 #[.val (.int a), .val (.int b), .val (.int c0), .val (.int d), .val (.long (own_of a b)), .second, .val (.long (((a.toInt64) * (4294967296 : Int64)) + (own_uns b))), .second, .val (.int bs), .val (.int ds), .val (.long (own_of a bs)), .second, .val (.long (own_of c0 ds)), .second, .val (.int (1 : Int32)), .val (.int (0 : Int32))] [(.int (1 : Int32)), (.int (1 : Int32))]))
            refine own_go (fun t k => XS.icmpNo X6.here hx rfl (hb hby at_138) rfl (teq (by decide)).2 k) ?_
            show OwnFin p e below s _ _ _ (T6.setTop (mkF m 141 #[.val (.int a), .val (.int b), .val (.int c0), .val (.int d), .val (.long (own_of a b)), .second, .val (.long (((a.toInt64) * (4294967296 : Int64)) + (own_uns b))), .second, .val (.int bs), .val (.int ds), .val (.long (own_of a bs)), .second, .val (.long (own_of c0 ds)), .second, .val (.int (1 : Int32)), .val (.int (0 : Int32))] []))
            refine own_go (fun t k => XS.lload X6.here hx rfl (hb hby at_141) rfl k) ?_
            show OwnFin p e below s _ _ _ (T6.setTop (mkF m 143 #[.val (.int a), .val (.int b), .val (.int c0), .val (.int d), .val (.long (own_of a b)), .second, .val (.long (((a.toInt64) * (4294967296 : Int64)) + (own_uns b))), .second, .val (.int bs), .val (.int ds), .val (.long (own_of a bs)), .second, .val (.long (own_of c0 ds)), .second, .val (.int (1 : Int32)), .val (.int (0 : Int32))] [(.long (own_of a bs))]))
            refine own_go (fun t k => XS.lload X6.here hx rfl (hb hby at_143) rfl k) ?_
            show OwnFin p e below s _ _ _ (T6.setTop (mkF m 145 #[.val (.int a), .val (.int b), .val (.int c0), .val (.int d), .val (.long (own_of a b)), .second, .val (.long (((a.toInt64) * (4294967296 : Int64)) + (own_uns b))), .second, .val (.int bs), .val (.int ds), .val (.long (own_of a bs)), .second, .val (.long (own_of c0 ds)), .second, .val (.int (1 : Int32)), .val (.int (0 : Int32))] [(.long (own_of c0 ds)), (.long (own_of a bs))]))
            refine own_go (fun t k => XS.lcmp X6.here hx rfl (hb hby at_145) rfl k) ?_
            show OwnFin p e below s _ _ _ (T6.setTop (mkF m 146 #[.val (.int a), .val (.int b), .val (.int c0), .val (.int d), .val (.long (own_of a b)), .second, .val (.long (((a.toInt64) * (4294967296 : Int64)) + (own_uns b))), .second, .val (.int bs), .val (.int ds), .val (.long (own_of a bs)), .second, .val (.long (own_of c0 ds)), .second, .val (.int (1 : Int32)), .val (.int (0 : Int32))] [(.int (lcmpW (own_of a bs) (own_of c0 ds)))]))
            by_cases hc146 : (own_of a bs) = (own_of c0 ds)
            · refine own_go (fun t k => XS.ifNo X6.here hx rfl (hb hby at_146) rfl ((if0 _ _).trans (teq ((lw_eq (own_of a bs) (own_of c0 ds)).mpr hc146)).2) k) ?_
              show OwnFin p e below s _ _ _ (T6.setTop (mkF m 149 #[.val (.int a), .val (.int b), .val (.int c0), .val (.int d), .val (.long (own_of a b)), .second, .val (.long (((a.toInt64) * (4294967296 : Int64)) + (own_uns b))), .second, .val (.int bs), .val (.int ds), .val (.long (own_of a bs)), .second, .val (.long (own_of c0 ds)), .second, .val (.int (1 : Int32)), .val (.int (0 : Int32))] []))
              refine own_go (fun t k => XS.iconst X6.here hx rfl (hb hby at_149) k) ?_
              show OwnFin p e below s _ _ _ (T6.setTop (mkF m 150 #[.val (.int a), .val (.int b), .val (.int c0), .val (.int d), .val (.long (own_of a b)), .second, .val (.long (((a.toInt64) * (4294967296 : Int64)) + (own_uns b))), .second, .val (.int bs), .val (.int ds), .val (.long (own_of a bs)), .second, .val (.long (own_of c0 ds)), .second, .val (.int (1 : Int32)), .val (.int (0 : Int32))] [(.int (1 : Int32))]))
              refine own_go (fun t k => XS.goto X6.here hx rfl (pc0 := 150) (pc' := 154) rfl (hb hby at_150) (by decide) (by decide) k) ?_
              show OwnFin p e below s _ _ _ (T6.setTop (mkF m 154 #[.val (.int a), .val (.int b), .val (.int c0), .val (.int d), .val (.long (own_of a b)), .second, .val (.long (((a.toInt64) * (4294967296 : Int64)) + (own_uns b))), .second, .val (.int bs), .val (.int ds), .val (.long (own_of a bs)), .second, .val (.long (own_of c0 ds)), .second, .val (.int (1 : Int32)), .val (.int (0 : Int32))] [(.int (1 : Int32))]))
              refine own_go (fun t k => XS.iload X6.here hx rfl (hb hby at_154) rfl k) ?_
              show OwnFin p e below s _ _ _ (T6.setTop (mkF m 156 #[.val (.int a), .val (.int b), .val (.int c0), .val (.int d), .val (.long (own_of a b)), .second, .val (.long (((a.toInt64) * (4294967296 : Int64)) + (own_uns b))), .second, .val (.int bs), .val (.int ds), .val (.long (own_of a bs)), .second, .val (.long (own_of c0 ds)), .second, .val (.int (1 : Int32)), .val (.int (0 : Int32))] [(.int (0 : Int32)), (.int (1 : Int32))]))
              refine own_go (fun t k => XS.icmpYes X6.here hx rfl (pc0 := 156) (pc' := 163) rfl (hb hby at_156) rfl (feq (by decide)).2 (by decide) (by decide) k) ?_
              show OwnFin p e below s _ _ _ (T6.setTop (mkF m 163 #[.val (.int a), .val (.int b), .val (.int c0), .val (.int d), .val (.long (own_of a b)), .second, .val (.long (((a.toInt64) * (4294967296 : Int64)) + (own_uns b))), .second, .val (.int bs), .val (.int ds), .val (.long (own_of a bs)), .second, .val (.long (own_of c0 ds)), .second, .val (.int (1 : Int32)), .val (.int (0 : Int32))] []))
              refine own_go (fun t k => XS.iconst X6.here hx rfl (hb hby at_163) k) ?_
              show OwnFin p e below s _ _ _ (T6.setTop (mkF m 164 #[.val (.int a), .val (.int b), .val (.int c0), .val (.int d), .val (.long (own_of a b)), .second, .val (.long (((a.toInt64) * (4294967296 : Int64)) + (own_uns b))), .second, .val (.int bs), .val (.int ds), .val (.long (own_of a bs)), .second, .val (.long (own_of c0 ds)), .second, .val (.int (1 : Int32)), .val (.int (0 : Int32))] [(.int (0 : Int32))]))
              have nb := own_nn b
              have nd := own_nn d
              rw [h_bs] at nb
              rw [h_ds] at nd
              have rb := rng32 bs
              have rd := rng32 ds
              have k1 := own_of_toInt a bs
              have k2 := own_of_toInt c0 ds
              rw [Int.emod_eq_of_lt nb (by omega)] at k1
              rw [Int.emod_eq_of_lt nd (by omega)] at k2
              simp only [Int32.lt_iff_toInt_lt, Int64.lt_iff_toInt_lt, ← Int32.toInt_inj, ← Int64.toInt_inj, k1, k2] at hc82 hc87 hc94 hc113 hc128 hc146
              omega
            · refine own_go (fun t k => XS.ifYes X6.here hx rfl (pc0 := 146) (pc' := 153) rfl (hb hby at_146) rfl ((if0 _ _).trans (feq (mt (lw_eq (own_of a bs) (own_of c0 ds)).mp hc146)).2) (by decide) (by decide) k) ?_
              show OwnFin p e below s _ _ _ (T6.setTop (mkF m 153 #[.val (.int a), .val (.int b), .val (.int c0), .val (.int d), .val (.long (own_of a b)), .second, .val (.long (((a.toInt64) * (4294967296 : Int64)) + (own_uns b))), .second, .val (.int bs), .val (.int ds), .val (.long (own_of a bs)), .second, .val (.long (own_of c0 ds)), .second, .val (.int (1 : Int32)), .val (.int (0 : Int32))] []))
              refine own_go (fun t k => XS.iconst X6.here hx rfl (hb hby at_153) k) ?_
              show OwnFin p e below s _ _ _ (T6.setTop (mkF m 154 #[.val (.int a), .val (.int b), .val (.int c0), .val (.int d), .val (.long (own_of a b)), .second, .val (.long (((a.toInt64) * (4294967296 : Int64)) + (own_uns b))), .second, .val (.int bs), .val (.int ds), .val (.long (own_of a bs)), .second, .val (.long (own_of c0 ds)), .second, .val (.int (1 : Int32)), .val (.int (0 : Int32))] [(.int (0 : Int32))]))
              refine own_go (fun t k => XS.iload X6.here hx rfl (hb hby at_154) rfl k) ?_
              show OwnFin p e below s _ _ _ (T6.setTop (mkF m 156 #[.val (.int a), .val (.int b), .val (.int c0), .val (.int d), .val (.long (own_of a b)), .second, .val (.long (((a.toInt64) * (4294967296 : Int64)) + (own_uns b))), .second, .val (.int bs), .val (.int ds), .val (.long (own_of a bs)), .second, .val (.long (own_of c0 ds)), .second, .val (.int (1 : Int32)), .val (.int (0 : Int32))] [(.int (0 : Int32)), (.int (0 : Int32))]))
              refine own_go (fun t k => XS.icmpNo X6.here hx rfl (hb hby at_156) rfl (teq (by decide)).2 k) ?_
              show OwnFin p e below s _ _ _ (T6.setTop (mkF m 159 #[.val (.int a), .val (.int b), .val (.int c0), .val (.int d), .val (.long (own_of a b)), .second, .val (.long (((a.toInt64) * (4294967296 : Int64)) + (own_uns b))), .second, .val (.int bs), .val (.int ds), .val (.long (own_of a bs)), .second, .val (.long (own_of c0 ds)), .second, .val (.int (1 : Int32)), .val (.int (0 : Int32))] []))
              refine own_go (fun t k => XS.iconst X6.here hx rfl (hb hby at_159) k) ?_
              show OwnFin p e below s _ _ _ (T6.setTop (mkF m 160 #[.val (.int a), .val (.int b), .val (.int c0), .val (.int d), .val (.long (own_of a b)), .second, .val (.long (((a.toInt64) * (4294967296 : Int64)) + (own_uns b))), .second, .val (.int bs), .val (.int ds), .val (.long (own_of a bs)), .second, .val (.long (own_of c0 ds)), .second, .val (.int (1 : Int32)), .val (.int (0 : Int32))] [(.int (1 : Int32))]))
              refine own_go (fun t k => XS.goto X6.here hx rfl (pc0 := 160) (pc' := 164) rfl (hb hby at_160) (by decide) (by decide) k) ?_
              show OwnFin p e below s _ _ _ (T6.setTop (mkF m 164 #[.val (.int a), .val (.int b), .val (.int c0), .val (.int d), .val (.long (own_of a b)), .second, .val (.long (((a.toInt64) * (4294967296 : Int64)) + (own_uns b))), .second, .val (.int bs), .val (.int ds), .val (.long (own_of a bs)), .second, .val (.long (own_of c0 ds)), .second, .val (.int (1 : Int32)), .val (.int (0 : Int32))] [(.int (1 : Int32))]))
              refine own_ret X6 (v := some (.int (1 : Int32))) hlk (fun hh => by rw [hret] at hh; cases hh) (fun fs hr => retN X6 hx (t := .boolean) hret (by simp) (hb hby at_164) hr) (by decide) (by decide) ?_
              exact ⟨rfl, N6⟩
          · refine own_go (fun t k => XS.ifYes X6.here hx rfl (pc0 := 128) (pc' := 135) rfl (hb hby at_128) rfl ((if0 _ _).trans (flt (mt (lw_lt (own_of a bs) (own_of c0 ds)).mp hc128)).2.1) (by decide) (by decide) k) ?_
            show OwnFin p e below s _ _ _ (T6.setTop (mkF m 135 #[.val (.int a), .val (.int b), .val (.int c0), .val (.int d), .val (.long (own_of a b)), .second, .val (.long (((a.toInt64) * (4294967296 : Int64)) + (own_uns b))), .second, .val (.int bs), .val (.int ds), .val (.long (own_of a bs)), .second, .val (.long (own_of c0 ds)), .second, .val (.int (1 : Int32)), .val (.int (0 : Int32))] []))
            refine own_go (fun t k => XS.iconst X6.here hx rfl (hb hby at_135) k) ?_
            show OwnFin p e below s _ _ _ (T6.setTop (mkF m 136 #[.val (.int a), .val (.int b), .val (.int c0), .val (.int d), .val (.long (own_of a b)), .second, .val (.long (((a.toInt64) * (4294967296 : Int64)) + (own_uns b))), .second, .val (.int bs), .val (.int ds), .val (.long (own_of a bs)), .second, .val (.long (own_of c0 ds)), .second, .val (.int (1 : Int32)), .val (.int (0 : Int32))] [(.int (0 : Int32))]))
            refine own_go (fun t k => XS.iload X6.here hx rfl (hb hby at_136) rfl k) ?_
            show OwnFin p e below s _ _ _ (T6.setTop (mkF m 138 #[.val (.int a), .val (.int b), .val (.int c0), .val (.int d), .val (.long (own_of a b)), .second, .val (.long (((a.toInt64) * (4294967296 : Int64)) + (own_uns b))), .second, .val (.int bs), .val (.int ds), .val (.long (own_of a bs)), .second, .val (.long (own_of c0 ds)), .second, .val (.int (1 : Int32)), .val (.int (0 : Int32))] [(.int (1 : Int32)), (.int (0 : Int32))]))
            refine own_go (fun t k => XS.icmpYes X6.here hx rfl (pc0 := 138) (pc' := 163) rfl (hb hby at_138) rfl (feq (by decide)).2 (by decide) (by decide) k) ?_
            show OwnFin p e below s _ _ _ (T6.setTop (mkF m 163 #[.val (.int a), .val (.int b), .val (.int c0), .val (.int d), .val (.long (own_of a b)), .second, .val (.long (((a.toInt64) * (4294967296 : Int64)) + (own_uns b))), .second, .val (.int bs), .val (.int ds), .val (.long (own_of a bs)), .second, .val (.long (own_of c0 ds)), .second, .val (.int (1 : Int32)), .val (.int (0 : Int32))] []))
            refine own_go (fun t k => XS.iconst X6.here hx rfl (hb hby at_163) k) ?_
            show OwnFin p e below s _ _ _ (T6.setTop (mkF m 164 #[.val (.int a), .val (.int b), .val (.int c0), .val (.int d), .val (.long (own_of a b)), .second, .val (.long (((a.toInt64) * (4294967296 : Int64)) + (own_uns b))), .second, .val (.int bs), .val (.int ds), .val (.long (own_of a bs)), .second, .val (.long (own_of c0 ds)), .second, .val (.int (1 : Int32)), .val (.int (0 : Int32))] [(.int (0 : Int32))]))
            have nb := own_nn b
            have nd := own_nn d
            rw [h_bs] at nb
            rw [h_ds] at nd
            have rb := rng32 bs
            have rd := rng32 ds
            have k1 := own_of_toInt a bs
            have k2 := own_of_toInt c0 ds
            rw [Int.emod_eq_of_lt nb (by omega)] at k1
            rw [Int.emod_eq_of_lt nd (by omega)] at k2
            simp only [Int32.lt_iff_toInt_lt, Int64.lt_iff_toInt_lt, ← Int32.toInt_inj, ← Int64.toInt_inj, k1, k2] at hc82 hc87 hc94 hc113 hc128
            omega
      · refine own_go (fun t k => XS.icmpYes X6.here hx rfl (pc0 := 94) (pc' := 101) rfl (hb hby at_94) rfl (flt hc94).2.1 (by decide) (by decide) k) ?_
        show OwnFin p e below s _ _ _ (T6.setTop (mkF m 101 #[.val (.int a), .val (.int b), .val (.int c0), .val (.int d), .val (.long (own_of a b)), .second, .val (.long (((a.toInt64) * (4294967296 : Int64)) + (own_uns b))), .second, .val (.int bs), .val (.int ds), .val (.long (own_of a bs)), .second, .val (.long (own_of c0 ds)), .second, .unset, .unset] []))
        refine own_go (fun t k => XS.iconst X6.here hx rfl (hb hby at_101) k) ?_
        show OwnFin p e below s _ _ _ (T6.setTop (mkF m 102 #[.val (.int a), .val (.int b), .val (.int c0), .val (.int d), .val (.long (own_of a b)), .second, .val (.long (((a.toInt64) * (4294967296 : Int64)) + (own_uns b))), .second, .val (.int bs), .val (.int ds), .val (.long (own_of a bs)), .second, .val (.long (own_of c0 ds)), .second, .unset, .unset] [(.int (0 : Int32))]))
        refine own_go (fun t k => XS.istore X6.here hx rfl (hb hby at_102) rfl (l' := #[.val (.int a), .val (.int b), .val (.int c0), .val (.int d), .val (.long (own_of a b)), .second, .val (.long (((a.toInt64) * (4294967296 : Int64)) + (own_uns b))), .second, .val (.int bs), .val (.int ds), .val (.long (own_of a bs)), .second, .val (.long (own_of c0 ds)), .second, .val (.int (0 : Int32)), .unset]) rfl k) ?_
        show OwnFin p e below s _ _ _ (T6.setTop (mkF m 104 #[.val (.int a), .val (.int b), .val (.int c0), .val (.int d), .val (.long (own_of a b)), .second, .val (.long (((a.toInt64) * (4294967296 : Int64)) + (own_uns b))), .second, .val (.int bs), .val (.int ds), .val (.long (own_of a bs)), .second, .val (.long (own_of c0 ds)), .second, .val (.int (0 : Int32)), .unset] []))
        refine own_go (fun t k => XS.iloadN X6.here hx rfl (hb hby at_104) rfl k) ?_
        show OwnFin p e below s _ _ _ (T6.setTop (mkF m 105 #[.val (.int a), .val (.int b), .val (.int c0), .val (.int d), .val (.long (own_of a b)), .second, .val (.long (((a.toInt64) * (4294967296 : Int64)) + (own_uns b))), .second, .val (.int bs), .val (.int ds), .val (.long (own_of a bs)), .second, .val (.long (own_of c0 ds)), .second, .val (.int (0 : Int32)), .unset] [(.int a)]))
        refine own_go (fun t k => XS.iloadN X6.here hx rfl (hb hby at_105) rfl k) ?_
        show OwnFin p e below s _ _ _ (T6.setTop (mkF m 106 #[.val (.int a), .val (.int b), .val (.int c0), .val (.int d), .val (.long (own_of a b)), .second, .val (.long (((a.toInt64) * (4294967296 : Int64)) + (own_uns b))), .second, .val (.int bs), .val (.int ds), .val (.long (own_of a bs)), .second, .val (.long (own_of c0 ds)), .second, .val (.int (0 : Int32)), .unset] [(.int c0), (.int a)]))
        refine own_go (fun t k => XS.icmpNo X6.here hx rfl (hb hby at_106) rfl (teq hc87).2 k) ?_
        show OwnFin p e below s _ _ _ (T6.setTop (mkF m 109 #[.val (.int a), .val (.int b), .val (.int c0), .val (.int d), .val (.long (own_of a b)), .second, .val (.long (((a.toInt64) * (4294967296 : Int64)) + (own_uns b))), .second, .val (.int bs), .val (.int ds), .val (.long (own_of a bs)), .second, .val (.long (own_of c0 ds)), .second, .val (.int (0 : Int32)), .unset] []))
        refine own_go (fun t k => XS.iload X6.here hx rfl (hb hby at_109) rfl k) ?_
        show OwnFin p e below s _ _ _ (T6.setTop (mkF m 111 #[.val (.int a), .val (.int b), .val (.int c0), .val (.int d), .val (.long (own_of a b)), .second, .val (.long (((a.toInt64) * (4294967296 : Int64)) + (own_uns b))), .second, .val (.int bs), .val (.int ds), .val (.long (own_of a bs)), .second, .val (.long (own_of c0 ds)), .second, .val (.int (0 : Int32)), .unset] [(.int bs)]))
        refine own_go (fun t k => XS.iload X6.here hx rfl (hb hby at_111) rfl k) ?_
        show OwnFin p e below s _ _ _ (T6.setTop (mkF m 113 #[.val (.int a), .val (.int b), .val (.int c0), .val (.int d), .val (.long (own_of a b)), .second, .val (.long (((a.toInt64) * (4294967296 : Int64)) + (own_uns b))), .second, .val (.int bs), .val (.int ds), .val (.long (own_of a bs)), .second, .val (.long (own_of c0 ds)), .second, .val (.int (0 : Int32)), .unset] [(.int ds), (.int bs)]))
        by_cases hc113 : bs = ds
        · refine own_go (fun t k => XS.icmpNo X6.here hx rfl (hb hby at_113) rfl (teq hc113).2 k) ?_
          show OwnFin p e below s _ _ _ (T6.setTop (mkF m 116 #[.val (.int a), .val (.int b), .val (.int c0), .val (.int d), .val (.long (own_of a b)), .second, .val (.long (((a.toInt64) * (4294967296 : Int64)) + (own_uns b))), .second, .val (.int bs), .val (.int ds), .val (.long (own_of a bs)), .second, .val (.long (own_of c0 ds)), .second, .val (.int (0 : Int32)), .unset] []))
          refine own_go (fun t k => XS.iconst X6.here hx rfl (hb hby at_116) k) ?_
          show OwnFin p e below s _ _ _ (T6.setTop (mkF m 117 #[.val (.int a), .val (.int b), .val (.int c0), .val (.int d), .val (.long (own_of a b)), .second, .val (.long (((a.toInt64) * (4294967296 : Int64)) + (own_uns b))), .second, .val (.int bs), .val (.int ds), .val (.long (own_of a bs)), .second, .val (.long (own_of c0 ds)), .second, .val (.int (0 : Int32)), .unset] [(.int (1 : Int32))]))
          refine own_go (fun t k => XS.goto X6.here hx rfl (pc0 := 117) (pc' := 121) rfl (hb hby at_117) (by decide) (by decide) k) ?_
          show OwnFin p e below s _ _ _ (T6.setTop (mkF m 121 #[.val (.int a), .val (.int b), .val (.int c0), .val (.int d), .val (.long (own_of a b)), .second, .val (.long (((a.toInt64) * (4294967296 : Int64)) + (own_uns b))), .second, .val (.int bs), .val (.int ds), .val (.long (own_of a bs)), .second, .val (.long (own_of c0 ds)), .second, .val (.int (0 : Int32)), .unset] [(.int (1 : Int32))]))
          refine own_go (fun t k => XS.istore X6.here hx rfl (hb hby at_121) rfl (l' := #[.val (.int a), .val (.int b), .val (.int c0), .val (.int d), .val (.long (own_of a b)), .second, .val (.long (((a.toInt64) * (4294967296 : Int64)) + (own_uns b))), .second, .val (.int bs), .val (.int ds), .val (.long (own_of a bs)), .second, .val (.long (own_of c0 ds)), .second, .val (.int (0 : Int32)), .val (.int (1 : Int32))]) rfl k) ?_
          show OwnFin p e below s _ _ _ (T6.setTop (mkF m 123 #[.val (.int a), .val (.int b), .val (.int c0), .val (.int d), .val (.long (own_of a b)), .second, .val (.long (((a.toInt64) * (4294967296 : Int64)) + (own_uns b))), .second, .val (.int bs), .val (.int ds), .val (.long (own_of a bs)), .second, .val (.long (own_of c0 ds)), .second, .val (.int (0 : Int32)), .val (.int (1 : Int32))] []))
          refine own_go (fun t k => XS.lload X6.here hx rfl (hb hby at_123) rfl k) ?_
          show OwnFin p e below s _ _ _ (T6.setTop (mkF m 125 #[.val (.int a), .val (.int b), .val (.int c0), .val (.int d), .val (.long (own_of a b)), .second, .val (.long (((a.toInt64) * (4294967296 : Int64)) + (own_uns b))), .second, .val (.int bs), .val (.int ds), .val (.long (own_of a bs)), .second, .val (.long (own_of c0 ds)), .second, .val (.int (0 : Int32)), .val (.int (1 : Int32))] [(.long (own_of a bs))]))
          refine own_go (fun t k => XS.lload X6.here hx rfl (hb hby at_125) rfl k) ?_
          show OwnFin p e below s _ _ _ (T6.setTop (mkF m 127 #[.val (.int a), .val (.int b), .val (.int c0), .val (.int d), .val (.long (own_of a b)), .second, .val (.long (((a.toInt64) * (4294967296 : Int64)) + (own_uns b))), .second, .val (.int bs), .val (.int ds), .val (.long (own_of a bs)), .second, .val (.long (own_of c0 ds)), .second, .val (.int (0 : Int32)), .val (.int (1 : Int32))] [(.long (own_of c0 ds)), (.long (own_of a bs))]))
          refine own_go (fun t k => XS.lcmp X6.here hx rfl (hb hby at_127) rfl k) ?_
          show OwnFin p e below s _ _ _ (T6.setTop (mkF m 128 #[.val (.int a), .val (.int b), .val (.int c0), .val (.int d), .val (.long (own_of a b)), .second, .val (.long (((a.toInt64) * (4294967296 : Int64)) + (own_uns b))), .second, .val (.int bs), .val (.int ds), .val (.long (own_of a bs)), .second, .val (.long (own_of c0 ds)), .second, .val (.int (0 : Int32)), .val (.int (1 : Int32))] [(.int (lcmpW (own_of a bs) (own_of c0 ds)))]))
          by_cases hc128 : (own_of a bs) < (own_of c0 ds)
          · refine own_go (fun t k => XS.ifNo X6.here hx rfl (hb hby at_128) rfl ((if0 _ _).trans (tlt ((lw_lt (own_of a bs) (own_of c0 ds)).mpr hc128)).2.1) k) ?_
            show OwnFin p e below s _ _ _ (T6.setTop (mkF m 131 #[.val (.int a), .val (.int b), .val (.int c0), .val (.int d), .val (.long (own_of a b)), .second, .val (.long (((a.toInt64) * (4294967296 : Int64)) + (own_uns b))), .second, .val (.int bs), .val (.int ds), .val (.long (own_of a bs)), .second, .val (.long (own_of c0 ds)), .second, .val (.int (0 : Int32)), .val (.int (1 : Int32))] []))
            refine own_go (fun t k => XS.iconst X6.here hx rfl (hb hby at_131) k) ?_
            show OwnFin p e below s _ _ _ (T6.setTop (mkF m 132 #[.val (.int a), .val (.int b), .val (.int c0), .val (.int d), .val (.long (own_of a b)), .second, .val (.long (((a.toInt64) * (4294967296 : Int64)) + (own_uns b))), .second, .val (.int bs), .val (.int ds), .val (.long (own_of a bs)), .second, .val (.long (own_of c0 ds)), .second, .val (.int (0 : Int32)), .val (.int (1 : Int32))] [(.int (1 : Int32))]))
            refine own_go (fun t k => XS.goto X6.here hx rfl (pc0 := 132) (pc' := 136) rfl (hb hby at_132) (by decide) (by decide) k) ?_
            show OwnFin p e below s _ _ _ (T6.setTop (mkF m 136 #[.val (.int a), .val (.int b), .val (.int c0), .val (.int d), .val (.long (own_of a b)), .second, .val (.long (((a.toInt64) * (4294967296 : Int64)) + (own_uns b))), .second, .val (.int bs), .val (.int ds), .val (.long (own_of a bs)), .second, .val (.long (own_of c0 ds)), .second, .val (.int (0 : Int32)), .val (.int (1 : Int32))] [(.int (1 : Int32))]))
            refine own_go (fun t k => XS.iload X6.here hx rfl (hb hby at_136) rfl k) ?_
            show OwnFin p e below s _ _ _ (T6.setTop (mkF m 138 #[.val (.int a), .val (.int b), .val (.int c0), .val (.int d), .val (.long (own_of a b)), .second, .val (.long (((a.toInt64) * (4294967296 : Int64)) + (own_uns b))), .second, .val (.int bs), .val (.int ds), .val (.long (own_of a bs)), .second, .val (.long (own_of c0 ds)), .second, .val (.int (0 : Int32)), .val (.int (1 : Int32))] [(.int (0 : Int32)), (.int (1 : Int32))]))
            refine own_go (fun t k => XS.icmpYes X6.here hx rfl (pc0 := 138) (pc' := 163) rfl (hb hby at_138) rfl (feq (by decide)).2 (by decide) (by decide) k) ?_
            show OwnFin p e below s _ _ _ (T6.setTop (mkF m 163 #[.val (.int a), .val (.int b), .val (.int c0), .val (.int d), .val (.long (own_of a b)), .second, .val (.long (((a.toInt64) * (4294967296 : Int64)) + (own_uns b))), .second, .val (.int bs), .val (.int ds), .val (.long (own_of a bs)), .second, .val (.long (own_of c0 ds)), .second, .val (.int (0 : Int32)), .val (.int (1 : Int32))] []))
            refine own_go (fun t k => XS.iconst X6.here hx rfl (hb hby at_163) k) ?_
            show OwnFin p e below s _ _ _ (T6.setTop (mkF m 164 #[.val (.int a), .val (.int b), .val (.int c0), .val (.int d), .val (.long (own_of a b)), .second, .val (.long (((a.toInt64) * (4294967296 : Int64)) + (own_uns b))), .second, .val (.int bs), .val (.int ds), .val (.long (own_of a bs)), .second, .val (.long (own_of c0 ds)), .second, .val (.int (0 : Int32)), .val (.int (1 : Int32))] [(.int (0 : Int32))]))
            have nb := own_nn b
            have nd := own_nn d
            rw [h_bs] at nb
            rw [h_ds] at nd
            have rb := rng32 bs
            have rd := rng32 ds
            have k1 := own_of_toInt a bs
            have k2 := own_of_toInt c0 ds
            rw [Int.emod_eq_of_lt nb (by omega)] at k1
            rw [Int.emod_eq_of_lt nd (by omega)] at k2
            simp only [Int32.lt_iff_toInt_lt, Int64.lt_iff_toInt_lt, ← Int32.toInt_inj, ← Int64.toInt_inj, k1, k2] at hc82 hc87 hc94 hc113 hc128
            omega
          · refine own_go (fun t k => XS.ifYes X6.here hx rfl (pc0 := 128) (pc' := 135) rfl (hb hby at_128) rfl ((if0 _ _).trans (flt (mt (lw_lt (own_of a bs) (own_of c0 ds)).mp hc128)).2.1) (by decide) (by decide) k) ?_
            show OwnFin p e below s _ _ _ (T6.setTop (mkF m 135 #[.val (.int a), .val (.int b), .val (.int c0), .val (.int d), .val (.long (own_of a b)), .second, .val (.long (((a.toInt64) * (4294967296 : Int64)) + (own_uns b))), .second, .val (.int bs), .val (.int ds), .val (.long (own_of a bs)), .second, .val (.long (own_of c0 ds)), .second, .val (.int (0 : Int32)), .val (.int (1 : Int32))] []))
            refine own_go (fun t k => XS.iconst X6.here hx rfl (hb hby at_135) k) ?_
            show OwnFin p e below s _ _ _ (T6.setTop (mkF m 136 #[.val (.int a), .val (.int b), .val (.int c0), .val (.int d), .val (.long (own_of a b)), .second, .val (.long (((a.toInt64) * (4294967296 : Int64)) + (own_uns b))), .second, .val (.int bs), .val (.int ds), .val (.long (own_of a bs)), .second, .val (.long (own_of c0 ds)), .second, .val (.int (0 : Int32)), .val (.int (1 : Int32))] [(.int (0 : Int32))]))
            refine own_go (fun t k => XS.iload X6.here hx rfl (hb hby at_136) rfl k) ?_
            show OwnFin p e below s _ _ _ (T6.setTop (mkF m 138 #[.val (.int a), .val (.int b), .val (.int c0), .val (.int d), .val (.long (own_of a b)), .second, .val (.long (((a.toInt64) * (4294967296 : Int64)) + (own_uns b))), .second, .val (.int bs), .val (.int ds), .val (.long (own_of a bs)), .second, .val (.long (own_of c0 ds)), .second, .val (.int (0 : Int32)), .val (.int (1 : Int32))] [(.int (0 : Int32)), (.int (0 : Int32))]))
            refine own_go (fun t k => XS.icmpNo X6.here hx rfl (hb hby at_138) rfl (teq (by decide)).2 k) ?_
            show OwnFin p e below s _ _ _ (T6.setTop (mkF m 141 #[.val (.int a), .val (.int b), .val (.int c0), .val (.int d), .val (.long (own_of a b)), .second, .val (.long (((a.toInt64) * (4294967296 : Int64)) + (own_uns b))), .second, .val (.int bs), .val (.int ds), .val (.long (own_of a bs)), .second, .val (.long (own_of c0 ds)), .second, .val (.int (0 : Int32)), .val (.int (1 : Int32))] []))
            refine own_go (fun t k => XS.lload X6.here hx rfl (hb hby at_141) rfl k) ?_
            show OwnFin p e below s _ _ _ (T6.setTop (mkF m 143 #[.val (.int a), .val (.int b), .val (.int c0), .val (.int d), .val (.long (own_of a b)), .second, .val (.long (((a.toInt64) * (4294967296 : Int64)) + (own_uns b))), .second, .val (.int bs), .val (.int ds), .val (.long (own_of a bs)), .second, .val (.long (own_of c0 ds)), .second, .val (.int (0 : Int32)), .val (.int (1 : Int32))] [(.long (own_of a bs))]))
            refine own_go (fun t k => XS.lload X6.here hx rfl (hb hby at_143) rfl k) ?_
            show OwnFin p e below s _ _ _ (T6.setTop (mkF m 145 #[.val (.int a), .val (.int b), .val (.int c0), .val (.int d), .val (.long (own_of a b)), .second, .val (.long (((a.toInt64) * (4294967296 : Int64)) + (own_uns b))), .second, .val (.int bs), .val (.int ds), .val (.long (own_of a bs)), .second, .val (.long (own_of c0 ds)), .second, .val (.int (0 : Int32)), .val (.int (1 : Int32))] [(.long (own_of c0 ds)), (.long (own_of a bs))]))
            refine own_go (fun t k => XS.lcmp X6.here hx rfl (hb hby at_145) rfl k) ?_
            show OwnFin p e below s _ _ _ (T6.setTop (mkF m 146 #[.val (.int a), .val (.int b), .val (.int c0), .val (.int d), .val (.long (own_of a b)), .second, .val (.long (((a.toInt64) * (4294967296 : Int64)) + (own_uns b))), .second, .val (.int bs), .val (.int ds), .val (.long (own_of a bs)), .second, .val (.long (own_of c0 ds)), .second, .val (.int (0 : Int32)), .val (.int (1 : Int32))] [(.int (lcmpW (own_of a bs) (own_of c0 ds)))]))
            by_cases hc146 : (own_of a bs) = (own_of c0 ds)
            · refine own_go (fun t k => XS.ifNo X6.here hx rfl (hb hby at_146) rfl ((if0 _ _).trans (teq ((lw_eq (own_of a bs) (own_of c0 ds)).mpr hc146)).2) k) ?_
              show OwnFin p e below s _ _ _ (T6.setTop (mkF m 149 #[.val (.int a), .val (.int b), .val (.int c0), .val (.int d), .val (.long (own_of a b)), .second, .val (.long (((a.toInt64) * (4294967296 : Int64)) + (own_uns b))), .second, .val (.int bs), .val (.int ds), .val (.long (own_of a bs)), .second, .val (.long (own_of c0 ds)), .second, .val (.int (0 : Int32)), .val (.int (1 : Int32))] []))
              refine own_go (fun t k => XS.iconst X6.here hx rfl (hb hby at_149) k) ?_
              show OwnFin p e below s _ _ _ (T6.setTop (mkF m 150 #[.val (.int a), .val (.int b), .val (.int c0), .val (.int d), .val (.long (own_of a b)), .second, .val (.long (((a.toInt64) * (4294967296 : Int64)) + (own_uns b))), .second, .val (.int bs), .val (.int ds), .val (.long (own_of a bs)), .second, .val (.long (own_of c0 ds)), .second, .val (.int (0 : Int32)), .val (.int (1 : Int32))] [(.int (1 : Int32))]))
              refine own_go (fun t k => XS.goto X6.here hx rfl (pc0 := 150) (pc' := 154) rfl (hb hby at_150) (by decide) (by decide) k) ?_
              show OwnFin p e below s _ _ _ (T6.setTop (mkF m 154 #[.val (.int a), .val (.int b), .val (.int c0), .val (.int d), .val (.long (own_of a b)), .second, .val (.long (((a.toInt64) * (4294967296 : Int64)) + (own_uns b))), .second, .val (.int bs), .val (.int ds), .val (.long (own_of a bs)), .second, .val (.long (own_of c0 ds)), .second, .val (.int (0 : Int32)), .val (.int (1 : Int32))] [(.int (1 : Int32))]))
              refine own_go (fun t k => XS.iload X6.here hx rfl (hb hby at_154) rfl k) ?_
              show OwnFin p e below s _ _ _ (T6.setTop (mkF m 156 #[.val (.int a), .val (.int b), .val (.int c0), .val (.int d), .val (.long (own_of a b)), .second, .val (.long (((a.toInt64) * (4294967296 : Int64)) + (own_uns b))), .second, .val (.int bs), .val (.int ds), .val (.long (own_of a bs)), .second, .val (.long (own_of c0 ds)), .second, .val (.int (0 : Int32)), .val (.int (1 : Int32))] [(.int (1 : Int32)), (.int (1 : Int32))]))
              refine own_go (fun t k => XS.icmpNo X6.here hx rfl (hb hby at_156) rfl (teq (by decide)).2 k) ?_
              show OwnFin p e below s _ _ _ (T6.setTop (mkF m 159 #[.val (.int a), .val (.int b), .val (.int c0), .val (.int d), .val (.long (own_of a b)), .second, .val (.long (((a.toInt64) * (4294967296 : Int64)) + (own_uns b))), .second, .val (.int bs), .val (.int ds), .val (.long (own_of a bs)), .second, .val (.long (own_of c0 ds)), .second, .val (.int (0 : Int32)), .val (.int (1 : Int32))] []))
              refine own_go (fun t k => XS.iconst X6.here hx rfl (hb hby at_159) k) ?_
              show OwnFin p e below s _ _ _ (T6.setTop (mkF m 160 #[.val (.int a), .val (.int b), .val (.int c0), .val (.int d), .val (.long (own_of a b)), .second, .val (.long (((a.toInt64) * (4294967296 : Int64)) + (own_uns b))), .second, .val (.int bs), .val (.int ds), .val (.long (own_of a bs)), .second, .val (.long (own_of c0 ds)), .second, .val (.int (0 : Int32)), .val (.int (1 : Int32))] [(.int (1 : Int32))]))
              refine own_go (fun t k => XS.goto X6.here hx rfl (pc0 := 160) (pc' := 164) rfl (hb hby at_160) (by decide) (by decide) k) ?_
              show OwnFin p e below s _ _ _ (T6.setTop (mkF m 164 #[.val (.int a), .val (.int b), .val (.int c0), .val (.int d), .val (.long (own_of a b)), .second, .val (.long (((a.toInt64) * (4294967296 : Int64)) + (own_uns b))), .second, .val (.int bs), .val (.int ds), .val (.long (own_of a bs)), .second, .val (.long (own_of c0 ds)), .second, .val (.int (0 : Int32)), .val (.int (1 : Int32))] [(.int (1 : Int32))]))
              refine own_ret X6 (v := some (.int (1 : Int32))) hlk (fun hh => by rw [hret] at hh; cases hh) (fun fs hr => retN X6 hx (t := .boolean) hret (by simp) (hb hby at_164) hr) (by decide) (by decide) ?_
              exact ⟨rfl, N6⟩
            · refine own_go (fun t k => XS.ifYes X6.here hx rfl (pc0 := 146) (pc' := 153) rfl (hb hby at_146) rfl ((if0 _ _).trans (feq (mt (lw_eq (own_of a bs) (own_of c0 ds)).mp hc146)).2) (by decide) (by decide) k) ?_
              show OwnFin p e below s _ _ _ (T6.setTop (mkF m 153 #[.val (.int a), .val (.int b), .val (.int c0), .val (.int d), .val (.long (own_of a b)), .second, .val (.long (((a.toInt64) * (4294967296 : Int64)) + (own_uns b))), .second, .val (.int bs), .val (.int ds), .val (.long (own_of a bs)), .second, .val (.long (own_of c0 ds)), .second, .val (.int (0 : Int32)), .val (.int (1 : Int32))] []))
              refine own_go (fun t k => XS.iconst X6.here hx rfl (hb hby at_153) k) ?_
              show OwnFin p e below s _ _ _ (T6.setTop (mkF m 154 #[.val (.int a), .val (.int b), .val (.int c0), .val (.int d), .val (.long (own_of a b)), .second, .val (.long (((a.toInt64) * (4294967296 : Int64)) + (own_uns b))), .second, .val (.int bs), .val (.int ds), .val (.long (own_of a bs)), .second, .val (.long (own_of c0 ds)), .second, .val (.int (0 : Int32)), .val (.int (1 : Int32))] [(.int (0 : Int32))]))
              refine own_go (fun t k => XS.iload X6.here hx rfl (hb hby at_154) rfl k) ?_
              show OwnFin p e below s _ _ _ (T6.setTop (mkF m 156 #[.val (.int a), .val (.int b), .val (.int c0), .val (.int d), .val (.long (own_of a b)), .second, .val (.long (((a.toInt64) * (4294967296 : Int64)) + (own_uns b))), .second, .val (.int bs), .val (.int ds), .val (.long (own_of a bs)), .second, .val (.long (own_of c0 ds)), .second, .val (.int (0 : Int32)), .val (.int (1 : Int32))] [(.int (1 : Int32)), (.int (0 : Int32))]))
              refine own_go (fun t k => XS.icmpYes X6.here hx rfl (pc0 := 156) (pc' := 163) rfl (hb hby at_156) rfl (feq (by decide)).2 (by decide) (by decide) k) ?_
              show OwnFin p e below s _ _ _ (T6.setTop (mkF m 163 #[.val (.int a), .val (.int b), .val (.int c0), .val (.int d), .val (.long (own_of a b)), .second, .val (.long (((a.toInt64) * (4294967296 : Int64)) + (own_uns b))), .second, .val (.int bs), .val (.int ds), .val (.long (own_of a bs)), .second, .val (.long (own_of c0 ds)), .second, .val (.int (0 : Int32)), .val (.int (1 : Int32))] []))
              refine own_go (fun t k => XS.iconst X6.here hx rfl (hb hby at_163) k) ?_
              show OwnFin p e below s _ _ _ (T6.setTop (mkF m 164 #[.val (.int a), .val (.int b), .val (.int c0), .val (.int d), .val (.long (own_of a b)), .second, .val (.long (((a.toInt64) * (4294967296 : Int64)) + (own_uns b))), .second, .val (.int bs), .val (.int ds), .val (.long (own_of a bs)), .second, .val (.long (own_of c0 ds)), .second, .val (.int (0 : Int32)), .val (.int (1 : Int32))] [(.int (0 : Int32))]))
              have nb := own_nn b
              have nd := own_nn d
              rw [h_bs] at nb
              rw [h_ds] at nd
              have rb := rng32 bs
              have rd := rng32 ds
              have k1 := own_of_toInt a bs
              have k2 := own_of_toInt c0 ds
              rw [Int.emod_eq_of_lt nb (by omega)] at k1
              rw [Int.emod_eq_of_lt nd (by omega)] at k2
              simp only [Int32.lt_iff_toInt_lt, Int64.lt_iff_toInt_lt, ← Int32.toInt_inj, ← Int64.toInt_inj, k1, k2] at hc82 hc87 hc94 hc113 hc128 hc146
              omega
        · refine own_go (fun t k => XS.icmpYes X6.here hx rfl (pc0 := 113) (pc' := 120) rfl (hb hby at_113) rfl (feq hc113).2 (by decide) (by decide) k) ?_
          show OwnFin p e below s _ _ _ (T6.setTop (mkF m 120 #[.val (.int a), .val (.int b), .val (.int c0), .val (.int d), .val (.long (own_of a b)), .second, .val (.long (((a.toInt64) * (4294967296 : Int64)) + (own_uns b))), .second, .val (.int bs), .val (.int ds), .val (.long (own_of a bs)), .second, .val (.long (own_of c0 ds)), .second, .val (.int (0 : Int32)), .unset] []))
          refine own_go (fun t k => XS.iconst X6.here hx rfl (hb hby at_120) k) ?_
          show OwnFin p e below s _ _ _ (T6.setTop (mkF m 121 #[.val (.int a), .val (.int b), .val (.int c0), .val (.int d), .val (.long (own_of a b)), .second, .val (.long (((a.toInt64) * (4294967296 : Int64)) + (own_uns b))), .second, .val (.int bs), .val (.int ds), .val (.long (own_of a bs)), .second, .val (.long (own_of c0 ds)), .second, .val (.int (0 : Int32)), .unset] [(.int (0 : Int32))]))
          refine own_go (fun t k => XS.istore X6.here hx rfl (hb hby at_121) rfl (l' := #[.val (.int a), .val (.int b), .val (.int c0), .val (.int d), .val (.long (own_of a b)), .second, .val (.long (((a.toInt64) * (4294967296 : Int64)) + (own_uns b))), .second, .val (.int bs), .val (.int ds), .val (.long (own_of a bs)), .second, .val (.long (own_of c0 ds)), .second, .val (.int (0 : Int32)), .val (.int (0 : Int32))]) rfl k) ?_
          show OwnFin p e below s _ _ _ (T6.setTop (mkF m 123 #[.val (.int a), .val (.int b), .val (.int c0), .val (.int d), .val (.long (own_of a b)), .second, .val (.long (((a.toInt64) * (4294967296 : Int64)) + (own_uns b))), .second, .val (.int bs), .val (.int ds), .val (.long (own_of a bs)), .second, .val (.long (own_of c0 ds)), .second, .val (.int (0 : Int32)), .val (.int (0 : Int32))] []))
          refine own_go (fun t k => XS.lload X6.here hx rfl (hb hby at_123) rfl k) ?_
          show OwnFin p e below s _ _ _ (T6.setTop (mkF m 125 #[.val (.int a), .val (.int b), .val (.int c0), .val (.int d), .val (.long (own_of a b)), .second, .val (.long (((a.toInt64) * (4294967296 : Int64)) + (own_uns b))), .second, .val (.int bs), .val (.int ds), .val (.long (own_of a bs)), .second, .val (.long (own_of c0 ds)), .second, .val (.int (0 : Int32)), .val (.int (0 : Int32))] [(.long (own_of a bs))]))
          refine own_go (fun t k => XS.lload X6.here hx rfl (hb hby at_125) rfl k) ?_
          show OwnFin p e below s _ _ _ (T6.setTop (mkF m 127 #[.val (.int a), .val (.int b), .val (.int c0), .val (.int d), .val (.long (own_of a b)), .second, .val (.long (((a.toInt64) * (4294967296 : Int64)) + (own_uns b))), .second, .val (.int bs), .val (.int ds), .val (.long (own_of a bs)), .second, .val (.long (own_of c0 ds)), .second, .val (.int (0 : Int32)), .val (.int (0 : Int32))] [(.long (own_of c0 ds)), (.long (own_of a bs))]))
          refine own_go (fun t k => XS.lcmp X6.here hx rfl (hb hby at_127) rfl k) ?_
          show OwnFin p e below s _ _ _ (T6.setTop (mkF m 128 #[.val (.int a), .val (.int b), .val (.int c0), .val (.int d), .val (.long (own_of a b)), .second, .val (.long (((a.toInt64) * (4294967296 : Int64)) + (own_uns b))), .second, .val (.int bs), .val (.int ds), .val (.long (own_of a bs)), .second, .val (.long (own_of c0 ds)), .second, .val (.int (0 : Int32)), .val (.int (0 : Int32))] [(.int (lcmpW (own_of a bs) (own_of c0 ds)))]))
          by_cases hc128 : (own_of a bs) < (own_of c0 ds)
          · refine own_go (fun t k => XS.ifNo X6.here hx rfl (hb hby at_128) rfl ((if0 _ _).trans (tlt ((lw_lt (own_of a bs) (own_of c0 ds)).mpr hc128)).2.1) k) ?_
            show OwnFin p e below s _ _ _ (T6.setTop (mkF m 131 #[.val (.int a), .val (.int b), .val (.int c0), .val (.int d), .val (.long (own_of a b)), .second, .val (.long (((a.toInt64) * (4294967296 : Int64)) + (own_uns b))), .second, .val (.int bs), .val (.int ds), .val (.long (own_of a bs)), .second, .val (.long (own_of c0 ds)), .second, .val (.int (0 : Int32)), .val (.int (0 : Int32))] []))
            refine own_go (fun t k => XS.iconst X6.here hx rfl (hb hby at_131) k) ?_
            show OwnFin p e below s _ _ _ (T6.setTop (mkF m 132 #[.val (.int a), .val (.int b), .val (.int c0), .val (.int d), .val (.long (own_of a b)), .second, .val (.long (((a.toInt64) * (4294967296 : Int64)) + (own_uns b))), .second, .val (.int bs), .val (.int ds), .val (.long (own_of a bs)), .second, .val (.long (own_of c0 ds)), .second, .val (.int (0 : Int32)), .val (.int (0 : Int32))] [(.int (1 : Int32))]))
            refine own_go (fun t k => XS.goto X6.here hx rfl (pc0 := 132) (pc' := 136) rfl (hb hby at_132) (by decide) (by decide) k) ?_
            show OwnFin p e below s _ _ _ (T6.setTop (mkF m 136 #[.val (.int a), .val (.int b), .val (.int c0), .val (.int d), .val (.long (own_of a b)), .second, .val (.long (((a.toInt64) * (4294967296 : Int64)) + (own_uns b))), .second, .val (.int bs), .val (.int ds), .val (.long (own_of a bs)), .second, .val (.long (own_of c0 ds)), .second, .val (.int (0 : Int32)), .val (.int (0 : Int32))] [(.int (1 : Int32))]))
            refine own_go (fun t k => XS.iload X6.here hx rfl (hb hby at_136) rfl k) ?_
            show OwnFin p e below s _ _ _ (T6.setTop (mkF m 138 #[.val (.int a), .val (.int b), .val (.int c0), .val (.int d), .val (.long (own_of a b)), .second, .val (.long (((a.toInt64) * (4294967296 : Int64)) + (own_uns b))), .second, .val (.int bs), .val (.int ds), .val (.long (own_of a bs)), .second, .val (.long (own_of c0 ds)), .second, .val (.int (0 : Int32)), .val (.int (0 : Int32))] [(.int (0 : Int32)), (.int (1 : Int32))]))
            refine own_go (fun t k => XS.icmpYes X6.here hx rfl (pc0 := 138) (pc' := 163) rfl (hb hby at_138) rfl (feq (by decide)).2 (by decide) (by decide) k) ?_
            show OwnFin p e below s _ _ _ (T6.setTop (mkF m 163 #[.val (.int a), .val (.int b), .val (.int c0), .val (.int d), .val (.long (own_of a b)), .second, .val (.long (((a.toInt64) * (4294967296 : Int64)) + (own_uns b))), .second, .val (.int bs), .val (.int ds), .val (.long (own_of a bs)), .second, .val (.long (own_of c0 ds)), .second, .val (.int (0 : Int32)), .val (.int (0 : Int32))] []))
            refine own_go (fun t k => XS.iconst X6.here hx rfl (hb hby at_163) k) ?_
            show OwnFin p e below s _ _ _ (T6.setTop (mkF m 164 #[.val (.int a), .val (.int b), .val (.int c0), .val (.int d), .val (.long (own_of a b)), .second, .val (.long (((a.toInt64) * (4294967296 : Int64)) + (own_uns b))), .second, .val (.int bs), .val (.int ds), .val (.long (own_of a bs)), .second, .val (.long (own_of c0 ds)), .second, .val (.int (0 : Int32)), .val (.int (0 : Int32))] [(.int (0 : Int32))]))
            have nb := own_nn b
            have nd := own_nn d
            rw [h_bs] at nb
            rw [h_ds] at nd
            have rb := rng32 bs
            have rd := rng32 ds
            have k1 := own_of_toInt a bs
            have k2 := own_of_toInt c0 ds
            rw [Int.emod_eq_of_lt nb (by omega)] at k1
            rw [Int.emod_eq_of_lt nd (by omega)] at k2
            simp only [Int32.lt_iff_toInt_lt, Int64.lt_iff_toInt_lt, ← Int32.toInt_inj, ← Int64.toInt_inj, k1, k2] at hc82 hc87 hc94 hc113 hc128
            omega
          · refine own_go (fun t k => XS.ifYes X6.here hx rfl (pc0 := 128) (pc' := 135) rfl (hb hby at_128) rfl ((if0 _ _).trans (flt (mt (lw_lt (own_of a bs) (own_of c0 ds)).mp hc128)).2.1) (by decide) (by decide) k) ?_
            show OwnFin p e below s _ _ _ (T6.setTop (mkF m 135 #[.val (.int a), .val (.int b), .val (.int c0), .val (.int d), .val (.long (own_of a b)), .second, .val (.long (((a.toInt64) * (4294967296 : Int64)) + (own_uns b))), .second, .val (.int bs), .val (.int ds), .val (.long (own_of a bs)), .second, .val (.long (own_of c0 ds)), .second, .val (.int (0 : Int32)), .val (.int (0 : Int32))] []))
            refine own_go (fun t k => XS.iconst X6.here hx rfl (hb hby at_135) k) ?_
            show OwnFin p e below s _ _ _ (T6.setTop (mkF m 136 #[.val (.int a), .val (.int b), .val (.int c0), .val (.int d), .val (.long (own_of a b)), .second, .val (.long (((a.toInt64) * (4294967296 : Int64)) + (own_uns b))), .second, .val (.int bs), .val (.int ds), .val (.long (own_of a bs)), .second, .val (.long (own_of c0 ds)), .second, .val (.int (0 : Int32)), .val (.int (0 : Int32))] [(.int (0 : Int32))]))
            refine own_go (fun t k => XS.iload X6.here hx rfl (hb hby at_136) rfl k) ?_
            show OwnFin p e below s _ _ _ (T6.setTop (mkF m 138 #[.val (.int a), .val (.int b), .val (.int c0), .val (.int d), .val (.long (own_of a b)), .second, .val (.long (((a.toInt64) * (4294967296 : Int64)) + (own_uns b))), .second, .val (.int bs), .val (.int ds), .val (.long (own_of a bs)), .second, .val (.long (own_of c0 ds)), .second, .val (.int (0 : Int32)), .val (.int (0 : Int32))] [(.int (0 : Int32)), (.int (0 : Int32))]))
            refine own_go (fun t k => XS.icmpNo X6.here hx rfl (hb hby at_138) rfl (teq (by decide)).2 k) ?_
            show OwnFin p e below s _ _ _ (T6.setTop (mkF m 141 #[.val (.int a), .val (.int b), .val (.int c0), .val (.int d), .val (.long (own_of a b)), .second, .val (.long (((a.toInt64) * (4294967296 : Int64)) + (own_uns b))), .second, .val (.int bs), .val (.int ds), .val (.long (own_of a bs)), .second, .val (.long (own_of c0 ds)), .second, .val (.int (0 : Int32)), .val (.int (0 : Int32))] []))
            refine own_go (fun t k => XS.lload X6.here hx rfl (hb hby at_141) rfl k) ?_
            show OwnFin p e below s _ _ _ (T6.setTop (mkF m 143 #[.val (.int a), .val (.int b), .val (.int c0), .val (.int d), .val (.long (own_of a b)), .second, .val (.long (((a.toInt64) * (4294967296 : Int64)) + (own_uns b))), .second, .val (.int bs), .val (.int ds), .val (.long (own_of a bs)), .second, .val (.long (own_of c0 ds)), .second, .val (.int (0 : Int32)), .val (.int (0 : Int32))] [(.long (own_of a bs))]))
            refine own_go (fun t k => XS.lload X6.here hx rfl (hb hby at_143) rfl k) ?_
            show OwnFin p e below s _ _ _ (T6.setTop (mkF m 145 #[.val (.int a), .val (.int b), .val (.int c0), .val (.int d), .val (.long (own_of a b)), .second, .val (.long (((a.toInt64) * (4294967296 : Int64)) + (own_uns b))), .second, .val (.int bs), .val (.int ds), .val (.long (own_of a bs)), .second, .val (.long (own_of c0 ds)), .second, .val (.int (0 : Int32)), .val (.int (0 : Int32))] [(.long (own_of c0 ds)), (.long (own_of a bs))]))
            refine own_go (fun t k => XS.lcmp X6.here hx rfl (hb hby at_145) rfl k) ?_
            show OwnFin p e below s _ _ _ (T6.setTop (mkF m 146 #[.val (.int a), .val (.int b), .val (.int c0), .val (.int d), .val (.long (own_of a b)), .second, .val (.long (((a.toInt64) * (4294967296 : Int64)) + (own_uns b))), .second, .val (.int bs), .val (.int ds), .val (.long (own_of a bs)), .second, .val (.long (own_of c0 ds)), .second, .val (.int (0 : Int32)), .val (.int (0 : Int32))] [(.int (lcmpW (own_of a bs) (own_of c0 ds)))]))
            by_cases hc146 : (own_of a bs) = (own_of c0 ds)
            · refine own_go (fun t k => XS.ifNo X6.here hx rfl (hb hby at_146) rfl ((if0 _ _).trans (teq ((lw_eq (own_of a bs) (own_of c0 ds)).mpr hc146)).2) k) ?_
              show OwnFin p e below s _ _ _ (T6.setTop (mkF m 149 #[.val (.int a), .val (.int b), .val (.int c0), .val (.int d), .val (.long (own_of a b)), .second, .val (.long (((a.toInt64) * (4294967296 : Int64)) + (own_uns b))), .second, .val (.int bs), .val (.int ds), .val (.long (own_of a bs)), .second, .val (.long (own_of c0 ds)), .second, .val (.int (0 : Int32)), .val (.int (0 : Int32))] []))
              refine own_go (fun t k => XS.iconst X6.here hx rfl (hb hby at_149) k) ?_
              show OwnFin p e below s _ _ _ (T6.setTop (mkF m 150 #[.val (.int a), .val (.int b), .val (.int c0), .val (.int d), .val (.long (own_of a b)), .second, .val (.long (((a.toInt64) * (4294967296 : Int64)) + (own_uns b))), .second, .val (.int bs), .val (.int ds), .val (.long (own_of a bs)), .second, .val (.long (own_of c0 ds)), .second, .val (.int (0 : Int32)), .val (.int (0 : Int32))] [(.int (1 : Int32))]))
              refine own_go (fun t k => XS.goto X6.here hx rfl (pc0 := 150) (pc' := 154) rfl (hb hby at_150) (by decide) (by decide) k) ?_
              show OwnFin p e below s _ _ _ (T6.setTop (mkF m 154 #[.val (.int a), .val (.int b), .val (.int c0), .val (.int d), .val (.long (own_of a b)), .second, .val (.long (((a.toInt64) * (4294967296 : Int64)) + (own_uns b))), .second, .val (.int bs), .val (.int ds), .val (.long (own_of a bs)), .second, .val (.long (own_of c0 ds)), .second, .val (.int (0 : Int32)), .val (.int (0 : Int32))] [(.int (1 : Int32))]))
              refine own_go (fun t k => XS.iload X6.here hx rfl (hb hby at_154) rfl k) ?_
              show OwnFin p e below s _ _ _ (T6.setTop (mkF m 156 #[.val (.int a), .val (.int b), .val (.int c0), .val (.int d), .val (.long (own_of a b)), .second, .val (.long (((a.toInt64) * (4294967296 : Int64)) + (own_uns b))), .second, .val (.int bs), .val (.int ds), .val (.long (own_of a bs)), .second, .val (.long (own_of c0 ds)), .second, .val (.int (0 : Int32)), .val (.int (0 : Int32))] [(.int (0 : Int32)), (.int (1 : Int32))]))
              refine own_go (fun t k => XS.icmpYes X6.here hx rfl (pc0 := 156) (pc' := 163) rfl (hb hby at_156) rfl (feq (by decide)).2 (by decide) (by decide) k) ?_
              show OwnFin p e below s _ _ _ (T6.setTop (mkF m 163 #[.val (.int a), .val (.int b), .val (.int c0), .val (.int d), .val (.long (own_of a b)), .second, .val (.long (((a.toInt64) * (4294967296 : Int64)) + (own_uns b))), .second, .val (.int bs), .val (.int ds), .val (.long (own_of a bs)), .second, .val (.long (own_of c0 ds)), .second, .val (.int (0 : Int32)), .val (.int (0 : Int32))] []))
              refine own_go (fun t k => XS.iconst X6.here hx rfl (hb hby at_163) k) ?_
              show OwnFin p e below s _ _ _ (T6.setTop (mkF m 164 #[.val (.int a), .val (.int b), .val (.int c0), .val (.int d), .val (.long (own_of a b)), .second, .val (.long (((a.toInt64) * (4294967296 : Int64)) + (own_uns b))), .second, .val (.int bs), .val (.int ds), .val (.long (own_of a bs)), .second, .val (.long (own_of c0 ds)), .second, .val (.int (0 : Int32)), .val (.int (0 : Int32))] [(.int (0 : Int32))]))
              have nb := own_nn b
              have nd := own_nn d
              rw [h_bs] at nb
              rw [h_ds] at nd
              have rb := rng32 bs
              have rd := rng32 ds
              have k1 := own_of_toInt a bs
              have k2 := own_of_toInt c0 ds
              rw [Int.emod_eq_of_lt nb (by omega)] at k1
              rw [Int.emod_eq_of_lt nd (by omega)] at k2
              simp only [Int32.lt_iff_toInt_lt, Int64.lt_iff_toInt_lt, ← Int32.toInt_inj, ← Int64.toInt_inj, k1, k2] at hc82 hc87 hc94 hc113 hc128 hc146
              omega
            · refine own_go (fun t k => XS.ifYes X6.here hx rfl (pc0 := 146) (pc' := 153) rfl (hb hby at_146) rfl ((if0 _ _).trans (feq (mt (lw_eq (own_of a bs) (own_of c0 ds)).mp hc146)).2) (by decide) (by decide) k) ?_
              show OwnFin p e below s _ _ _ (T6.setTop (mkF m 153 #[.val (.int a), .val (.int b), .val (.int c0), .val (.int d), .val (.long (own_of a b)), .second, .val (.long (((a.toInt64) * (4294967296 : Int64)) + (own_uns b))), .second, .val (.int bs), .val (.int ds), .val (.long (own_of a bs)), .second, .val (.long (own_of c0 ds)), .second, .val (.int (0 : Int32)), .val (.int (0 : Int32))] []))
              refine own_go (fun t k => XS.iconst X6.here hx rfl (hb hby at_153) k) ?_
              show OwnFin p e below s _ _ _ (T6.setTop (mkF m 154 #[.val (.int a), .val (.int b), .val (.int c0), .val (.int d), .val (.long (own_of a b)), .second, .val (.long (((a.toInt64) * (4294967296 : Int64)) + (own_uns b))), .second, .val (.int bs), .val (.int ds), .val (.long (own_of a bs)), .second, .val (.long (own_of c0 ds)), .second, .val (.int (0 : Int32)), .val (.int (0 : Int32))] [(.int (0 : Int32))]))
              refine own_go (fun t k => XS.iload X6.here hx rfl (hb hby at_154) rfl k) ?_
              show OwnFin p e below s _ _ _ (T6.setTop (mkF m 156 #[.val (.int a), .val (.int b), .val (.int c0), .val (.int d), .val (.long (own_of a b)), .second, .val (.long (((a.toInt64) * (4294967296 : Int64)) + (own_uns b))), .second, .val (.int bs), .val (.int ds), .val (.long (own_of a bs)), .second, .val (.long (own_of c0 ds)), .second, .val (.int (0 : Int32)), .val (.int (0 : Int32))] [(.int (0 : Int32)), (.int (0 : Int32))]))
              refine own_go (fun t k => XS.icmpNo X6.here hx rfl (hb hby at_156) rfl (teq (by decide)).2 k) ?_
              show OwnFin p e below s _ _ _ (T6.setTop (mkF m 159 #[.val (.int a), .val (.int b), .val (.int c0), .val (.int d), .val (.long (own_of a b)), .second, .val (.long (((a.toInt64) * (4294967296 : Int64)) + (own_uns b))), .second, .val (.int bs), .val (.int ds), .val (.long (own_of a bs)), .second, .val (.long (own_of c0 ds)), .second, .val (.int (0 : Int32)), .val (.int (0 : Int32))] []))
              refine own_go (fun t k => XS.iconst X6.here hx rfl (hb hby at_159) k) ?_
              show OwnFin p e below s _ _ _ (T6.setTop (mkF m 160 #[.val (.int a), .val (.int b), .val (.int c0), .val (.int d), .val (.long (own_of a b)), .second, .val (.long (((a.toInt64) * (4294967296 : Int64)) + (own_uns b))), .second, .val (.int bs), .val (.int ds), .val (.long (own_of a bs)), .second, .val (.long (own_of c0 ds)), .second, .val (.int (0 : Int32)), .val (.int (0 : Int32))] [(.int (1 : Int32))]))
              refine own_go (fun t k => XS.goto X6.here hx rfl (pc0 := 160) (pc' := 164) rfl (hb hby at_160) (by decide) (by decide) k) ?_
              show OwnFin p e below s _ _ _ (T6.setTop (mkF m 164 #[.val (.int a), .val (.int b), .val (.int c0), .val (.int d), .val (.long (own_of a b)), .second, .val (.long (((a.toInt64) * (4294967296 : Int64)) + (own_uns b))), .second, .val (.int bs), .val (.int ds), .val (.long (own_of a bs)), .second, .val (.long (own_of c0 ds)), .second, .val (.int (0 : Int32)), .val (.int (0 : Int32))] [(.int (1 : Int32))]))
              refine own_ret X6 (v := some (.int (1 : Int32))) hlk (fun hh => by rw [hret] at hh; cases hh) (fun fs hr => retN X6 hx (t := .boolean) hret (by simp) (hb hby at_164) hr) (by decide) (by decide) ?_
              exact ⟨rfl, N6⟩
    · refine own_go (fun t k => XS.icmpYes X6.here hx rfl (pc0 := 87) (pc' := 101) rfl (hb hby at_87) rfl (feq hc87).2 (by decide) (by decide) k) ?_
      show OwnFin p e below s _ _ _ (T6.setTop (mkF m 101 #[.val (.int a), .val (.int b), .val (.int c0), .val (.int d), .val (.long (own_of a b)), .second, .val (.long (((a.toInt64) * (4294967296 : Int64)) + (own_uns b))), .second, .val (.int bs), .val (.int ds), .val (.long (own_of a bs)), .second, .val (.long (own_of c0 ds)), .second, .unset, .unset] []))
      refine own_go (fun t k => XS.iconst X6.here hx rfl (hb hby at_101) k) ?_
      show OwnFin p e below s _ _ _ (T6.setTop (mkF m 102 #[.val (.int a), .val (.int b), .val (.int c0), .val (.int d), .val (.long (own_of a b)), .second, .val (.long (((a.toInt64) * (4294967296 : Int64)) + (own_uns b))), .second, .val (.int bs), .val (.int ds), .val (.long (own_of a bs)), .second, .val (.long (own_of c0 ds)), .second, .unset, .unset] [(.int (0 : Int32))]))
      refine own_go (fun t k => XS.istore X6.here hx rfl (hb hby at_102) rfl (l' := #[.val (.int a), .val (.int b), .val (.int c0), .val (.int d), .val (.long (own_of a b)), .second, .val (.long (((a.toInt64) * (4294967296 : Int64)) + (own_uns b))), .second, .val (.int bs), .val (.int ds), .val (.long (own_of a bs)), .second, .val (.long (own_of c0 ds)), .second, .val (.int (0 : Int32)), .unset]) rfl k) ?_
      show OwnFin p e below s _ _ _ (T6.setTop (mkF m 104 #[.val (.int a), .val (.int b), .val (.int c0), .val (.int d), .val (.long (own_of a b)), .second, .val (.long (((a.toInt64) * (4294967296 : Int64)) + (own_uns b))), .second, .val (.int bs), .val (.int ds), .val (.long (own_of a bs)), .second, .val (.long (own_of c0 ds)), .second, .val (.int (0 : Int32)), .unset] []))
      refine own_go (fun t k => XS.iloadN X6.here hx rfl (hb hby at_104) rfl k) ?_
      show OwnFin p e below s _ _ _ (T6.setTop (mkF m 105 #[.val (.int a), .val (.int b), .val (.int c0), .val (.int d), .val (.long (own_of a b)), .second, .val (.long (((a.toInt64) * (4294967296 : Int64)) + (own_uns b))), .second, .val (.int bs), .val (.int ds), .val (.long (own_of a bs)), .second, .val (.long (own_of c0 ds)), .second, .val (.int (0 : Int32)), .unset] [(.int a)]))
      refine own_go (fun t k => XS.iloadN X6.here hx rfl (hb hby at_105) rfl k) ?_
      show OwnFin p e below s _ _ _ (T6.setTop (mkF m 106 #[.val (.int a), .val (.int b), .val (.int c0), .val (.int d), .val (.long (own_of a b)), .second, .val (.long (((a.toInt64) * (4294967296 : Int64)) + (own_uns b))), .second, .val (.int bs), .val (.int ds), .val (.long (own_of a bs)), .second, .val (.long (own_of c0 ds)), .second, .val (.int (0 : Int32)), .unset] [(.int c0), (.int a)]))
      refine own_go (fun t k => XS.icmpYes X6.here hx rfl (pc0 := 106) (pc' := 120) rfl (hb hby at_106) rfl (feq hc87).2 (by decide) (by decide) k) ?_
      show OwnFin p e below s _ _ _ (T6.setTop (mkF m 120 #[.val (.int a), .val (.int b), .val (.int c0), .val (.int d), .val (.long (own_of a b)), .second, .val (.long (((a.toInt64) * (4294967296 : Int64)) + (own_uns b))), .second, .val (.int bs), .val (.int ds), .val (.long (own_of a bs)), .second, .val (.long (own_of c0 ds)), .second, .val (.int (0 : Int32)), .unset] []))
      refine own_go (fun t k => XS.iconst X6.here hx rfl (hb hby at_120) k) ?_
      show OwnFin p e below s _ _ _ (T6.setTop (mkF m 121 #[.val (.int a), .val (.int b), .val (.int c0), .val (.int d), .val (.long (own_of a b)), .second, .val (.long (((a.toInt64) * (4294967296 : Int64)) + (own_uns b))), .second, .val (.int bs), .val (.int ds), .val (.long (own_of a bs)), .second, .val (.long (own_of c0 ds)), .second, .val (.int (0 : Int32)), .unset] [(.int (0 : Int32))]))
      refine own_go (fun t k => XS.istore X6.here hx rfl (hb hby at_121) rfl (l' := #[.val (.int a), .val (.int b), .val (.int c0), .val (.int d), .val (.long (own_of a b)), .second, .val (.long (((a.toInt64) * (4294967296 : Int64)) + (own_uns b))), .second, .val (.int bs), .val (.int ds), .val (.long (own_of a bs)), .second, .val (.long (own_of c0 ds)), .second, .val (.int (0 : Int32)), .val (.int (0 : Int32))]) rfl k) ?_
      show OwnFin p e below s _ _ _ (T6.setTop (mkF m 123 #[.val (.int a), .val (.int b), .val (.int c0), .val (.int d), .val (.long (own_of a b)), .second, .val (.long (((a.toInt64) * (4294967296 : Int64)) + (own_uns b))), .second, .val (.int bs), .val (.int ds), .val (.long (own_of a bs)), .second, .val (.long (own_of c0 ds)), .second, .val (.int (0 : Int32)), .val (.int (0 : Int32))] []))
      refine own_go (fun t k => XS.lload X6.here hx rfl (hb hby at_123) rfl k) ?_
      show OwnFin p e below s _ _ _ (T6.setTop (mkF m 125 #[.val (.int a), .val (.int b), .val (.int c0), .val (.int d), .val (.long (own_of a b)), .second, .val (.long (((a.toInt64) * (4294967296 : Int64)) + (own_uns b))), .second, .val (.int bs), .val (.int ds), .val (.long (own_of a bs)), .second, .val (.long (own_of c0 ds)), .second, .val (.int (0 : Int32)), .val (.int (0 : Int32))] [(.long (own_of a bs))]))
      refine own_go (fun t k => XS.lload X6.here hx rfl (hb hby at_125) rfl k) ?_
      show OwnFin p e below s _ _ _ (T6.setTop (mkF m 127 #[.val (.int a), .val (.int b), .val (.int c0), .val (.int d), .val (.long (own_of a b)), .second, .val (.long (((a.toInt64) * (4294967296 : Int64)) + (own_uns b))), .second, .val (.int bs), .val (.int ds), .val (.long (own_of a bs)), .second, .val (.long (own_of c0 ds)), .second, .val (.int (0 : Int32)), .val (.int (0 : Int32))] [(.long (own_of c0 ds)), (.long (own_of a bs))]))
      refine own_go (fun t k => XS.lcmp X6.here hx rfl (hb hby at_127) rfl k) ?_
      show OwnFin p e below s _ _ _ (T6.setTop (mkF m 128 #[.val (.int a), .val (.int b), .val (.int c0), .val (.int d), .val (.long (own_of a b)), .second, .val (.long (((a.toInt64) * (4294967296 : Int64)) + (own_uns b))), .second, .val (.int bs), .val (.int ds), .val (.long (own_of a bs)), .second, .val (.long (own_of c0 ds)), .second, .val (.int (0 : Int32)), .val (.int (0 : Int32))] [(.int (lcmpW (own_of a bs) (own_of c0 ds)))]))
      by_cases hc128 : (own_of a bs) < (own_of c0 ds)
      · refine own_go (fun t k => XS.ifNo X6.here hx rfl (hb hby at_128) rfl ((if0 _ _).trans (tlt ((lw_lt (own_of a bs) (own_of c0 ds)).mpr hc128)).2.1) k) ?_
        show OwnFin p e below s _ _ _ (T6.setTop (mkF m 131 #[.val (.int a), .val (.int b), .val (.int c0), .val (.int d), .val (.long (own_of a b)), .second, .val (.long (((a.toInt64) * (4294967296 : Int64)) + (own_uns b))), .second, .val (.int bs), .val (.int ds), .val (.long (own_of a bs)), .second, .val (.long (own_of c0 ds)), .second, .val (.int (0 : Int32)), .val (.int (0 : Int32))] []))
        refine own_go (fun t k => XS.iconst X6.here hx rfl (hb hby at_131) k) ?_
        show OwnFin p e below s _ _ _ (T6.setTop (mkF m 132 #[.val (.int a), .val (.int b), .val (.int c0), .val (.int d), .val (.long (own_of a b)), .second, .val (.long (((a.toInt64) * (4294967296 : Int64)) + (own_uns b))), .second, .val (.int bs), .val (.int ds), .val (.long (own_of a bs)), .second, .val (.long (own_of c0 ds)), .second, .val (.int (0 : Int32)), .val (.int (0 : Int32))] [(.int (1 : Int32))]))
        refine own_go (fun t k => XS.goto X6.here hx rfl (pc0 := 132) (pc' := 136) rfl (hb hby at_132) (by decide) (by decide) k) ?_
        show OwnFin p e below s _ _ _ (T6.setTop (mkF m 136 #[.val (.int a), .val (.int b), .val (.int c0), .val (.int d), .val (.long (own_of a b)), .second, .val (.long (((a.toInt64) * (4294967296 : Int64)) + (own_uns b))), .second, .val (.int bs), .val (.int ds), .val (.long (own_of a bs)), .second, .val (.long (own_of c0 ds)), .second, .val (.int (0 : Int32)), .val (.int (0 : Int32))] [(.int (1 : Int32))]))
        refine own_go (fun t k => XS.iload X6.here hx rfl (hb hby at_136) rfl k) ?_
        show OwnFin p e below s _ _ _ (T6.setTop (mkF m 138 #[.val (.int a), .val (.int b), .val (.int c0), .val (.int d), .val (.long (own_of a b)), .second, .val (.long (((a.toInt64) * (4294967296 : Int64)) + (own_uns b))), .second, .val (.int bs), .val (.int ds), .val (.long (own_of a bs)), .second, .val (.long (own_of c0 ds)), .second, .val (.int (0 : Int32)), .val (.int (0 : Int32))] [(.int (0 : Int32)), (.int (1 : Int32))]))
        refine own_go (fun t k => XS.icmpYes X6.here hx rfl (pc0 := 138) (pc' := 163) rfl (hb hby at_138) rfl (feq (by decide)).2 (by decide) (by decide) k) ?_
        show OwnFin p e below s _ _ _ (T6.setTop (mkF m 163 #[.val (.int a), .val (.int b), .val (.int c0), .val (.int d), .val (.long (own_of a b)), .second, .val (.long (((a.toInt64) * (4294967296 : Int64)) + (own_uns b))), .second, .val (.int bs), .val (.int ds), .val (.long (own_of a bs)), .second, .val (.long (own_of c0 ds)), .second, .val (.int (0 : Int32)), .val (.int (0 : Int32))] []))
        refine own_go (fun t k => XS.iconst X6.here hx rfl (hb hby at_163) k) ?_
        show OwnFin p e below s _ _ _ (T6.setTop (mkF m 164 #[.val (.int a), .val (.int b), .val (.int c0), .val (.int d), .val (.long (own_of a b)), .second, .val (.long (((a.toInt64) * (4294967296 : Int64)) + (own_uns b))), .second, .val (.int bs), .val (.int ds), .val (.long (own_of a bs)), .second, .val (.long (own_of c0 ds)), .second, .val (.int (0 : Int32)), .val (.int (0 : Int32))] [(.int (0 : Int32))]))
        have nb := own_nn b
        have nd := own_nn d
        rw [h_bs] at nb
        rw [h_ds] at nd
        have rb := rng32 bs
        have rd := rng32 ds
        have k1 := own_of_toInt a bs
        have k2 := own_of_toInt c0 ds
        rw [Int.emod_eq_of_lt nb (by omega)] at k1
        rw [Int.emod_eq_of_lt nd (by omega)] at k2
        simp only [Int32.lt_iff_toInt_lt, Int64.lt_iff_toInt_lt, ← Int32.toInt_inj, ← Int64.toInt_inj, k1, k2] at hc82 hc87 hc128
        omega
      · refine own_go (fun t k => XS.ifYes X6.here hx rfl (pc0 := 128) (pc' := 135) rfl (hb hby at_128) rfl ((if0 _ _).trans (flt (mt (lw_lt (own_of a bs) (own_of c0 ds)).mp hc128)).2.1) (by decide) (by decide) k) ?_
        show OwnFin p e below s _ _ _ (T6.setTop (mkF m 135 #[.val (.int a), .val (.int b), .val (.int c0), .val (.int d), .val (.long (own_of a b)), .second, .val (.long (((a.toInt64) * (4294967296 : Int64)) + (own_uns b))), .second, .val (.int bs), .val (.int ds), .val (.long (own_of a bs)), .second, .val (.long (own_of c0 ds)), .second, .val (.int (0 : Int32)), .val (.int (0 : Int32))] []))
        refine own_go (fun t k => XS.iconst X6.here hx rfl (hb hby at_135) k) ?_
        show OwnFin p e below s _ _ _ (T6.setTop (mkF m 136 #[.val (.int a), .val (.int b), .val (.int c0), .val (.int d), .val (.long (own_of a b)), .second, .val (.long (((a.toInt64) * (4294967296 : Int64)) + (own_uns b))), .second, .val (.int bs), .val (.int ds), .val (.long (own_of a bs)), .second, .val (.long (own_of c0 ds)), .second, .val (.int (0 : Int32)), .val (.int (0 : Int32))] [(.int (0 : Int32))]))
        refine own_go (fun t k => XS.iload X6.here hx rfl (hb hby at_136) rfl k) ?_
        show OwnFin p e below s _ _ _ (T6.setTop (mkF m 138 #[.val (.int a), .val (.int b), .val (.int c0), .val (.int d), .val (.long (own_of a b)), .second, .val (.long (((a.toInt64) * (4294967296 : Int64)) + (own_uns b))), .second, .val (.int bs), .val (.int ds), .val (.long (own_of a bs)), .second, .val (.long (own_of c0 ds)), .second, .val (.int (0 : Int32)), .val (.int (0 : Int32))] [(.int (0 : Int32)), (.int (0 : Int32))]))
        refine own_go (fun t k => XS.icmpNo X6.here hx rfl (hb hby at_138) rfl (teq (by decide)).2 k) ?_
        show OwnFin p e below s _ _ _ (T6.setTop (mkF m 141 #[.val (.int a), .val (.int b), .val (.int c0), .val (.int d), .val (.long (own_of a b)), .second, .val (.long (((a.toInt64) * (4294967296 : Int64)) + (own_uns b))), .second, .val (.int bs), .val (.int ds), .val (.long (own_of a bs)), .second, .val (.long (own_of c0 ds)), .second, .val (.int (0 : Int32)), .val (.int (0 : Int32))] []))
        refine own_go (fun t k => XS.lload X6.here hx rfl (hb hby at_141) rfl k) ?_
        show OwnFin p e below s _ _ _ (T6.setTop (mkF m 143 #[.val (.int a), .val (.int b), .val (.int c0), .val (.int d), .val (.long (own_of a b)), .second, .val (.long (((a.toInt64) * (4294967296 : Int64)) + (own_uns b))), .second, .val (.int bs), .val (.int ds), .val (.long (own_of a bs)), .second, .val (.long (own_of c0 ds)), .second, .val (.int (0 : Int32)), .val (.int (0 : Int32))] [(.long (own_of a bs))]))
        refine own_go (fun t k => XS.lload X6.here hx rfl (hb hby at_143) rfl k) ?_
        show OwnFin p e below s _ _ _ (T6.setTop (mkF m 145 #[.val (.int a), .val (.int b), .val (.int c0), .val (.int d), .val (.long (own_of a b)), .second, .val (.long (((a.toInt64) * (4294967296 : Int64)) + (own_uns b))), .second, .val (.int bs), .val (.int ds), .val (.long (own_of a bs)), .second, .val (.long (own_of c0 ds)), .second, .val (.int (0 : Int32)), .val (.int (0 : Int32))] [(.long (own_of c0 ds)), (.long (own_of a bs))]))
        refine own_go (fun t k => XS.lcmp X6.here hx rfl (hb hby at_145) rfl k) ?_
        show OwnFin p e below s _ _ _ (T6.setTop (mkF m 146 #[.val (.int a), .val (.int b), .val (.int c0), .val (.int d), .val (.long (own_of a b)), .second, .val (.long (((a.toInt64) * (4294967296 : Int64)) + (own_uns b))), .second, .val (.int bs), .val (.int ds), .val (.long (own_of a bs)), .second, .val (.long (own_of c0 ds)), .second, .val (.int (0 : Int32)), .val (.int (0 : Int32))] [(.int (lcmpW (own_of a bs) (own_of c0 ds)))]))
        by_cases hc146 : (own_of a bs) = (own_of c0 ds)
        · refine own_go (fun t k => XS.ifNo X6.here hx rfl (hb hby at_146) rfl ((if0 _ _).trans (teq ((lw_eq (own_of a bs) (own_of c0 ds)).mpr hc146)).2) k) ?_
          show OwnFin p e below s _ _ _ (T6.setTop (mkF m 149 #[.val (.int a), .val (.int b), .val (.int c0), .val (.int d), .val (.long (own_of a b)), .second, .val (.long (((a.toInt64) * (4294967296 : Int64)) + (own_uns b))), .second, .val (.int bs), .val (.int ds), .val (.long (own_of a bs)), .second, .val (.long (own_of c0 ds)), .second, .val (.int (0 : Int32)), .val (.int (0 : Int32))] []))
          refine own_go (fun t k => XS.iconst X6.here hx rfl (hb hby at_149) k) ?_
          show OwnFin p e below s _ _ _ (T6.setTop (mkF m 150 #[.val (.int a), .val (.int b), .val (.int c0), .val (.int d), .val (.long (own_of a b)), .second, .val (.long (((a.toInt64) * (4294967296 : Int64)) + (own_uns b))), .second, .val (.int bs), .val (.int ds), .val (.long (own_of a bs)), .second, .val (.long (own_of c0 ds)), .second, .val (.int (0 : Int32)), .val (.int (0 : Int32))] [(.int (1 : Int32))]))
          refine own_go (fun t k => XS.goto X6.here hx rfl (pc0 := 150) (pc' := 154) rfl (hb hby at_150) (by decide) (by decide) k) ?_
          show OwnFin p e below s _ _ _ (T6.setTop (mkF m 154 #[.val (.int a), .val (.int b), .val (.int c0), .val (.int d), .val (.long (own_of a b)), .second, .val (.long (((a.toInt64) * (4294967296 : Int64)) + (own_uns b))), .second, .val (.int bs), .val (.int ds), .val (.long (own_of a bs)), .second, .val (.long (own_of c0 ds)), .second, .val (.int (0 : Int32)), .val (.int (0 : Int32))] [(.int (1 : Int32))]))
          refine own_go (fun t k => XS.iload X6.here hx rfl (hb hby at_154) rfl k) ?_
          show OwnFin p e below s _ _ _ (T6.setTop (mkF m 156 #[.val (.int a), .val (.int b), .val (.int c0), .val (.int d), .val (.long (own_of a b)), .second, .val (.long (((a.toInt64) * (4294967296 : Int64)) + (own_uns b))), .second, .val (.int bs), .val (.int ds), .val (.long (own_of a bs)), .second, .val (.long (own_of c0 ds)), .second, .val (.int (0 : Int32)), .val (.int (0 : Int32))] [(.int (0 : Int32)), (.int (1 : Int32))]))
          refine own_go (fun t k => XS.icmpYes X6.here hx rfl (pc0 := 156) (pc' := 163) rfl (hb hby at_156) rfl (feq (by decide)).2 (by decide) (by decide) k) ?_
          show OwnFin p e below s _ _ _ (T6.setTop (mkF m 163 #[.val (.int a), .val (.int b), .val (.int c0), .val (.int d), .val (.long (own_of a b)), .second, .val (.long (((a.toInt64) * (4294967296 : Int64)) + (own_uns b))), .second, .val (.int bs), .val (.int ds), .val (.long (own_of a bs)), .second, .val (.long (own_of c0 ds)), .second, .val (.int (0 : Int32)), .val (.int (0 : Int32))] []))
          refine own_go (fun t k => XS.iconst X6.here hx rfl (hb hby at_163) k) ?_
          show OwnFin p e below s _ _ _ (T6.setTop (mkF m 164 #[.val (.int a), .val (.int b), .val (.int c0), .val (.int d), .val (.long (own_of a b)), .second, .val (.long (((a.toInt64) * (4294967296 : Int64)) + (own_uns b))), .second, .val (.int bs), .val (.int ds), .val (.long (own_of a bs)), .second, .val (.long (own_of c0 ds)), .second, .val (.int (0 : Int32)), .val (.int (0 : Int32))] [(.int (0 : Int32))]))
          have nb := own_nn b
          have nd := own_nn d
          rw [h_bs] at nb
          rw [h_ds] at nd
          have rb := rng32 bs
          have rd := rng32 ds
          have k1 := own_of_toInt a bs
          have k2 := own_of_toInt c0 ds
          rw [Int.emod_eq_of_lt nb (by omega)] at k1
          rw [Int.emod_eq_of_lt nd (by omega)] at k2
          simp only [Int32.lt_iff_toInt_lt, Int64.lt_iff_toInt_lt, ← Int32.toInt_inj, ← Int64.toInt_inj, k1, k2] at hc82 hc87 hc128 hc146
          omega
        · refine own_go (fun t k => XS.ifYes X6.here hx rfl (pc0 := 146) (pc' := 153) rfl (hb hby at_146) rfl ((if0 _ _).trans (feq (mt (lw_eq (own_of a bs) (own_of c0 ds)).mp hc146)).2) (by decide) (by decide) k) ?_
          show OwnFin p e below s _ _ _ (T6.setTop (mkF m 153 #[.val (.int a), .val (.int b), .val (.int c0), .val (.int d), .val (.long (own_of a b)), .second, .val (.long (((a.toInt64) * (4294967296 : Int64)) + (own_uns b))), .second, .val (.int bs), .val (.int ds), .val (.long (own_of a bs)), .second, .val (.long (own_of c0 ds)), .second, .val (.int (0 : Int32)), .val (.int (0 : Int32))] []))
          refine own_go (fun t k => XS.iconst X6.here hx rfl (hb hby at_153) k) ?_
          show OwnFin p e below s _ _ _ (T6.setTop (mkF m 154 #[.val (.int a), .val (.int b), .val (.int c0), .val (.int d), .val (.long (own_of a b)), .second, .val (.long (((a.toInt64) * (4294967296 : Int64)) + (own_uns b))), .second, .val (.int bs), .val (.int ds), .val (.long (own_of a bs)), .second, .val (.long (own_of c0 ds)), .second, .val (.int (0 : Int32)), .val (.int (0 : Int32))] [(.int (0 : Int32))]))
          refine own_go (fun t k => XS.iload X6.here hx rfl (hb hby at_154) rfl k) ?_
          show OwnFin p e below s _ _ _ (T6.setTop (mkF m 156 #[.val (.int a), .val (.int b), .val (.int c0), .val (.int d), .val (.long (own_of a b)), .second, .val (.long (((a.toInt64) * (4294967296 : Int64)) + (own_uns b))), .second, .val (.int bs), .val (.int ds), .val (.long (own_of a bs)), .second, .val (.long (own_of c0 ds)), .second, .val (.int (0 : Int32)), .val (.int (0 : Int32))] [(.int (0 : Int32)), (.int (0 : Int32))]))
          refine own_go (fun t k => XS.icmpNo X6.here hx rfl (hb hby at_156) rfl (teq (by decide)).2 k) ?_
          show OwnFin p e below s _ _ _ (T6.setTop (mkF m 159 #[.val (.int a), .val (.int b), .val (.int c0), .val (.int d), .val (.long (own_of a b)), .second, .val (.long (((a.toInt64) * (4294967296 : Int64)) + (own_uns b))), .second, .val (.int bs), .val (.int ds), .val (.long (own_of a bs)), .second, .val (.long (own_of c0 ds)), .second, .val (.int (0 : Int32)), .val (.int (0 : Int32))] []))
          refine own_go (fun t k => XS.iconst X6.here hx rfl (hb hby at_159) k) ?_
          show OwnFin p e below s _ _ _ (T6.setTop (mkF m 160 #[.val (.int a), .val (.int b), .val (.int c0), .val (.int d), .val (.long (own_of a b)), .second, .val (.long (((a.toInt64) * (4294967296 : Int64)) + (own_uns b))), .second, .val (.int bs), .val (.int ds), .val (.long (own_of a bs)), .second, .val (.long (own_of c0 ds)), .second, .val (.int (0 : Int32)), .val (.int (0 : Int32))] [(.int (1 : Int32))]))
          refine own_go (fun t k => XS.goto X6.here hx rfl (pc0 := 160) (pc' := 164) rfl (hb hby at_160) (by decide) (by decide) k) ?_
          show OwnFin p e below s _ _ _ (T6.setTop (mkF m 164 #[.val (.int a), .val (.int b), .val (.int c0), .val (.int d), .val (.long (own_of a b)), .second, .val (.long (((a.toInt64) * (4294967296 : Int64)) + (own_uns b))), .second, .val (.int bs), .val (.int ds), .val (.long (own_of a bs)), .second, .val (.long (own_of c0 ds)), .second, .val (.int (0 : Int32)), .val (.int (0 : Int32))] [(.int (1 : Int32))]))
          refine own_ret X6 (v := some (.int (1 : Int32))) hlk (fun hh => by rw [hret] at hh; cases hh) (fun fs hr => retN X6 hx (t := .boolean) hret (by simp) (hb hby at_164) hr) (by decide) (by decide) ?_
          exact ⟨rfl, N6⟩
set_option maxRecDepth 65536 in
set_option maxHeartbeats 40000000 in
theorem comes_1 {Post : Tables → Env → Array Value → State → Outcome → State → Prop} (hpost : ∀ tb e args s v u, (limb_1_1.after args s (.returned v) u = true ∧ limb_1_2.after args s (.returned v) u = true ∧ True) → FrameEnd s (.returned v) u (Jvm.fieldLocs frame_1_writes args s ++ Jvm.arrayLocs frame_1_arrays args s ++ Jvm.staticLocs frame_1_statics s) 0 0 → Post tb e args s (.returned v) u) :
    ArmFor flags0 classFile x code maxLocals ret World_1 tables_1 room_1 Calls_1 rest_1 Pre_1 Post := by
  intro l hfl _ _ p e ha hc hk s m args below hf hA hF happ hP
  obtain ⟨hcalls, hrest, hpre⟩ := hP
  obtain ⟨-, -, -, hnamed, -, -, -, hat⟩ := (Spec.applies_iff hf).mp happ
  obtain ⟨hg, hn⟩ := and_e (Cond.before_iff.mp (show (Jvm.Cond.and given_1 narrow_1).before args s = true from hpre))
  obtain ⟨g1, g2⟩ := and_e hg
  obtain ⟨g3, g4⟩ := and_e g2
  obtain ⟨g5, g6⟩ := and_e g4
  obtain ⟨g7, g8⟩ := and_e g6
  obtain ⟨w0, w1, w2, w3, rfl⟩ : ∃ w0 w1 w2 w3 : Value, args = #[w0, w1, w2, w3] := by
    have hs : args.size = 4 := by simpa [Cond.value, given_1] using g1
    obtain ⟨L⟩ := args
    match L, hs with
    | [w0, w1, w2, w3], _ => exact ⟨w0, w1, w2, w3, rfl⟩
  have hw := fun d (hd : d ∈ tables_1) => atoms_spec (ws := Jvm.Cond.code x code maxLocals ret :: tables_1) hat d (List.mem_cons_of_mem _ hd)
  have hfit : Fit s := fun {y c} hc i hi => by
    obtain ⟨ha, rfl⟩ := Array.getElem?_eq_some_iff.mp hc
    have q := List.all_eq_true.mp ((Array.all_eq_true_iff_forall_mem.mp hF) _ (Array.getElem_mem ha)) i (List.mem_range.mpr hi)
    simpa [Array.getElem?_eq_getElem hi] using q
  obtain ⟨i0, ei0⟩ := is_v g3
  obtain rfl : w0 = (.int i0) := Option.some.inj ei0
  obtain ⟨i1, ei1⟩ := is_v g5
  obtain rfl : w1 = (.int i1) := Option.some.inj ei1
  obtain ⟨i2, ei2⟩ := is_v g7
  obtain rfl : w2 = (.int i2) := Option.some.inj ei2
  obtain ⟨i3, ei3⟩ := is_v g8
  obtain rfl : w3 = (.int i3) := Option.some.inj ei3
  obtain ⟨n, o, h1, h2, h3, _, L, rfl, ⟨rfl, N⟩, hq⟩ := rm0 l s _ hw tables_1 i0 i1 i2 i3 s.heap s.heap.size (Nat.le_refl _) p e ha hc hk s m _ below hf ((Spec.applies_iff_loose hf).mp happ).1 ⟨rfl, State.Warmed39.refl s, rfl⟩ trivial
  refine ⟨n, _, h1, h2, h3, hpost _ _ _ _ _ _ ⟨Cond.after_iff.mpr rfl, Cond.after_iff.mpr (eq_i res_at (Term.int_eval (1)) rfl), trivial⟩ ⟨hq.1, hq.2.1, (hq.2.2.sift fun y hy => Or.inr (N y hy)).mono (by decide) (by decide)⟩⟩
theorem main_1_1 : Claimed_1_1 := comes_1 fun _ _ _ _ _ _ h hF => ⟨h.1, hF⟩
theorem main_1_2 : Claimed_1_2 := comes_1 fun _ _ _ _ _ _ h hF => ⟨h.2.1, hF⟩
end Jvm.Pilot.@@N@@
namespace Jvm.Pilot.@@N@@
open Jvm Jvm.ClassFile Sem Op Lib Jvm.Free Jvm.Stand Jvm.Pilot.@@N@@.Jvm.D
/-! MADE BY PROGRAM (witnessworld.py) out of the Statement's table words and the real class files: 9 classes; the members and pool entries that the words name. The judged class is class 1, her method 2. -/
namespace start1
open Jvm.ClassFile
def u (s : String) : CpInfo := .utf8 (stringToUtf16 s)
/-- a pool by its gaps: so many unusable entries, then the entry; so many at the end -/
def gap : Nat → List CpInfo → List CpInfo
  | 0, r => r
  | n + 1, r => .unusable :: gap n r
def poolList (es : List (Nat × CpInfo)) (last : Nat) : List CpInfo := es.foldr (fun e r => gap e.1 (e.2 :: r)) (gap last [])
def pool (es : List (Nat × CpInfo)) (last : Nat) : Array CpInfo := ⟨poolList es last⟩
def fileOf (pool : Array CpInfo) (this : Nat) (attrs : Array Attribute := #[]) (ms : Array MethodInfo := #[]) (fl : Nat := 33) (sup : Nat := 0) (ifs : Array Nat := #[]) (fds : Array FieldInfo := #[]) : ClassFile where
  minorVersion := 0
  majorVersion := 65
  constantPool := pool
  accessFlags := fl
  thisClass := this
  superClass := sup
  interfaces := ifs
  fields := fds
  methods := ms
  attributes := attrs
def plain (name : String) (sup : Option ClassId) : Class where
  name := name
  kind := .ordinary
  loader := none
  accessFlags := 33
  super := sup
  interfaces := #[]
  cf := none
  fields := #[]
  methods := #[]
  instanceTypes := #[]
  staticTypes := #[]
  resolved := #[]
  callSites := []
  init := .initialized
  statics := none
  mirror := none

def pool0 : Array CpInfo := pool [(5, u "<init>"), (0, u "()V"), (1, .class_ 10), (1, u "java/lang/Object")] 113

def k0m0 : Method := { name := "<init>", desc := "()V", sig := { parameters := [], returnType := none }, accessFlags := 1, code := none }
/-- java/lang/Object -/
def k0 : Class := { plain "java/lang/Object" none with
  accessFlags := 33
  interfaces := #[]
  cf := some (fileOf pool0 8 #[] #[{ accessFlags := 1, nameIndex := 5, descriptorIndex := 6, attributes := #[] }] 33 0 #[] #[])
  fields := #[]
  methods := #[k0m0]
  instanceTypes := #[]
  staticTypes := #[]
  resolved := Array.replicate 124 none
  statics := none }

def pool1 : Array CpInfo := pool [(2, .class_ 4), (1, u "java/lang/Object"), (0, u "<init>"), (0, u "()V"), (0, .long 4294967296), (1, .methodref 10 11), (0, .class_ 12), (0, .nameAndType 13 14), (0, u "com/example/trapline/trapline/decide/Pairs"), (0, u "of"), (0, u "(II)J"), (0, .methodref 16 17), (0, .class_ 18), (0, .nameAndType 19 20), (0, u "com/example/trapline/trapline/decide/PairsOfPinLaw"), (0, u "unsignedOf"), (0, u "(I)J"), (0, .methodref 10 22), (0, .nameAndType 23 24), (0, u "first"), (0, u "(J)I"), (0, .methodref 10 26), (0, .nameAndType 27 24), (0, u "second"), (0, .integer 2147483647), (3, u "law"), (0, u "(IIII)Z")] 2

def k1m0 : Method := { name := "<init>", desc := "()V", sig := { parameters := [], returnType := none }, accessFlags := 2, code := none }
def k1c1 : Code := { maxStack := 4, maxLocals := 1, code := method_2_code, exceptionTable := #[], attributes := #[] }
def k1m1 : Method := { name := "unsignedOf", desc := "(I)J", sig := { parameters := [.int], returnType := some .long }, accessFlags := 10, code := some k1c1 }
def k1c2 : Code := { maxStack := 4, maxLocals := 16, code := code, exceptionTable := #[], attributes := #[] }
def k1m2 : Method := { name := "law", desc := "(IIII)Z", sig := { parameters := [.int, .int, .int, .int], returnType := some .boolean }, accessFlags := 9, code := some k1c2 }
/-- com/example/trapline/trapline/decide/PairsOfPinLaw -/
def k1 : Class := { plain "com/example/trapline/trapline/decide/PairsOfPinLaw" (some 0) with
  accessFlags := 49
  interfaces := #[]
  cf := some (fileOf pool1 16 #[] #[{ accessFlags := 2, nameIndex := 5, descriptorIndex := 6, attributes := #[] }, { accessFlags := 10, nameIndex := 19, descriptorIndex := 20, attributes := #[] }, { accessFlags := 9, nameIndex := 32, descriptorIndex := 33, attributes := #[] }] 49 2 #[] #[])
  fields := #[]
  methods := #[k1m0, k1m1, k1m2]
  instanceTypes := #[]
  staticTypes := #[]
  resolved := Array.replicate 36 none
  statics := none }

def pool2 : Array CpInfo := pool [(2, .class_ 4), (1, u "java/lang/Object"), (0, u "<init>"), (0, u "()V"), (2, .long 4294967295), (1, .class_ 12), (0, u "com/example/trapline/trapline/decide/Pairs"), (2, u "of"), (0, u "(II)J"), (0, u "first"), (0, u "(J)I"), (0, u "second")] 2

def k2m0 : Method := { name := "<init>", desc := "()V", sig := { parameters := [], returnType := none }, accessFlags := 2, code := none }
def k2c1 : Code := { maxStack := 6, maxLocals := 2, code := prog_30_method_2_code, exceptionTable := #[], attributes := #[] }
def k2m1 : Method := { name := "of", desc := "(II)J", sig := { parameters := [.int, .int], returnType := some .long }, accessFlags := 8, code := some k2c1 }
def k2c2 : Code := { maxStack := 3, maxLocals := 2, code := prog_30_method_3_code, exceptionTable := #[], attributes := #[] }
def k2m2 : Method := { name := "first", desc := "(J)I", sig := { parameters := [.long], returnType := some .int }, accessFlags := 8, code := some k2c2 }
def k2c3 : Code := { maxStack := 2, maxLocals := 2, code := prog_30_method_4_code, exceptionTable := #[], attributes := #[] }
def k2m3 : Method := { name := "second", desc := "(J)I", sig := { parameters := [.long], returnType := some .int }, accessFlags := 8, code := some k2c3 }
/-- com/example/trapline/trapline/decide/Pairs -/
def k2 : Class := { plain "com/example/trapline/trapline/decide/Pairs" (some 0) with
  accessFlags := 48
  interfaces := #[]
  cf := some (fileOf pool2 11 #[] #[{ accessFlags := 2, nameIndex := 5, descriptorIndex := 6, attributes := #[] }, { accessFlags := 8, nameIndex := 15, descriptorIndex := 16, attributes := #[] }, { accessFlags := 8, nameIndex := 17, descriptorIndex := 18, attributes := #[] }, { accessFlags := 8, nameIndex := 19, descriptorIndex := 18, attributes := #[] }] 48 2 #[] #[])
  fields := #[]
  methods := #[k2m0, k2m1, k2m2, k2m3]
  instanceTypes := #[]
  staticTypes := #[]
  resolved := Array.replicate 22 none
  statics := none }

def pool3 : Array CpInfo := pool [(1, u "java/lang/Cloneable"), (0, .class_ 1), (0, u "java/lang/Object"), (0, .class_ 3)] 3

/-- java/lang/Cloneable -/
def k3 : Class := { plain "java/lang/Cloneable" (some 0) with
  accessFlags := 1537
  interfaces := #[]
  cf := some (fileOf pool3 2 #[] #[] 1537 4 #[] #[])
  fields := #[]
  methods := #[]
  instanceTypes := #[]
  staticTypes := #[]
  resolved := Array.replicate 8 none
  statics := none }

def pool4 : Array CpInfo := pool [(1, u "java/io/Serializable"), (0, .class_ 1), (0, u "java/lang/Object"), (0, .class_ 3)] 3

/-- java/io/Serializable -/
def k4 : Class := { plain "java/io/Serializable" (some 0) with
  accessFlags := 1537
  interfaces := #[]
  cf := some (fileOf pool4 2 #[] #[] 1537 4 #[] #[])
  fields := #[]
  methods := #[]
  instanceTypes := #[]
  staticTypes := #[]
  resolved := Array.replicate 8 none
  statics := none }

/-- the primitive byte -/
def k5 : Class := { plain "byte" none with kind := .primitive 'B', accessFlags := 0x411 }
/-- [B -/
def k6 : Class := { plain "[B" (some 0) with kind := .array 5 .byte, interfaces := #[3, 4], accessFlags := 1041 }

/-- the primitive int -/
def k7 : Class := { plain "int" none with kind := .primitive 'I', accessFlags := 0x411 }
/-- [I -/
def k8 : Class := { plain "[I" (some 0) with kind := .array 7 .int, interfaces := #[3, 4], accessFlags := 1041 }

def heap : Heap := #[]
def classes : Array Class := #[k0, k1, k2, k3, k4, k5, k6, k7, k8]
def interned : List (Array UInt16 × Addr) := []
def slotsUsed : Nat := 0
def theMethod : MethodId := ⟨1, 2⟩
def args0 : Array Value := #[.int 5, .int 7, .int 5, .int 9]
def aboutOver (below : List Frame) : State where
  vm := { classes := classes, interned := interned.toArray }
  heap := heap
  slotsUsed := slotsUsed
  threads := #[{ frames := .invoking theMethod args0 :: below }]
def below0 : List Frame := [.native { method := ⟨0, 0⟩, args := #[] }]
def about1 : State := aboutOver below0
def p0 : Program := .bare "" "" ""
def e0 : Env := launch0.env 0 0 0
theorem w_frames : about1.frames = Frame.invoking theMethod args0 :: below0 := rfl
set_option maxRecDepth 65536 in
theorem w_args : argsFit about1.vm theMethod args0 = true := by decide +kernel
set_option maxRecDepth 65536 in
theorem w_heap : heapFits about1 = true := by decide +kernel
set_option maxRecDepth 65536 in
theorem w_runnable : about1.curStatus? = some .runnable := by decide +kernel
set_option maxRecDepth 65536 in
theorem w_alone : about1.alone = true := by decide +kernel
set_option maxRecDepth 65536 in
theorem w_named : about1.methodNamed? x = some theMethod := by decide +kernel
set_option maxRecDepth 65536 in
theorem w_hears : about1.hears theMethod below0 = true := by decide +kernel
set_option maxRecDepth 65536 in
theorem w_ripe : about1.ripe theMethod args0 below0 = true := by decide +kernel
theorem w_running : about1.status = .running := rfl
set_option maxRecDepth 65536 in
theorem w_room : about1.hasRoom e0.platform room_1 = true :=
  launch0.hasRoom_least _ room_1 (by decide +kernel) (by decide +kernel) (by decide +kernel) (by decide +kernel) (by decide +kernel) (by decide +kernel)
theorem allAtoms_all (ts : List Jvm.Cond) (a : Array Jvm.Value) (st : Jvm.State) : (allAtoms ts).before a st = ts.all (fun c => c.before a st) := by
  induction ts with
  | nil => rfl
  | cons c t ih =>
    show (Jvm.Cond.and c (allAtoms t)).before a st = _
    rw [Jvm.Cond.before_and, ih, List.all_cons]
def words1 : List Jvm.Cond := Jvm.Cond.code x code maxLocals ret :: tables_1
/-- a 'code' word, met by the world's own term for the bytes: nothing is compared byte by byte -/
theorem code_word {y : MethodName} {bytes : ByteArray} {mx : Nat} {rt : Option FieldType} {a : Array Value} {s : State} {m : MethodId} {meth : Method} {c : Code} (h1 : s.methodNamed? y = some m) (h2 : s.vm.method? m = some meth) (h3 : meth.code = some c) (h4 : c.code = bytes)
    (h5 : (c.maxLocals == mx && c.exceptionTable.isEmpty && decide (c.maxStack ≤ mostOperands) && decide (meth.sig.returnType = rt) && !meth.locks && decide (parseMethodDescriptor y.desc = some meth.sig)) = true) : (Jvm.Cond.code y bytes mx rt).before a s = true := by
  simp only [Bool.and_eq_true, beq_iff_eq, Bool.not_eq_true', decide_eq_true_eq] at h5
  obtain ⟨⟨⟨⟨⟨g1, g2⟩, g3⟩, g4⟩, g5⟩, g6⟩ := h5
  simp [Cond.before, Cond.holds, Cond.value, h1, h2, h3, h4, g1, g2, g3, g4, g5, g6]
def isCode : Jvm.Cond → Bool
  | .code _ _ _ _ => true
  | _ => false
theorem all_split {L : List Jvm.Cond} {P : Jvm.Cond → Bool} (h1 : L.all (fun c => isCode c || P c) = true) (h2 : ∀ c ∈ L.filter isCode, P c = true) : L.all P = true := by
  refine List.all_eq_true.mpr fun c hc => ?_
  have h := List.all_eq_true.mp h1 c hc
  rcases Bool.eq_false_or_eq_true (isCode c) with hi | hi
  · exact h2 c (List.mem_filter.mpr ⟨hc, hi⟩)
  · simpa [hi] using h
set_option maxRecDepth 65536 in
theorem w_c0 : (Jvm.Cond.code x code maxLocals ret).before args0 about1 = true := code_word (m := ⟨1, 2⟩) (meth := k1m2) (c := k1c2) (by decide +kernel) rfl rfl rfl (by decide +kernel)
set_option maxRecDepth 65536 in
theorem w_c1 : (Jvm.Cond.code ({ cls := "com/example/trapline/trapline/decide/Pairs", name := "of", desc := "(II)J" } : Jvm.MethodName) prog_30_method_2_code (2 : Nat) (Option.some Jvm.ClassFile.FieldType.long)).before args0 about1 = true := code_word (m := ⟨2, 1⟩) (meth := k2m1) (c := k2c1) (by decide +kernel) rfl rfl rfl (by decide +kernel)
set_option maxRecDepth 65536 in
theorem w_c2 : (Jvm.Cond.code ({ cls := "com/example/trapline/trapline/decide/PairsOfPinLaw", name := "unsignedOf", desc := "(I)J" } : Jvm.MethodName) method_2_code (1 : Nat) (Option.some Jvm.ClassFile.FieldType.long)).before args0 about1 = true := code_word (m := ⟨1, 1⟩) (meth := k1m1) (c := k1c1) (by decide +kernel) rfl rfl rfl (by decide +kernel)
set_option maxRecDepth 65536 in
theorem w_c3 : (Jvm.Cond.code ({ cls := "com/example/trapline/trapline/decide/Pairs", name := "first", desc := "(J)I" } : Jvm.MethodName) prog_30_method_3_code (2 : Nat) (Option.some Jvm.ClassFile.FieldType.int)).before args0 about1 = true := code_word (m := ⟨2, 2⟩) (meth := k2m2) (c := k2c2) (by decide +kernel) rfl rfl rfl (by decide +kernel)
set_option maxRecDepth 65536 in
theorem w_c4 : (Jvm.Cond.code ({ cls := "com/example/trapline/trapline/decide/Pairs", name := "second", desc := "(J)I" } : Jvm.MethodName) prog_30_method_4_code (2 : Nat) (Option.some Jvm.ClassFile.FieldType.int)).before args0 about1 = true := code_word (m := ⟨2, 3⟩) (meth := k2m3) (c := k2c3) (by decide +kernel) rfl rfl rfl (by decide +kernel)
def codes1 : List Jvm.Cond := [Jvm.Cond.code x code maxLocals ret, Jvm.Cond.code ({ cls := "com/example/trapline/trapline/decide/Pairs", name := "of", desc := "(II)J" } : Jvm.MethodName) prog_30_method_2_code (2 : Nat) (Option.some Jvm.ClassFile.FieldType.long), Jvm.Cond.code ({ cls := "com/example/trapline/trapline/decide/PairsOfPinLaw", name := "unsignedOf", desc := "(I)J" } : Jvm.MethodName) method_2_code (1 : Nat) (Option.some Jvm.ClassFile.FieldType.long), Jvm.Cond.code ({ cls := "com/example/trapline/trapline/decide/Pairs", name := "first", desc := "(J)I" } : Jvm.MethodName) prog_30_method_3_code (2 : Nat) (Option.some Jvm.ClassFile.FieldType.int), Jvm.Cond.code ({ cls := "com/example/trapline/trapline/decide/Pairs", name := "second", desc := "(J)I" } : Jvm.MethodName) prog_30_method_4_code (2 : Nat) (Option.some Jvm.ClassFile.FieldType.int)]
set_option maxRecDepth 65536 in
theorem codes_eq : words1.filter isCode = codes1 := rfl
theorem w_codes : ∀ c ∈ words1.filter isCode, c.before args0 about1 = true := by
  rw [codes_eq]
  intro c hc
  simp only [codes1, List.mem_cons, List.not_mem_nil, or_false] at hc
  rcases hc with rfl | rfl | rfl | rfl | rfl
  · exact w_c0
  · exact w_c1
  · exact w_c2
  · exact w_c3
  · exact w_c4
set_option maxRecDepth 65536 in
theorem w_t1 : words1.all (fun c => isCode c || c.before args0 about1) = true := by decide +kernel
theorem w_tables : (allAtoms (Jvm.Cond.code x code maxLocals ret :: tables_1)).before args0 about1 = true := by
  rw [allAtoms_all]
  show words1.all (fun c => c.before args0 about1) = true
  refine all_split ?_ w_codes
  rw [w_t1]
set_option maxRecDepth 65536 in
theorem w_case : (Jvm.Cond.and given_1 narrow_1).before args0 about1 = true := by decide +kernel
theorem w_applies : (headSpec (Jvm.Cond.code x code maxLocals ret :: tables_1) room_1).applies x e0.platform about1 = true :=
  (Spec.applies_iff w_frames).mpr ⟨w_running, w_runnable, w_alone, w_named, w_hears, w_ripe, w_room, w_tables⟩
theorem atStart : AtStart classFile x code maxLocals ret World_1 tables_1 room_1 Calls_1 rest_1 Pre_1 launch0 p0 e0 about1 theMethod args0 below0 :=
  ⟨lists_1, trivial, launch0.admits_env _ _ _, launch0.least_env, fairChoices_fair.cas, fairChoices_fair.clock, w_frames, w_args, w_heap, w_applies, trivial, trivial, w_case⟩
end start1
theorem witness_1 : WitnessClaimed_1 := ⟨start1.p0, start1.e0, start1.about1, start1.theMethod, start1.args0, start1.below0, start1.atStart⟩
end Jvm.Pilot.@@N@@
