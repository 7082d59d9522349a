import JvmDerived
import JvmDerived.Pilot.@@N@@Statement
import JvmDerived.Pilot.@@N@@Code
set_option linter.unusedVariables false
set_option linter.unusedSimpArgs false
@@BLOCK:NumsL.lean.txt@@
namespace Jvm.Pilot.@@N@@
open Jvm Jvm.ClassFile Sem Op Lib Jvm.Free Jvm.Stand Jvm.LawKit Jvm.RoadKit Bundle Jvm.Pilot.@@N@@.Jvm.D
section Own
variable {p : Program} {l : Launch} {e : Env} {R : Room} {s : State} {m : MethodId} {args : Array Value} {below : List Frame} {meth : Method} {c : Code} {T : State} {locs : List Loc} {cells slots : Nat} {Z : State} {a0 : Array Value} {h : Heap}
/-- from the state A the run comes to the method's end, and Q says what it leaves -/
def OwnFin (p : Program) (e : Env) (below : List Frame) (s : State) (Q : Option Value → Heap → List Loc → Prop) (C S : Nat) (A : State) : Prop :=
  ∃ s₂ o, Steps p.tables e below A s₂ ∧ s₂.status = .running ∧ Ended s₂ below o ∧ ∃ v L, o = .returned v ∧ Q v s₂.heap L ∧ FrameEnd s o s₂ L C S
variable {Q : Option Value → Heap → List Loc → Prop} {C S : Nat}
theorem own_go {A B : State} (h : ∀ t, Steps p.tables e below B t → Steps p.tables e below A t) (k : OwnFin p e below s Q C S B) : OwnFin p e below s Q C S A := by
  obtain ⟨s₂, o, h1, r⟩ := k
  exact ⟨s₂, o, h _ h1, r⟩
theorem own_ret (X : Stand p l e R s m args below meth c T locs cells slots) {v : Option Value} (hlk : meth.locks = false) (hv : meth.sig.returnType = none → v = none) {g : JFrame}
    (hstep : ∀ fs, (∀ (f : JFrame) (acts : List Action), f.method = m → f.locked = none → f.entered = [] → (doReturn e (T.setTop f) acts v).1 = T.setFrames fs) → Steps p.tables e below (T.setTop g) (T.setFrames fs))
    (hc : cells ≤ C) (hs : slots ≤ S) (hQ : Q v T.heap locs) : OwnFin p e below s Q C S (T.setTop g) := by
  obtain ⟨fs, hr, hrun, hended, hW, hsame⟩ := X.leave hv hlk
  exact ⟨_, _, hstep fs hr, hrun, hended, _, _, rfl, hQ, ⟨_, rfl⟩, hW, hsame.mono hc hs⟩
/-- a method's contract, in the form that backOf takes -/
abbrev OwnCtr (l : Launch) (Z : State) (y : MethodName) (ws : List Jvm.Cond) (bytes : ByteArray) (maxL : Nat) (ret : Option FieldType) (rm : Room) (as' : Array Value) (h0 : Heap) (Q : Option Value → Heap → List Loc → Prop) : Prop :=
  MetFree l y (head1 (Jvm.Cond.code y bytes maxL ret :: ws) rm) (fun a U => a = as' ∧ Z.Warmed39 U.vm ∧ U.heap = h0) (fun _ _ _ _ _ => True) (fun _ U o U' => ∃ v L, o = .returned v ∧ Q v U'.heap L ∧ FrameEnd U o U' L rm.cells rm.slots)
theorem own_body {l : Launch} {Z : State} {y : MethodName} {ws : List Jvm.Cond} {bytes : ByteArray} {maxL : Nat} {ret : Option FieldType} {rm : Room} {as' : Array Value} {h0 : Heap} {g0 : MethodId → JFrame}
    (hpl : plainFor y = true) (hef : ∀ m, entryFrame m as' maxL = g0 m)
    (body : ∀ (p : Program) (e : Env) (s : State) (m : MethodId) (below : List Frame) (meth : Method) (c : Code) (s₁ : State), Stand p l e rm s m as' below meth c s₁ [] 0 0 → p.tables.exec = Jvm.exec → c.code = bytes → c.maxLocals = maxL →
      s.vm.findClass y.cls = some m.cls → meth.name = y.name → Z.Warmed39 s.vm → s₁.heap = h0 → meth.sig.returnType = ret → meth.locks = false → OwnFin p e below s Q rm.cells rm.slots (s₁.setTop (g0 m))) :
    OwnCtr l Z y ws bytes maxL ret rm as' h0 Q := by
  refine MetFree.of_bodySF hpl hisR ?_
  intro p e s m args below meth c s₁ Bd hml0 hP hK
  obtain ⟨rfl, hZ, hh⟩ := hP
  have e0 : s₁.heap = h0 := by rw [← hh, Bd.state]; rfl
  have k := body p e s m below meth c s₁ (Stand.of_body Bd) Bd.exec Bd.bytes hml0 (findClass_of_methodNamed Bd.named) (name_of_methodNamed Bd.named Bd.method).1 hZ e0 Bd.returns Bd.notSynchronized
  rw [← hef m] at k
  exact k
/-- a static call by its contract -/
theorem own_callS (X : Stand p l e R s m args below meth c T locs cells slots) (hx : p.tables.exec = Jvm.exec) (hZ : Z.Warmed39 s.vm) {own : String} {index : Nat} {y : MethodName} {bytes : ByteArray} {maxL : Nat} {ret : Option FieldType} {rm : Room} {as' : Array Value} {Q : Option Value → Heap → List Loc → Prop}
    (hown : s.vm.findClass own = some m.cls) (hlink : (Cond.methodLink own index y).before a0 Z = true) (hstat : (Cond.static y).before a0 Z = true) (hinit : (Cond.initialized y.cls).before a0 Z = true) (hcode : (Cond.code y bytes maxL ret).before a0 Z = true)
    (hy : y.cls ≠ "java/lang/invoke/MethodHandle" ∧ y.cls ≠ "java/lang/invoke/VarHandle") {W : Nat} (hM : OwnCtr l Z y [] bytes maxL ret rm as' h Q) (hf : rm.frames + 1 ≤ R.frames) (hl : W + (maxL + 11) + rm.locals ≤ R.locals)
    {g : JFrame} (hg : g.method = m) (hsize : g.locals.size = c.maxLocals) {argsL rest : List Value} (hlen : ∀ sig, parseMethodDescriptor y.desc = some sig → argsL.length = sig.parameters.length)
    (hstack : g.stack = argsL.reverse ++ rest) (hW : 2 * g.monitorRoom + (rest.map fun v => v.category).sum ≤ W) (hdg : decode c.code g.pc = .ok (.invokestatic index, 3)) (eT : T.heap = h) (ha : argsL.toArray = as') (hc : cells + rm.cells ≤ R.cells) (hs : slots + rm.slots ≤ R.slots) :
    ∃ (v : Option Value) (T' : State) (L : List Loc), Stand p l e R s m args below meth c T' (locs ++ L) (cells + rm.cells) (slots + rm.slots) ∧ Q v T'.heap L ∧ ∀ target, Steps p.tables e below (T'.setTop { g with pc := g.pc + 3, stack := v.toList ++ rest }) target → Steps p.tables e below (T.setTop g) target := by
  obtain ⟨v, _, ⟨T', L', k, n⟩, -, X', ⟨L, hQ, l1, y1, z1⟩, st⟩ := Jvm.LawKit.callS X hx (y := y) hown (mvT hZ hlink) (mvT hZ hstat) (mvT hZ hinit) (mvT hZ hcode) hy (backOf (W := W) hM hZ hcode hinit hf hl) hg hsize hlen hstack hW hdg (fun _ _ => ⟨ha, eT, hc, hs⟩)
  dsimp only [Pt.U, Pt.locs, Pt.cells, Pt.slots] at X' l1 y1 z1 st hQ
  subst l1 y1 z1
  exact ⟨v, T', L, X', hQ, st⟩
/-- a constructor by its contract -/
theorem own_callI (X : Stand p l e R s m args below meth c T locs cells slots) (hx : p.tables.exec = Jvm.exec) (hZ : Z.Warmed39 s.vm) {own : String} {index : Nat} {y : MethodName} {bytes : ByteArray} {maxL : Nat} {rm : Room} {as' : Array Value} {Q : Option Value → Heap → List Loc → Prop}
    (hy1 : y.name = "<init>") (hown : s.vm.findClass own = some m.cls) (hlink : (Cond.methodLink own index y).before a0 Z = true) (hinst : (Cond.instanceMethod y).before a0 Z = true) (hinit : (Cond.initialized y.cls).before a0 Z = true) (hcode : (Cond.code y bytes maxL none).before a0 Z = true)
    (hy : y.cls ≠ "java/lang/invoke/MethodHandle" ∧ y.cls ≠ "java/lang/invoke/VarHandle") {W : Nat} (hM : OwnCtr l Z y [] bytes maxL none rm as' h Q) (hf : rm.frames + 1 ≤ R.frames) (hl : W + (maxL + 11) + rm.locals ≤ R.locals)
    {g : JFrame} (hg : g.method = m) (hsize : g.locals.size = c.maxLocals) {a : Addr} {argsL rest : List Value} (hlen : ∀ sig, parseMethodDescriptor y.desc = some sig → argsL.length = sig.parameters.length)
    (hstack : g.stack = argsL.reverse ++ .ref a :: rest) (hW : 2 * g.monitorRoom + (rest.map fun v => v.category).sum ≤ W) (hdg : decode c.code g.pc = .ok (.invokespecial index, 3)) (eT : T.heap = h) (ha : (.ref a :: argsL).toArray = as') (hc : cells + rm.cells ≤ R.cells) (hs : slots + rm.slots ≤ R.slots) :
    ∃ (v : Option Value) (T' : State) (L : List Loc), Stand p l e R s m args below meth c T' (locs ++ L) (cells + rm.cells) (slots + rm.slots) ∧ Q v T'.heap L ∧ ∀ target, Steps p.tables e below (T'.setTop { g with pc := g.pc + 3, stack := v.toList ++ rest }) target → Steps p.tables e below (T.setTop g) target := by
  obtain ⟨v, _, ⟨T', L', k, n⟩, -, X', ⟨L, hQ, l1, y1, z1⟩, st⟩ := X.specialBack hx (y := y) hy1 hown (mvT hZ hlink) (mvT hZ hinst) (mvT hZ hcode) hy (backOf (W := W) hM hZ hcode hinit hf hl) hg hsize (Steps.refl _) hlen hstack hW hdg (fun _ _ => ⟨ha, eT, hc, hs⟩)
  dsimp only [Pt.U, Pt.locs, Pt.cells, Pt.slots] at X' l1 y1 z1 st hQ
  subst l1 y1 z1
  exact ⟨v, T', L, X', hQ, fun t k => st.trans k⟩
/-- an instance method by its contract -/
theorem own_callV (X : Stand p l e R s m args below meth c T locs cells slots) (hx : p.tables.exec = Jvm.exec) (hZ : Z.Warmed39 s.vm) {own K : String} {index : Nat} {y z : MethodName} {bytes : ByteArray} {maxL : Nat} {ret : Option FieldType} {rm : Room} {as' : Array Value} {Q : Option Value → Heap → List Loc → Prop}
    (hown : s.vm.findClass own = some m.cls) (hlink : (Cond.methodLink own index y).before a0 Z = true) (hdecl : (Cond.declares y).before a0 Z = true) (hnf : NotFace s y) (hsel : (Cond.selects K y z).before a0 Z = true) (hinst : (Cond.instanceMethod z).before a0 Z = true) (hinit : (Cond.initialized z.cls).before a0 Z = true) (hcode : (Cond.code z bytes maxL ret).before a0 Z = true)
    (hy : y.cls ≠ "java/lang/invoke/MethodHandle" ∧ y.cls ≠ "java/lang/invoke/VarHandle") {W : Nat} (hM : OwnCtr l Z z [] bytes maxL ret rm as' h Q) (hf : rm.frames + 1 ≤ R.frames) (hl : W + (maxL + 11) + rm.locals ≤ R.locals)
    {b : Addr} (E : Exa Z h b K) {g : JFrame} (hg : g.method = m) (hsize : g.locals.size = c.maxLocals) {argsL rest : List Value} (hlen : ∀ sig, parseMethodDescriptor y.desc = some sig → argsL.length = sig.parameters.length)
    (hstack : g.stack = argsL.reverse ++ .ref b :: rest) (hW : 2 * g.monitorRoom + (rest.map fun v => v.category).sum ≤ W) (hdg : decode c.code g.pc = .ok (.invokevirtual index, 3)) (eT : T.heap = h) (ha : (.ref b :: argsL).toArray = as') (hc : cells + rm.cells ≤ R.cells) (hs : slots + rm.slots ≤ R.slots) :
    ∃ (v : Option Value) (T' : State) (L : List Loc), Stand p l e R s m args below meth c T' (locs ++ L) (cells + rm.cells) (slots + rm.slots) ∧ Q v T'.heap L ∧ ∀ target, Steps p.tables e below (T'.setTop { g with pc := g.pc + 3, stack := v.toList ++ rest }) target → Steps p.tables e below (T.setTop g) target := by
  obtain ⟨cq, kq, qa, qb, qc⟩ := isOf hZ eT E
  obtain ⟨v, _, ⟨T', L', k, n⟩, -, X', ⟨L, hQ, l1, y1, z1⟩, st⟩ := X.virtualBack hx (y := y) (z := z) hown (mvT hZ hlink) (mvT hZ hdecl) hnf (mvT hZ hsel) (mvT hZ hinst) hy (backOf (W := W) hM hZ hcode hinit hf hl) qa qc hg hsize (Steps.refl _) hlen hstack hW hdg (fun _ _ => ⟨ha, eT, hc, hs⟩)
  dsimp only [Pt.U, Pt.locs, Pt.cells, Pt.slots] at X' l1 y1 z1 st hQ
  subst l1 y1 z1
  exact ⟨v, T', L, X', hQ, fun t k => st.trans k⟩
/-- a private instance method, called by invokevirtual, by its contract -/
theorem own_callP (X : Stand p l e R s m args below meth c T locs cells slots) (hx : p.tables.exec = Jvm.exec) (hZ : Z.Warmed39 s.vm) {own : String} {index : Nat} {y : MethodName} {bytes : ByteArray} {maxL : Nat} {ret : Option FieldType} {rm : Room} {as' : Array Value} {Q : Option Value → Heap → List Loc → Prop}
    (hown : s.vm.findClass own = some m.cls) (hlink : (Cond.methodLink own index y).before a0 Z = true) (hinst : (Cond.instanceMethod y).before a0 Z = true) (hsel : (Cond.selects y.cls y y).before a0 Z = true) (hpriv : (Cond.privateMethod y).before a0 Z = true) (hinit : (Cond.initialized y.cls).before a0 Z = true) (hcode : (Cond.code y bytes maxL ret).before a0 Z = true)
    (hy : y.cls ≠ "java/lang/invoke/MethodHandle" ∧ y.cls ≠ "java/lang/invoke/VarHandle") {W : Nat} (hM : OwnCtr l Z y [] bytes maxL ret rm as' h Q) (hf : rm.frames + 1 ≤ R.frames) (hl : W + (maxL + 11) + rm.locals ≤ R.locals)
    {b : Addr} {K : String} (E : Exa Z h b K) {g : JFrame} (hg : g.method = m) (hsize : g.locals.size = c.maxLocals) {argsL rest : List Value} (hlen : ∀ sig, parseMethodDescriptor y.desc = some sig → argsL.length = sig.parameters.length)
    (hstack : g.stack = argsL.reverse ++ .ref b :: rest) (hW : 2 * g.monitorRoom + (rest.map fun v => v.category).sum ≤ W) (hdg : decode c.code g.pc = .ok (.invokevirtual index, 3)) (eT : T.heap = h) (ha : (.ref b :: argsL).toArray = as') (hc : cells + rm.cells ≤ R.cells) (hs : slots + rm.slots ≤ R.slots) :
    ∃ (v : Option Value) (T' : State) (L : List Loc), Stand p l e R s m args below meth c T' (locs ++ L) (cells + rm.cells) (slots + rm.slots) ∧ Q v T'.heap L ∧ ∀ target, Steps p.tables e below (T'.setTop { g with pc := g.pc + 3, stack := v.toList ++ rest }) target → Steps p.tables e below (T.setTop g) target := by
  obtain ⟨cq, q1, q2⟩ := E.cell
  obtain ⟨v, _, ⟨T', L', k, n⟩, -, X', ⟨L, hQ, l1, y1, z1⟩, st⟩ := X.privateBack hx (y := y) hown (mvT hZ hlink) (mvT hZ hinst) (mvT hZ hsel) (Cond.privateMethod_at (mvP hZ hpriv (args := #[]))) (mvT hZ hcode) hy (backOf (W := W) hM hZ hcode hinit hf hl) hg hsize (Steps.refl _) (by rw [eT]; exact q1) q2 hlen hstack hW hdg (fun _ _ => ⟨ha, eT, hc, hs⟩)
  dsimp only [Pt.U, Pt.locs, Pt.cells, Pt.slots] at X' l1 y1 z1 st hQ
  subst l1 y1 z1
  exact ⟨v, T', L, X', hQ, fun t k => st.trans k⟩
theorem own_retI (X : Stand p l e R s m args below meth c T locs cells slots) (hx : p.tables.exec = Jvm.exec) {pc : Nat} {Ls : Array Slot} {z : Int32} {rest : List Value} (hret : meth.sig.returnType = some .int) (hd : decode c.code pc = .ok (.ireturn, 1)) {fs : List Frame}
    (hl : ∀ (f : JFrame) (acts : List Action), f.method = m → f.locked = none → f.entered = [] → (doReturn e (T.setTop f) acts (some (.int z))).1 = T.setFrames fs) : Steps p.tables e below (T.setTop (mkF m pc Ls (.int z :: rest))) (T.setFrames fs) :=
  retOut X hx hret rfl (Or.inl ⟨rfl, Or.inl rfl, _, rfl⟩) hd hl
theorem own_retJ (X : Stand p l e R s m args below meth c T locs cells slots) (hx : p.tables.exec = Jvm.exec) {pc : Nat} {Ls : Array Slot} {z : Int64} {rest : List Value} (hret : meth.sig.returnType = some .long) (hd : decode c.code pc = .ok (.lreturn, 1)) {fs : List Frame}
    (hl : ∀ (f : JFrame) (acts : List Action), f.method = m → f.locked = none → f.entered = [] → (doReturn e (T.setTop f) acts (some (.long z))).1 = T.setFrames fs) : Steps p.tables e below (T.setTop (mkF m pc Ls (.long z :: rest))) (T.setFrames fs) :=
  retOut X hx hret rfl (Or.inr (Or.inl ⟨rfl, rfl, _, rfl⟩)) hd hl
theorem own_retR (X : Stand p l e R s m args below meth c T locs cells slots) (hx : p.tables.exec = Jvm.exec) {pc : Nat} {Ls : Array Slot} {w : Value} {t : FieldType} {rest : List Value} (hret : meth.sig.returnType = some t) (ht : t.isReference = true) (hw : w.isRef = true) (hd : decode c.code pc = .ok (.areturn, 1)) {fs : List Frame}
    (hl : ∀ (f : JFrame) (acts : List Action), f.method = m → f.locked = none → f.entered = [] → (doReturn e (T.setTop f) acts (some w)).1 = T.setFrames fs) : Steps p.tables e below (T.setTop (mkF m pc Ls (w :: rest))) (T.setFrames fs) :=
  retOut X hx hret (by cases t <;> simp [FieldType.isReference] at ht <;> cases w <;> simp [Value.isRef] at hw <;> rfl) (Or.inr (Or.inr (Or.inr (Or.inr ⟨rfl, ht, hw⟩)))) hd hl
theorem own_stakeep {h' : Heap} {O n d : String} {v : Value} (F : Sta Z h O n d v) (K : Keep h h' []) : Sta Z h' O n d v := by
  obtain ⟨cf, i, k, f, st, cell, h1, h2, h3, h4, h5, r⟩ := F
  exact ⟨cf, i, k, f, st, cell, h1, h2, h3, h4, K.2.1 _ _ h5 nin0, r⟩
end Own

theorem own_u64 (x : Int64) : x.toInt % 18446744073709551616 = (x.toBitVec.toNat : Int) := by
  have h : x.toInt = x.toBitVec.toInt := rfl
  have hb := x.toBitVec.isLt
  rw [h, BitVec.toInt_eq_toNat_cond]
  split <;> omega
theorem own_u32 (x : Int32) : x.toInt % 4294967296 = (x.toBitVec.toNat : Int) := by
  have h : x.toInt = x.toBitVec.toInt := rfl
  have hb := x.toBitVec.isLt
  rw [h, BitVec.toInt_eq_toNat_cond]
  split <;> omega
theorem own_lushr_nat (x : Int64) {n : UInt64} {k : Nat} (hn : n.toNat = k) (hk : k < 64) : ((x.toUInt64 >>> n).toInt64).toBitVec.toNat = x.toBitVec.toNat / 2 ^ k := by
  simp only [UInt64.toBitVec_toInt64, UInt64.toBitVec_shiftRight, Int64.toBitVec_toUInt64]
  simp [BitVec.toNat_ushiftRight, Nat.shiftRight_eq_div_pow, hn, Nat.mod_eq_of_lt hk]
theorem own_lushr (x : Int64) {n : UInt64} {k : Nat} (hn : n.toNat = k) (hk : k < 64) (h0 : 0 < k) : ((x.toUInt64 >>> n).toInt64).toInt = ((x.toBitVec.toNat / 2 ^ k : Nat) : Int) := by
  have e2 := own_lushr_nat x hn hk
  have hb := x.toBitVec.isLt
  have h2 : 2 ^ 1 ≤ 2 ^ k := Nat.pow_le_pow_right (by decide) h0
  have h3 : x.toBitVec.toNat / 2 ^ k ≤ x.toBitVec.toNat / 2 ^ 1 := Nat.div_le_div_left h2 (by decide)
  have h : ((x.toUInt64 >>> n).toInt64).toInt = ((x.toUInt64 >>> n).toInt64).toBitVec.toInt := rfl
  rw [h, BitVec.toInt_eq_toNat_cond, e2, if_pos (by omega)]

/-- r is the number of leading zeros of the 32 bits of x -/
def own_nlz (x r : Int32) : Prop := ∃ k : Nat, k ≤ 32 ∧ r = Int32.ofNat k ∧ x.toBitVec.toNat < 2 ^ (32 - k) ∧ (k < 32 → 2 ^ (31 - k) ≤ x.toBitVec.toNat)
def own_nlzL (x : Int64) (r : Int32) : Prop := ∃ k : Nat, k ≤ 64 ∧ r = Int32.ofNat k ∧ x.toBitVec.toNat < 2 ^ (64 - k) ∧ (k < 64 → 2 ^ (63 - k) ≤ x.toBitVec.toNat)
def own_len (x : Int64) (z : Int32) : Prop := (z = 1 ∧ x.toBitVec.toNat < 128) ∨ (z = 2 ∧ 128 ≤ x.toBitVec.toNat ∧ x.toBitVec.toNat < 16384) ∨ (z = 3 ∧ 16384 ≤ x.toBitVec.toNat ∧ x.toBitVec.toNat < 2097152) ∨ (z = 4 ∧ 2097152 ≤ x.toBitVec.toNat ∧ x.toBitVec.toNat < 268435456) ∨ (z = 5 ∧ 268435456 ≤ x.toBitVec.toNat ∧ x.toBitVec.toNat < 34359738368) ∨ (z = 6 ∧ 34359738368 ≤ x.toBitVec.toNat ∧ x.toBitVec.toNat < 4398046511104) ∨ (z = 7 ∧ 4398046511104 ≤ x.toBitVec.toNat ∧ x.toBitVec.toNat < 562949953421312) ∨ (z = 8 ∧ 562949953421312 ≤ x.toBitVec.toNat ∧ x.toBitVec.toNat < 72057594037927936) ∨ (z = 9 ∧ 72057594037927936 ≤ x.toBitVec.toNat ∧ x.toBitVec.toNat < 9223372036854775808) ∨ (z = 10 ∧ 9223372036854775808 ≤ x.toBitVec.toNat)
theorem own_nat32 {x : Int32} (h : 0 ≤ x.toInt) : (x.toBitVec.toNat : Int) = x.toInt := by
  have h1 := own_u32 x
  have h2 := rng32 x
  omega
theorem own_neg32 {x : Int32} (h : x.toInt < 0) : 2147483648 ≤ x.toBitVec.toNat := by
  have h1 := own_u32 x
  have h2 := rng32 x
  omega
theorem own_t0 : (0 : Int32).toInt = 0 := by decide
theorem own_t4 : (4 : Int32).toInt = 4 := by decide
theorem own_t16 : (16 : Int32).toInt = 16 := by decide
theorem own_t256 : (256 : Int32).toInt = 256 := by decide
theorem own_t65536 : (65536 : Int32).toInt = 65536 := by decide
theorem own_sh (x : Int32) (h : 0 ≤ x.toInt) {n : UInt32} {k : Nat} (hn : n.toNat = k) (hk : k < 32) {y : Int32} (e : (x.toUInt32 >>> n).toInt32 = y) : y.toInt = x.toInt / 2 ^ k := by
  rw [← e]; exact Jvm.Kit.i32_iushr (Jvm.Kit.i32_nonneg.mpr h) hn hk
/-- the high word -/
theorem own_hi (x : Int64) : ((((x.toUInt64 >>> ((32 : Int32) &&& 0x3f).toInt64.toUInt64).toInt64)).toInt32).toBitVec.toNat = x.toBitVec.toNat / 4294967296 := by
  have h1 := own_lushr x (n := ((32 : Int32) &&& 0x3f).toInt64.toUInt64) (k := 32) (by decide) (by decide) (by decide)
  have h2 := own_u32 (((x.toUInt64 >>> ((32 : Int32) &&& 0x3f).toInt64.toUInt64).toInt64).toInt32)
  have h3 := c_l2i ((x.toUInt64 >>> ((32 : Int32) &&& 0x3f).toInt64.toUInt64).toInt64)
  have hb := x.toBitVec.isLt
  have e : (2 : Nat) ^ 32 = 4294967296 := by decide
  rw [e] at h1
  omega
theorem own_lo (x : Int64) : (x.toInt32).toBitVec.toNat = x.toBitVec.toNat % 4294967296 := by
  have h2 := own_u32 x.toInt32
  have h3 := c_l2i x
  have h1 := own_u64 x
  omega
theorem own_z32 {x : Int32} (h : x = (0 : Int32)) : x.toBitVec.toNat = 0 := by subst h; decide
theorem own_nz32 {x : Int32} (h : ¬ x = (0 : Int32)) : x.toBitVec.toNat ≠ 0 := fun q => h (by
  have h1 := own_u32 x
  have h2 := rng32 x
  apply Int32.toInt_inj.mp
  rw [own_t0]; omega)
theorem own_nlzL_hi {x : Int64} {r : Int32} (h0 : ¬ ((((x.toUInt64 >>> ((32 : Int32) &&& 0x3f).toInt64.toUInt64).toInt64)).toInt32) = (0 : Int32)) (h : own_nlz ((((x.toUInt64 >>> ((32 : Int32) &&& 0x3f).toInt64.toUInt64).toInt64)).toInt32) r) : own_nlzL x r := by
  obtain ⟨k, h1, h2, h3, h4⟩ := h
  have h5 := own_nz32 h0
  rw [own_hi] at h3 h4 h5
  have hk : k < 32 := by
    rcases Nat.lt_or_ge k 32 with q | q
    · exact q
    · have e : k = 32 := by omega
      subst e
      omega
  have e1 : (2 : Nat) ^ (64 - k) = 2 ^ (32 - k) * 4294967296 := by rw [show 64 - k = (32 - k) + 32 by omega, Nat.pow_add]
  have e2 : (2 : Nat) ^ (63 - k) = 2 ^ (31 - k) * 4294967296 := by rw [show 63 - k = (31 - k) + 32 by omega, Nat.pow_add]
  have h6 := h4 hk
  refine ⟨k, by omega, h2, ?_, fun _ => ?_⟩
  · rw [e1]; generalize (2 : Nat) ^ (32 - k) = A at *; omega
  · rw [e2]; generalize (2 : Nat) ^ (31 - k) = A at *; omega
theorem own_nlzL_lo {x : Int64} {r : Int32} (h0 : ((((x.toUInt64 >>> ((32 : Int32) &&& 0x3f).toInt64.toUInt64).toInt64)).toInt32) = (0 : Int32)) (h : own_nlz (x.toInt32) r) : own_nlzL x ((32 : Int32) + r) := by
  obtain ⟨k, h1, h2, h3, h4⟩ := h
  have h5 := own_z32 h0
  rw [own_hi] at h5
  rw [own_lo] at h3 h4
  have e0 : x.toBitVec.toNat % 4294967296 = x.toBitVec.toNat := by omega
  rw [e0] at h3 h4
  refine ⟨k + 32, by omega, ?_, ?_, fun q => ?_⟩
  · apply Int32.toInt_inj.mp
    have a1 := c_iadd 32 r
    have a2 : r.toInt = (k : Int) := toInt_of h2 (by omega)
    have a3 : (Int32.ofNat (k + 32)).toInt = ((k + 32 : Nat) : Int) := toInt_of rfl (by omega)
    have a4 : (32 : Int32).toInt = 32 := by decide
    have a5 := rng32 (32 + r)
    omega
  · rw [show 64 - (k + 32) = 32 - k by omega]; exact h3
  · rw [show 63 - (k + 32) = 31 - k by omega]; exact h4 (by omega)

theorem d3_0 : decode jdk_33_method_47_code 0 = .ok (.iload_n 0, 1) := by decide +kernel
theorem d3_1 : decode jdk_33_method_47_code 1 = .ok (.ifCond .gt 14, 3) := by decide +kernel
theorem d3_4 : decode jdk_33_method_47_code 4 = .ok (.iload_n 0, 1) := by decide +kernel
theorem d3_5 : decode jdk_33_method_47_code 5 = .ok (.ifCond .ne 8, 3) := by decide +kernel
theorem d3_8 : decode jdk_33_method_47_code 8 = .ok (.bipush 32, 2) := by decide +kernel
theorem d3_10 : decode jdk_33_method_47_code 10 = .ok (.goto 4, 3) := by decide +kernel
theorem d3_13 : decode jdk_33_method_47_code 13 = .ok (.iconst 0, 1) := by decide +kernel
theorem d3_14 : decode jdk_33_method_47_code 14 = .ok (.ireturn, 1) := by decide +kernel
theorem d3_15 : decode jdk_33_method_47_code 15 = .ok (.bipush 31, 2) := by decide +kernel
theorem d3_17 : decode jdk_33_method_47_code 17 = .ok (.istore_n 1, 1) := by decide +kernel
theorem d3_18 : decode jdk_33_method_47_code 18 = .ok (.iload_n 0, 1) := by decide +kernel
theorem d3_19 : decode jdk_33_method_47_code 19 = .ok (.ldc_w 264, 3) := by decide +kernel
theorem d3_22 : decode jdk_33_method_47_code 22 = .ok (.if_icmp .lt 11, 3) := by decide +kernel
theorem d3_25 : decode jdk_33_method_47_code 25 = .ok (.iinc 1 (-16), 3) := by decide +kernel
theorem d3_28 : decode jdk_33_method_47_code 28 = .ok (.iload_n 0, 1) := by decide +kernel
theorem d3_29 : decode jdk_33_method_47_code 29 = .ok (.bipush 16, 2) := by decide +kernel
theorem d3_31 : decode jdk_33_method_47_code 31 = .ok (.iushr, 1) := by decide +kernel
theorem d3_32 : decode jdk_33_method_47_code 32 = .ok (.istore_n 0, 1) := by decide +kernel
theorem d3_33 : decode jdk_33_method_47_code 33 = .ok (.iload_n 0, 1) := by decide +kernel
theorem d3_34 : decode jdk_33_method_47_code 34 = .ok (.sipush 256, 3) := by decide +kernel
theorem d3_37 : decode jdk_33_method_47_code 37 = .ok (.if_icmp .lt 11, 3) := by decide +kernel
theorem d3_40 : decode jdk_33_method_47_code 40 = .ok (.iinc 1 (-8), 3) := by decide +kernel
theorem d3_43 : decode jdk_33_method_47_code 43 = .ok (.iload_n 0, 1) := by decide +kernel
theorem d3_44 : decode jdk_33_method_47_code 44 = .ok (.bipush 8, 2) := by decide +kernel
theorem d3_46 : decode jdk_33_method_47_code 46 = .ok (.iushr, 1) := by decide +kernel
theorem d3_47 : decode jdk_33_method_47_code 47 = .ok (.istore_n 0, 1) := by decide +kernel
theorem d3_48 : decode jdk_33_method_47_code 48 = .ok (.iload_n 0, 1) := by decide +kernel
theorem d3_49 : decode jdk_33_method_47_code 49 = .ok (.bipush 16, 2) := by decide +kernel
theorem d3_51 : decode jdk_33_method_47_code 51 = .ok (.if_icmp .lt 10, 3) := by decide +kernel
theorem d3_54 : decode jdk_33_method_47_code 54 = .ok (.iinc 1 (-4), 3) := by decide +kernel
theorem d3_57 : decode jdk_33_method_47_code 57 = .ok (.iload_n 0, 1) := by decide +kernel
theorem d3_58 : decode jdk_33_method_47_code 58 = .ok (.iconst 4, 1) := by decide +kernel
theorem d3_59 : decode jdk_33_method_47_code 59 = .ok (.iushr, 1) := by decide +kernel
theorem d3_60 : decode jdk_33_method_47_code 60 = .ok (.istore_n 0, 1) := by decide +kernel
theorem d3_61 : decode jdk_33_method_47_code 61 = .ok (.iload_n 0, 1) := by decide +kernel
theorem d3_62 : decode jdk_33_method_47_code 62 = .ok (.iconst 4, 1) := by decide +kernel
theorem d3_63 : decode jdk_33_method_47_code 63 = .ok (.if_icmp .lt 10, 3) := by decide +kernel
theorem d3_66 : decode jdk_33_method_47_code 66 = .ok (.iinc 1 (-2), 3) := by decide +kernel
theorem d3_69 : decode jdk_33_method_47_code 69 = .ok (.iload_n 0, 1) := by decide +kernel
theorem d3_70 : decode jdk_33_method_47_code 70 = .ok (.iconst 2, 1) := by decide +kernel
theorem d3_71 : decode jdk_33_method_47_code 71 = .ok (.iushr, 1) := by decide +kernel
theorem d3_72 : decode jdk_33_method_47_code 72 = .ok (.istore_n 0, 1) := by decide +kernel
theorem d3_73 : decode jdk_33_method_47_code 73 = .ok (.iload_n 1, 1) := by decide +kernel
theorem d3_74 : decode jdk_33_method_47_code 74 = .ok (.iload_n 0, 1) := by decide +kernel
theorem d3_75 : decode jdk_33_method_47_code 75 = .ok (.iconst 1, 1) := by decide +kernel
theorem d3_76 : decode jdk_33_method_47_code 76 = .ok (.iushr, 1) := by decide +kernel
theorem d3_77 : decode jdk_33_method_47_code 77 = .ok (.isub, 1) := by decide +kernel
theorem d3_78 : decode jdk_33_method_47_code 78 = .ok (.ireturn, 1) := by decide +kernel
theorem pn_3 : plainFor (⟨"java/lang/Integer", "numberOfLeadingZeros", "(I)I"⟩ : MethodName) = true := plainFor_of_name (by first | (simp [plainName, overriddenIn]; done) | decide +kernel)
theorem ef_3 (m : MethodId) (p1 : Int32) : entryFrame m #[(.int p1)] 2 = mkF m 0 #[.val (.int p1), .unset] [] := by first | (simp [entryFrame, mkF, argsToLocals, Value.category]; done) | rfl
set_option maxRecDepth 65536 in
set_option maxHeartbeats 40000000 in
theorem rm3 (l : Launch) (Z : State) (a0 : Array Value) (hw : ∀ d ∈ tables_1, d.before a0 Z = true) (ws : List Jvm.Cond) (p1 : Int32) (h0 : Heap) (n0 : Nat) (Z0 : n0 ≤ h0.size) :
    OwnCtr l Z (⟨"java/lang/Integer", "numberOfLeadingZeros", "(I)I"⟩ : MethodName) ws jdk_33_method_47_code 2 (some .int) ({ frames := 0, cells := 0, slots := 0, locals := 0 } : Room) #[(.int p1)] h0 (fun v h L => (∃ r : Int32, v = some (.int r) ∧ own_nlz p1 r) ∧ Fr n0 L ∧ h = h0) := by
  refine own_body (g0 := fun m => mkF m 0 #[.val (.int p1), .unset] []) pn_3 (fun m => ef_3 m p1) ?_
  intro p e s m below meth c s₁ X0 hx hby hml hown hnm hZ e0 hret hlk
  have hml : c.maxLocals = 2 := hml
  have hown : s.vm.findClass "java/lang/Integer" = some m.cls := hown
  have hnm : meth.name = "numberOfLeadingZeros" := hnm
  have hret : meth.sig.returnType = (some .int) := hret
  have N0 := Fr.nil n0
  show OwnFin p e below s _ _ _ (s₁.setTop (mkF m 0 #[.val (.int p1), .unset] []))
  refine own_go (fun t_ k_ => XS.iloadN X0.here hx rfl (hb hby d3_0) rfl k_) ?_
  show OwnFin p e below s _ _ _ (s₁.setTop (mkF m 1 #[.val (.int p1), .unset] [(.int p1)]))
  by_cases hc1 : (0 : Int32) < p1
  · refine own_go (fun t_ k_ => XS.ifYes X0.here hx rfl (pc0 := 1) (pc' := 15) rfl (hb hby d3_1) rfl ((if0 _ _).trans (tlt hc1).2.2.1) (by decide) (by decide) k_) ?_
    show OwnFin p e below s _ _ _ (s₁.setTop (mkF m 15 #[.val (.int p1), .unset] []))
    refine own_go (fun t_ k_ => XS.bipush X0.here hx rfl (hb hby d3_15) k_) ?_
    show OwnFin p e below s _ _ _ (s₁.setTop (mkF m 17 #[.val (.int p1), .unset] [(.int (31 : Int32))]))
    refine own_go (fun t_ k_ => XS.istoreN X0.here hx rfl (hb hby d3_17) rfl (l' := #[.val (.int p1), .val (.int (31 : Int32))]) rfl k_) ?_
    show OwnFin p e below s _ _ _ (s₁.setTop (mkF m 18 #[.val (.int p1), .val (.int (31 : Int32))] []))
    refine own_go (fun t_ k_ => XS.iloadN X0.here hx rfl (hb hby d3_18) rfl k_) ?_
    show OwnFin p e below s _ _ _ (s₁.setTop (mkF m 19 #[.val (.int p1), .val (.int (31 : Int32))] [(.int p1)]))
    refine own_go (X0.ldcwInt hx hown (mvT hZ (hw _ (List.mem_of_getElem? (i := 12) rfl))) (g := (mkF m 19 #[.val (.int p1), .val (.int (31 : Int32))] [(.int p1)])) rfl (hb hby d3_19)) ?_
    show OwnFin p e below s _ _ _ (s₁.setTop (mkF m 22 #[.val (.int p1), .val (.int (31 : Int32))] [(.int (65536 : Int32)), (.int p1)]))
    by_cases hc22 : p1 < (65536 : Int32)
    · refine own_go (fun t_ k_ => XS.icmpYes X0.here hx rfl (pc0 := 22) (pc' := 33) rfl (hb hby d3_22) rfl (tlt hc22).1 (by decide) (by decide) k_) ?_
      show OwnFin p e below s _ _ _ (s₁.setTop (mkF m 33 #[.val (.int p1), .val (.int (31 : Int32))] []))
      refine own_go (fun t_ k_ => XS.iloadN X0.here hx rfl (hb hby d3_33) rfl k_) ?_
      show OwnFin p e below s _ _ _ (s₁.setTop (mkF m 34 #[.val (.int p1), .val (.int (31 : Int32))] [(.int p1)]))
      refine own_go (fun t_ k_ => XS.sipush X0.here hx rfl (hb hby d3_34) k_) ?_
      show OwnFin p e below s _ _ _ (s₁.setTop (mkF m 37 #[.val (.int p1), .val (.int (31 : Int32))] [(.int (256 : Int32)), (.int p1)]))
      by_cases hc37 : p1 < (256 : Int32)
      · refine own_go (fun t_ k_ => XS.icmpYes X0.here hx rfl (pc0 := 37) (pc' := 48) rfl (hb hby d3_37) rfl (tlt hc37).1 (by decide) (by decide) k_) ?_
        show OwnFin p e below s _ _ _ (s₁.setTop (mkF m 48 #[.val (.int p1), .val (.int (31 : Int32))] []))
        refine own_go (fun t_ k_ => XS.iloadN X0.here hx rfl (hb hby d3_48) rfl k_) ?_
        show OwnFin p e below s _ _ _ (s₁.setTop (mkF m 49 #[.val (.int p1), .val (.int (31 : Int32))] [(.int p1)]))
        refine own_go (fun t_ k_ => XS.bipush X0.here hx rfl (hb hby d3_49) k_) ?_
        show OwnFin p e below s _ _ _ (s₁.setTop (mkF m 51 #[.val (.int p1), .val (.int (31 : Int32))] [(.int (16 : Int32)), (.int p1)]))
        by_cases hc51 : p1 < (16 : Int32)
        · refine own_go (fun t_ k_ => XS.icmpYes X0.here hx rfl (pc0 := 51) (pc' := 61) rfl (hb hby d3_51) rfl (tlt hc51).1 (by decide) (by decide) k_) ?_
          show OwnFin p e below s _ _ _ (s₁.setTop (mkF m 61 #[.val (.int p1), .val (.int (31 : Int32))] []))
          refine own_go (fun t_ k_ => XS.iloadN X0.here hx rfl (hb hby d3_61) rfl k_) ?_
          show OwnFin p e below s _ _ _ (s₁.setTop (mkF m 62 #[.val (.int p1), .val (.int (31 : Int32))] [(.int p1)]))
          refine own_go (fun t_ k_ => XS.iconst X0.here hx rfl (hb hby d3_62) k_) ?_
          show OwnFin p e below s _ _ _ (s₁.setTop (mkF m 63 #[.val (.int p1), .val (.int (31 : Int32))] [(.int (4 : Int32)), (.int p1)]))
          by_cases hc63 : p1 < (4 : Int32)
          · refine own_go (fun t_ k_ => XS.icmpYes X0.here hx rfl (pc0 := 63) (pc' := 73) rfl (hb hby d3_63) rfl (tlt hc63).1 (by decide) (by decide) k_) ?_
            show OwnFin p e below s _ _ _ (s₁.setTop (mkF m 73 #[.val (.int p1), .val (.int (31 : Int32))] []))
            refine own_go (fun t_ k_ => XS.iloadN X0.here hx rfl (hb hby d3_73) rfl k_) ?_
            show OwnFin p e below s _ _ _ (s₁.setTop (mkF m 74 #[.val (.int p1), .val (.int (31 : Int32))] [(.int (31 : Int32))]))
            refine own_go (fun t_ k_ => XS.iloadN X0.here hx rfl (hb hby d3_74) rfl k_) ?_
            show OwnFin p e below s _ _ _ (s₁.setTop (mkF m 75 #[.val (.int p1), .val (.int (31 : Int32))] [(.int p1), (.int (31 : Int32))]))
            refine own_go (fun t_ k_ => XS.iconst X0.here hx rfl (hb hby d3_75) k_) ?_
            show OwnFin p e below s _ _ _ (s₁.setTop (mkF m 76 #[.val (.int p1), .val (.int (31 : Int32))] [(.int (1 : Int32)), (.int p1), (.int (31 : Int32))]))
            refine own_go (fun t_ k_ => XS.iushr X0.here hx rfl (hb hby d3_76) rfl k_) ?_
            show OwnFin p e below s _ _ _ (s₁.setTop (mkF m 77 #[.val (.int p1), .val (.int (31 : Int32))] [(.int ((p1.toUInt32 >>> ((1 : Int32) &&& 31).toUInt32).toInt32)), (.int (31 : Int32))]))
            generalize h_bt : ((p1.toUInt32 >>> ((1 : Int32) &&& 31).toUInt32).toInt32) = bt
            refine own_go (fun t_ k_ => XS.isub X0.here hx rfl (hb hby d3_77) rfl k_) ?_
            show OwnFin p e below s _ _ _ (s₁.setTop (mkF m 78 #[.val (.int p1), .val (.int (31 : Int32))] [(.int ((31 : Int32) - bt))]))
            refine own_ret X0 (v := some (.int ((31 : Int32) - bt))) hlk (fun hh => by rw [hret] at hh; cases hh) (fun fs hr => own_retI X0 hx hret (hb hby d3_78) hr) (by decide) (by decide) ?_
            rw [e0]
            simp only [Int32.lt_iff_toInt_lt, own_t0, own_t4, own_t16, own_t256, own_t65536] at hc1 hc22 hc37 hc51 hc63
            have kp := own_nat32 (x := p1) (by omega)
            have k_bt := own_sh p1 (by omega) (n := ((1 : Int32) &&& 31).toUInt32) (k := 1) (by decide) (by decide) h_bt
            have hb : bt.toInt = 0 ∨ bt.toInt = 1 := by omega
            rcases hb with hb | hb
            · obtain rfl : bt = 0 := Int32.toInt_inj.mp hb
              refine ⟨⟨_, rfl, 31, by decide, by decide, ?_, fun _ => ?_⟩, N0, rfl⟩
              · show p1.toBitVec.toNat < 2
                omega
              · show 1 ≤ p1.toBitVec.toNat
                omega
            · obtain rfl : bt = 1 := Int32.toInt_inj.mp hb
              refine ⟨⟨_, rfl, 30, by decide, by decide, ?_, fun _ => ?_⟩, N0, rfl⟩
              · show p1.toBitVec.toNat < 4
                omega
              · show 2 ≤ p1.toBitVec.toNat
                omega
          · refine own_go (fun t_ k_ => XS.icmpNo X0.here hx rfl (hb hby d3_63) rfl (flt hc63).1 k_) ?_
            show OwnFin p e below s _ _ _ (s₁.setTop (mkF m 66 #[.val (.int p1), .val (.int (31 : Int32))] []))
            refine own_go (fun t_ k_ => XS.iinc X0.here hx rfl (hb hby d3_66) rfl (l' := #[.val (.int p1), .val (.int ((31 : Int32) + (-2 : Int32)))]) rfl k_) ?_
            show OwnFin p e below s _ _ _ (s₁.setTop (mkF m 69 #[.val (.int p1), .val (.int ((31 : Int32) + (-2 : Int32)))] []))
            refine own_go (fun t_ k_ => XS.iloadN X0.here hx rfl (hb hby d3_69) rfl k_) ?_
            show OwnFin p e below s _ _ _ (s₁.setTop (mkF m 70 #[.val (.int p1), .val (.int ((31 : Int32) + (-2 : Int32)))] [(.int p1)]))
            refine own_go (fun t_ k_ => XS.iconst X0.here hx rfl (hb hby d3_70) k_) ?_
            show OwnFin p e below s _ _ _ (s₁.setTop (mkF m 71 #[.val (.int p1), .val (.int ((31 : Int32) + (-2 : Int32)))] [(.int (2 : Int32)), (.int p1)]))
            refine own_go (fun t_ k_ => XS.iushr X0.here hx rfl (hb hby d3_71) rfl k_) ?_
            show OwnFin p e below s _ _ _ (s₁.setTop (mkF m 72 #[.val (.int p1), .val (.int ((31 : Int32) + (-2 : Int32)))] [(.int ((p1.toUInt32 >>> ((2 : Int32) &&& 31).toUInt32).toInt32))]))
            refine own_go (fun t_ k_ => XS.istoreN X0.here hx rfl (hb hby d3_72) rfl (l' := #[.val (.int ((p1.toUInt32 >>> ((2 : Int32) &&& 31).toUInt32).toInt32)), .val (.int ((31 : Int32) + (-2 : Int32)))]) rfl k_) ?_
            show OwnFin p e below s _ _ _ (s₁.setTop (mkF m 73 #[.val (.int ((p1.toUInt32 >>> ((2 : Int32) &&& 31).toUInt32).toInt32)), .val (.int ((31 : Int32) + (-2 : Int32)))] []))
            generalize h_i4 : ((p1.toUInt32 >>> ((2 : Int32) &&& 31).toUInt32).toInt32) = i4
            refine own_go (fun t_ k_ => XS.iloadN X0.here hx rfl (hb hby d3_73) rfl k_) ?_
            show OwnFin p e below s _ _ _ (s₁.setTop (mkF m 74 #[.val (.int i4), .val (.int ((31 : Int32) + (-2 : Int32)))] [(.int ((31 : Int32) + (-2 : Int32)))]))
            refine own_go (fun t_ k_ => XS.iloadN X0.here hx rfl (hb hby d3_74) rfl k_) ?_
            show OwnFin p e below s _ _ _ (s₁.setTop (mkF m 75 #[.val (.int i4), .val (.int ((31 : Int32) + (-2 : Int32)))] [(.int i4), (.int ((31 : Int32) + (-2 : Int32)))]))
            refine own_go (fun t_ k_ => XS.iconst X0.here hx rfl (hb hby d3_75) k_) ?_
            show OwnFin p e below s _ _ _ (s₁.setTop (mkF m 76 #[.val (.int i4), .val (.int ((31 : Int32) + (-2 : Int32)))] [(.int (1 : Int32)), (.int i4), (.int ((31 : Int32) + (-2 : Int32)))]))
            refine own_go (fun t_ k_ => XS.iushr X0.here hx rfl (hb hby d3_76) rfl k_) ?_
            show OwnFin p e below s _ _ _ (s₁.setTop (mkF m 77 #[.val (.int i4), .val (.int ((31 : Int32) + (-2 : Int32)))] [(.int ((i4.toUInt32 >>> ((1 : Int32) &&& 31).toUInt32).toInt32)), (.int ((31 : Int32) + (-2 : Int32)))]))
            generalize h_bt : ((i4.toUInt32 >>> ((1 : Int32) &&& 31).toUInt32).toInt32) = bt
            refine own_go (fun t_ k_ => XS.isub X0.here hx rfl (hb hby d3_77) rfl k_) ?_
            show OwnFin p e below s _ _ _ (s₁.setTop (mkF m 78 #[.val (.int i4), .val (.int ((31 : Int32) + (-2 : Int32)))] [(.int (((31 : Int32) + (-2 : Int32)) - bt))]))
            refine own_ret X0 (v := some (.int (((31 : Int32) + (-2 : Int32)) - bt))) hlk (fun hh => by rw [hret] at hh; cases hh) (fun fs hr => own_retI X0 hx hret (hb hby d3_78) hr) (by decide) (by decide) ?_
            rw [e0]
            simp only [Int32.lt_iff_toInt_lt, own_t0, own_t4, own_t16, own_t256, own_t65536] at hc1 hc22 hc37 hc51 hc63
            have kp := own_nat32 (x := p1) (by omega)
            have k_i4 := own_sh p1 (by omega) (n := ((2 : Int32) &&& 31).toUInt32) (k := 2) (by decide) (by decide) h_i4
            have k_bt := own_sh i4 (by omega) (n := ((1 : Int32) &&& 31).toUInt32) (k := 1) (by decide) (by decide) h_bt
            have hb : bt.toInt = 0 ∨ bt.toInt = 1 := by omega
            rcases hb with hb | hb
            · obtain rfl : bt = 0 := Int32.toInt_inj.mp hb
              refine ⟨⟨_, rfl, 29, by decide, by decide, ?_, fun _ => ?_⟩, N0, rfl⟩
              · show p1.toBitVec.toNat < 8
                omega
              · show 4 ≤ p1.toBitVec.toNat
                omega
            · obtain rfl : bt = 1 := Int32.toInt_inj.mp hb
              refine ⟨⟨_, rfl, 28, by decide, by decide, ?_, fun _ => ?_⟩, N0, rfl⟩
              · show p1.toBitVec.toNat < 16
                omega
              · show 8 ≤ p1.toBitVec.toNat
                omega
        · refine own_go (fun t_ k_ => XS.icmpNo X0.here hx rfl (hb hby d3_51) rfl (flt hc51).1 k_) ?_
          show OwnFin p e below s _ _ _ (s₁.setTop (mkF m 54 #[.val (.int p1), .val (.int (31 : Int32))] []))
          refine own_go (fun t_ k_ => XS.iinc X0.here hx rfl (hb hby d3_54) rfl (l' := #[.val (.int p1), .val (.int ((31 : Int32) + (-4 : Int32)))]) rfl k_) ?_
          show OwnFin p e below s _ _ _ (s₁.setTop (mkF m 57 #[.val (.int p1), .val (.int ((31 : Int32) + (-4 : Int32)))] []))
          refine own_go (fun t_ k_ => XS.iloadN X0.here hx rfl (hb hby d3_57) rfl k_) ?_
          show OwnFin p e below s _ _ _ (s₁.setTop (mkF m 58 #[.val (.int p1), .val (.int ((31 : Int32) + (-4 : Int32)))] [(.int p1)]))
          refine own_go (fun t_ k_ => XS.iconst X0.here hx rfl (hb hby d3_58) k_) ?_
          show OwnFin p e below s _ _ _ (s₁.setTop (mkF m 59 #[.val (.int p1), .val (.int ((31 : Int32) + (-4 : Int32)))] [(.int (4 : Int32)), (.int p1)]))
          refine own_go (fun t_ k_ => XS.iushr X0.here hx rfl (hb hby d3_59) rfl k_) ?_
          show OwnFin p e below s _ _ _ (s₁.setTop (mkF m 60 #[.val (.int p1), .val (.int ((31 : Int32) + (-4 : Int32)))] [(.int ((p1.toUInt32 >>> ((4 : Int32) &&& 31).toUInt32).toInt32))]))
          refine own_go (fun t_ k_ => XS.istoreN X0.here hx rfl (hb hby d3_60) rfl (l' := #[.val (.int ((p1.toUInt32 >>> ((4 : Int32) &&& 31).toUInt32).toInt32)), .val (.int ((31 : Int32) + (-4 : Int32)))]) rfl k_) ?_
          show OwnFin p e below s _ _ _ (s₁.setTop (mkF m 61 #[.val (.int ((p1.toUInt32 >>> ((4 : Int32) &&& 31).toUInt32).toInt32)), .val (.int ((31 : Int32) + (-4 : Int32)))] []))
          generalize h_i3 : ((p1.toUInt32 >>> ((4 : Int32) &&& 31).toUInt32).toInt32) = i3
          refine own_go (fun t_ k_ => XS.iloadN X0.here hx rfl (hb hby d3_61) rfl k_) ?_
          show OwnFin p e below s _ _ _ (s₁.setTop (mkF m 62 #[.val (.int i3), .val (.int ((31 : Int32) + (-4 : Int32)))] [(.int i3)]))
          refine own_go (fun t_ k_ => XS.iconst X0.here hx rfl (hb hby d3_62) k_) ?_
          show OwnFin p e below s _ _ _ (s₁.setTop (mkF m 63 #[.val (.int i3), .val (.int ((31 : Int32) + (-4 : Int32)))] [(.int (4 : Int32)), (.int i3)]))
          by_cases hc63 : i3 < (4 : Int32)
          · refine own_go (fun t_ k_ => XS.icmpYes X0.here hx rfl (pc0 := 63) (pc' := 73) rfl (hb hby d3_63) rfl (tlt hc63).1 (by decide) (by decide) k_) ?_
            show OwnFin p e below s _ _ _ (s₁.setTop (mkF m 73 #[.val (.int i3), .val (.int ((31 : Int32) + (-4 : Int32)))] []))
            refine own_go (fun t_ k_ => XS.iloadN X0.here hx rfl (hb hby d3_73) rfl k_) ?_
            show OwnFin p e below s _ _ _ (s₁.setTop (mkF m 74 #[.val (.int i3), .val (.int ((31 : Int32) + (-4 : Int32)))] [(.int ((31 : Int32) + (-4 : Int32)))]))
            refine own_go (fun t_ k_ => XS.iloadN X0.here hx rfl (hb hby d3_74) rfl k_) ?_
            show OwnFin p e below s _ _ _ (s₁.setTop (mkF m 75 #[.val (.int i3), .val (.int ((31 : Int32) + (-4 : Int32)))] [(.int i3), (.int ((31 : Int32) + (-4 : Int32)))]))
            refine own_go (fun t_ k_ => XS.iconst X0.here hx rfl (hb hby d3_75) k_) ?_
            show OwnFin p e below s _ _ _ (s₁.setTop (mkF m 76 #[.val (.int i3), .val (.int ((31 : Int32) + (-4 : Int32)))] [(.int (1 : Int32)), (.int i3), (.int ((31 : Int32) + (-4 : Int32)))]))
            refine own_go (fun t_ k_ => XS.iushr X0.here hx rfl (hb hby d3_76) rfl k_) ?_
            show OwnFin p e below s _ _ _ (s₁.setTop (mkF m 77 #[.val (.int i3), .val (.int ((31 : Int32) + (-4 : Int32)))] [(.int ((i3.toUInt32 >>> ((1 : Int32) &&& 31).toUInt32).toInt32)), (.int ((31 : Int32) + (-4 : Int32)))]))
            generalize h_bt : ((i3.toUInt32 >>> ((1 : Int32) &&& 31).toUInt32).toInt32) = bt
            refine own_go (fun t_ k_ => XS.isub X0.here hx rfl (hb hby d3_77) rfl k_) ?_
            show OwnFin p e below s _ _ _ (s₁.setTop (mkF m 78 #[.val (.int i3), .val (.int ((31 : Int32) + (-4 : Int32)))] [(.int (((31 : Int32) + (-4 : Int32)) - bt))]))
            refine own_ret X0 (v := some (.int (((31 : Int32) + (-4 : Int32)) - bt))) hlk (fun hh => by rw [hret] at hh; cases hh) (fun fs hr => own_retI X0 hx hret (hb hby d3_78) hr) (by decide) (by decide) ?_
            rw [e0]
            simp only [Int32.lt_iff_toInt_lt, own_t0, own_t4, own_t16, own_t256, own_t65536] at hc1 hc22 hc37 hc51 hc63
            have kp := own_nat32 (x := p1) (by omega)
            have k_i3 := own_sh p1 (by omega) (n := ((4 : Int32) &&& 31).toUInt32) (k := 4) (by decide) (by decide) h_i3
            have k_bt := own_sh i3 (by omega) (n := ((1 : Int32) &&& 31).toUInt32) (k := 1) (by decide) (by decide) h_bt
            have hb : bt.toInt = 0 ∨ bt.toInt = 1 := by omega
            rcases hb with hb | hb
            · obtain rfl : bt = 0 := Int32.toInt_inj.mp hb
              refine ⟨⟨_, rfl, 27, by decide, by decide, ?_, fun _ => ?_⟩, N0, rfl⟩
              · show p1.toBitVec.toNat < 32
                omega
              · show 16 ≤ p1.toBitVec.toNat
                omega
            · obtain rfl : bt = 1 := Int32.toInt_inj.mp hb
              refine ⟨⟨_, rfl, 26, by decide, by decide, ?_, fun _ => ?_⟩, N0, rfl⟩
              · show p1.toBitVec.toNat < 64
                omega
              · show 32 ≤ p1.toBitVec.toNat
                omega
          · refine own_go (fun t_ k_ => XS.icmpNo X0.here hx rfl (hb hby d3_63) rfl (flt hc63).1 k_) ?_
            show OwnFin p e below s _ _ _ (s₁.setTop (mkF m 66 #[.val (.int i3), .val (.int ((31 : Int32) + (-4 : Int32)))] []))
            refine own_go (fun t_ k_ => XS.iinc X0.here hx rfl (hb hby d3_66) rfl (l' := #[.val (.int i3), .val (.int (((31 : Int32) + (-4 : Int32)) + (-2 : Int32)))]) rfl k_) ?_
            show OwnFin p e below s _ _ _ (s₁.setTop (mkF m 69 #[.val (.int i3), .val (.int (((31 : Int32) + (-4 : Int32)) + (-2 : Int32)))] []))
            refine own_go (fun t_ k_ => XS.iloadN X0.here hx rfl (hb hby d3_69) rfl k_) ?_
            show OwnFin p e below s _ _ _ (s₁.setTop (mkF m 70 #[.val (.int i3), .val (.int (((31 : Int32) + (-4 : Int32)) + (-2 : Int32)))] [(.int i3)]))
            refine own_go (fun t_ k_ => XS.iconst X0.here hx rfl (hb hby d3_70) k_) ?_
            show OwnFin p e below s _ _ _ (s₁.setTop (mkF m 71 #[.val (.int i3), .val (.int (((31 : Int32) + (-4 : Int32)) + (-2 : Int32)))] [(.int (2 : Int32)), (.int i3)]))
            refine own_go (fun t_ k_ => XS.iushr X0.here hx rfl (hb hby d3_71) rfl k_) ?_
            show OwnFin p e below s _ _ _ (s₁.setTop (mkF m 72 #[.val (.int i3), .val (.int (((31 : Int32) + (-4 : Int32)) + (-2 : Int32)))] [(.int ((i3.toUInt32 >>> ((2 : Int32) &&& 31).toUInt32).toInt32))]))
            refine own_go (fun t_ k_ => XS.istoreN X0.here hx rfl (hb hby d3_72) rfl (l' := #[.val (.int ((i3.toUInt32 >>> ((2 : Int32) &&& 31).toUInt32).toInt32)), .val (.int (((31 : Int32) + (-4 : Int32)) + (-2 : Int32)))]) rfl k_) ?_
            show OwnFin p e below s _ _ _ (s₁.setTop (mkF m 73 #[.val (.int ((i3.toUInt32 >>> ((2 : Int32) &&& 31).toUInt32).toInt32)), .val (.int (((31 : Int32) + (-4 : Int32)) + (-2 : Int32)))] []))
            generalize h_i4 : ((i3.toUInt32 >>> ((2 : Int32) &&& 31).toUInt32).toInt32) = i4
            refine own_go (fun t_ k_ => XS.iloadN X0.here hx rfl (hb hby d3_73) rfl k_) ?_
            show OwnFin p e below s _ _ _ (s₁.setTop (mkF m 74 #[.val (.int i4), .val (.int (((31 : Int32) + (-4 : Int32)) + (-2 : Int32)))] [(.int (((31 : Int32) + (-4 : Int32)) + (-2 : Int32)))]))
            refine own_go (fun t_ k_ => XS.iloadN X0.here hx rfl (hb hby d3_74) rfl k_) ?_
            show OwnFin p e below s _ _ _ (s₁.setTop (mkF m 75 #[.val (.int i4), .val (.int (((31 : Int32) + (-4 : Int32)) + (-2 : Int32)))] [(.int i4), (.int (((31 : Int32) + (-4 : Int32)) + (-2 : Int32)))]))
            refine own_go (fun t_ k_ => XS.iconst X0.here hx rfl (hb hby d3_75) k_) ?_
            show OwnFin p e below s _ _ _ (s₁.setTop (mkF m 76 #[.val (.int i4), .val (.int (((31 : Int32) + (-4 : Int32)) + (-2 : Int32)))] [(.int (1 : Int32)), (.int i4), (.int (((31 : Int32) + (-4 : Int32)) + (-2 : Int32)))]))
            refine own_go (fun t_ k_ => XS.iushr X0.here hx rfl (hb hby d3_76) rfl k_) ?_
            show OwnFin p e below s _ _ _ (s₁.setTop (mkF m 77 #[.val (.int i4), .val (.int (((31 : Int32) + (-4 : Int32)) + (-2 : Int32)))] [(.int ((i4.toUInt32 >>> ((1 : Int32) &&& 31).toUInt32).toInt32)), (.int (((31 : Int32) + (-4 : Int32)) + (-2 : Int32)))]))
            generalize h_bt : ((i4.toUInt32 >>> ((1 : Int32) &&& 31).toUInt32).toInt32) = bt
            refine own_go (fun t_ k_ => XS.isub X0.here hx rfl (hb hby d3_77) rfl k_) ?_
            show OwnFin p e below s _ _ _ (s₁.setTop (mkF m 78 #[.val (.int i4), .val (.int (((31 : Int32) + (-4 : Int32)) + (-2 : Int32)))] [(.int ((((31 : Int32) + (-4 : Int32)) + (-2 : Int32)) - bt))]))
            refine own_ret X0 (v := some (.int ((((31 : Int32) + (-4 : Int32)) + (-2 : Int32)) - bt))) hlk (fun hh => by rw [hret] at hh; cases hh) (fun fs hr => own_retI X0 hx hret (hb hby d3_78) hr) (by decide) (by decide) ?_
            rw [e0]
            simp only [Int32.lt_iff_toInt_lt, own_t0, own_t4, own_t16, own_t256, own_t65536] at hc1 hc22 hc37 hc51 hc63
            have kp := own_nat32 (x := p1) (by omega)
            have k_i3 := own_sh p1 (by omega) (n := ((4 : Int32) &&& 31).toUInt32) (k := 4) (by decide) (by decide) h_i3
            have k_i4 := own_sh i3 (by omega) (n := ((2 : Int32) &&& 31).toUInt32) (k := 2) (by decide) (by decide) h_i4
            have k_bt := own_sh i4 (by omega) (n := ((1 : Int32) &&& 31).toUInt32) (k := 1) (by decide) (by decide) h_bt
            have hb : bt.toInt = 0 ∨ bt.toInt = 1 := by omega
            rcases hb with hb | hb
            · obtain rfl : bt = 0 := Int32.toInt_inj.mp hb
              refine ⟨⟨_, rfl, 25, by decide, by decide, ?_, fun _ => ?_⟩, N0, rfl⟩
              · show p1.toBitVec.toNat < 128
                omega
              · show 64 ≤ p1.toBitVec.toNat
                omega
            · obtain rfl : bt = 1 := Int32.toInt_inj.mp hb
              refine ⟨⟨_, rfl, 24, by decide, by decide, ?_, fun _ => ?_⟩, N0, rfl⟩
              · show p1.toBitVec.toNat < 256
                omega
              · show 128 ≤ p1.toBitVec.toNat
                omega
      · refine own_go (fun t_ k_ => XS.icmpNo X0.here hx rfl (hb hby d3_37) rfl (flt hc37).1 k_) ?_
        show OwnFin p e below s _ _ _ (s₁.setTop (mkF m 40 #[.val (.int p1), .val (.int (31 : Int32))] []))
        refine own_go (fun t_ k_ => XS.iinc X0.here hx rfl (hb hby d3_40) rfl (l' := #[.val (.int p1), .val (.int ((31 : Int32) + (-8 : Int32)))]) rfl k_) ?_
        show OwnFin p e below s _ _ _ (s₁.setTop (mkF m 43 #[.val (.int p1), .val (.int ((31 : Int32) + (-8 : Int32)))] []))
        refine own_go (fun t_ k_ => XS.iloadN X0.here hx rfl (hb hby d3_43) rfl k_) ?_
        show OwnFin p e below s _ _ _ (s₁.setTop (mkF m 44 #[.val (.int p1), .val (.int ((31 : Int32) + (-8 : Int32)))] [(.int p1)]))
        refine own_go (fun t_ k_ => XS.bipush X0.here hx rfl (hb hby d3_44) k_) ?_
        show OwnFin p e below s _ _ _ (s₁.setTop (mkF m 46 #[.val (.int p1), .val (.int ((31 : Int32) + (-8 : Int32)))] [(.int (8 : Int32)), (.int p1)]))
        refine own_go (fun t_ k_ => XS.iushr X0.here hx rfl (hb hby d3_46) rfl k_) ?_
        show OwnFin p e below s _ _ _ (s₁.setTop (mkF m 47 #[.val (.int p1), .val (.int ((31 : Int32) + (-8 : Int32)))] [(.int ((p1.toUInt32 >>> ((8 : Int32) &&& 31).toUInt32).toInt32))]))
        refine own_go (fun t_ k_ => XS.istoreN X0.here hx rfl (hb hby d3_47) rfl (l' := #[.val (.int ((p1.toUInt32 >>> ((8 : Int32) &&& 31).toUInt32).toInt32)), .val (.int ((31 : Int32) + (-8 : Int32)))]) rfl k_) ?_
        show OwnFin p e below s _ _ _ (s₁.setTop (mkF m 48 #[.val (.int ((p1.toUInt32 >>> ((8 : Int32) &&& 31).toUInt32).toInt32)), .val (.int ((31 : Int32) + (-8 : Int32)))] []))
        generalize h_i2 : ((p1.toUInt32 >>> ((8 : Int32) &&& 31).toUInt32).toInt32) = i2
        refine own_go (fun t_ k_ => XS.iloadN X0.here hx rfl (hb hby d3_48) rfl k_) ?_
        show OwnFin p e below s _ _ _ (s₁.setTop (mkF m 49 #[.val (.int i2), .val (.int ((31 : Int32) + (-8 : Int32)))] [(.int i2)]))
        refine own_go (fun t_ k_ => XS.bipush X0.here hx rfl (hb hby d3_49) k_) ?_
        show OwnFin p e below s _ _ _ (s₁.setTop (mkF m 51 #[.val (.int i2), .val (.int ((31 : Int32) + (-8 : Int32)))] [(.int (16 : Int32)), (.int i2)]))
        by_cases hc51 : i2 < (16 : Int32)
        · refine own_go (fun t_ k_ => XS.icmpYes X0.here hx rfl (pc0 := 51) (pc' := 61) rfl (hb hby d3_51) rfl (tlt hc51).1 (by decide) (by decide) k_) ?_
          show OwnFin p e below s _ _ _ (s₁.setTop (mkF m 61 #[.val (.int i2), .val (.int ((31 : Int32) + (-8 : Int32)))] []))
          refine own_go (fun t_ k_ => XS.iloadN X0.here hx rfl (hb hby d3_61) rfl k_) ?_
          show OwnFin p e below s _ _ _ (s₁.setTop (mkF m 62 #[.val (.int i2), .val (.int ((31 : Int32) + (-8 : Int32)))] [(.int i2)]))
          refine own_go (fun t_ k_ => XS.iconst X0.here hx rfl (hb hby d3_62) k_) ?_
          show OwnFin p e below s _ _ _ (s₁.setTop (mkF m 63 #[.val (.int i2), .val (.int ((31 : Int32) + (-8 : Int32)))] [(.int (4 : Int32)), (.int i2)]))
          by_cases hc63 : i2 < (4 : Int32)
          · refine own_go (fun t_ k_ => XS.icmpYes X0.here hx rfl (pc0 := 63) (pc' := 73) rfl (hb hby d3_63) rfl (tlt hc63).1 (by decide) (by decide) k_) ?_
            show OwnFin p e below s _ _ _ (s₁.setTop (mkF m 73 #[.val (.int i2), .val (.int ((31 : Int32) + (-8 : Int32)))] []))
            refine own_go (fun t_ k_ => XS.iloadN X0.here hx rfl (hb hby d3_73) rfl k_) ?_
            show OwnFin p e below s _ _ _ (s₁.setTop (mkF m 74 #[.val (.int i2), .val (.int ((31 : Int32) + (-8 : Int32)))] [(.int ((31 : Int32) + (-8 : Int32)))]))
            refine own_go (fun t_ k_ => XS.iloadN X0.here hx rfl (hb hby d3_74) rfl k_) ?_
            show OwnFin p e below s _ _ _ (s₁.setTop (mkF m 75 #[.val (.int i2), .val (.int ((31 : Int32) + (-8 : Int32)))] [(.int i2), (.int ((31 : Int32) + (-8 : Int32)))]))
            refine own_go (fun t_ k_ => XS.iconst X0.here hx rfl (hb hby d3_75) k_) ?_
            show OwnFin p e below s _ _ _ (s₁.setTop (mkF m 76 #[.val (.int i2), .val (.int ((31 : Int32) + (-8 : Int32)))] [(.int (1 : Int32)), (.int i2), (.int ((31 : Int32) + (-8 : Int32)))]))
            refine own_go (fun t_ k_ => XS.iushr X0.here hx rfl (hb hby d3_76) rfl k_) ?_
            show OwnFin p e below s _ _ _ (s₁.setTop (mkF m 77 #[.val (.int i2), .val (.int ((31 : Int32) + (-8 : Int32)))] [(.int ((i2.toUInt32 >>> ((1 : Int32) &&& 31).toUInt32).toInt32)), (.int ((31 : Int32) + (-8 : Int32)))]))
            generalize h_bt : ((i2.toUInt32 >>> ((1 : Int32) &&& 31).toUInt32).toInt32) = bt
            refine own_go (fun t_ k_ => XS.isub X0.here hx rfl (hb hby d3_77) rfl k_) ?_
            show OwnFin p e below s _ _ _ (s₁.setTop (mkF m 78 #[.val (.int i2), .val (.int ((31 : Int32) + (-8 : Int32)))] [(.int (((31 : Int32) + (-8 : Int32)) - bt))]))
            refine own_ret X0 (v := some (.int (((31 : Int32) + (-8 : Int32)) - bt))) hlk (fun hh => by rw [hret] at hh; cases hh) (fun fs hr => own_retI X0 hx hret (hb hby d3_78) hr) (by decide) (by decide) ?_
            rw [e0]
            simp only [Int32.lt_iff_toInt_lt, own_t0, own_t4, own_t16, own_t256, own_t65536] at hc1 hc22 hc37 hc51 hc63
            have kp := own_nat32 (x := p1) (by omega)
            have k_i2 := own_sh p1 (by omega) (n := ((8 : Int32) &&& 31).toUInt32) (k := 8) (by decide) (by decide) h_i2
            have k_bt := own_sh i2 (by omega) (n := ((1 : Int32) &&& 31).toUInt32) (k := 1) (by decide) (by decide) h_bt
            have hb : bt.toInt = 0 ∨ bt.toInt = 1 := by omega
            rcases hb with hb | hb
            · obtain rfl : bt = 0 := Int32.toInt_inj.mp hb
              refine ⟨⟨_, rfl, 23, by decide, by decide, ?_, fun _ => ?_⟩, N0, rfl⟩
              · show p1.toBitVec.toNat < 512
                omega
              · show 256 ≤ p1.toBitVec.toNat
                omega
            · obtain rfl : bt = 1 := Int32.toInt_inj.mp hb
              refine ⟨⟨_, rfl, 22, by decide, by decide, ?_, fun _ => ?_⟩, N0, rfl⟩
              · show p1.toBitVec.toNat < 1024
                omega
              · show 512 ≤ p1.toBitVec.toNat
                omega
          · refine own_go (fun t_ k_ => XS.icmpNo X0.here hx rfl (hb hby d3_63) rfl (flt hc63).1 k_) ?_
            show OwnFin p e below s _ _ _ (s₁.setTop (mkF m 66 #[.val (.int i2), .val (.int ((31 : Int32) + (-8 : Int32)))] []))
            refine own_go (fun t_ k_ => XS.iinc X0.here hx rfl (hb hby d3_66) rfl (l' := #[.val (.int i2), .val (.int (((31 : Int32) + (-8 : Int32)) + (-2 : Int32)))]) rfl k_) ?_
            show OwnFin p e below s _ _ _ (s₁.setTop (mkF m 69 #[.val (.int i2), .val (.int (((31 : Int32) + (-8 : Int32)) + (-2 : Int32)))] []))
            refine own_go (fun t_ k_ => XS.iloadN X0.here hx rfl (hb hby d3_69) rfl k_) ?_
            show OwnFin p e below s _ _ _ (s₁.setTop (mkF m 70 #[.val (.int i2), .val (.int (((31 : Int32) + (-8 : Int32)) + (-2 : Int32)))] [(.int i2)]))
            refine own_go (fun t_ k_ => XS.iconst X0.here hx rfl (hb hby d3_70) k_) ?_
            show OwnFin p e below s _ _ _ (s₁.setTop (mkF m 71 #[.val (.int i2), .val (.int (((31 : Int32) + (-8 : Int32)) + (-2 : Int32)))] [(.int (2 : Int32)), (.int i2)]))
            refine own_go (fun t_ k_ => XS.iushr X0.here hx rfl (hb hby d3_71) rfl k_) ?_
            show OwnFin p e below s _ _ _ (s₁.setTop (mkF m 72 #[.val (.int i2), .val (.int (((31 : Int32) + (-8 : Int32)) + (-2 : Int32)))] [(.int ((i2.toUInt32 >>> ((2 : Int32) &&& 31).toUInt32).toInt32))]))
            refine own_go (fun t_ k_ => XS.istoreN X0.here hx rfl (hb hby d3_72) rfl (l' := #[.val (.int ((i2.toUInt32 >>> ((2 : Int32) &&& 31).toUInt32).toInt32)), .val (.int (((31 : Int32) + (-8 : Int32)) + (-2 : Int32)))]) rfl k_) ?_
            show OwnFin p e below s _ _ _ (s₁.setTop (mkF m 73 #[.val (.int ((i2.toUInt32 >>> ((2 : Int32) &&& 31).toUInt32).toInt32)), .val (.int (((31 : Int32) + (-8 : Int32)) + (-2 : Int32)))] []))
            generalize h_i4 : ((i2.toUInt32 >>> ((2 : Int32) &&& 31).toUInt32).toInt32) = i4
            refine own_go (fun t_ k_ => XS.iloadN X0.here hx rfl (hb hby d3_73) rfl k_) ?_
            show OwnFin p e below s _ _ _ (s₁.setTop (mkF m 74 #[.val (.int i4), .val (.int (((31 : Int32) + (-8 : Int32)) + (-2 : Int32)))] [(.int (((31 : Int32) + (-8 : Int32)) + (-2 : Int32)))]))
            refine own_go (fun t_ k_ => XS.iloadN X0.here hx rfl (hb hby d3_74) rfl k_) ?_
            show OwnFin p e below s _ _ _ (s₁.setTop (mkF m 75 #[.val (.int i4), .val (.int (((31 : Int32) + (-8 : Int32)) + (-2 : Int32)))] [(.int i4), (.int (((31 : Int32) + (-8 : Int32)) + (-2 : Int32)))]))
            refine own_go (fun t_ k_ => XS.iconst X0.here hx rfl (hb hby d3_75) k_) ?_
            show OwnFin p e below s _ _ _ (s₁.setTop (mkF m 76 #[.val (.int i4), .val (.int (((31 : Int32) + (-8 : Int32)) + (-2 : Int32)))] [(.int (1 : Int32)), (.int i4), (.int (((31 : Int32) + (-8 : Int32)) + (-2 : Int32)))]))
            refine own_go (fun t_ k_ => XS.iushr X0.here hx rfl (hb hby d3_76) rfl k_) ?_
            show OwnFin p e below s _ _ _ (s₁.setTop (mkF m 77 #[.val (.int i4), .val (.int (((31 : Int32) + (-8 : Int32)) + (-2 : Int32)))] [(.int ((i4.toUInt32 >>> ((1 : Int32) &&& 31).toUInt32).toInt32)), (.int (((31 : Int32) + (-8 : Int32)) + (-2 : Int32)))]))
            generalize h_bt : ((i4.toUInt32 >>> ((1 : Int32) &&& 31).toUInt32).toInt32) = bt
            refine own_go (fun t_ k_ => XS.isub X0.here hx rfl (hb hby d3_77) rfl k_) ?_
            show OwnFin p e below s _ _ _ (s₁.setTop (mkF m 78 #[.val (.int i4), .val (.int (((31 : Int32) + (-8 : Int32)) + (-2 : Int32)))] [(.int ((((31 : Int32) + (-8 : Int32)) + (-2 : Int32)) - bt))]))
            refine own_ret X0 (v := some (.int ((((31 : Int32) + (-8 : Int32)) + (-2 : Int32)) - bt))) hlk (fun hh => by rw [hret] at hh; cases hh) (fun fs hr => own_retI X0 hx hret (hb hby d3_78) hr) (by decide) (by decide) ?_
            rw [e0]
            simp only [Int32.lt_iff_toInt_lt, own_t0, own_t4, own_t16, own_t256, own_t65536] at hc1 hc22 hc37 hc51 hc63
            have kp := own_nat32 (x := p1) (by omega)
            have k_i2 := own_sh p1 (by omega) (n := ((8 : Int32) &&& 31).toUInt32) (k := 8) (by decide) (by decide) h_i2
            have k_i4 := own_sh i2 (by omega) (n := ((2 : Int32) &&& 31).toUInt32) (k := 2) (by decide) (by decide) h_i4
            have k_bt := own_sh i4 (by omega) (n := ((1 : Int32) &&& 31).toUInt32) (k := 1) (by decide) (by decide) h_bt
            have hb : bt.toInt = 0 ∨ bt.toInt = 1 := by omega
            rcases hb with hb | hb
            · obtain rfl : bt = 0 := Int32.toInt_inj.mp hb
              refine ⟨⟨_, rfl, 21, by decide, by decide, ?_, fun _ => ?_⟩, N0, rfl⟩
              · show p1.toBitVec.toNat < 2048
                omega
              · show 1024 ≤ p1.toBitVec.toNat
                omega
            · obtain rfl : bt = 1 := Int32.toInt_inj.mp hb
              refine ⟨⟨_, rfl, 20, by decide, by decide, ?_, fun _ => ?_⟩, N0, rfl⟩
              · show p1.toBitVec.toNat < 4096
                omega
              · show 2048 ≤ p1.toBitVec.toNat
                omega
        · refine own_go (fun t_ k_ => XS.icmpNo X0.here hx rfl (hb hby d3_51) rfl (flt hc51).1 k_) ?_
          show OwnFin p e below s _ _ _ (s₁.setTop (mkF m 54 #[.val (.int i2), .val (.int ((31 : Int32) + (-8 : Int32)))] []))
          refine own_go (fun t_ k_ => XS.iinc X0.here hx rfl (hb hby d3_54) rfl (l' := #[.val (.int i2), .val (.int (((31 : Int32) + (-8 : Int32)) + (-4 : Int32)))]) rfl k_) ?_
          show OwnFin p e below s _ _ _ (s₁.setTop (mkF m 57 #[.val (.int i2), .val (.int (((31 : Int32) + (-8 : Int32)) + (-4 : Int32)))] []))
          refine own_go (fun t_ k_ => XS.iloadN X0.here hx rfl (hb hby d3_57) rfl k_) ?_
          show OwnFin p e below s _ _ _ (s₁.setTop (mkF m 58 #[.val (.int i2), .val (.int (((31 : Int32) + (-8 : Int32)) + (-4 : Int32)))] [(.int i2)]))
          refine own_go (fun t_ k_ => XS.iconst X0.here hx rfl (hb hby d3_58) k_) ?_
          show OwnFin p e below s _ _ _ (s₁.setTop (mkF m 59 #[.val (.int i2), .val (.int (((31 : Int32) + (-8 : Int32)) + (-4 : Int32)))] [(.int (4 : Int32)), (.int i2)]))
          refine own_go (fun t_ k_ => XS.iushr X0.here hx rfl (hb hby d3_59) rfl k_) ?_
          show OwnFin p e below s _ _ _ (s₁.setTop (mkF m 60 #[.val (.int i2), .val (.int (((31 : Int32) + (-8 : Int32)) + (-4 : Int32)))] [(.int ((i2.toUInt32 >>> ((4 : Int32) &&& 31).toUInt32).toInt32))]))
          refine own_go (fun t_ k_ => XS.istoreN X0.here hx rfl (hb hby d3_60) rfl (l' := #[.val (.int ((i2.toUInt32 >>> ((4 : Int32) &&& 31).toUInt32).toInt32)), .val (.int (((31 : Int32) + (-8 : Int32)) + (-4 : Int32)))]) rfl k_) ?_
          show OwnFin p e below s _ _ _ (s₁.setTop (mkF m 61 #[.val (.int ((i2.toUInt32 >>> ((4 : Int32) &&& 31).toUInt32).toInt32)), .val (.int (((31 : Int32) + (-8 : Int32)) + (-4 : Int32)))] []))
          generalize h_i3 : ((i2.toUInt32 >>> ((4 : Int32) &&& 31).toUInt32).toInt32) = i3
          refine own_go (fun t_ k_ => XS.iloadN X0.here hx rfl (hb hby d3_61) rfl k_) ?_
          show OwnFin p e below s _ _ _ (s₁.setTop (mkF m 62 #[.val (.int i3), .val (.int (((31 : Int32) + (-8 : Int32)) + (-4 : Int32)))] [(.int i3)]))
          refine own_go (fun t_ k_ => XS.iconst X0.here hx rfl (hb hby d3_62) k_) ?_
          show OwnFin p e below s _ _ _ (s₁.setTop (mkF m 63 #[.val (.int i3), .val (.int (((31 : Int32) + (-8 : Int32)) + (-4 : Int32)))] [(.int (4 : Int32)), (.int i3)]))
          by_cases hc63 : i3 < (4 : Int32)
          · refine own_go (fun t_ k_ => XS.icmpYes X0.here hx rfl (pc0 := 63) (pc' := 73) rfl (hb hby d3_63) rfl (tlt hc63).1 (by decide) (by decide) k_) ?_
            show OwnFin p e below s _ _ _ (s₁.setTop (mkF m 73 #[.val (.int i3), .val (.int (((31 : Int32) + (-8 : Int32)) + (-4 : Int32)))] []))
            refine own_go (fun t_ k_ => XS.iloadN X0.here hx rfl (hb hby d3_73) rfl k_) ?_
            show OwnFin p e below s _ _ _ (s₁.setTop (mkF m 74 #[.val (.int i3), .val (.int (((31 : Int32) + (-8 : Int32)) + (-4 : Int32)))] [(.int (((31 : Int32) + (-8 : Int32)) + (-4 : Int32)))]))
            refine own_go (fun t_ k_ => XS.iloadN X0.here hx rfl (hb hby d3_74) rfl k_) ?_
            show OwnFin p e below s _ _ _ (s₁.setTop (mkF m 75 #[.val (.int i3), .val (.int (((31 : Int32) + (-8 : Int32)) + (-4 : Int32)))] [(.int i3), (.int (((31 : Int32) + (-8 : Int32)) + (-4 : Int32)))]))
            refine own_go (fun t_ k_ => XS.iconst X0.here hx rfl (hb hby d3_75) k_) ?_
            show OwnFin p e below s _ _ _ (s₁.setTop (mkF m 76 #[.val (.int i3), .val (.int (((31 : Int32) + (-8 : Int32)) + (-4 : Int32)))] [(.int (1 : Int32)), (.int i3), (.int (((31 : Int32) + (-8 : Int32)) + (-4 : Int32)))]))
            refine own_go (fun t_ k_ => XS.iushr X0.here hx rfl (hb hby d3_76) rfl k_) ?_
            show OwnFin p e below s _ _ _ (s₁.setTop (mkF m 77 #[.val (.int i3), .val (.int (((31 : Int32) + (-8 : Int32)) + (-4 : Int32)))] [(.int ((i3.toUInt32 >>> ((1 : Int32) &&& 31).toUInt32).toInt32)), (.int (((31 : Int32) + (-8 : Int32)) + (-4 : Int32)))]))
            generalize h_bt : ((i3.toUInt32 >>> ((1 : Int32) &&& 31).toUInt32).toInt32) = bt
            refine own_go (fun t_ k_ => XS.isub X0.here hx rfl (hb hby d3_77) rfl k_) ?_
            show OwnFin p e below s _ _ _ (s₁.setTop (mkF m 78 #[.val (.int i3), .val (.int (((31 : Int32) + (-8 : Int32)) + (-4 : Int32)))] [(.int ((((31 : Int32) + (-8 : Int32)) + (-4 : Int32)) - bt))]))
            refine own_ret X0 (v := some (.int ((((31 : Int32) + (-8 : Int32)) + (-4 : Int32)) - bt))) hlk (fun hh => by rw [hret] at hh; cases hh) (fun fs hr => own_retI X0 hx hret (hb hby d3_78) hr) (by decide) (by decide) ?_
            rw [e0]
            simp only [Int32.lt_iff_toInt_lt, own_t0, own_t4, own_t16, own_t256, own_t65536] at hc1 hc22 hc37 hc51 hc63
            have kp := own_nat32 (x := p1) (by omega)
            have k_i2 := own_sh p1 (by omega) (n := ((8 : Int32) &&& 31).toUInt32) (k := 8) (by decide) (by decide) h_i2
            have k_i3 := own_sh i2 (by omega) (n := ((4 : Int32) &&& 31).toUInt32) (k := 4) (by decide) (by decide) h_i3
            have k_bt := own_sh i3 (by omega) (n := ((1 : Int32) &&& 31).toUInt32) (k := 1) (by decide) (by decide) h_bt
            have hb : bt.toInt = 0 ∨ bt.toInt = 1 := by omega
            rcases hb with hb | hb
            · obtain rfl : bt = 0 := Int32.toInt_inj.mp hb
              refine ⟨⟨_, rfl, 19, by decide, by decide, ?_, fun _ => ?_⟩, N0, rfl⟩
              · show p1.toBitVec.toNat < 8192
                omega
              · show 4096 ≤ p1.toBitVec.toNat
                omega
            · obtain rfl : bt = 1 := Int32.toInt_inj.mp hb
              refine ⟨⟨_, rfl, 18, by decide, by decide, ?_, fun _ => ?_⟩, N0, rfl⟩
              · show p1.toBitVec.toNat < 16384
                omega
              · show 8192 ≤ p1.toBitVec.toNat
                omega
          · refine own_go (fun t_ k_ => XS.icmpNo X0.here hx rfl (hb hby d3_63) rfl (flt hc63).1 k_) ?_
            show OwnFin p e below s _ _ _ (s₁.setTop (mkF m 66 #[.val (.int i3), .val (.int (((31 : Int32) + (-8 : Int32)) + (-4 : Int32)))] []))
            refine own_go (fun t_ k_ => XS.iinc X0.here hx rfl (hb hby d3_66) rfl (l' := #[.val (.int i3), .val (.int ((((31 : Int32) + (-8 : Int32)) + (-4 : Int32)) + (-2 : Int32)))]) rfl k_) ?_
            show OwnFin p e below s _ _ _ (s₁.setTop (mkF m 69 #[.val (.int i3), .val (.int ((((31 : Int32) + (-8 : Int32)) + (-4 : Int32)) + (-2 : Int32)))] []))
            refine own_go (fun t_ k_ => XS.iloadN X0.here hx rfl (hb hby d3_69) rfl k_) ?_
            show OwnFin p e below s _ _ _ (s₁.setTop (mkF m 70 #[.val (.int i3), .val (.int ((((31 : Int32) + (-8 : Int32)) + (-4 : Int32)) + (-2 : Int32)))] [(.int i3)]))
            refine own_go (fun t_ k_ => XS.iconst X0.here hx rfl (hb hby d3_70) k_) ?_
            show OwnFin p e below s _ _ _ (s₁.setTop (mkF m 71 #[.val (.int i3), .val (.int ((((31 : Int32) + (-8 : Int32)) + (-4 : Int32)) + (-2 : Int32)))] [(.int (2 : Int32)), (.int i3)]))
            refine own_go (fun t_ k_ => XS.iushr X0.here hx rfl (hb hby d3_71) rfl k_) ?_
            show OwnFin p e below s _ _ _ (s₁.setTop (mkF m 72 #[.val (.int i3), .val (.int ((((31 : Int32) + (-8 : Int32)) + (-4 : Int32)) + (-2 : Int32)))] [(.int ((i3.toUInt32 >>> ((2 : Int32) &&& 31).toUInt32).toInt32))]))
            refine own_go (fun t_ k_ => XS.istoreN X0.here hx rfl (hb hby d3_72) rfl (l' := #[.val (.int ((i3.toUInt32 >>> ((2 : Int32) &&& 31).toUInt32).toInt32)), .val (.int ((((31 : Int32) + (-8 : Int32)) + (-4 : Int32)) + (-2 : Int32)))]) rfl k_) ?_
            show OwnFin p e below s _ _ _ (s₁.setTop (mkF m 73 #[.val (.int ((i3.toUInt32 >>> ((2 : Int32) &&& 31).toUInt32).toInt32)), .val (.int ((((31 : Int32) + (-8 : Int32)) + (-4 : Int32)) + (-2 : Int32)))] []))
            generalize h_i4 : ((i3.toUInt32 >>> ((2 : Int32) &&& 31).toUInt32).toInt32) = i4
            refine own_go (fun t_ k_ => XS.iloadN X0.here hx rfl (hb hby d3_73) rfl k_) ?_
            show OwnFin p e below s _ _ _ (s₁.setTop (mkF m 74 #[.val (.int i4), .val (.int ((((31 : Int32) + (-8 : Int32)) + (-4 : Int32)) + (-2 : Int32)))] [(.int ((((31 : Int32) + (-8 : Int32)) + (-4 : Int32)) + (-2 : Int32)))]))
            refine own_go (fun t_ k_ => XS.iloadN X0.here hx rfl (hb hby d3_74) rfl k_) ?_
            show OwnFin p e below s _ _ _ (s₁.setTop (mkF m 75 #[.val (.int i4), .val (.int ((((31 : Int32) + (-8 : Int32)) + (-4 : Int32)) + (-2 : Int32)))] [(.int i4), (.int ((((31 : Int32) + (-8 : Int32)) + (-4 : Int32)) + (-2 : Int32)))]))
            refine own_go (fun t_ k_ => XS.iconst X0.here hx rfl (hb hby d3_75) k_) ?_
            show OwnFin p e below s _ _ _ (s₁.setTop (mkF m 76 #[.val (.int i4), .val (.int ((((31 : Int32) + (-8 : Int32)) + (-4 : Int32)) + (-2 : Int32)))] [(.int (1 : Int32)), (.int i4), (.int ((((31 : Int32) + (-8 : Int32)) + (-4 : Int32)) + (-2 : Int32)))]))
            refine own_go (fun t_ k_ => XS.iushr X0.here hx rfl (hb hby d3_76) rfl k_) ?_
            show OwnFin p e below s _ _ _ (s₁.setTop (mkF m 77 #[.val (.int i4), .val (.int ((((31 : Int32) + (-8 : Int32)) + (-4 : Int32)) + (-2 : Int32)))] [(.int ((i4.toUInt32 >>> ((1 : Int32) &&& 31).toUInt32).toInt32)), (.int ((((31 : Int32) + (-8 : Int32)) + (-4 : Int32)) + (-2 : Int32)))]))
            generalize h_bt : ((i4.toUInt32 >>> ((1 : Int32) &&& 31).toUInt32).toInt32) = bt
            refine own_go (fun t_ k_ => XS.isub X0.here hx rfl (hb hby d3_77) rfl k_) ?_
            show OwnFin p e below s _ _ _ (s₁.setTop (mkF m 78 #[.val (.int i4), .val (.int ((((31 : Int32) + (-8 : Int32)) + (-4 : Int32)) + (-2 : Int32)))] [(.int (((((31 : Int32) + (-8 : Int32)) + (-4 : Int32)) + (-2 : Int32)) - bt))]))
            refine own_ret X0 (v := some (.int (((((31 : Int32) + (-8 : Int32)) + (-4 : Int32)) + (-2 : Int32)) - bt))) hlk (fun hh => by rw [hret] at hh; cases hh) (fun fs hr => own_retI X0 hx hret (hb hby d3_78) hr) (by decide) (by decide) ?_
            rw [e0]
            simp only [Int32.lt_iff_toInt_lt, own_t0, own_t4, own_t16, own_t256, own_t65536] at hc1 hc22 hc37 hc51 hc63
            have kp := own_nat32 (x := p1) (by omega)
            have k_i2 := own_sh p1 (by omega) (n := ((8 : Int32) &&& 31).toUInt32) (k := 8) (by decide) (by decide) h_i2
            have k_i3 := own_sh i2 (by omega) (n := ((4 : Int32) &&& 31).toUInt32) (k := 4) (by decide) (by decide) h_i3
            have k_i4 := own_sh i3 (by omega) (n := ((2 : Int32) &&& 31).toUInt32) (k := 2) (by decide) (by decide) h_i4
            have k_bt := own_sh i4 (by omega) (n := ((1 : Int32) &&& 31).toUInt32) (k := 1) (by decide) (by decide) h_bt
            have hb : bt.toInt = 0 ∨ bt.toInt = 1 := by omega
            rcases hb with hb | hb
            · obtain rfl : bt = 0 := Int32.toInt_inj.mp hb
              refine ⟨⟨_, rfl, 17, by decide, by decide, ?_, fun _ => ?_⟩, N0, rfl⟩
              · show p1.toBitVec.toNat < 32768
                omega
              · show 16384 ≤ p1.toBitVec.toNat
                omega
            · obtain rfl : bt = 1 := Int32.toInt_inj.mp hb
              refine ⟨⟨_, rfl, 16, by decide, by decide, ?_, fun _ => ?_⟩, N0, rfl⟩
              · show p1.toBitVec.toNat < 65536
                omega
              · show 32768 ≤ p1.toBitVec.toNat
                omega
    · refine own_go (fun t_ k_ => XS.icmpNo X0.here hx rfl (hb hby d3_22) rfl (flt hc22).1 k_) ?_
      show OwnFin p e below s _ _ _ (s₁.setTop (mkF m 25 #[.val (.int p1), .val (.int (31 : Int32))] []))
      refine own_go (fun t_ k_ => XS.iinc X0.here hx rfl (hb hby d3_25) rfl (l' := #[.val (.int p1), .val (.int ((31 : Int32) + (-16 : Int32)))]) rfl k_) ?_
      show OwnFin p e below s _ _ _ (s₁.setTop (mkF m 28 #[.val (.int p1), .val (.int ((31 : Int32) + (-16 : Int32)))] []))
      refine own_go (fun t_ k_ => XS.iloadN X0.here hx rfl (hb hby d3_28) rfl k_) ?_
      show OwnFin p e below s _ _ _ (s₁.setTop (mkF m 29 #[.val (.int p1), .val (.int ((31 : Int32) + (-16 : Int32)))] [(.int p1)]))
      refine own_go (fun t_ k_ => XS.bipush X0.here hx rfl (hb hby d3_29) k_) ?_
      show OwnFin p e below s _ _ _ (s₁.setTop (mkF m 31 #[.val (.int p1), .val (.int ((31 : Int32) + (-16 : Int32)))] [(.int (16 : Int32)), (.int p1)]))
      refine own_go (fun t_ k_ => XS.iushr X0.here hx rfl (hb hby d3_31) rfl k_) ?_
      show OwnFin p e below s _ _ _ (s₁.setTop (mkF m 32 #[.val (.int p1), .val (.int ((31 : Int32) + (-16 : Int32)))] [(.int ((p1.toUInt32 >>> ((16 : Int32) &&& 31).toUInt32).toInt32))]))
      refine own_go (fun t_ k_ => XS.istoreN X0.here hx rfl (hb hby d3_32) rfl (l' := #[.val (.int ((p1.toUInt32 >>> ((16 : Int32) &&& 31).toUInt32).toInt32)), .val (.int ((31 : Int32) + (-16 : Int32)))]) rfl k_) ?_
      show OwnFin p e below s _ _ _ (s₁.setTop (mkF m 33 #[.val (.int ((p1.toUInt32 >>> ((16 : Int32) &&& 31).toUInt32).toInt32)), .val (.int ((31 : Int32) + (-16 : Int32)))] []))
      generalize h_i1 : ((p1.toUInt32 >>> ((16 : Int32) &&& 31).toUInt32).toInt32) = i1
      refine own_go (fun t_ k_ => XS.iloadN X0.here hx rfl (hb hby d3_33) rfl k_) ?_
      show OwnFin p e below s _ _ _ (s₁.setTop (mkF m 34 #[.val (.int i1), .val (.int ((31 : Int32) + (-16 : Int32)))] [(.int i1)]))
      refine own_go (fun t_ k_ => XS.sipush X0.here hx rfl (hb hby d3_34) k_) ?_
      show OwnFin p e below s _ _ _ (s₁.setTop (mkF m 37 #[.val (.int i1), .val (.int ((31 : Int32) + (-16 : Int32)))] [(.int (256 : Int32)), (.int i1)]))
      by_cases hc37 : i1 < (256 : Int32)
      · refine own_go (fun t_ k_ => XS.icmpYes X0.here hx rfl (pc0 := 37) (pc' := 48) rfl (hb hby d3_37) rfl (tlt hc37).1 (by decide) (by decide) k_) ?_
        show OwnFin p e below s _ _ _ (s₁.setTop (mkF m 48 #[.val (.int i1), .val (.int ((31 : Int32) + (-16 : Int32)))] []))
        refine own_go (fun t_ k_ => XS.iloadN X0.here hx rfl (hb hby d3_48) rfl k_) ?_
        show OwnFin p e below s _ _ _ (s₁.setTop (mkF m 49 #[.val (.int i1), .val (.int ((31 : Int32) + (-16 : Int32)))] [(.int i1)]))
        refine own_go (fun t_ k_ => XS.bipush X0.here hx rfl (hb hby d3_49) k_) ?_
        show OwnFin p e below s _ _ _ (s₁.setTop (mkF m 51 #[.val (.int i1), .val (.int ((31 : Int32) + (-16 : Int32)))] [(.int (16 : Int32)), (.int i1)]))
        by_cases hc51 : i1 < (16 : Int32)
        · refine own_go (fun t_ k_ => XS.icmpYes X0.here hx rfl (pc0 := 51) (pc' := 61) rfl (hb hby d3_51) rfl (tlt hc51).1 (by decide) (by decide) k_) ?_
          show OwnFin p e below s _ _ _ (s₁.setTop (mkF m 61 #[.val (.int i1), .val (.int ((31 : Int32) + (-16 : Int32)))] []))
          refine own_go (fun t_ k_ => XS.iloadN X0.here hx rfl (hb hby d3_61) rfl k_) ?_
          show OwnFin p e below s _ _ _ (s₁.setTop (mkF m 62 #[.val (.int i1), .val (.int ((31 : Int32) + (-16 : Int32)))] [(.int i1)]))
          refine own_go (fun t_ k_ => XS.iconst X0.here hx rfl (hb hby d3_62) k_) ?_
          show OwnFin p e below s _ _ _ (s₁.setTop (mkF m 63 #[.val (.int i1), .val (.int ((31 : Int32) + (-16 : Int32)))] [(.int (4 : Int32)), (.int i1)]))
          by_cases hc63 : i1 < (4 : Int32)
          · refine own_go (fun t_ k_ => XS.icmpYes X0.here hx rfl (pc0 := 63) (pc' := 73) rfl (hb hby d3_63) rfl (tlt hc63).1 (by decide) (by decide) k_) ?_
            show OwnFin p e below s _ _ _ (s₁.setTop (mkF m 73 #[.val (.int i1), .val (.int ((31 : Int32) + (-16 : Int32)))] []))
            refine own_go (fun t_ k_ => XS.iloadN X0.here hx rfl (hb hby d3_73) rfl k_) ?_
            show OwnFin p e below s _ _ _ (s₁.setTop (mkF m 74 #[.val (.int i1), .val (.int ((31 : Int32) + (-16 : Int32)))] [(.int ((31 : Int32) + (-16 : Int32)))]))
            refine own_go (fun t_ k_ => XS.iloadN X0.here hx rfl (hb hby d3_74) rfl k_) ?_
            show OwnFin p e below s _ _ _ (s₁.setTop (mkF m 75 #[.val (.int i1), .val (.int ((31 : Int32) + (-16 : Int32)))] [(.int i1), (.int ((31 : Int32) + (-16 : Int32)))]))
            refine own_go (fun t_ k_ => XS.iconst X0.here hx rfl (hb hby d3_75) k_) ?_
            show OwnFin p e below s _ _ _ (s₁.setTop (mkF m 76 #[.val (.int i1), .val (.int ((31 : Int32) + (-16 : Int32)))] [(.int (1 : Int32)), (.int i1), (.int ((31 : Int32) + (-16 : Int32)))]))
            refine own_go (fun t_ k_ => XS.iushr X0.here hx rfl (hb hby d3_76) rfl k_) ?_
            show OwnFin p e below s _ _ _ (s₁.setTop (mkF m 77 #[.val (.int i1), .val (.int ((31 : Int32) + (-16 : Int32)))] [(.int ((i1.toUInt32 >>> ((1 : Int32) &&& 31).toUInt32).toInt32)), (.int ((31 : Int32) + (-16 : Int32)))]))
            generalize h_bt : ((i1.toUInt32 >>> ((1 : Int32) &&& 31).toUInt32).toInt32) = bt
            refine own_go (fun t_ k_ => XS.isub X0.here hx rfl (hb hby d3_77) rfl k_) ?_
            show OwnFin p e below s _ _ _ (s₁.setTop (mkF m 78 #[.val (.int i1), .val (.int ((31 : Int32) + (-16 : Int32)))] [(.int (((31 : Int32) + (-16 : Int32)) - bt))]))
            refine own_ret X0 (v := some (.int (((31 : Int32) + (-16 : Int32)) - bt))) hlk (fun hh => by rw [hret] at hh; cases hh) (fun fs hr => own_retI X0 hx hret (hb hby d3_78) hr) (by decide) (by decide) ?_
            rw [e0]
            simp only [Int32.lt_iff_toInt_lt, own_t0, own_t4, own_t16, own_t256, own_t65536] at hc1 hc22 hc37 hc51 hc63
            have kp := own_nat32 (x := p1) (by omega)
            have k_i1 := own_sh p1 (by omega) (n := ((16 : Int32) &&& 31).toUInt32) (k := 16) (by decide) (by decide) h_i1
            have k_bt := own_sh i1 (by omega) (n := ((1 : Int32) &&& 31).toUInt32) (k := 1) (by decide) (by decide) h_bt
            have hb : bt.toInt = 0 ∨ bt.toInt = 1 := by omega
            rcases hb with hb | hb
            · obtain rfl : bt = 0 := Int32.toInt_inj.mp hb
              refine ⟨⟨_, rfl, 15, by decide, by decide, ?_, fun _ => ?_⟩, N0, rfl⟩
              · show p1.toBitVec.toNat < 131072
                omega
              · show 65536 ≤ p1.toBitVec.toNat
                omega
            · obtain rfl : bt = 1 := Int32.toInt_inj.mp hb
              refine ⟨⟨_, rfl, 14, by decide, by decide, ?_, fun _ => ?_⟩, N0, rfl⟩
              · show p1.toBitVec.toNat < 262144
                omega
              · show 131072 ≤ p1.toBitVec.toNat
                omega
          · refine own_go (fun t_ k_ => XS.icmpNo X0.here hx rfl (hb hby d3_63) rfl (flt hc63).1 k_) ?_
            show OwnFin p e below s _ _ _ (s₁.setTop (mkF m 66 #[.val (.int i1), .val (.int ((31 : Int32) + (-16 : Int32)))] []))
            refine own_go (fun t_ k_ => XS.iinc X0.here hx rfl (hb hby d3_66) rfl (l' := #[.val (.int i1), .val (.int (((31 : Int32) + (-16 : Int32)) + (-2 : Int32)))]) rfl k_) ?_
            show OwnFin p e below s _ _ _ (s₁.setTop (mkF m 69 #[.val (.int i1), .val (.int (((31 : Int32) + (-16 : Int32)) + (-2 : Int32)))] []))
            refine own_go (fun t_ k_ => XS.iloadN X0.here hx rfl (hb hby d3_69) rfl k_) ?_
            show OwnFin p e below s _ _ _ (s₁.setTop (mkF m 70 #[.val (.int i1), .val (.int (((31 : Int32) + (-16 : Int32)) + (-2 : Int32)))] [(.int i1)]))
            refine own_go (fun t_ k_ => XS.iconst X0.here hx rfl (hb hby d3_70) k_) ?_
            show OwnFin p e below s _ _ _ (s₁.setTop (mkF m 71 #[.val (.int i1), .val (.int (((31 : Int32) + (-16 : Int32)) + (-2 : Int32)))] [(.int (2 : Int32)), (.int i1)]))
            refine own_go (fun t_ k_ => XS.iushr X0.here hx rfl (hb hby d3_71) rfl k_) ?_
            show OwnFin p e below s _ _ _ (s₁.setTop (mkF m 72 #[.val (.int i1), .val (.int (((31 : Int32) + (-16 : Int32)) + (-2 : Int32)))] [(.int ((i1.toUInt32 >>> ((2 : Int32) &&& 31).toUInt32).toInt32))]))
            refine own_go (fun t_ k_ => XS.istoreN X0.here hx rfl (hb hby d3_72) rfl (l' := #[.val (.int ((i1.toUInt32 >>> ((2 : Int32) &&& 31).toUInt32).toInt32)), .val (.int (((31 : Int32) + (-16 : Int32)) + (-2 : Int32)))]) rfl k_) ?_
            show OwnFin p e below s _ _ _ (s₁.setTop (mkF m 73 #[.val (.int ((i1.toUInt32 >>> ((2 : Int32) &&& 31).toUInt32).toInt32)), .val (.int (((31 : Int32) + (-16 : Int32)) + (-2 : Int32)))] []))
            generalize h_i4 : ((i1.toUInt32 >>> ((2 : Int32) &&& 31).toUInt32).toInt32) = i4
            refine own_go (fun t_ k_ => XS.iloadN X0.here hx rfl (hb hby d3_73) rfl k_) ?_
            show OwnFin p e below s _ _ _ (s₁.setTop (mkF m 74 #[.val (.int i4), .val (.int (((31 : Int32) + (-16 : Int32)) + (-2 : Int32)))] [(.int (((31 : Int32) + (-16 : Int32)) + (-2 : Int32)))]))
            refine own_go (fun t_ k_ => XS.iloadN X0.here hx rfl (hb hby d3_74) rfl k_) ?_
            show OwnFin p e below s _ _ _ (s₁.setTop (mkF m 75 #[.val (.int i4), .val (.int (((31 : Int32) + (-16 : Int32)) + (-2 : Int32)))] [(.int i4), (.int (((31 : Int32) + (-16 : Int32)) + (-2 : Int32)))]))
            refine own_go (fun t_ k_ => XS.iconst X0.here hx rfl (hb hby d3_75) k_) ?_
            show OwnFin p e below s _ _ _ (s₁.setTop (mkF m 76 #[.val (.int i4), .val (.int (((31 : Int32) + (-16 : Int32)) + (-2 : Int32)))] [(.int (1 : Int32)), (.int i4), (.int (((31 : Int32) + (-16 : Int32)) + (-2 : Int32)))]))
            refine own_go (fun t_ k_ => XS.iushr X0.here hx rfl (hb hby d3_76) rfl k_) ?_
            show OwnFin p e below s _ _ _ (s₁.setTop (mkF m 77 #[.val (.int i4), .val (.int (((31 : Int32) + (-16 : Int32)) + (-2 : Int32)))] [(.int ((i4.toUInt32 >>> ((1 : Int32) &&& 31).toUInt32).toInt32)), (.int (((31 : Int32) + (-16 : Int32)) + (-2 : Int32)))]))
            generalize h_bt : ((i4.toUInt32 >>> ((1 : Int32) &&& 31).toUInt32).toInt32) = bt
            refine own_go (fun t_ k_ => XS.isub X0.here hx rfl (hb hby d3_77) rfl k_) ?_
            show OwnFin p e below s _ _ _ (s₁.setTop (mkF m 78 #[.val (.int i4), .val (.int (((31 : Int32) + (-16 : Int32)) + (-2 : Int32)))] [(.int ((((31 : Int32) + (-16 : Int32)) + (-2 : Int32)) - bt))]))
            refine own_ret X0 (v := some (.int ((((31 : Int32) + (-16 : Int32)) + (-2 : Int32)) - bt))) hlk (fun hh => by rw [hret] at hh; cases hh) (fun fs hr => own_retI X0 hx hret (hb hby d3_78) hr) (by decide) (by decide) ?_
            rw [e0]
            simp only [Int32.lt_iff_toInt_lt, own_t0, own_t4, own_t16, own_t256, own_t65536] at hc1 hc22 hc37 hc51 hc63
            have kp := own_nat32 (x := p1) (by omega)
            have k_i1 := own_sh p1 (by omega) (n := ((16 : Int32) &&& 31).toUInt32) (k := 16) (by decide) (by decide) h_i1
            have k_i4 := own_sh i1 (by omega) (n := ((2 : Int32) &&& 31).toUInt32) (k := 2) (by decide) (by decide) h_i4
            have k_bt := own_sh i4 (by omega) (n := ((1 : Int32) &&& 31).toUInt32) (k := 1) (by decide) (by decide) h_bt
            have hb : bt.toInt = 0 ∨ bt.toInt = 1 := by omega
            rcases hb with hb | hb
            · obtain rfl : bt = 0 := Int32.toInt_inj.mp hb
              refine ⟨⟨_, rfl, 13, by decide, by decide, ?_, fun _ => ?_⟩, N0, rfl⟩
              · show p1.toBitVec.toNat < 524288
                omega
              · show 262144 ≤ p1.toBitVec.toNat
                omega
            · obtain rfl : bt = 1 := Int32.toInt_inj.mp hb
              refine ⟨⟨_, rfl, 12, by decide, by decide, ?_, fun _ => ?_⟩, N0, rfl⟩
              · show p1.toBitVec.toNat < 1048576
                omega
              · show 524288 ≤ p1.toBitVec.toNat
                omega
        · refine own_go (fun t_ k_ => XS.icmpNo X0.here hx rfl (hb hby d3_51) rfl (flt hc51).1 k_) ?_
          show OwnFin p e below s _ _ _ (s₁.setTop (mkF m 54 #[.val (.int i1), .val (.int ((31 : Int32) + (-16 : Int32)))] []))
          refine own_go (fun t_ k_ => XS.iinc X0.here hx rfl (hb hby d3_54) rfl (l' := #[.val (.int i1), .val (.int (((31 : Int32) + (-16 : Int32)) + (-4 : Int32)))]) rfl k_) ?_
          show OwnFin p e below s _ _ _ (s₁.setTop (mkF m 57 #[.val (.int i1), .val (.int (((31 : Int32) + (-16 : Int32)) + (-4 : Int32)))] []))
          refine own_go (fun t_ k_ => XS.iloadN X0.here hx rfl (hb hby d3_57) rfl k_) ?_
          show OwnFin p e below s _ _ _ (s₁.setTop (mkF m 58 #[.val (.int i1), .val (.int (((31 : Int32) + (-16 : Int32)) + (-4 : Int32)))] [(.int i1)]))
          refine own_go (fun t_ k_ => XS.iconst X0.here hx rfl (hb hby d3_58) k_) ?_
          show OwnFin p e below s _ _ _ (s₁.setTop (mkF m 59 #[.val (.int i1), .val (.int (((31 : Int32) + (-16 : Int32)) + (-4 : Int32)))] [(.int (4 : Int32)), (.int i1)]))
          refine own_go (fun t_ k_ => XS.iushr X0.here hx rfl (hb hby d3_59) rfl k_) ?_
          show OwnFin p e below s _ _ _ (s₁.setTop (mkF m 60 #[.val (.int i1), .val (.int (((31 : Int32) + (-16 : Int32)) + (-4 : Int32)))] [(.int ((i1.toUInt32 >>> ((4 : Int32) &&& 31).toUInt32).toInt32))]))
          refine own_go (fun t_ k_ => XS.istoreN X0.here hx rfl (hb hby d3_60) rfl (l' := #[.val (.int ((i1.toUInt32 >>> ((4 : Int32) &&& 31).toUInt32).toInt32)), .val (.int (((31 : Int32) + (-16 : Int32)) + (-4 : Int32)))]) rfl k_) ?_
          show OwnFin p e below s _ _ _ (s₁.setTop (mkF m 61 #[.val (.int ((i1.toUInt32 >>> ((4 : Int32) &&& 31).toUInt32).toInt32)), .val (.int (((31 : Int32) + (-16 : Int32)) + (-4 : Int32)))] []))
          generalize h_i3 : ((i1.toUInt32 >>> ((4 : Int32) &&& 31).toUInt32).toInt32) = i3
          refine own_go (fun t_ k_ => XS.iloadN X0.here hx rfl (hb hby d3_61) rfl k_) ?_
          show OwnFin p e below s _ _ _ (s₁.setTop (mkF m 62 #[.val (.int i3), .val (.int (((31 : Int32) + (-16 : Int32)) + (-4 : Int32)))] [(.int i3)]))
          refine own_go (fun t_ k_ => XS.iconst X0.here hx rfl (hb hby d3_62) k_) ?_
          show OwnFin p e below s _ _ _ (s₁.setTop (mkF m 63 #[.val (.int i3), .val (.int (((31 : Int32) + (-16 : Int32)) + (-4 : Int32)))] [(.int (4 : Int32)), (.int i3)]))
          by_cases hc63 : i3 < (4 : Int32)
          · refine own_go (fun t_ k_ => XS.icmpYes X0.here hx rfl (pc0 := 63) (pc' := 73) rfl (hb hby d3_63) rfl (tlt hc63).1 (by decide) (by decide) k_) ?_
            show OwnFin p e below s _ _ _ (s₁.setTop (mkF m 73 #[.val (.int i3), .val (.int (((31 : Int32) + (-16 : Int32)) + (-4 : Int32)))] []))
            refine own_go (fun t_ k_ => XS.iloadN X0.here hx rfl (hb hby d3_73) rfl k_) ?_
            show OwnFin p e below s _ _ _ (s₁.setTop (mkF m 74 #[.val (.int i3), .val (.int (((31 : Int32) + (-16 : Int32)) + (-4 : Int32)))] [(.int (((31 : Int32) + (-16 : Int32)) + (-4 : Int32)))]))
            refine own_go (fun t_ k_ => XS.iloadN X0.here hx rfl (hb hby d3_74) rfl k_) ?_
            show OwnFin p e below s _ _ _ (s₁.setTop (mkF m 75 #[.val (.int i3), .val (.int (((31 : Int32) + (-16 : Int32)) + (-4 : Int32)))] [(.int i3), (.int (((31 : Int32) + (-16 : Int32)) + (-4 : Int32)))]))
            refine own_go (fun t_ k_ => XS.iconst X0.here hx rfl (hb hby d3_75) k_) ?_
            show OwnFin p e below s _ _ _ (s₁.setTop (mkF m 76 #[.val (.int i3), .val (.int (((31 : Int32) + (-16 : Int32)) + (-4 : Int32)))] [(.int (1 : Int32)), (.int i3), (.int (((31 : Int32) + (-16 : Int32)) + (-4 : Int32)))]))
            refine own_go (fun t_ k_ => XS.iushr X0.here hx rfl (hb hby d3_76) rfl k_) ?_
            show OwnFin p e below s _ _ _ (s₁.setTop (mkF m 77 #[.val (.int i3), .val (.int (((31 : Int32) + (-16 : Int32)) + (-4 : Int32)))] [(.int ((i3.toUInt32 >>> ((1 : Int32) &&& 31).toUInt32).toInt32)), (.int (((31 : Int32) + (-16 : Int32)) + (-4 : Int32)))]))
            generalize h_bt : ((i3.toUInt32 >>> ((1 : Int32) &&& 31).toUInt32).toInt32) = bt
            refine own_go (fun t_ k_ => XS.isub X0.here hx rfl (hb hby d3_77) rfl k_) ?_
            show OwnFin p e below s _ _ _ (s₁.setTop (mkF m 78 #[.val (.int i3), .val (.int (((31 : Int32) + (-16 : Int32)) + (-4 : Int32)))] [(.int ((((31 : Int32) + (-16 : Int32)) + (-4 : Int32)) - bt))]))
            refine own_ret X0 (v := some (.int ((((31 : Int32) + (-16 : Int32)) + (-4 : Int32)) - bt))) hlk (fun hh => by rw [hret] at hh; cases hh) (fun fs hr => own_retI X0 hx hret (hb hby d3_78) hr) (by decide) (by decide) ?_
            rw [e0]
            simp only [Int32.lt_iff_toInt_lt, own_t0, own_t4, own_t16, own_t256, own_t65536] at hc1 hc22 hc37 hc51 hc63
            have kp := own_nat32 (x := p1) (by omega)
            have k_i1 := own_sh p1 (by omega) (n := ((16 : Int32) &&& 31).toUInt32) (k := 16) (by decide) (by decide) h_i1
            have k_i3 := own_sh i1 (by omega) (n := ((4 : Int32) &&& 31).toUInt32) (k := 4) (by decide) (by decide) h_i3
            have k_bt := own_sh i3 (by omega) (n := ((1 : Int32) &&& 31).toUInt32) (k := 1) (by decide) (by decide) h_bt
            have hb : bt.toInt = 0 ∨ bt.toInt = 1 := by omega
            rcases hb with hb | hb
            · obtain rfl : bt = 0 := Int32.toInt_inj.mp hb
              refine ⟨⟨_, rfl, 11, by decide, by decide, ?_, fun _ => ?_⟩, N0, rfl⟩
              · show p1.toBitVec.toNat < 2097152
                omega
              · show 1048576 ≤ p1.toBitVec.toNat
                omega
            · obtain rfl : bt = 1 := Int32.toInt_inj.mp hb
              refine ⟨⟨_, rfl, 10, by decide, by decide, ?_, fun _ => ?_⟩, N0, rfl⟩
              · show p1.toBitVec.toNat < 4194304
                omega
              · show 2097152 ≤ p1.toBitVec.toNat
                omega
          · refine own_go (fun t_ k_ => XS.icmpNo X0.here hx rfl (hb hby d3_63) rfl (flt hc63).1 k_) ?_
            show OwnFin p e below s _ _ _ (s₁.setTop (mkF m 66 #[.val (.int i3), .val (.int (((31 : Int32) + (-16 : Int32)) + (-4 : Int32)))] []))
            refine own_go (fun t_ k_ => XS.iinc X0.here hx rfl (hb hby d3_66) rfl (l' := #[.val (.int i3), .val (.int ((((31 : Int32) + (-16 : Int32)) + (-4 : Int32)) + (-2 : Int32)))]) rfl k_) ?_
            show OwnFin p e below s _ _ _ (s₁.setTop (mkF m 69 #[.val (.int i3), .val (.int ((((31 : Int32) + (-16 : Int32)) + (-4 : Int32)) + (-2 : Int32)))] []))
            refine own_go (fun t_ k_ => XS.iloadN X0.here hx rfl (hb hby d3_69) rfl k_) ?_
            show OwnFin p e below s _ _ _ (s₁.setTop (mkF m 70 #[.val (.int i3), .val (.int ((((31 : Int32) + (-16 : Int32)) + (-4 : Int32)) + (-2 : Int32)))] [(.int i3)]))
            refine own_go (fun t_ k_ => XS.iconst X0.here hx rfl (hb hby d3_70) k_) ?_
            show OwnFin p e below s _ _ _ (s₁.setTop (mkF m 71 #[.val (.int i3), .val (.int ((((31 : Int32) + (-16 : Int32)) + (-4 : Int32)) + (-2 : Int32)))] [(.int (2 : Int32)), (.int i3)]))
            refine own_go (fun t_ k_ => XS.iushr X0.here hx rfl (hb hby d3_71) rfl k_) ?_
            show OwnFin p e below s _ _ _ (s₁.setTop (mkF m 72 #[.val (.int i3), .val (.int ((((31 : Int32) + (-16 : Int32)) + (-4 : Int32)) + (-2 : Int32)))] [(.int ((i3.toUInt32 >>> ((2 : Int32) &&& 31).toUInt32).toInt32))]))
            refine own_go (fun t_ k_ => XS.istoreN X0.here hx rfl (hb hby d3_72) rfl (l' := #[.val (.int ((i3.toUInt32 >>> ((2 : Int32) &&& 31).toUInt32).toInt32)), .val (.int ((((31 : Int32) + (-16 : Int32)) + (-4 : Int32)) + (-2 : Int32)))]) rfl k_) ?_
            show OwnFin p e below s _ _ _ (s₁.setTop (mkF m 73 #[.val (.int ((i3.toUInt32 >>> ((2 : Int32) &&& 31).toUInt32).toInt32)), .val (.int ((((31 : Int32) + (-16 : Int32)) + (-4 : Int32)) + (-2 : Int32)))] []))
            generalize h_i4 : ((i3.toUInt32 >>> ((2 : Int32) &&& 31).toUInt32).toInt32) = i4
            refine own_go (fun t_ k_ => XS.iloadN X0.here hx rfl (hb hby d3_73) rfl k_) ?_
            show OwnFin p e below s _ _ _ (s₁.setTop (mkF m 74 #[.val (.int i4), .val (.int ((((31 : Int32) + (-16 : Int32)) + (-4 : Int32)) + (-2 : Int32)))] [(.int ((((31 : Int32) + (-16 : Int32)) + (-4 : Int32)) + (-2 : Int32)))]))
            refine own_go (fun t_ k_ => XS.iloadN X0.here hx rfl (hb hby d3_74) rfl k_) ?_
            show OwnFin p e below s _ _ _ (s₁.setTop (mkF m 75 #[.val (.int i4), .val (.int ((((31 : Int32) + (-16 : Int32)) + (-4 : Int32)) + (-2 : Int32)))] [(.int i4), (.int ((((31 : Int32) + (-16 : Int32)) + (-4 : Int32)) + (-2 : Int32)))]))
            refine own_go (fun t_ k_ => XS.iconst X0.here hx rfl (hb hby d3_75) k_) ?_
            show OwnFin p e below s _ _ _ (s₁.setTop (mkF m 76 #[.val (.int i4), .val (.int ((((31 : Int32) + (-16 : Int32)) + (-4 : Int32)) + (-2 : Int32)))] [(.int (1 : Int32)), (.int i4), (.int ((((31 : Int32) + (-16 : Int32)) + (-4 : Int32)) + (-2 : Int32)))]))
            refine own_go (fun t_ k_ => XS.iushr X0.here hx rfl (hb hby d3_76) rfl k_) ?_
            show OwnFin p e below s _ _ _ (s₁.setTop (mkF m 77 #[.val (.int i4), .val (.int ((((31 : Int32) + (-16 : Int32)) + (-4 : Int32)) + (-2 : Int32)))] [(.int ((i4.toUInt32 >>> ((1 : Int32) &&& 31).toUInt32).toInt32)), (.int ((((31 : Int32) + (-16 : Int32)) + (-4 : Int32)) + (-2 : Int32)))]))
            generalize h_bt : ((i4.toUInt32 >>> ((1 : Int32) &&& 31).toUInt32).toInt32) = bt
            refine own_go (fun t_ k_ => XS.isub X0.here hx rfl (hb hby d3_77) rfl k_) ?_
            show OwnFin p e below s _ _ _ (s₁.setTop (mkF m 78 #[.val (.int i4), .val (.int ((((31 : Int32) + (-16 : Int32)) + (-4 : Int32)) + (-2 : Int32)))] [(.int (((((31 : Int32) + (-16 : Int32)) + (-4 : Int32)) + (-2 : Int32)) - bt))]))
            refine own_ret X0 (v := some (.int (((((31 : Int32) + (-16 : Int32)) + (-4 : Int32)) + (-2 : Int32)) - bt))) hlk (fun hh => by rw [hret] at hh; cases hh) (fun fs hr => own_retI X0 hx hret (hb hby d3_78) hr) (by decide) (by decide) ?_
            rw [e0]
            simp only [Int32.lt_iff_toInt_lt, own_t0, own_t4, own_t16, own_t256, own_t65536] at hc1 hc22 hc37 hc51 hc63
            have kp := own_nat32 (x := p1) (by omega)
            have k_i1 := own_sh p1 (by omega) (n := ((16 : Int32) &&& 31).toUInt32) (k := 16) (by decide) (by decide) h_i1
            have k_i3 := own_sh i1 (by omega) (n := ((4 : Int32) &&& 31).toUInt32) (k := 4) (by decide) (by decide) h_i3
            have k_i4 := own_sh i3 (by omega) (n := ((2 : Int32) &&& 31).toUInt32) (k := 2) (by decide) (by decide) h_i4
            have k_bt := own_sh i4 (by omega) (n := ((1 : Int32) &&& 31).toUInt32) (k := 1) (by decide) (by decide) h_bt
            have hb : bt.toInt = 0 ∨ bt.toInt = 1 := by omega
            rcases hb with hb | hb
            · obtain rfl : bt = 0 := Int32.toInt_inj.mp hb
              refine ⟨⟨_, rfl, 9, by decide, by decide, ?_, fun _ => ?_⟩, N0, rfl⟩
              · show p1.toBitVec.toNat < 8388608
                omega
              · show 4194304 ≤ p1.toBitVec.toNat
                omega
            · obtain rfl : bt = 1 := Int32.toInt_inj.mp hb
              refine ⟨⟨_, rfl, 8, by decide, by decide, ?_, fun _ => ?_⟩, N0, rfl⟩
              · show p1.toBitVec.toNat < 16777216
                omega
              · show 8388608 ≤ p1.toBitVec.toNat
                omega
      · refine own_go (fun t_ k_ => XS.icmpNo X0.here hx rfl (hb hby d3_37) rfl (flt hc37).1 k_) ?_
        show OwnFin p e below s _ _ _ (s₁.setTop (mkF m 40 #[.val (.int i1), .val (.int ((31 : Int32) + (-16 : Int32)))] []))
        refine own_go (fun t_ k_ => XS.iinc X0.here hx rfl (hb hby d3_40) rfl (l' := #[.val (.int i1), .val (.int (((31 : Int32) + (-16 : Int32)) + (-8 : Int32)))]) rfl k_) ?_
        show OwnFin p e below s _ _ _ (s₁.setTop (mkF m 43 #[.val (.int i1), .val (.int (((31 : Int32) + (-16 : Int32)) + (-8 : Int32)))] []))
        refine own_go (fun t_ k_ => XS.iloadN X0.here hx rfl (hb hby d3_43) rfl k_) ?_
        show OwnFin p e below s _ _ _ (s₁.setTop (mkF m 44 #[.val (.int i1), .val (.int (((31 : Int32) + (-16 : Int32)) + (-8 : Int32)))] [(.int i1)]))
        refine own_go (fun t_ k_ => XS.bipush X0.here hx rfl (hb hby d3_44) k_) ?_
        show OwnFin p e below s _ _ _ (s₁.setTop (mkF m 46 #[.val (.int i1), .val (.int (((31 : Int32) + (-16 : Int32)) + (-8 : Int32)))] [(.int (8 : Int32)), (.int i1)]))
        refine own_go (fun t_ k_ => XS.iushr X0.here hx rfl (hb hby d3_46) rfl k_) ?_
        show OwnFin p e below s _ _ _ (s₁.setTop (mkF m 47 #[.val (.int i1), .val (.int (((31 : Int32) + (-16 : Int32)) + (-8 : Int32)))] [(.int ((i1.toUInt32 >>> ((8 : Int32) &&& 31).toUInt32).toInt32))]))
        refine own_go (fun t_ k_ => XS.istoreN X0.here hx rfl (hb hby d3_47) rfl (l' := #[.val (.int ((i1.toUInt32 >>> ((8 : Int32) &&& 31).toUInt32).toInt32)), .val (.int (((31 : Int32) + (-16 : Int32)) + (-8 : Int32)))]) rfl k_) ?_
        show OwnFin p e below s _ _ _ (s₁.setTop (mkF m 48 #[.val (.int ((i1.toUInt32 >>> ((8 : Int32) &&& 31).toUInt32).toInt32)), .val (.int (((31 : Int32) + (-16 : Int32)) + (-8 : Int32)))] []))
        generalize h_i2 : ((i1.toUInt32 >>> ((8 : Int32) &&& 31).toUInt32).toInt32) = i2
        refine own_go (fun t_ k_ => XS.iloadN X0.here hx rfl (hb hby d3_48) rfl k_) ?_
        show OwnFin p e below s _ _ _ (s₁.setTop (mkF m 49 #[.val (.int i2), .val (.int (((31 : Int32) + (-16 : Int32)) + (-8 : Int32)))] [(.int i2)]))
        refine own_go (fun t_ k_ => XS.bipush X0.here hx rfl (hb hby d3_49) k_) ?_
        show OwnFin p e below s _ _ _ (s₁.setTop (mkF m 51 #[.val (.int i2), .val (.int (((31 : Int32) + (-16 : Int32)) + (-8 : Int32)))] [(.int (16 : Int32)), (.int i2)]))
        by_cases hc51 : i2 < (16 : Int32)
        · refine own_go (fun t_ k_ => XS.icmpYes X0.here hx rfl (pc0 := 51) (pc' := 61) rfl (hb hby d3_51) rfl (tlt hc51).1 (by decide) (by decide) k_) ?_
          show OwnFin p e below s _ _ _ (s₁.setTop (mkF m 61 #[.val (.int i2), .val (.int (((31 : Int32) + (-16 : Int32)) + (-8 : Int32)))] []))
          refine own_go (fun t_ k_ => XS.iloadN X0.here hx rfl (hb hby d3_61) rfl k_) ?_
          show OwnFin p e below s _ _ _ (s₁.setTop (mkF m 62 #[.val (.int i2), .val (.int (((31 : Int32) + (-16 : Int32)) + (-8 : Int32)))] [(.int i2)]))
          refine own_go (fun t_ k_ => XS.iconst X0.here hx rfl (hb hby d3_62) k_) ?_
          show OwnFin p e below s _ _ _ (s₁.setTop (mkF m 63 #[.val (.int i2), .val (.int (((31 : Int32) + (-16 : Int32)) + (-8 : Int32)))] [(.int (4 : Int32)), (.int i2)]))
          by_cases hc63 : i2 < (4 : Int32)
          · refine own_go (fun t_ k_ => XS.icmpYes X0.here hx rfl (pc0 := 63) (pc' := 73) rfl (hb hby d3_63) rfl (tlt hc63).1 (by decide) (by decide) k_) ?_
            show OwnFin p e below s _ _ _ (s₁.setTop (mkF m 73 #[.val (.int i2), .val (.int (((31 : Int32) + (-16 : Int32)) + (-8 : Int32)))] []))
            refine own_go (fun t_ k_ => XS.iloadN X0.here hx rfl (hb hby d3_73) rfl k_) ?_
            show OwnFin p e below s _ _ _ (s₁.setTop (mkF m 74 #[.val (.int i2), .val (.int (((31 : Int32) + (-16 : Int32)) + (-8 : Int32)))] [(.int (((31 : Int32) + (-16 : Int32)) + (-8 : Int32)))]))
            refine own_go (fun t_ k_ => XS.iloadN X0.here hx rfl (hb hby d3_74) rfl k_) ?_
            show OwnFin p e below s _ _ _ (s₁.setTop (mkF m 75 #[.val (.int i2), .val (.int (((31 : Int32) + (-16 : Int32)) + (-8 : Int32)))] [(.int i2), (.int (((31 : Int32) + (-16 : Int32)) + (-8 : Int32)))]))
            refine own_go (fun t_ k_ => XS.iconst X0.here hx rfl (hb hby d3_75) k_) ?_
            show OwnFin p e below s _ _ _ (s₁.setTop (mkF m 76 #[.val (.int i2), .val (.int (((31 : Int32) + (-16 : Int32)) + (-8 : Int32)))] [(.int (1 : Int32)), (.int i2), (.int (((31 : Int32) + (-16 : Int32)) + (-8 : Int32)))]))
            refine own_go (fun t_ k_ => XS.iushr X0.here hx rfl (hb hby d3_76) rfl k_) ?_
            show OwnFin p e below s _ _ _ (s₁.setTop (mkF m 77 #[.val (.int i2), .val (.int (((31 : Int32) + (-16 : Int32)) + (-8 : Int32)))] [(.int ((i2.toUInt32 >>> ((1 : Int32) &&& 31).toUInt32).toInt32)), (.int (((31 : Int32) + (-16 : Int32)) + (-8 : Int32)))]))
            generalize h_bt : ((i2.toUInt32 >>> ((1 : Int32) &&& 31).toUInt32).toInt32) = bt
            refine own_go (fun t_ k_ => XS.isub X0.here hx rfl (hb hby d3_77) rfl k_) ?_
            show OwnFin p e below s _ _ _ (s₁.setTop (mkF m 78 #[.val (.int i2), .val (.int (((31 : Int32) + (-16 : Int32)) + (-8 : Int32)))] [(.int ((((31 : Int32) + (-16 : Int32)) + (-8 : Int32)) - bt))]))
            refine own_ret X0 (v := some (.int ((((31 : Int32) + (-16 : Int32)) + (-8 : Int32)) - bt))) hlk (fun hh => by rw [hret] at hh; cases hh) (fun fs hr => own_retI X0 hx hret (hb hby d3_78) hr) (by decide) (by decide) ?_
            rw [e0]
            simp only [Int32.lt_iff_toInt_lt, own_t0, own_t4, own_t16, own_t256, own_t65536] at hc1 hc22 hc37 hc51 hc63
            have kp := own_nat32 (x := p1) (by omega)
            have k_i1 := own_sh p1 (by omega) (n := ((16 : Int32) &&& 31).toUInt32) (k := 16) (by decide) (by decide) h_i1
            have k_i2 := own_sh i1 (by omega) (n := ((8 : Int32) &&& 31).toUInt32) (k := 8) (by decide) (by decide) h_i2
            have k_bt := own_sh i2 (by omega) (n := ((1 : Int32) &&& 31).toUInt32) (k := 1) (by decide) (by decide) h_bt
            have hb : bt.toInt = 0 ∨ bt.toInt = 1 := by omega
            rcases hb with hb | hb
            · obtain rfl : bt = 0 := Int32.toInt_inj.mp hb
              refine ⟨⟨_, rfl, 7, by decide, by decide, ?_, fun _ => ?_⟩, N0, rfl⟩
              · show p1.toBitVec.toNat < 33554432
                omega
              · show 16777216 ≤ p1.toBitVec.toNat
                omega
            · obtain rfl : bt = 1 := Int32.toInt_inj.mp hb
              refine ⟨⟨_, rfl, 6, by decide, by decide, ?_, fun _ => ?_⟩, N0, rfl⟩
              · show p1.toBitVec.toNat < 67108864
                omega
              · show 33554432 ≤ p1.toBitVec.toNat
                omega
          · refine own_go (fun t_ k_ => XS.icmpNo X0.here hx rfl (hb hby d3_63) rfl (flt hc63).1 k_) ?_
            show OwnFin p e below s _ _ _ (s₁.setTop (mkF m 66 #[.val (.int i2), .val (.int (((31 : Int32) + (-16 : Int32)) + (-8 : Int32)))] []))
            refine own_go (fun t_ k_ => XS.iinc X0.here hx rfl (hb hby d3_66) rfl (l' := #[.val (.int i2), .val (.int ((((31 : Int32) + (-16 : Int32)) + (-8 : Int32)) + (-2 : Int32)))]) rfl k_) ?_
            show OwnFin p e below s _ _ _ (s₁.setTop (mkF m 69 #[.val (.int i2), .val (.int ((((31 : Int32) + (-16 : Int32)) + (-8 : Int32)) + (-2 : Int32)))] []))
            refine own_go (fun t_ k_ => XS.iloadN X0.here hx rfl (hb hby d3_69) rfl k_) ?_
            show OwnFin p e below s _ _ _ (s₁.setTop (mkF m 70 #[.val (.int i2), .val (.int ((((31 : Int32) + (-16 : Int32)) + (-8 : Int32)) + (-2 : Int32)))] [(.int i2)]))
            refine own_go (fun t_ k_ => XS.iconst X0.here hx rfl (hb hby d3_70) k_) ?_
            show OwnFin p e below s _ _ _ (s₁.setTop (mkF m 71 #[.val (.int i2), .val (.int ((((31 : Int32) + (-16 : Int32)) + (-8 : Int32)) + (-2 : Int32)))] [(.int (2 : Int32)), (.int i2)]))
            refine own_go (fun t_ k_ => XS.iushr X0.here hx rfl (hb hby d3_71) rfl k_) ?_
            show OwnFin p e below s _ _ _ (s₁.setTop (mkF m 72 #[.val (.int i2), .val (.int ((((31 : Int32) + (-16 : Int32)) + (-8 : Int32)) + (-2 : Int32)))] [(.int ((i2.toUInt32 >>> ((2 : Int32) &&& 31).toUInt32).toInt32))]))
            refine own_go (fun t_ k_ => XS.istoreN X0.here hx rfl (hb hby d3_72) rfl (l' := #[.val (.int ((i2.toUInt32 >>> ((2 : Int32) &&& 31).toUInt32).toInt32)), .val (.int ((((31 : Int32) + (-16 : Int32)) + (-8 : Int32)) + (-2 : Int32)))]) rfl k_) ?_
            show OwnFin p e below s _ _ _ (s₁.setTop (mkF m 73 #[.val (.int ((i2.toUInt32 >>> ((2 : Int32) &&& 31).toUInt32).toInt32)), .val (.int ((((31 : Int32) + (-16 : Int32)) + (-8 : Int32)) + (-2 : Int32)))] []))
            generalize h_i4 : ((i2.toUInt32 >>> ((2 : Int32) &&& 31).toUInt32).toInt32) = i4
            refine own_go (fun t_ k_ => XS.iloadN X0.here hx rfl (hb hby d3_73) rfl k_) ?_
            show OwnFin p e below s _ _ _ (s₁.setTop (mkF m 74 #[.val (.int i4), .val (.int ((((31 : Int32) + (-16 : Int32)) + (-8 : Int32)) + (-2 : Int32)))] [(.int ((((31 : Int32) + (-16 : Int32)) + (-8 : Int32)) + (-2 : Int32)))]))
            refine own_go (fun t_ k_ => XS.iloadN X0.here hx rfl (hb hby d3_74) rfl k_) ?_
            show OwnFin p e below s _ _ _ (s₁.setTop (mkF m 75 #[.val (.int i4), .val (.int ((((31 : Int32) + (-16 : Int32)) + (-8 : Int32)) + (-2 : Int32)))] [(.int i4), (.int ((((31 : Int32) + (-16 : Int32)) + (-8 : Int32)) + (-2 : Int32)))]))
            refine own_go (fun t_ k_ => XS.iconst X0.here hx rfl (hb hby d3_75) k_) ?_
            show OwnFin p e below s _ _ _ (s₁.setTop (mkF m 76 #[.val (.int i4), .val (.int ((((31 : Int32) + (-16 : Int32)) + (-8 : Int32)) + (-2 : Int32)))] [(.int (1 : Int32)), (.int i4), (.int ((((31 : Int32) + (-16 : Int32)) + (-8 : Int32)) + (-2 : Int32)))]))
            refine own_go (fun t_ k_ => XS.iushr X0.here hx rfl (hb hby d3_76) rfl k_) ?_
            show OwnFin p e below s _ _ _ (s₁.setTop (mkF m 77 #[.val (.int i4), .val (.int ((((31 : Int32) + (-16 : Int32)) + (-8 : Int32)) + (-2 : Int32)))] [(.int ((i4.toUInt32 >>> ((1 : Int32) &&& 31).toUInt32).toInt32)), (.int ((((31 : Int32) + (-16 : Int32)) + (-8 : Int32)) + (-2 : Int32)))]))
            generalize h_bt : ((i4.toUInt32 >>> ((1 : Int32) &&& 31).toUInt32).toInt32) = bt
            refine own_go (fun t_ k_ => XS.isub X0.here hx rfl (hb hby d3_77) rfl k_) ?_
            show OwnFin p e below s _ _ _ (s₁.setTop (mkF m 78 #[.val (.int i4), .val (.int ((((31 : Int32) + (-16 : Int32)) + (-8 : Int32)) + (-2 : Int32)))] [(.int (((((31 : Int32) + (-16 : Int32)) + (-8 : Int32)) + (-2 : Int32)) - bt))]))
            refine own_ret X0 (v := some (.int (((((31 : Int32) + (-16 : Int32)) + (-8 : Int32)) + (-2 : Int32)) - bt))) hlk (fun hh => by rw [hret] at hh; cases hh) (fun fs hr => own_retI X0 hx hret (hb hby d3_78) hr) (by decide) (by decide) ?_
            rw [e0]
            simp only [Int32.lt_iff_toInt_lt, own_t0, own_t4, own_t16, own_t256, own_t65536] at hc1 hc22 hc37 hc51 hc63
            have kp := own_nat32 (x := p1) (by omega)
            have k_i1 := own_sh p1 (by omega) (n := ((16 : Int32) &&& 31).toUInt32) (k := 16) (by decide) (by decide) h_i1
            have k_i2 := own_sh i1 (by omega) (n := ((8 : Int32) &&& 31).toUInt32) (k := 8) (by decide) (by decide) h_i2
            have k_i4 := own_sh i2 (by omega) (n := ((2 : Int32) &&& 31).toUInt32) (k := 2) (by decide) (by decide) h_i4
            have k_bt := own_sh i4 (by omega) (n := ((1 : Int32) &&& 31).toUInt32) (k := 1) (by decide) (by decide) h_bt
            have hb : bt.toInt = 0 ∨ bt.toInt = 1 := by omega
            rcases hb with hb | hb
            · obtain rfl : bt = 0 := Int32.toInt_inj.mp hb
              refine ⟨⟨_, rfl, 5, by decide, by decide, ?_, fun _ => ?_⟩, N0, rfl⟩
              · show p1.toBitVec.toNat < 134217728
                omega
              · show 67108864 ≤ p1.toBitVec.toNat
                omega
            · obtain rfl : bt = 1 := Int32.toInt_inj.mp hb
              refine ⟨⟨_, rfl, 4, by decide, by decide, ?_, fun _ => ?_⟩, N0, rfl⟩
              · show p1.toBitVec.toNat < 268435456
                omega
              · show 134217728 ≤ p1.toBitVec.toNat
                omega
        · refine own_go (fun t_ k_ => XS.icmpNo X0.here hx rfl (hb hby d3_51) rfl (flt hc51).1 k_) ?_
          show OwnFin p e below s _ _ _ (s₁.setTop (mkF m 54 #[.val (.int i2), .val (.int (((31 : Int32) + (-16 : Int32)) + (-8 : Int32)))] []))
          refine own_go (fun t_ k_ => XS.iinc X0.here hx rfl (hb hby d3_54) rfl (l' := #[.val (.int i2), .val (.int ((((31 : Int32) + (-16 : Int32)) + (-8 : Int32)) + (-4 : Int32)))]) rfl k_) ?_
          show OwnFin p e below s _ _ _ (s₁.setTop (mkF m 57 #[.val (.int i2), .val (.int ((((31 : Int32) + (-16 : Int32)) + (-8 : Int32)) + (-4 : Int32)))] []))
          refine own_go (fun t_ k_ => XS.iloadN X0.here hx rfl (hb hby d3_57) rfl k_) ?_
          show OwnFin p e below s _ _ _ (s₁.setTop (mkF m 58 #[.val (.int i2), .val (.int ((((31 : Int32) + (-16 : Int32)) + (-8 : Int32)) + (-4 : Int32)))] [(.int i2)]))
          refine own_go (fun t_ k_ => XS.iconst X0.here hx rfl (hb hby d3_58) k_) ?_
          show OwnFin p e below s _ _ _ (s₁.setTop (mkF m 59 #[.val (.int i2), .val (.int ((((31 : Int32) + (-16 : Int32)) + (-8 : Int32)) + (-4 : Int32)))] [(.int (4 : Int32)), (.int i2)]))
          refine own_go (fun t_ k_ => XS.iushr X0.here hx rfl (hb hby d3_59) rfl k_) ?_
          show OwnFin p e below s _ _ _ (s₁.setTop (mkF m 60 #[.val (.int i2), .val (.int ((((31 : Int32) + (-16 : Int32)) + (-8 : Int32)) + (-4 : Int32)))] [(.int ((i2.toUInt32 >>> ((4 : Int32) &&& 31).toUInt32).toInt32))]))
          refine own_go (fun t_ k_ => XS.istoreN X0.here hx rfl (hb hby d3_60) rfl (l' := #[.val (.int ((i2.toUInt32 >>> ((4 : Int32) &&& 31).toUInt32).toInt32)), .val (.int ((((31 : Int32) + (-16 : Int32)) + (-8 : Int32)) + (-4 : Int32)))]) rfl k_) ?_
          show OwnFin p e below s _ _ _ (s₁.setTop (mkF m 61 #[.val (.int ((i2.toUInt32 >>> ((4 : Int32) &&& 31).toUInt32).toInt32)), .val (.int ((((31 : Int32) + (-16 : Int32)) + (-8 : Int32)) + (-4 : Int32)))] []))
          generalize h_i3 : ((i2.toUInt32 >>> ((4 : Int32) &&& 31).toUInt32).toInt32) = i3
          refine own_go (fun t_ k_ => XS.iloadN X0.here hx rfl (hb hby d3_61) rfl k_) ?_
          show OwnFin p e below s _ _ _ (s₁.setTop (mkF m 62 #[.val (.int i3), .val (.int ((((31 : Int32) + (-16 : Int32)) + (-8 : Int32)) + (-4 : Int32)))] [(.int i3)]))
          refine own_go (fun t_ k_ => XS.iconst X0.here hx rfl (hb hby d3_62) k_) ?_
          show OwnFin p e below s _ _ _ (s₁.setTop (mkF m 63 #[.val (.int i3), .val (.int ((((31 : Int32) + (-16 : Int32)) + (-8 : Int32)) + (-4 : Int32)))] [(.int (4 : Int32)), (.int i3)]))
          by_cases hc63 : i3 < (4 : Int32)
          · refine own_go (fun t_ k_ => XS.icmpYes X0.here hx rfl (pc0 := 63) (pc' := 73) rfl (hb hby d3_63) rfl (tlt hc63).1 (by decide) (by decide) k_) ?_
            show OwnFin p e below s _ _ _ (s₁.setTop (mkF m 73 #[.val (.int i3), .val (.int ((((31 : Int32) + (-16 : Int32)) + (-8 : Int32)) + (-4 : Int32)))] []))
            refine own_go (fun t_ k_ => XS.iloadN X0.here hx rfl (hb hby d3_73) rfl k_) ?_
            show OwnFin p e below s _ _ _ (s₁.setTop (mkF m 74 #[.val (.int i3), .val (.int ((((31 : Int32) + (-16 : Int32)) + (-8 : Int32)) + (-4 : Int32)))] [(.int ((((31 : Int32) + (-16 : Int32)) + (-8 : Int32)) + (-4 : Int32)))]))
            refine own_go (fun t_ k_ => XS.iloadN X0.here hx rfl (hb hby d3_74) rfl k_) ?_
            show OwnFin p e below s _ _ _ (s₁.setTop (mkF m 75 #[.val (.int i3), .val (.int ((((31 : Int32) + (-16 : Int32)) + (-8 : Int32)) + (-4 : Int32)))] [(.int i3), (.int ((((31 : Int32) + (-16 : Int32)) + (-8 : Int32)) + (-4 : Int32)))]))
            refine own_go (fun t_ k_ => XS.iconst X0.here hx rfl (hb hby d3_75) k_) ?_
            show OwnFin p e below s _ _ _ (s₁.setTop (mkF m 76 #[.val (.int i3), .val (.int ((((31 : Int32) + (-16 : Int32)) + (-8 : Int32)) + (-4 : Int32)))] [(.int (1 : Int32)), (.int i3), (.int ((((31 : Int32) + (-16 : Int32)) + (-8 : Int32)) + (-4 : Int32)))]))
            refine own_go (fun t_ k_ => XS.iushr X0.here hx rfl (hb hby d3_76) rfl k_) ?_
            show OwnFin p e below s _ _ _ (s₁.setTop (mkF m 77 #[.val (.int i3), .val (.int ((((31 : Int32) + (-16 : Int32)) + (-8 : Int32)) + (-4 : Int32)))] [(.int ((i3.toUInt32 >>> ((1 : Int32) &&& 31).toUInt32).toInt32)), (.int ((((31 : Int32) + (-16 : Int32)) + (-8 : Int32)) + (-4 : Int32)))]))
            generalize h_bt : ((i3.toUInt32 >>> ((1 : Int32) &&& 31).toUInt32).toInt32) = bt
            refine own_go (fun t_ k_ => XS.isub X0.here hx rfl (hb hby d3_77) rfl k_) ?_
            show OwnFin p e below s _ _ _ (s₁.setTop (mkF m 78 #[.val (.int i3), .val (.int ((((31 : Int32) + (-16 : Int32)) + (-8 : Int32)) + (-4 : Int32)))] [(.int (((((31 : Int32) + (-16 : Int32)) + (-8 : Int32)) + (-4 : Int32)) - bt))]))
            refine own_ret X0 (v := some (.int (((((31 : Int32) + (-16 : Int32)) + (-8 : Int32)) + (-4 : Int32)) - bt))) hlk (fun hh => by rw [hret] at hh; cases hh) (fun fs hr => own_retI X0 hx hret (hb hby d3_78) hr) (by decide) (by decide) ?_
            rw [e0]
            simp only [Int32.lt_iff_toInt_lt, own_t0, own_t4, own_t16, own_t256, own_t65536] at hc1 hc22 hc37 hc51 hc63
            have kp := own_nat32 (x := p1) (by omega)
            have k_i1 := own_sh p1 (by omega) (n := ((16 : Int32) &&& 31).toUInt32) (k := 16) (by decide) (by decide) h_i1
            have k_i2 := own_sh i1 (by omega) (n := ((8 : Int32) &&& 31).toUInt32) (k := 8) (by decide) (by decide) h_i2
            have k_i3 := own_sh i2 (by omega) (n := ((4 : Int32) &&& 31).toUInt32) (k := 4) (by decide) (by decide) h_i3
            have k_bt := own_sh i3 (by omega) (n := ((1 : Int32) &&& 31).toUInt32) (k := 1) (by decide) (by decide) h_bt
            have hb : bt.toInt = 0 ∨ bt.toInt = 1 := by omega
            rcases hb with hb | hb
            · obtain rfl : bt = 0 := Int32.toInt_inj.mp hb
              refine ⟨⟨_, rfl, 3, by decide, by decide, ?_, fun _ => ?_⟩, N0, rfl⟩
              · show p1.toBitVec.toNat < 536870912
                omega
              · show 268435456 ≤ p1.toBitVec.toNat
                omega
            · obtain rfl : bt = 1 := Int32.toInt_inj.mp hb
              refine ⟨⟨_, rfl, 2, by decide, by decide, ?_, fun _ => ?_⟩, N0, rfl⟩
              · show p1.toBitVec.toNat < 1073741824
                omega
              · show 536870912 ≤ p1.toBitVec.toNat
                omega
          · refine own_go (fun t_ k_ => XS.icmpNo X0.here hx rfl (hb hby d3_63) rfl (flt hc63).1 k_) ?_
            show OwnFin p e below s _ _ _ (s₁.setTop (mkF m 66 #[.val (.int i3), .val (.int ((((31 : Int32) + (-16 : Int32)) + (-8 : Int32)) + (-4 : Int32)))] []))
            refine own_go (fun t_ k_ => XS.iinc X0.here hx rfl (hb hby d3_66) rfl (l' := #[.val (.int i3), .val (.int (((((31 : Int32) + (-16 : Int32)) + (-8 : Int32)) + (-4 : Int32)) + (-2 : Int32)))]) rfl k_) ?_
            show OwnFin p e below s _ _ _ (s₁.setTop (mkF m 69 #[.val (.int i3), .val (.int (((((31 : Int32) + (-16 : Int32)) + (-8 : Int32)) + (-4 : Int32)) + (-2 : Int32)))] []))
            refine own_go (fun t_ k_ => XS.iloadN X0.here hx rfl (hb hby d3_69) rfl k_) ?_
            show OwnFin p e below s _ _ _ (s₁.setTop (mkF m 70 #[.val (.int i3), .val (.int (((((31 : Int32) + (-16 : Int32)) + (-8 : Int32)) + (-4 : Int32)) + (-2 : Int32)))] [(.int i3)]))
            refine own_go (fun t_ k_ => XS.iconst X0.here hx rfl (hb hby d3_70) k_) ?_
            show OwnFin p e below s _ _ _ (s₁.setTop (mkF m 71 #[.val (.int i3), .val (.int (((((31 : Int32) + (-16 : Int32)) + (-8 : Int32)) + (-4 : Int32)) + (-2 : Int32)))] [(.int (2 : Int32)), (.int i3)]))
            refine own_go (fun t_ k_ => XS.iushr X0.here hx rfl (hb hby d3_71) rfl k_) ?_
            show OwnFin p e below s _ _ _ (s₁.setTop (mkF m 72 #[.val (.int i3), .val (.int (((((31 : Int32) + (-16 : Int32)) + (-8 : Int32)) + (-4 : Int32)) + (-2 : Int32)))] [(.int ((i3.toUInt32 >>> ((2 : Int32) &&& 31).toUInt32).toInt32))]))
            refine own_go (fun t_ k_ => XS.istoreN X0.here hx rfl (hb hby d3_72) rfl (l' := #[.val (.int ((i3.toUInt32 >>> ((2 : Int32) &&& 31).toUInt32).toInt32)), .val (.int (((((31 : Int32) + (-16 : Int32)) + (-8 : Int32)) + (-4 : Int32)) + (-2 : Int32)))]) rfl k_) ?_
            show OwnFin p e below s _ _ _ (s₁.setTop (mkF m 73 #[.val (.int ((i3.toUInt32 >>> ((2 : Int32) &&& 31).toUInt32).toInt32)), .val (.int (((((31 : Int32) + (-16 : Int32)) + (-8 : Int32)) + (-4 : Int32)) + (-2 : Int32)))] []))
            generalize h_i4 : ((i3.toUInt32 >>> ((2 : Int32) &&& 31).toUInt32).toInt32) = i4
            refine own_go (fun t_ k_ => XS.iloadN X0.here hx rfl (hb hby d3_73) rfl k_) ?_
            show OwnFin p e below s _ _ _ (s₁.setTop (mkF m 74 #[.val (.int i4), .val (.int (((((31 : Int32) + (-16 : Int32)) + (-8 : Int32)) + (-4 : Int32)) + (-2 : Int32)))] [(.int (((((31 : Int32) + (-16 : Int32)) + (-8 : Int32)) + (-4 : Int32)) + (-2 : Int32)))]))
            refine own_go (fun t_ k_ => XS.iloadN X0.here hx rfl (hb hby d3_74) rfl k_) ?_
            show OwnFin p e below s _ _ _ (s₁.setTop (mkF m 75 #[.val (.int i4), .val (.int (((((31 : Int32) + (-16 : Int32)) + (-8 : Int32)) + (-4 : Int32)) + (-2 : Int32)))] [(.int i4), (.int (((((31 : Int32) + (-16 : Int32)) + (-8 : Int32)) + (-4 : Int32)) + (-2 : Int32)))]))
            refine own_go (fun t_ k_ => XS.iconst X0.here hx rfl (hb hby d3_75) k_) ?_
            show OwnFin p e below s _ _ _ (s₁.setTop (mkF m 76 #[.val (.int i4), .val (.int (((((31 : Int32) + (-16 : Int32)) + (-8 : Int32)) + (-4 : Int32)) + (-2 : Int32)))] [(.int (1 : Int32)), (.int i4), (.int (((((31 : Int32) + (-16 : Int32)) + (-8 : Int32)) + (-4 : Int32)) + (-2 : Int32)))]))
            refine own_go (fun t_ k_ => XS.iushr X0.here hx rfl (hb hby d3_76) rfl k_) ?_
            show OwnFin p e below s _ _ _ (s₁.setTop (mkF m 77 #[.val (.int i4), .val (.int (((((31 : Int32) + (-16 : Int32)) + (-8 : Int32)) + (-4 : Int32)) + (-2 : Int32)))] [(.int ((i4.toUInt32 >>> ((1 : Int32) &&& 31).toUInt32).toInt32)), (.int (((((31 : Int32) + (-16 : Int32)) + (-8 : Int32)) + (-4 : Int32)) + (-2 : Int32)))]))
            generalize h_bt : ((i4.toUInt32 >>> ((1 : Int32) &&& 31).toUInt32).toInt32) = bt
            refine own_go (fun t_ k_ => XS.isub X0.here hx rfl (hb hby d3_77) rfl k_) ?_
            show OwnFin p e below s _ _ _ (s₁.setTop (mkF m 78 #[.val (.int i4), .val (.int (((((31 : Int32) + (-16 : Int32)) + (-8 : Int32)) + (-4 : Int32)) + (-2 : Int32)))] [(.int ((((((31 : Int32) + (-16 : Int32)) + (-8 : Int32)) + (-4 : Int32)) + (-2 : Int32)) - bt))]))
            refine own_ret X0 (v := some (.int ((((((31 : Int32) + (-16 : Int32)) + (-8 : Int32)) + (-4 : Int32)) + (-2 : Int32)) - bt))) hlk (fun hh => by rw [hret] at hh; cases hh) (fun fs hr => own_retI X0 hx hret (hb hby d3_78) hr) (by decide) (by decide) ?_
            rw [e0]
            simp only [Int32.lt_iff_toInt_lt, own_t0, own_t4, own_t16, own_t256, own_t65536] at hc1 hc22 hc37 hc51 hc63
            have kp := own_nat32 (x := p1) (by omega)
            have k_i1 := own_sh p1 (by omega) (n := ((16 : Int32) &&& 31).toUInt32) (k := 16) (by decide) (by decide) h_i1
            have k_i2 := own_sh i1 (by omega) (n := ((8 : Int32) &&& 31).toUInt32) (k := 8) (by decide) (by decide) h_i2
            have k_i3 := own_sh i2 (by omega) (n := ((4 : Int32) &&& 31).toUInt32) (k := 4) (by decide) (by decide) h_i3
            have k_i4 := own_sh i3 (by omega) (n := ((2 : Int32) &&& 31).toUInt32) (k := 2) (by decide) (by decide) h_i4
            have k_bt := own_sh i4 (by omega) (n := ((1 : Int32) &&& 31).toUInt32) (k := 1) (by decide) (by decide) h_bt
            have hb : bt.toInt = 0 ∨ bt.toInt = 1 := by omega
            rcases hb with hb | hb
            · obtain rfl : bt = 0 := Int32.toInt_inj.mp hb
              refine ⟨⟨_, rfl, 1, by decide, by decide, ?_, fun _ => ?_⟩, N0, rfl⟩
              · show p1.toBitVec.toNat < 2147483648
                omega
              · show 1073741824 ≤ p1.toBitVec.toNat
                omega
            · obtain rfl : bt = 1 := Int32.toInt_inj.mp hb
              refine ⟨⟨_, rfl, 0, by decide, by decide, ?_, fun _ => ?_⟩, N0, rfl⟩
              · show p1.toBitVec.toNat < 4294967296
                omega
              · show 2147483648 ≤ p1.toBitVec.toNat
                omega
  · refine own_go (fun t_ k_ => XS.ifNo X0.here hx rfl (hb hby d3_1) rfl ((if0 _ _).trans (flt hc1).2.2.1) k_) ?_
    show OwnFin p e below s _ _ _ (s₁.setTop (mkF m 4 #[.val (.int p1), .unset] []))
    refine own_go (fun t_ k_ => XS.iloadN X0.here hx rfl (hb hby d3_4) rfl k_) ?_
    show OwnFin p e below s _ _ _ (s₁.setTop (mkF m 5 #[.val (.int p1), .unset] [(.int p1)]))
    by_cases hc5 : p1 = (0 : Int32)
    · refine own_go (fun t_ k_ => XS.ifNo X0.here hx rfl (hb hby d3_5) rfl ((if0 _ _).trans (teq hc5).2) k_) ?_
      show OwnFin p e below s _ _ _ (s₁.setTop (mkF m 8 #[.val (.int p1), .unset] []))
      refine own_go (fun t_ k_ => XS.bipush X0.here hx rfl (hb hby d3_8) k_) ?_
      show OwnFin p e below s _ _ _ (s₁.setTop (mkF m 10 #[.val (.int p1), .unset] [(.int (32 : Int32))]))
      refine own_go (fun t_ k_ => XS.goto X0.here hx rfl (pc0 := 10) (pc' := 14) rfl (hb hby d3_10) (by decide) (by decide) k_) ?_
      show OwnFin p e below s _ _ _ (s₁.setTop (mkF m 14 #[.val (.int p1), .unset] [(.int (32 : Int32))]))
      refine own_ret X0 (v := some (.int (32 : Int32))) hlk (fun hh => by rw [hret] at hh; cases hh) (fun fs hr => own_retI X0 hx hret (hb hby d3_14) hr) (by decide) (by decide) ?_
      rw [e0]
      refine ⟨⟨_, rfl, 32, by decide, by decide, ?_, fun q => absurd q (by decide)⟩, N0, rfl⟩
      rw [own_z32 hc5]; decide
    · refine own_go (fun t_ k_ => XS.ifYes X0.here hx rfl (pc0 := 5) (pc' := 13) rfl (hb hby d3_5) rfl ((if0 _ _).trans (feq hc5).2) (by decide) (by decide) k_) ?_
      show OwnFin p e below s _ _ _ (s₁.setTop (mkF m 13 #[.val (.int p1), .unset] []))
      refine own_go (fun t_ k_ => XS.iconst X0.here hx rfl (hb hby d3_13) k_) ?_
      show OwnFin p e below s _ _ _ (s₁.setTop (mkF m 14 #[.val (.int p1), .unset] [(.int (0 : Int32))]))
      refine own_ret X0 (v := some (.int (0 : Int32))) hlk (fun hh => by rw [hret] at hh; cases hh) (fun fs hr => own_retI X0 hx hret (hb hby d3_14) hr) (by decide) (by decide) ?_
      rw [e0]
      refine ⟨⟨_, rfl, 0, by decide, by decide, p1.toBitVec.isLt, fun _ => ?_⟩, N0, rfl⟩
      rw [Int32.lt_iff_toInt_lt, own_t0] at hc1
      have hz : ¬ p1.toInt = 0 := fun q => hc5 (Int32.toInt_inj.mp (by rw [own_t0]; exact q))
      exact own_neg32 (by omega)
theorem d2_0 : decode jdk_35_method_48_code 0 = .ok (.lload_n 0, 1) := by decide +kernel
theorem d2_1 : decode jdk_35_method_48_code 1 = .ok (.bipush 32, 2) := by decide +kernel
theorem d2_3 : decode jdk_35_method_48_code 3 = .ok (.lushr, 1) := by decide +kernel
theorem d2_4 : decode jdk_35_method_48_code 4 = .ok (.l2i, 1) := by decide +kernel
theorem d2_5 : decode jdk_35_method_48_code 5 = .ok (.istore_n 2, 1) := by decide +kernel
theorem d2_6 : decode jdk_35_method_48_code 6 = .ok (.iload_n 2, 1) := by decide +kernel
theorem d2_7 : decode jdk_35_method_48_code 7 = .ok (.ifCond .ne 14, 3) := by decide +kernel
theorem d2_10 : decode jdk_35_method_48_code 10 = .ok (.bipush 32, 2) := by decide +kernel
theorem d2_12 : decode jdk_35_method_48_code 12 = .ok (.lload_n 0, 1) := by decide +kernel
theorem d2_13 : decode jdk_35_method_48_code 13 = .ok (.l2i, 1) := by decide +kernel
theorem d2_14 : decode jdk_35_method_48_code 14 = .ok (.invokestatic 308, 3) := by decide +kernel
theorem d2_17 : decode jdk_35_method_48_code 17 = .ok (.iadd, 1) := by decide +kernel
theorem d2_18 : decode jdk_35_method_48_code 18 = .ok (.goto 7, 3) := by decide +kernel
theorem d2_21 : decode jdk_35_method_48_code 21 = .ok (.iload_n 2, 1) := by decide +kernel
theorem d2_22 : decode jdk_35_method_48_code 22 = .ok (.invokestatic 308, 3) := by decide +kernel
theorem d2_25 : decode jdk_35_method_48_code 25 = .ok (.ireturn, 1) := by decide +kernel
theorem pn_2 : plainFor (⟨"java/lang/Long", "numberOfLeadingZeros", "(J)I"⟩ : MethodName) = true := plainFor_of_name (by first | (simp [plainName, overriddenIn]; done) | decide +kernel)
theorem pd_2_1 : parseMethodDescriptor "(I)I" = some ⟨[.int], some .int⟩ := by decide +kernel
theorem ef_2 (m : MethodId) (q1 : Int64) : entryFrame m #[(.long q1)] 3 = mkF m 0 #[.val (.long q1), .second, .unset] [] := by first | (simp [entryFrame, mkF, argsToLocals, Value.category]; done) | rfl
set_option maxRecDepth 65536 in
set_option maxHeartbeats 40000000 in
theorem rm2 (l : Launch) (Z : State) (a0 : Array Value) (hw : ∀ d ∈ tables_1, d.before a0 Z = true) (ws : List Jvm.Cond) (q1 : Int64) (h0 : Heap) (n0 : Nat) (Z0 : n0 ≤ h0.size) :
    OwnCtr l Z (⟨"java/lang/Long", "numberOfLeadingZeros", "(J)I"⟩ : MethodName) ws jdk_35_method_48_code 3 (some .int) ({ frames := 1, cells := 0, slots := 0, locals := 14 } : Room) #[(.long q1)] h0 (fun v h L => (∃ r : Int32, v = some (.int r) ∧ own_nlzL q1 r) ∧ Fr n0 L ∧ h = h0) := by
  refine own_body (g0 := fun m => mkF m 0 #[.val (.long q1), .second, .unset] []) pn_2 (fun m => ef_2 m q1) ?_
  intro p e s m below meth c s₁ X0 hx hby hml hown hnm hZ e0 hret hlk
  have hml : c.maxLocals = 3 := hml
  have hown : s.vm.findClass "java/lang/Long" = some m.cls := hown
  have hnm : meth.name = "numberOfLeadingZeros" := hnm
  have hret : meth.sig.returnType = (some .int) := hret
  have N0 := Fr.nil n0
  show OwnFin p e below s _ _ _ (s₁.setTop (mkF m 0 #[.val (.long q1), .second, .unset] []))
  refine own_go (fun t_ k_ => XS.lloadN X0.here hx rfl (hb hby d2_0) rfl k_) ?_
  show OwnFin p e below s _ _ _ (s₁.setTop (mkF m 1 #[.val (.long q1), .second, .unset] [(.long q1)]))
  refine own_go (fun t_ k_ => XS.bipush X0.here hx rfl (hb hby d2_1) k_) ?_
  show OwnFin p e below s _ _ _ (s₁.setTop (mkF m 3 #[.val (.long q1), .second, .unset] [(.int (32 : Int32)), (.long q1)]))
  refine own_go (fun t_ k_ => XS.lushr X0.here hx rfl (hb hby d2_3) rfl k_) ?_
  show OwnFin p e below s _ _ _ (s₁.setTop (mkF m 4 #[.val (.long q1), .second, .unset] [(.long ((q1.toUInt64 >>> ((32 : Int32) &&& 0x3f).toInt64.toUInt64).toInt64))]))
  refine own_go (fun t_ k_ => XS.l2i X0.here hx rfl (hb hby d2_4) rfl k_) ?_
  show OwnFin p e below s _ _ _ (s₁.setTop (mkF m 5 #[.val (.long q1), .second, .unset] [(.int (((q1.toUInt64 >>> ((32 : Int32) &&& 0x3f).toInt64.toUInt64).toInt64).toInt32))]))
  refine own_go (fun t_ k_ => XS.istoreN X0.here hx rfl (hb hby d2_5) rfl (l' := #[.val (.long q1), .second, .val (.int (((q1.toUInt64 >>> ((32 : Int32) &&& 0x3f).toInt64.toUInt64).toInt64).toInt32))]) rfl k_) ?_
  show OwnFin p e below s _ _ _ (s₁.setTop (mkF m 6 #[.val (.long q1), .second, .val (.int (((q1.toUInt64 >>> ((32 : Int32) &&& 0x3f).toInt64.toUInt64).toInt64).toInt32))] []))
  refine own_go (fun t_ k_ => XS.iloadN X0.here hx rfl (hb hby d2_6) rfl k_) ?_
  show OwnFin p e below s _ _ _ (s₁.setTop (mkF m 7 #[.val (.long q1), .second, .val (.int (((q1.toUInt64 >>> ((32 : Int32) &&& 0x3f).toInt64.toUInt64).toInt64).toInt32))] [(.int (((q1.toUInt64 >>> ((32 : Int32) &&& 0x3f).toInt64.toUInt64).toInt64).toInt32))]))
  by_cases hc7 : (((q1.toUInt64 >>> ((32 : Int32) &&& 0x3f).toInt64.toUInt64).toInt64).toInt32) = (0 : Int32)
  · refine own_go (fun t_ k_ => XS.ifNo X0.here hx rfl (hb hby d2_7) rfl ((if0 _ _).trans (teq hc7).2) k_) ?_
    show OwnFin p e below s _ _ _ (s₁.setTop (mkF m 10 #[.val (.long q1), .second, .val (.int (((q1.toUInt64 >>> ((32 : Int32) &&& 0x3f).toInt64.toUInt64).toInt64).toInt32))] []))
    refine own_go (fun t_ k_ => XS.bipush X0.here hx rfl (hb hby d2_10) k_) ?_
    show OwnFin p e below s _ _ _ (s₁.setTop (mkF m 12 #[.val (.long q1), .second, .val (.int (((q1.toUInt64 >>> ((32 : Int32) &&& 0x3f).toInt64.toUInt64).toInt64).toInt32))] [(.int (32 : Int32))]))
    refine own_go (fun t_ k_ => XS.lloadN X0.here hx rfl (hb hby d2_12) rfl k_) ?_
    show OwnFin p e below s _ _ _ (s₁.setTop (mkF m 13 #[.val (.long q1), .second, .val (.int (((q1.toUInt64 >>> ((32 : Int32) &&& 0x3f).toInt64.toUInt64).toInt64).toInt32))] [(.long q1), (.int (32 : Int32))]))
    refine own_go (fun t_ k_ => XS.l2i X0.here hx rfl (hb hby d2_13) rfl k_) ?_
    show OwnFin p e below s _ _ _ (s₁.setTop (mkF m 14 #[.val (.long q1), .second, .val (.int (((q1.toUInt64 >>> ((32 : Int32) &&& 0x3f).toInt64.toUInt64).toInt64).toInt32))] [(.int (q1.toInt32)), (.int (32 : Int32))]))
    obtain ⟨v1, T1, L1, X1, hQ1, st1⟩ := own_callS X0 hx hZ (y := (⟨"java/lang/Integer", "numberOfLeadingZeros", "(I)I"⟩ : MethodName)) hown (hw _ (List.mem_of_getElem? (i := 8) rfl)) (hw _ (List.mem_of_getElem? (i := 9) rfl)) (hw _ (List.mem_of_getElem? (i := 10) rfl)) (hw _ (List.mem_of_getElem? (i := 11) rfl)) (by decide) (W := 1) (rm3 l Z a0 hw [] (q1.toInt32) h0 n0 Z0) (by decide) (by decide) (g := (mkF m 14 #[.val (.long q1), .second, .val (.int (((q1.toUInt64 >>> ((32 : Int32) &&& 0x3f).toInt64.toUInt64).toInt64).toInt32))] [(.int (q1.toInt32)), (.int (32 : Int32))])) rfl (by rw [hml]; rfl) (argsL := [(.int (q1.toInt32))]) (rest := [(.int (32 : Int32))]) (lenOf pd_2_1 rfl) rfl (by show 2 * 0 + _ ≤ _; exact Nat.le_of_eq rfl) (hb hby d2_14) e0 rfl (by decide) (by decide)
    obtain ⟨⟨z1, rfl, hz1⟩, Nq1, e1⟩ := hQ1
    have N1 := Fr.app N0 Nq1
    refine own_go st1 ?_
    show OwnFin p e below s _ _ _ (T1.setTop (mkF m 17 #[.val (.long q1), .second, .val (.int (((q1.toUInt64 >>> ((32 : Int32) &&& 0x3f).toInt64.toUInt64).toInt64).toInt32))] [(.int z1), (.int (32 : Int32))]))
    refine own_go (fun t_ k_ => XS.iadd X1.here hx rfl (hb hby d2_17) rfl k_) ?_
    show OwnFin p e below s _ _ _ (T1.setTop (mkF m 18 #[.val (.long q1), .second, .val (.int (((q1.toUInt64 >>> ((32 : Int32) &&& 0x3f).toInt64.toUInt64).toInt64).toInt32))] [(.int ((32 : Int32) + z1))]))
    refine own_go (fun t_ k_ => XS.goto X1.here hx rfl (pc0 := 18) (pc' := 25) rfl (hb hby d2_18) (by decide) (by decide) k_) ?_
    show OwnFin p e below s _ _ _ (T1.setTop (mkF m 25 #[.val (.long q1), .second, .val (.int (((q1.toUInt64 >>> ((32 : Int32) &&& 0x3f).toInt64.toUInt64).toInt64).toInt32))] [(.int ((32 : Int32) + z1))]))
    refine own_ret X1 (v := some (.int ((32 : Int32) + z1))) hlk (fun hh => by rw [hret] at hh; cases hh) (fun fs hr => own_retI X1 hx hret (hb hby d2_25) hr) (by decide) (by decide) ?_
    rw [e1]
    exact ⟨⟨_, rfl, own_nlzL_lo hc7 hz1⟩, N1, rfl⟩
  · refine own_go (fun t_ k_ => XS.ifYes X0.here hx rfl (pc0 := 7) (pc' := 21) rfl (hb hby d2_7) rfl ((if0 _ _).trans (feq hc7).2) (by decide) (by decide) k_) ?_
    show OwnFin p e below s _ _ _ (s₁.setTop (mkF m 21 #[.val (.long q1), .second, .val (.int (((q1.toUInt64 >>> ((32 : Int32) &&& 0x3f).toInt64.toUInt64).toInt64).toInt32))] []))
    refine own_go (fun t_ k_ => XS.iloadN X0.here hx rfl (hb hby d2_21) rfl k_) ?_
    show OwnFin p e below s _ _ _ (s₁.setTop (mkF m 22 #[.val (.long q1), .second, .val (.int (((q1.toUInt64 >>> ((32 : Int32) &&& 0x3f).toInt64.toUInt64).toInt64).toInt32))] [(.int (((q1.toUInt64 >>> ((32 : Int32) &&& 0x3f).toInt64.toUInt64).toInt64).toInt32))]))
    obtain ⟨v2, T2, L2, X2, hQ2, st2⟩ := own_callS X0 hx hZ (y := (⟨"java/lang/Integer", "numberOfLeadingZeros", "(I)I"⟩ : MethodName)) hown (hw _ (List.mem_of_getElem? (i := 8) rfl)) (hw _ (List.mem_of_getElem? (i := 9) rfl)) (hw _ (List.mem_of_getElem? (i := 10) rfl)) (hw _ (List.mem_of_getElem? (i := 11) rfl)) (by decide) (W := 0) (rm3 l Z a0 hw [] (((q1.toUInt64 >>> ((32 : Int32) &&& 0x3f).toInt64.toUInt64).toInt64).toInt32) h0 n0 Z0) (by decide) (by decide) (g := (mkF m 22 #[.val (.long q1), .second, .val (.int (((q1.toUInt64 >>> ((32 : Int32) &&& 0x3f).toInt64.toUInt64).toInt64).toInt32))] [(.int (((q1.toUInt64 >>> ((32 : Int32) &&& 0x3f).toInt64.toUInt64).toInt64).toInt32))])) rfl (by rw [hml]; rfl) (argsL := [(.int (((q1.toUInt64 >>> ((32 : Int32) &&& 0x3f).toInt64.toUInt64).toInt64).toInt32))]) (rest := []) (lenOf pd_2_1 rfl) rfl (by show 2 * 0 + _ ≤ _; exact Nat.le_of_eq rfl) (hb hby d2_22) e0 rfl (by decide) (by decide)
    obtain ⟨⟨z2, rfl, hz2⟩, Nq2, e2⟩ := hQ2
    have N2 := Fr.app N0 Nq2
    refine own_go st2 ?_
    show OwnFin p e below s _ _ _ (T2.setTop (mkF m 25 #[.val (.long q1), .second, .val (.int (((q1.toUInt64 >>> ((32 : Int32) &&& 0x3f).toInt64.toUInt64).toInt64).toInt32))] [(.int z2)]))
    refine own_ret X2 (v := some (.int z2)) hlk (fun hh => by rw [hret] at hh; cases hh) (fun fs hr => own_retI X2 hx hret (hb hby d2_25) hr) (by decide) (by decide) ?_
    rw [e2]
    exact ⟨⟨_, rfl, own_nlzL_hi hc7 hz2⟩, N2, rfl⟩
theorem d1_0 : decode prog_1_method_4_code 0 = .ok (.lload_n 0, 1) := by decide +kernel
theorem d1_1 : decode prog_1_method_4_code 1 = .ok (.invokestatic 20, 3) := by decide +kernel
theorem d1_4 : decode prog_1_method_4_code 4 = .ok (.tableswitch 285 0 56 #[244, 249, 249, 249, 249, 249, 249, 249, 254, 254, 254, 254, 254, 254, 254, 259, 259, 259, 259, 259, 259, 259, 264, 264, 264, 264, 264, 264, 264, 269, 269, 269, 269, 269, 269, 269, 273, 273, 273, 273, 273, 273, 273, 277, 277, 277, 277, 277, 277, 277, 281, 281, 281, 281, 281, 281, 281], 244) := by decide +kernel
theorem d1_248 : decode prog_1_method_4_code 248 = .ok (.bipush 10, 2) := by decide +kernel
theorem d1_250 : decode prog_1_method_4_code 250 = .ok (.goto 40, 3) := by decide +kernel
theorem d1_253 : decode prog_1_method_4_code 253 = .ok (.bipush 9, 2) := by decide +kernel
theorem d1_255 : decode prog_1_method_4_code 255 = .ok (.goto 35, 3) := by decide +kernel
theorem d1_258 : decode prog_1_method_4_code 258 = .ok (.bipush 8, 2) := by decide +kernel
theorem d1_260 : decode prog_1_method_4_code 260 = .ok (.goto 30, 3) := by decide +kernel
theorem d1_263 : decode prog_1_method_4_code 263 = .ok (.bipush 7, 2) := by decide +kernel
theorem d1_265 : decode prog_1_method_4_code 265 = .ok (.goto 25, 3) := by decide +kernel
theorem d1_268 : decode prog_1_method_4_code 268 = .ok (.bipush 6, 2) := by decide +kernel
theorem d1_270 : decode prog_1_method_4_code 270 = .ok (.goto 20, 3) := by decide +kernel
theorem d1_273 : decode prog_1_method_4_code 273 = .ok (.iconst 5, 1) := by decide +kernel
theorem d1_274 : decode prog_1_method_4_code 274 = .ok (.goto 16, 3) := by decide +kernel
theorem d1_277 : decode prog_1_method_4_code 277 = .ok (.iconst 4, 1) := by decide +kernel
theorem d1_278 : decode prog_1_method_4_code 278 = .ok (.goto 12, 3) := by decide +kernel
theorem d1_281 : decode prog_1_method_4_code 281 = .ok (.iconst 3, 1) := by decide +kernel
theorem d1_282 : decode prog_1_method_4_code 282 = .ok (.goto 8, 3) := by decide +kernel
theorem d1_285 : decode prog_1_method_4_code 285 = .ok (.iconst 2, 1) := by decide +kernel
theorem d1_286 : decode prog_1_method_4_code 286 = .ok (.goto 4, 3) := by decide +kernel
theorem d1_289 : decode prog_1_method_4_code 289 = .ok (.iconst 1, 1) := by decide +kernel
theorem d1_290 : decode prog_1_method_4_code 290 = .ok (.ireturn, 1) := by decide +kernel
theorem pn_1 : plainFor (⟨"com/example/bytefold/bytefold/ContinuationBitForm", "encodedLength", "(J)I"⟩ : MethodName) = true := plainFor_of_name (by first | (simp [plainName, overriddenIn]; done) | decide +kernel)
theorem pd_1_0 : parseMethodDescriptor "(J)I" = some ⟨[.long], some .int⟩ := by decide +kernel
theorem ef_1 (m : MethodId) (q1 : Int64) : entryFrame m #[(.long q1)] 2 = mkF m 0 #[.val (.long q1), .second] [] := by first | (simp [entryFrame, mkF, argsToLocals, Value.category]; done) | rfl
set_option maxRecDepth 65536 in
set_option maxHeartbeats 40000000 in
theorem rm1 (l : Launch) (Z : State) (a0 : Array Value) (hw : ∀ d ∈ tables_1, d.before a0 Z = true) (ws : List Jvm.Cond) (q1 : Int64) (h0 : Heap) (n0 : Nat) (Z0 : n0 ≤ h0.size) :
    OwnCtr l Z (⟨"com/example/bytefold/bytefold/ContinuationBitForm", "encodedLength", "(J)I"⟩ : MethodName) ws prog_1_method_4_code 2 (some .int) ({ frames := 2, cells := 0, slots := 0, locals := 28 } : Room) #[(.long q1)] h0 (fun v h L => (∃ r : Int32, v = some (.int r) ∧ own_len q1 r) ∧ Fr n0 L ∧ h = h0) := by
  refine own_body (g0 := fun m => mkF m 0 #[.val (.long q1), .second] []) pn_1 (fun m => ef_1 m q1) ?_
  intro p e s m below meth c s₁ X0 hx hby hml hown hnm hZ e0 hret hlk
  have hml : c.maxLocals = 2 := hml
  have hown : s.vm.findClass "com/example/bytefold/bytefold/ContinuationBitForm" = some m.cls := hown
  have hnm : meth.name = "encodedLength" := hnm
  have hret : meth.sig.returnType = (some .int) := hret
  have N0 := Fr.nil n0
  show OwnFin p e below s _ _ _ (s₁.setTop (mkF m 0 #[.val (.long q1), .second] []))
  refine own_go (fun t_ k_ => XS.lloadN X0.here hx rfl (hb hby d1_0) rfl k_) ?_
  show OwnFin p e below s _ _ _ (s₁.setTop (mkF m 1 #[.val (.long q1), .second] [(.long q1)]))
  obtain ⟨v1, T1, L1, X1, hQ1, st1⟩ := own_callS X0 hx hZ (y := (⟨"java/lang/Long", "numberOfLeadingZeros", "(J)I"⟩ : MethodName)) hown (hw _ (List.mem_of_getElem? (i := 4) rfl)) (hw _ (List.mem_of_getElem? (i := 5) rfl)) (hw _ (List.mem_of_getElem? (i := 6) rfl)) (hw _ (List.mem_of_getElem? (i := 7) rfl)) (by decide) (W := 0) (rm2 l Z a0 hw [] q1 h0 n0 Z0) (by decide) (by decide) (g := (mkF m 1 #[.val (.long q1), .second] [(.long q1)])) rfl (by rw [hml]; rfl) (argsL := [(.long q1)]) (rest := []) (lenOf pd_1_0 rfl) rfl (by show 2 * 0 + _ ≤ _; exact Nat.le_of_eq rfl) (hb hby d1_1) e0 rfl (by decide) (by decide)
  obtain ⟨⟨z1, rfl, hz1⟩, Nq1, e1⟩ := hQ1
  have N1 := Fr.app N0 Nq1
  refine own_go st1 ?_
  show OwnFin p e below s _ _ _ (T1.setTop (mkF m 4 #[.val (.long q1), .second] [(.int z1)]))
  obtain ⟨k, hk1, hk2, hk3, hk4⟩ := hz1
  have hzi : z1.toInt = (k : Int) := toInt_of hk2 (by omega)
  by_cases g0 : k ≤ 0
  · have hg : k = 0 := by omega
    have hoff : (#[244, 249, 249, 249, 249, 249, 249, 249, 254, 254, 254, 254, 254, 254, 254, 259, 259, 259, 259, 259, 259, 259, 264, 264, 264, 264, 264, 264, 264, 269, 269, 269, 269, 269, 269, 269, 273, 273, 273, 273, 273, 273, 273, 277, 277, 277, 277, 277, 277, 277, 281, 281, 281, 281, 281, 281, 281] : Array Int)[(z1.toInt - 0).toNat]? = some 244 := by
      rw [hzi]
      rcases hg with rfl <;> decide
    refine own_go (fun t_ k_ => XS.tswIn X1.here hx rfl (pc0 := 4) (pc' := 248) rfl (hb hby d1_4) rfl (by rw [hzi]; omega) hoff (by decide) (by decide) k_) ?_
    show OwnFin p e below s _ _ _ (T1.setTop (mkF m 248 #[.val (.long q1), .second] []))
    refine own_go (fun t_ k_ => XS.bipush X1.here hx rfl (hb hby d1_248) k_) ?_
    show OwnFin p e below s _ _ _ (T1.setTop (mkF m 250 #[.val (.long q1), .second] [(.int (10 : Int32))]))
    refine own_go (fun t_ k_ => XS.goto X1.here hx rfl (pc0 := 250) (pc' := 290) rfl (hb hby d1_250) (by decide) (by decide) k_) ?_
    show OwnFin p e below s _ _ _ (T1.setTop (mkF m 290 #[.val (.long q1), .second] [(.int (10 : Int32))]))
    refine own_ret X1 (v := some (.int (10 : Int32))) hlk (fun hh => by rw [hret] at hh; cases hh) (fun fs hr => own_retI X1 hx hret (hb hby d1_290) hr) (by decide) (by decide) ?_
    rw [e1]
    refine ⟨⟨_, rfl, Or.inr (Or.inr (Or.inr (Or.inr (Or.inr (Or.inr (Or.inr (Or.inr (Or.inr (⟨rfl, ?_⟩)))))))))⟩, N1, rfl⟩
    · rcases hg with rfl <;> (have h := hk4 (by decide); revert h; simp only [Nat.reduceSub, Nat.reducePow]; omega)
  by_cases g1 : k ≤ 7
  · have hg : k = 1 ∨ k = 2 ∨ k = 3 ∨ k = 4 ∨ k = 5 ∨ k = 6 ∨ k = 7 := by omega
    have hoff : (#[244, 249, 249, 249, 249, 249, 249, 249, 254, 254, 254, 254, 254, 254, 254, 259, 259, 259, 259, 259, 259, 259, 264, 264, 264, 264, 264, 264, 264, 269, 269, 269, 269, 269, 269, 269, 273, 273, 273, 273, 273, 273, 273, 277, 277, 277, 277, 277, 277, 277, 281, 281, 281, 281, 281, 281, 281] : Array Int)[(z1.toInt - 0).toNat]? = some 249 := by
      rw [hzi]
      rcases hg with rfl | rfl | rfl | rfl | rfl | rfl | rfl <;> decide
    refine own_go (fun t_ k_ => XS.tswIn X1.here hx rfl (pc0 := 4) (pc' := 253) rfl (hb hby d1_4) rfl (by rw [hzi]; omega) hoff (by decide) (by decide) k_) ?_
    show OwnFin p e below s _ _ _ (T1.setTop (mkF m 253 #[.val (.long q1), .second] []))
    refine own_go (fun t_ k_ => XS.bipush X1.here hx rfl (hb hby d1_253) k_) ?_
    show OwnFin p e below s _ _ _ (T1.setTop (mkF m 255 #[.val (.long q1), .second] [(.int (9 : Int32))]))
    refine own_go (fun t_ k_ => XS.goto X1.here hx rfl (pc0 := 255) (pc' := 290) rfl (hb hby d1_255) (by decide) (by decide) k_) ?_
    show OwnFin p e below s _ _ _ (T1.setTop (mkF m 290 #[.val (.long q1), .second] [(.int (9 : Int32))]))
    refine own_ret X1 (v := some (.int (9 : Int32))) hlk (fun hh => by rw [hret] at hh; cases hh) (fun fs hr => own_retI X1 hx hret (hb hby d1_290) hr) (by decide) (by decide) ?_
    rw [e1]
    refine ⟨⟨_, rfl, Or.inr (Or.inr (Or.inr (Or.inr (Or.inr (Or.inr (Or.inr (Or.inr (Or.inl (⟨rfl, ?_, ?_⟩)))))))))⟩, N1, rfl⟩
    · rcases hg with rfl | rfl | rfl | rfl | rfl | rfl | rfl <;> (have h := hk4 (by decide); revert h; simp only [Nat.reduceSub, Nat.reducePow]; omega)
    · rcases hg with rfl | rfl | rfl | rfl | rfl | rfl | rfl <;> (have h := hk3; revert h; simp only [Nat.reduceSub, Nat.reducePow]; omega)
  by_cases g2 : k ≤ 14
  · have hg : k = 8 ∨ k = 9 ∨ k = 10 ∨ k = 11 ∨ k = 12 ∨ k = 13 ∨ k = 14 := by omega
    have hoff : (#[244, 249, 249, 249, 249, 249, 249, 249, 254, 254, 254, 254, 254, 254, 254, 259, 259, 259, 259, 259, 259, 259, 264, 264, 264, 264, 264, 264, 264, 269, 269, 269, 269, 269, 269, 269, 273, 273, 273, 273, 273, 273, 273, 277, 277, 277, 277, 277, 277, 277, 281, 281, 281, 281, 281, 281, 281] : Array Int)[(z1.toInt - 0).toNat]? = some 254 := by
      rw [hzi]
      rcases hg with rfl | rfl | rfl | rfl | rfl | rfl | rfl <;> decide
    refine own_go (fun t_ k_ => XS.tswIn X1.here hx rfl (pc0 := 4) (pc' := 258) rfl (hb hby d1_4) rfl (by rw [hzi]; omega) hoff (by decide) (by decide) k_) ?_
    show OwnFin p e below s _ _ _ (T1.setTop (mkF m 258 #[.val (.long q1), .second] []))
    refine own_go (fun t_ k_ => XS.bipush X1.here hx rfl (hb hby d1_258) k_) ?_
    show OwnFin p e below s _ _ _ (T1.setTop (mkF m 260 #[.val (.long q1), .second] [(.int (8 : Int32))]))
    refine own_go (fun t_ k_ => XS.goto X1.here hx rfl (pc0 := 260) (pc' := 290) rfl (hb hby d1_260) (by decide) (by decide) k_) ?_
    show OwnFin p e below s _ _ _ (T1.setTop (mkF m 290 #[.val (.long q1), .second] [(.int (8 : Int32))]))
    refine own_ret X1 (v := some (.int (8 : Int32))) hlk (fun hh => by rw [hret] at hh; cases hh) (fun fs hr => own_retI X1 hx hret (hb hby d1_290) hr) (by decide) (by decide) ?_
    rw [e1]
    refine ⟨⟨_, rfl, Or.inr (Or.inr (Or.inr (Or.inr (Or.inr (Or.inr (Or.inr (Or.inl (⟨rfl, ?_, ?_⟩))))))))⟩, N1, rfl⟩
    · rcases hg with rfl | rfl | rfl | rfl | rfl | rfl | rfl <;> (have h := hk4 (by decide); revert h; simp only [Nat.reduceSub, Nat.reducePow]; omega)
    · rcases hg with rfl | rfl | rfl | rfl | rfl | rfl | rfl <;> (have h := hk3; revert h; simp only [Nat.reduceSub, Nat.reducePow]; omega)
  by_cases g3 : k ≤ 21
  · have hg : k = 15 ∨ k = 16 ∨ k = 17 ∨ k = 18 ∨ k = 19 ∨ k = 20 ∨ k = 21 := by omega
    have hoff : (#[244, 249, 249, 249, 249, 249, 249, 249, 254, 254, 254, 254, 254, 254, 254, 259, 259, 259, 259, 259, 259, 259, 264, 264, 264, 264, 264, 264, 264, 269, 269, 269, 269, 269, 269, 269, 273, 273, 273, 273, 273, 273, 273, 277, 277, 277, 277, 277, 277, 277, 281, 281, 281, 281, 281, 281, 281] : Array Int)[(z1.toInt - 0).toNat]? = some 259 := by
      rw [hzi]
      rcases hg with rfl | rfl | rfl | rfl | rfl | rfl | rfl <;> decide
    refine own_go (fun t_ k_ => XS.tswIn X1.here hx rfl (pc0 := 4) (pc' := 263) rfl (hb hby d1_4) rfl (by rw [hzi]; omega) hoff (by decide) (by decide) k_) ?_
    show OwnFin p e below s _ _ _ (T1.setTop (mkF m 263 #[.val (.long q1), .second] []))
    refine own_go (fun t_ k_ => XS.bipush X1.here hx rfl (hb hby d1_263) k_) ?_
    show OwnFin p e below s _ _ _ (T1.setTop (mkF m 265 #[.val (.long q1), .second] [(.int (7 : Int32))]))
    refine own_go (fun t_ k_ => XS.goto X1.here hx rfl (pc0 := 265) (pc' := 290) rfl (hb hby d1_265) (by decide) (by decide) k_) ?_
    show OwnFin p e below s _ _ _ (T1.setTop (mkF m 290 #[.val (.long q1), .second] [(.int (7 : Int32))]))
    refine own_ret X1 (v := some (.int (7 : Int32))) hlk (fun hh => by rw [hret] at hh; cases hh) (fun fs hr => own_retI X1 hx hret (hb hby d1_290) hr) (by decide) (by decide) ?_
    rw [e1]
    refine ⟨⟨_, rfl, Or.inr (Or.inr (Or.inr (Or.inr (Or.inr (Or.inr (Or.inl (⟨rfl, ?_, ?_⟩)))))))⟩, N1, rfl⟩
    · rcases hg with rfl | rfl | rfl | rfl | rfl | rfl | rfl <;> (have h := hk4 (by decide); revert h; simp only [Nat.reduceSub, Nat.reducePow]; omega)
    · rcases hg with rfl | rfl | rfl | rfl | rfl | rfl | rfl <;> (have h := hk3; revert h; simp only [Nat.reduceSub, Nat.reducePow]; omega)
  by_cases g4 : k ≤ 28
  · have hg : k = 22 ∨ k = 23 ∨ k = 24 ∨ k = 25 ∨ k = 26 ∨ k = 27 ∨ k = 28 := by omega
    have hoff : (#[244, 249, 249, 249, 249, 249, 249, 249, 254, 254, 254, 254, 254, 254, 254, 259, 259, 259, 259, 259, 259, 259, 264, 264, 264, 264, 264, 264, 264, 269, 269, 269, 269, 269, 269, 269, 273, 273, 273, 273, 273, 273, 273, 277, 277, 277, 277, 277, 277, 277, 281, 281, 281, 281, 281, 281, 281] : Array Int)[(z1.toInt - 0).toNat]? = some 264 := by
      rw [hzi]
      rcases hg with rfl | rfl | rfl | rfl | rfl | rfl | rfl <;> decide
    refine own_go (fun t_ k_ => XS.tswIn X1.here hx rfl (pc0 := 4) (pc' := 268) rfl (hb hby d1_4) rfl (by rw [hzi]; omega) hoff (by decide) (by decide) k_) ?_
    show OwnFin p e below s _ _ _ (T1.setTop (mkF m 268 #[.val (.long q1), .second] []))
    refine own_go (fun t_ k_ => XS.bipush X1.here hx rfl (hb hby d1_268) k_) ?_
    show OwnFin p e below s _ _ _ (T1.setTop (mkF m 270 #[.val (.long q1), .second] [(.int (6 : Int32))]))
    refine own_go (fun t_ k_ => XS.goto X1.here hx rfl (pc0 := 270) (pc' := 290) rfl (hb hby d1_270) (by decide) (by decide) k_) ?_
    show OwnFin p e below s _ _ _ (T1.setTop (mkF m 290 #[.val (.long q1), .second] [(.int (6 : Int32))]))
    refine own_ret X1 (v := some (.int (6 : Int32))) hlk (fun hh => by rw [hret] at hh; cases hh) (fun fs hr => own_retI X1 hx hret (hb hby d1_290) hr) (by decide) (by decide) ?_
    rw [e1]
    refine ⟨⟨_, rfl, Or.inr (Or.inr (Or.inr (Or.inr (Or.inr (Or.inl (⟨rfl, ?_, ?_⟩))))))⟩, N1, rfl⟩
    · rcases hg with rfl | rfl | rfl | rfl | rfl | rfl | rfl <;> (have h := hk4 (by decide); revert h; simp only [Nat.reduceSub, Nat.reducePow]; omega)
    · rcases hg with rfl | rfl | rfl | rfl | rfl | rfl | rfl <;> (have h := hk3; revert h; simp only [Nat.reduceSub, Nat.reducePow]; omega)
  by_cases g5 : k ≤ 35
  · have hg : k = 29 ∨ k = 30 ∨ k = 31 ∨ k = 32 ∨ k = 33 ∨ k = 34 ∨ k = 35 := by omega
    have hoff : (#[244, 249, 249, 249, 249, 249, 249, 249, 254, 254, 254, 254, 254, 254, 254, 259, 259, 259, 259, 259, 259, 259, 264, 264, 264, 264, 264, 264, 264, 269, 269, 269, 269, 269, 269, 269, 273, 273, 273, 273, 273, 273, 273, 277, 277, 277, 277, 277, 277, 277, 281, 281, 281, 281, 281, 281, 281] : Array Int)[(z1.toInt - 0).toNat]? = some 269 := by
      rw [hzi]
      rcases hg with rfl | rfl | rfl | rfl | rfl | rfl | rfl <;> decide
    refine own_go (fun t_ k_ => XS.tswIn X1.here hx rfl (pc0 := 4) (pc' := 273) rfl (hb hby d1_4) rfl (by rw [hzi]; omega) hoff (by decide) (by decide) k_) ?_
    show OwnFin p e below s _ _ _ (T1.setTop (mkF m 273 #[.val (.long q1), .second] []))
    refine own_go (fun t_ k_ => XS.iconst X1.here hx rfl (hb hby d1_273) k_) ?_
    show OwnFin p e below s _ _ _ (T1.setTop (mkF m 274 #[.val (.long q1), .second] [(.int (5 : Int32))]))
    refine own_go (fun t_ k_ => XS.goto X1.here hx rfl (pc0 := 274) (pc' := 290) rfl (hb hby d1_274) (by decide) (by decide) k_) ?_
    show OwnFin p e below s _ _ _ (T1.setTop (mkF m 290 #[.val (.long q1), .second] [(.int (5 : Int32))]))
    refine own_ret X1 (v := some (.int (5 : Int32))) hlk (fun hh => by rw [hret] at hh; cases hh) (fun fs hr => own_retI X1 hx hret (hb hby d1_290) hr) (by decide) (by decide) ?_
    rw [e1]
    refine ⟨⟨_, rfl, Or.inr (Or.inr (Or.inr (Or.inr (Or.inl (⟨rfl, ?_, ?_⟩)))))⟩, N1, rfl⟩
    · rcases hg with rfl | rfl | rfl | rfl | rfl | rfl | rfl <;> (have h := hk4 (by decide); revert h; simp only [Nat.reduceSub, Nat.reducePow]; omega)
    · rcases hg with rfl | rfl | rfl | rfl | rfl | rfl | rfl <;> (have h := hk3; revert h; simp only [Nat.reduceSub, Nat.reducePow]; omega)
  by_cases g6 : k ≤ 42
  · have hg : k = 36 ∨ k = 37 ∨ k = 38 ∨ k = 39 ∨ k = 40 ∨ k = 41 ∨ k = 42 := by omega
    have hoff : (#[244, 249, 249, 249, 249, 249, 249, 249, 254, 254, 254, 254, 254, 254, 254, 259, 259, 259, 259, 259, 259, 259, 264, 264, 264, 264, 264, 264, 264, 269, 269, 269, 269, 269, 269, 269, 273, 273, 273, 273, 273, 273, 273, 277, 277, 277, 277, 277, 277, 277, 281, 281, 281, 281, 281, 281, 281] : Array Int)[(z1.toInt - 0).toNat]? = some 273 := by
      rw [hzi]
      rcases hg with rfl | rfl | rfl | rfl | rfl | rfl | rfl <;> decide
    refine own_go (fun t_ k_ => XS.tswIn X1.here hx rfl (pc0 := 4) (pc' := 277) rfl (hb hby d1_4) rfl (by rw [hzi]; omega) hoff (by decide) (by decide) k_) ?_
    show OwnFin p e below s _ _ _ (T1.setTop (mkF m 277 #[.val (.long q1), .second] []))
    refine own_go (fun t_ k_ => XS.iconst X1.here hx rfl (hb hby d1_277) k_) ?_
    show OwnFin p e below s _ _ _ (T1.setTop (mkF m 278 #[.val (.long q1), .second] [(.int (4 : Int32))]))
    refine own_go (fun t_ k_ => XS.goto X1.here hx rfl (pc0 := 278) (pc' := 290) rfl (hb hby d1_278) (by decide) (by decide) k_) ?_
    show OwnFin p e below s _ _ _ (T1.setTop (mkF m 290 #[.val (.long q1), .second] [(.int (4 : Int32))]))
    refine own_ret X1 (v := some (.int (4 : Int32))) hlk (fun hh => by rw [hret] at hh; cases hh) (fun fs hr => own_retI X1 hx hret (hb hby d1_290) hr) (by decide) (by decide) ?_
    rw [e1]
    refine ⟨⟨_, rfl, Or.inr (Or.inr (Or.inr (Or.inl (⟨rfl, ?_, ?_⟩))))⟩, N1, rfl⟩
    · rcases hg with rfl | rfl | rfl | rfl | rfl | rfl | rfl <;> (have h := hk4 (by decide); revert h; simp only [Nat.reduceSub, Nat.reducePow]; omega)
    · rcases hg with rfl | rfl | rfl | rfl | rfl | rfl | rfl <;> (have h := hk3; revert h; simp only [Nat.reduceSub, Nat.reducePow]; omega)
  by_cases g7 : k ≤ 49
  · have hg : k = 43 ∨ k = 44 ∨ k = 45 ∨ k = 46 ∨ k = 47 ∨ k = 48 ∨ k = 49 := by omega
    have hoff : (#[244, 249, 249, 249, 249, 249, 249, 249, 254, 254, 254, 254, 254, 254, 254, 259, 259, 259, 259, 259, 259, 259, 264, 264, 264, 264, 264, 264, 264, 269, 269, 269, 269, 269, 269, 269, 273, 273, 273, 273, 273, 273, 273, 277, 277, 277, 277, 277, 277, 277, 281, 281, 281, 281, 281, 281, 281] : Array Int)[(z1.toInt - 0).toNat]? = some 277 := by
      rw [hzi]
      rcases hg with rfl | rfl | rfl | rfl | rfl | rfl | rfl <;> decide
    refine own_go (fun t_ k_ => XS.tswIn X1.here hx rfl (pc0 := 4) (pc' := 281) rfl (hb hby d1_4) rfl (by rw [hzi]; omega) hoff (by decide) (by decide) k_) ?_
    show OwnFin p e below s _ _ _ (T1.setTop (mkF m 281 #[.val (.long q1), .second] []))
    refine own_go (fun t_ k_ => XS.iconst X1.here hx rfl (hb hby d1_281) k_) ?_
    show OwnFin p e below s _ _ _ (T1.setTop (mkF m 282 #[.val (.long q1), .second] [(.int (3 : Int32))]))
    refine own_go (fun t_ k_ => XS.goto X1.here hx rfl (pc0 := 282) (pc' := 290) rfl (hb hby d1_282) (by decide) (by decide) k_) ?_
    show OwnFin p e below s _ _ _ (T1.setTop (mkF m 290 #[.val (.long q1), .second] [(.int (3 : Int32))]))
    refine own_ret X1 (v := some (.int (3 : Int32))) hlk (fun hh => by rw [hret] at hh; cases hh) (fun fs hr => own_retI X1 hx hret (hb hby d1_290) hr) (by decide) (by decide) ?_
    rw [e1]
    refine ⟨⟨_, rfl, Or.inr (Or.inr (Or.inl (⟨rfl, ?_, ?_⟩)))⟩, N1, rfl⟩
    · rcases hg with rfl | rfl | rfl | rfl | rfl | rfl | rfl <;> (have h := hk4 (by decide); revert h; simp only [Nat.reduceSub, Nat.reducePow]; omega)
    · rcases hg with rfl | rfl | rfl | rfl | rfl | rfl | rfl <;> (have h := hk3; revert h; simp only [Nat.reduceSub, Nat.reducePow]; omega)
  by_cases g8 : k ≤ 56
  · have hg : k = 50 ∨ k = 51 ∨ k = 52 ∨ k = 53 ∨ k = 54 ∨ k = 55 ∨ k = 56 := by omega
    have hoff : (#[244, 249, 249, 249, 249, 249, 249, 249, 254, 254, 254, 254, 254, 254, 254, 259, 259, 259, 259, 259, 259, 259, 264, 264, 264, 264, 264, 264, 264, 269, 269, 269, 269, 269, 269, 269, 273, 273, 273, 273, 273, 273, 273, 277, 277, 277, 277, 277, 277, 277, 281, 281, 281, 281, 281, 281, 281] : Array Int)[(z1.toInt - 0).toNat]? = some 281 := by
      rw [hzi]
      rcases hg with rfl | rfl | rfl | rfl | rfl | rfl | rfl <;> decide
    refine own_go (fun t_ k_ => XS.tswIn X1.here hx rfl (pc0 := 4) (pc' := 285) rfl (hb hby d1_4) rfl (by rw [hzi]; omega) hoff (by decide) (by decide) k_) ?_
    show OwnFin p e below s _ _ _ (T1.setTop (mkF m 285 #[.val (.long q1), .second] []))
    refine own_go (fun t_ k_ => XS.iconst X1.here hx rfl (hb hby d1_285) k_) ?_
    show OwnFin p e below s _ _ _ (T1.setTop (mkF m 286 #[.val (.long q1), .second] [(.int (2 : Int32))]))
    refine own_go (fun t_ k_ => XS.goto X1.here hx rfl (pc0 := 286) (pc' := 290) rfl (hb hby d1_286) (by decide) (by decide) k_) ?_
    show OwnFin p e below s _ _ _ (T1.setTop (mkF m 290 #[.val (.long q1), .second] [(.int (2 : Int32))]))
    refine own_ret X1 (v := some (.int (2 : Int32))) hlk (fun hh => by rw [hret] at hh; cases hh) (fun fs hr => own_retI X1 hx hret (hb hby d1_290) hr) (by decide) (by decide) ?_
    rw [e1]
    refine ⟨⟨_, rfl, Or.inr (Or.inl (⟨rfl, ?_, ?_⟩))⟩, N1, rfl⟩
    · rcases hg with rfl | rfl | rfl | rfl | rfl | rfl | rfl <;> (have h := hk4 (by decide); revert h; simp only [Nat.reduceSub, Nat.reducePow]; omega)
    · rcases hg with rfl | rfl | rfl | rfl | rfl | rfl | rfl <;> (have h := hk3; revert h; simp only [Nat.reduceSub, Nat.reducePow]; omega)
  have hg : k = 57 ∨ k = 58 ∨ k = 59 ∨ k = 60 ∨ k = 61 ∨ k = 62 ∨ k = 63 ∨ k = 64 := by omega
  refine own_go (fun t_ k_ => XS.tswOut X1.here hx rfl (pc0 := 4) (pc' := 289) rfl (hb hby d1_4) rfl (by rw [hzi]; omega) (by decide) (by decide) k_) ?_
  show OwnFin p e below s _ _ _ (T1.setTop (mkF m 289 #[.val (.long q1), .second] []))
  refine own_go (fun t_ k_ => XS.iconst X1.here hx rfl (hb hby d1_289) k_) ?_
  show OwnFin p e below s _ _ _ (T1.setTop (mkF m 290 #[.val (.long q1), .second] [(.int (1 : Int32))]))
  refine own_ret X1 (v := some (.int (1 : Int32))) hlk (fun hh => by rw [hret] at hh; cases hh) (fun fs hr => own_retI X1 hx hret (hb hby d1_290) hr) (by decide) (by decide) ?_
  rw [e1]
  refine ⟨⟨_, rfl, Or.inl (⟨rfl, ?_⟩)⟩, N1, rfl⟩
  · rcases hg with rfl | rfl | rfl | rfl | rfl | rfl | rfl | rfl <;> (have h := hk3; revert h; simp only [Nat.reduceSub, Nat.reducePow]; omega)
theorem own_ush0 (x : Int64) {n : UInt64} {k : Nat} (hn : n.toNat = k) (hk : k < 64) : ((x.toUInt64 >>> n).toInt64) = (0 : Int64) ↔ x.toBitVec.toNat / 2 ^ k = 0 := by
  rw [← own_lushr_nat x hn hk]
  constructor
  · intro h; rw [h]; decide
  · intro h; apply Int64.toBitVec_inj.mp; apply BitVec.eq_of_toNat_eq; rw [h]; decide
theorem pn_0 : plainFor (⟨"com/example/bytefold/bytefold/ContinuationBitFormEncodedLengthPinLaw", "law", "(JI)Z"⟩ : MethodName) = true := plainFor_of_name (by first | (simp [plainName, overriddenIn]; done) | decide +kernel)
theorem pd_0_0 : parseMethodDescriptor "(J)I" = some ⟨[.long], some .int⟩ := by decide +kernel
theorem ef_0 (m : MethodId) (xx : Int64) (ss : Int32) : entryFrame m #[(.long xx), (.int ss)] maxLocals = mkF m 0 #[.val (.long xx), .second, .val (.int ss), .unset, .unset, .unset, .unset, .unset] [] := by first | (simp [entryFrame, mkF, argsToLocals, Value.category, maxLocals]; done) | rfl
set_option maxRecDepth 65536 in
set_option maxHeartbeats 40000000 in
theorem rm0 (l : Launch) (Z : State) (a0 : Array Value) (hw : ∀ d ∈ tables_1, d.before a0 Z = true) (ws : List Jvm.Cond) (xx : Int64) (ss : Int32) (h0 : Heap) (n0 : Nat) (Z0 : n0 ≤ h0.size) :
    OwnCtr l Z x ws code maxLocals ret room_1 #[(.long xx), (.int ss)] h0 (fun v h L => v = some (.int 1) ∧ Fr n0 L) := by
  refine own_body (g0 := fun m => mkF m 0 #[.val (.long xx), .second, .val (.int ss), .unset, .unset, .unset, .unset, .unset] []) pn_0 (fun m => ef_0 m xx ss) ?_
  intro p e s m below meth c s₁ X0 hx hby hml hown hnm hZ e0 hret hlk
  have hml : c.maxLocals = 8 := hml
  have hown : s.vm.findClass "com/example/bytefold/bytefold/ContinuationBitFormEncodedLengthPinLaw" = some m.cls := hown
  have hnm : meth.name = "law" := hnm
  have hret : meth.sig.returnType = (some .boolean) := hret
  have N0 := Fr.nil n0
  show OwnFin p e below s _ _ _ (s₁.setTop (mkF m 0 #[.val (.long xx), .second, .val (.int ss), .unset, .unset, .unset, .unset, .unset] []))
  refine own_go (fun t_ k_ => XS.lloadN X0.here hx rfl (hb hby at_0) rfl k_) ?_
  show OwnFin p e below s _ _ _ (s₁.setTop (mkF m 1 #[.val (.long xx), .second, .val (.int ss), .unset, .unset, .unset, .unset, .unset] [(.long xx)]))
  refine own_go (fun t_ k_ => XS.iloadN X0.here hx rfl (hb hby at_1) rfl k_) ?_
  show OwnFin p e below s _ _ _ (s₁.setTop (mkF m 2 #[.val (.long xx), .second, .val (.int ss), .unset, .unset, .unset, .unset, .unset] [(.int ss), (.long xx)]))
  refine own_go (fun t_ k_ => XS.bipush X0.here hx rfl (hb hby at_2) k_) ?_
  show OwnFin p e below s _ _ _ (s₁.setTop (mkF m 4 #[.val (.long xx), .second, .val (.int ss), .unset, .unset, .unset, .unset, .unset] [(.int (63 : Int32)), (.int ss), (.long xx)]))
  refine own_go (fun t_ k_ => XS.iand X0.here hx rfl (hb hby at_4) rfl k_) ?_
  show OwnFin p e below s _ _ _ (s₁.setTop (mkF m 5 #[.val (.long xx), .second, .val (.int ss), .unset, .unset, .unset, .unset, .unset] [(.int (ss &&& (63 : Int32))), (.long xx)]))
  refine own_go (fun t_ k_ => XS.lushr X0.here hx rfl (hb hby at_5) rfl k_) ?_
  show OwnFin p e below s _ _ _ (s₁.setTop (mkF m 6 #[.val (.long xx), .second, .val (.int ss), .unset, .unset, .unset, .unset, .unset] [(.long ((xx.toUInt64 >>> ((ss &&& (63 : Int32)) &&& 0x3f).toInt64.toUInt64).toInt64))]))
  refine own_go (fun t_ k_ => XS.lstoreN X0.here hx rfl (hb hby at_6) rfl (l' := #[.val (.long xx), .second, .val (.int ss), .val (.long ((xx.toUInt64 >>> ((ss &&& (63 : Int32)) &&& 0x3f).toInt64.toUInt64).toInt64)), .second, .unset, .unset, .unset]) rfl k_) ?_
  show OwnFin p e below s _ _ _ (s₁.setTop (mkF m 7 #[.val (.long xx), .second, .val (.int ss), .val (.long ((xx.toUInt64 >>> ((ss &&& (63 : Int32)) &&& 0x3f).toInt64.toUInt64).toInt64)), .second, .unset, .unset, .unset] []))
  generalize h_w : ((xx.toUInt64 >>> ((ss &&& (63 : Int32)) &&& 0x3f).toInt64.toUInt64).toInt64) = w
  refine own_go (fun t_ k_ => XS.lloadN X0.here hx rfl (hb hby at_7) rfl k_) ?_
  show OwnFin p e below s _ _ _ (s₁.setTop (mkF m 8 #[.val (.long xx), .second, .val (.int ss), .val (.long w), .second, .unset, .unset, .unset] [(.long w)]))
  obtain ⟨v1, T1, L1, X1, hQ1, st1⟩ := own_callS X0 hx hZ (y := (⟨"com/example/bytefold/bytefold/ContinuationBitForm", "encodedLength", "(J)I"⟩ : MethodName)) hown (hw _ (List.mem_of_getElem? (i := 0) rfl)) (hw _ (List.mem_of_getElem? (i := 1) rfl)) (hw _ (List.mem_of_getElem? (i := 2) rfl)) (hw _ (List.mem_of_getElem? (i := 3) rfl)) (by decide) (W := 0) (rm1 l Z a0 hw [] w h0 n0 Z0) (by decide) (by decide) (g := (mkF m 8 #[.val (.long xx), .second, .val (.int ss), .val (.long w), .second, .unset, .unset, .unset] [(.long w)])) rfl (by rw [hml]; rfl) (argsL := [(.long w)]) (rest := []) (lenOf pd_0_0 rfl) rfl (by show 2 * 0 + _ ≤ _; exact Nat.le_of_eq rfl) (hb hby at_8) e0 rfl (by decide) (by decide)
  obtain ⟨⟨z1, rfl, hz1⟩, Nq1, e1⟩ := hQ1
  have N1 := Fr.app N0 Nq1
  refine own_go st1 ?_
  show OwnFin p e below s _ _ _ (T1.setTop (mkF m 11 #[.val (.long xx), .second, .val (.int ss), .val (.long w), .second, .unset, .unset, .unset] [(.int z1)]))
  refine own_go (fun t_ k_ => XS.istore X1.here hx rfl (hb hby at_11) rfl (l' := #[.val (.long xx), .second, .val (.int ss), .val (.long w), .second, .val (.int z1), .unset, .unset]) rfl k_) ?_
  show OwnFin p e below s _ _ _ (T1.setTop (mkF m 13 #[.val (.long xx), .second, .val (.int ss), .val (.long w), .second, .val (.int z1), .unset, .unset] []))
  rcases hz1 with ⟨rfl, hU⟩ | ⟨rfl, hU⟩ | ⟨rfl, hU⟩ | ⟨rfl, hU⟩ | ⟨rfl, hU⟩ | ⟨rfl, hU⟩ | ⟨rfl, hU⟩ | ⟨rfl, hU⟩ | ⟨rfl, hU⟩ | ⟨rfl, hU⟩
  · show OwnFin p e below s _ _ _ (T1.setTop (mkF m 13 #[.val (.long xx), .second, .val (.int ss), .val (.long w), .second, .val (.int (1 : Int32)), .unset, .unset] []))
    refine own_go (fun t_ k_ => XS.iload X1.here hx rfl (hb hby at_13) rfl k_) ?_
    show OwnFin p e below s _ _ _ (T1.setTop (mkF m 15 #[.val (.long xx), .second, .val (.int ss), .val (.long w), .second, .val (.int (1 : Int32)), .unset, .unset] [(.int (1 : Int32))]))
    refine own_go (fun t_ k_ => XS.iconst X1.here hx rfl (hb hby at_15) k_) ?_
    show OwnFin p e below s _ _ _ (T1.setTop (mkF m 16 #[.val (.long xx), .second, .val (.int ss), .val (.long w), .second, .val (.int (1 : Int32)), .unset, .unset] [(.int (1 : Int32)), (.int (1 : Int32))]))
    refine own_go (fun t_ k_ => XS.icmpNo X1.here hx rfl (hb hby at_16) rfl (flt (by decide)).1 k_) ?_
    show OwnFin p e below s _ _ _ (T1.setTop (mkF m 19 #[.val (.long xx), .second, .val (.int ss), .val (.long w), .second, .val (.int (1 : Int32)), .unset, .unset] []))
    refine own_go (fun t_ k_ => XS.iload X1.here hx rfl (hb hby at_19) rfl k_) ?_
    show OwnFin p e below s _ _ _ (T1.setTop (mkF m 21 #[.val (.long xx), .second, .val (.int ss), .val (.long w), .second, .val (.int (1 : Int32)), .unset, .unset] [(.int (1 : Int32))]))
    refine own_go (fun t_ k_ => XS.bipush X1.here hx rfl (hb hby at_21) k_) ?_
    show OwnFin p e below s _ _ _ (T1.setTop (mkF m 23 #[.val (.long xx), .second, .val (.int ss), .val (.long w), .second, .val (.int (1 : Int32)), .unset, .unset] [(.int (10 : Int32)), (.int (1 : Int32))]))
    refine own_go (fun t_ k_ => XS.icmpYes X1.here hx rfl (pc0 := 23) (pc' := 28) rfl (hb hby at_23) rfl (flt (by decide)).2.2.2 (by decide) (by decide) k_) ?_
    show OwnFin p e below s _ _ _ (T1.setTop (mkF m 28 #[.val (.long xx), .second, .val (.int ss), .val (.long w), .second, .val (.int (1 : Int32)), .unset, .unset] []))
    refine own_go (fun t_ k_ => XS.iload X1.here hx rfl (hb hby at_28) rfl k_) ?_
    show OwnFin p e below s _ _ _ (T1.setTop (mkF m 30 #[.val (.long xx), .second, .val (.int ss), .val (.long w), .second, .val (.int (1 : Int32)), .unset, .unset] [(.int (1 : Int32))]))
    refine own_go (fun t_ k_ => XS.bipush X1.here hx rfl (hb hby at_30) k_) ?_
    show OwnFin p e below s _ _ _ (T1.setTop (mkF m 32 #[.val (.long xx), .second, .val (.int ss), .val (.long w), .second, .val (.int (1 : Int32)), .unset, .unset] [(.int (10 : Int32)), (.int (1 : Int32))]))
    refine own_go (fun t_ k_ => XS.icmpNo X1.here hx rfl (hb hby at_32) rfl (feq (by decide)).1 k_) ?_
    show OwnFin p e below s _ _ _ (T1.setTop (mkF m 35 #[.val (.long xx), .second, .val (.int ss), .val (.long w), .second, .val (.int (1 : Int32)), .unset, .unset] []))
    refine own_go (fun t_ k_ => XS.lloadN X1.here hx rfl (hb hby at_35) rfl k_) ?_
    show OwnFin p e below s _ _ _ (T1.setTop (mkF m 36 #[.val (.long xx), .second, .val (.int ss), .val (.long w), .second, .val (.int (1 : Int32)), .unset, .unset] [(.long w)]))
    refine own_go (fun t_ k_ => XS.bipush X1.here hx rfl (hb hby at_36) k_) ?_
    show OwnFin p e below s _ _ _ (T1.setTop (mkF m 38 #[.val (.long xx), .second, .val (.int ss), .val (.long w), .second, .val (.int (1 : Int32)), .unset, .unset] [(.int (7 : Int32)), (.long w)]))
    refine own_go (fun t_ k_ => XS.iload X1.here hx rfl (hb hby at_38) rfl k_) ?_
    show OwnFin p e below s _ _ _ (T1.setTop (mkF m 40 #[.val (.long xx), .second, .val (.int ss), .val (.long w), .second, .val (.int (1 : Int32)), .unset, .unset] [(.int (1 : Int32)), (.int (7 : Int32)), (.long w)]))
    refine own_go (fun t_ k_ => XS.imul X1.here hx rfl (hb hby at_40) rfl k_) ?_
    show OwnFin p e below s _ _ _ (T1.setTop (mkF m 41 #[.val (.long xx), .second, .val (.int ss), .val (.long w), .second, .val (.int (1 : Int32)), .unset, .unset] [(.int ((7 : Int32) * (1 : Int32))), (.long w)]))
    refine own_go (fun t_ k_ => XS.lushr X1.here hx rfl (hb hby at_41) rfl k_) ?_
    show OwnFin p e below s _ _ _ (T1.setTop (mkF m 42 #[.val (.long xx), .second, .val (.int ss), .val (.long w), .second, .val (.int (1 : Int32)), .unset, .unset] [(.long ((w.toUInt64 >>> (((7 : Int32) * (1 : Int32)) &&& 0x3f).toInt64.toUInt64).toInt64))]))
    refine own_go (fun t_ k_ => XS.lconst X1.here hx rfl (hb hby at_42) k_) ?_
    show OwnFin p e below s _ _ _ (T1.setTop (mkF m 43 #[.val (.long xx), .second, .val (.int ss), .val (.long w), .second, .val (.int (1 : Int32)), .unset, .unset] [(.long (0 : Int64)), (.long ((w.toUInt64 >>> (((7 : Int32) * (1 : Int32)) &&& 0x3f).toInt64.toUInt64).toInt64))]))
    refine own_go (fun t_ k_ => XS.lcmp X1.here hx rfl (hb hby at_43) rfl k_) ?_
    show OwnFin p e below s _ _ _ (T1.setTop (mkF m 44 #[.val (.long xx), .second, .val (.int ss), .val (.long w), .second, .val (.int (1 : Int32)), .unset, .unset] [(.int (lcmpW ((w.toUInt64 >>> (((7 : Int32) * (1 : Int32)) &&& 0x3f).toInt64.toUInt64).toInt64) (0 : Int64)))]))
    have hc44 : ((w.toUInt64 >>> (((7 : Int32) * (1 : Int32)) &&& 0x3f).toInt64.toUInt64).toInt64) = (0 : Int64) := (own_ush0 w (n := (((7 : Int32) * (1 : Int32)) &&& 0x3f).toInt64.toUInt64) (k := 7) (by decide) (by decide)).mpr (by have hP : (2 : Nat) ^ 7 = 128 := (by decide); rw [hP]; omega)
    refine own_go (fun t_ k_ => XS.ifNo X1.here hx rfl (hb hby at_44) rfl ((if0 _ _).trans (teq ((lw_eq ((w.toUInt64 >>> (((7 : Int32) * (1 : Int32)) &&& 0x3f).toInt64.toUInt64).toInt64) (0 : Int64)).mpr hc44)).2) k_) ?_
    show OwnFin p e below s _ _ _ (T1.setTop (mkF m 47 #[.val (.long xx), .second, .val (.int ss), .val (.long w), .second, .val (.int (1 : Int32)), .unset, .unset] []))
    refine own_go (fun t_ k_ => XS.iconst X1.here hx rfl (hb hby at_47) k_) ?_
    show OwnFin p e below s _ _ _ (T1.setTop (mkF m 48 #[.val (.long xx), .second, .val (.int ss), .val (.long w), .second, .val (.int (1 : Int32)), .unset, .unset] [(.int (1 : Int32))]))
    refine own_go (fun t_ k_ => XS.goto X1.here hx rfl (pc0 := 48) (pc' := 52) rfl (hb hby at_48) (by decide) (by decide) k_) ?_
    show OwnFin p e below s _ _ _ (T1.setTop (mkF m 52 #[.val (.long xx), .second, .val (.int ss), .val (.long w), .second, .val (.int (1 : Int32)), .unset, .unset] [(.int (1 : Int32))]))
    refine own_go (fun t_ k_ => XS.istore X1.here hx rfl (hb hby at_52) rfl (l' := #[.val (.long xx), .second, .val (.int ss), .val (.long w), .second, .val (.int (1 : Int32)), .val (.int (1 : Int32)), .unset]) rfl k_) ?_
    show OwnFin p e below s _ _ _ (T1.setTop (mkF m 54 #[.val (.long xx), .second, .val (.int ss), .val (.long w), .second, .val (.int (1 : Int32)), .val (.int (1 : Int32)), .unset] []))
    refine own_go (fun t_ k_ => XS.iload X1.here hx rfl (hb hby at_54) rfl k_) ?_
    show OwnFin p e below s _ _ _ (T1.setTop (mkF m 56 #[.val (.long xx), .second, .val (.int ss), .val (.long w), .second, .val (.int (1 : Int32)), .val (.int (1 : Int32)), .unset] [(.int (1 : Int32))]))
    refine own_go (fun t_ k_ => XS.iconst X1.here hx rfl (hb hby at_56) k_) ?_
    show OwnFin p e below s _ _ _ (T1.setTop (mkF m 57 #[.val (.long xx), .second, .val (.int ss), .val (.long w), .second, .val (.int (1 : Int32)), .val (.int (1 : Int32)), .unset] [(.int (1 : Int32)), (.int (1 : Int32))]))
    refine own_go (fun t_ k_ => XS.icmpYes X1.here hx rfl (pc0 := 57) (pc' := 74) rfl (hb hby at_57) rfl (teq (by decide)).1 (by decide) (by decide) k_) ?_
    show OwnFin p e below s _ _ _ (T1.setTop (mkF m 74 #[.val (.long xx), .second, .val (.int ss), .val (.long w), .second, .val (.int (1 : Int32)), .val (.int (1 : Int32)), .unset] []))
    refine own_go (fun t_ k_ => XS.iconst X1.here hx rfl (hb hby at_74) k_) ?_
    show OwnFin p e below s _ _ _ (T1.setTop (mkF m 75 #[.val (.long xx), .second, .val (.int ss), .val (.long w), .second, .val (.int (1 : Int32)), .val (.int (1 : Int32)), .unset] [(.int (1 : Int32))]))
    refine own_go (fun t_ k_ => XS.goto X1.here hx rfl (pc0 := 75) (pc' := 79) rfl (hb hby at_75) (by decide) (by decide) k_) ?_
    show OwnFin p e below s _ _ _ (T1.setTop (mkF m 79 #[.val (.long xx), .second, .val (.int ss), .val (.long w), .second, .val (.int (1 : Int32)), .val (.int (1 : Int32)), .unset] [(.int (1 : Int32))]))
    refine own_go (fun t_ k_ => XS.istore X1.here hx rfl (hb hby at_79) rfl (l' := #[.val (.long xx), .second, .val (.int ss), .val (.long w), .second, .val (.int (1 : Int32)), .val (.int (1 : Int32)), .val (.int (1 : Int32))]) rfl k_) ?_
    show OwnFin p e below s _ _ _ (T1.setTop (mkF m 81 #[.val (.long xx), .second, .val (.int ss), .val (.long w), .second, .val (.int (1 : Int32)), .val (.int (1 : Int32)), .val (.int (1 : Int32))] []))
    refine own_go (fun t_ k_ => XS.iload X1.here hx rfl (hb hby at_81) rfl k_) ?_
    show OwnFin p e below s _ _ _ (T1.setTop (mkF m 83 #[.val (.long xx), .second, .val (.int ss), .val (.long w), .second, .val (.int (1 : Int32)), .val (.int (1 : Int32)), .val (.int (1 : Int32))] [(.int (1 : Int32))]))
    refine own_go (fun t_ k_ => XS.ifNo X1.here hx rfl (hb hby at_83) rfl ((if0 _ _).trans (feq (by decide)).1) k_) ?_
    show OwnFin p e below s _ _ _ (T1.setTop (mkF m 86 #[.val (.long xx), .second, .val (.int ss), .val (.long w), .second, .val (.int (1 : Int32)), .val (.int (1 : Int32)), .val (.int (1 : Int32))] []))
    refine own_go (fun t_ k_ => XS.iload X1.here hx rfl (hb hby at_86) rfl k_) ?_
    show OwnFin p e below s _ _ _ (T1.setTop (mkF m 88 #[.val (.long xx), .second, .val (.int ss), .val (.long w), .second, .val (.int (1 : Int32)), .val (.int (1 : Int32)), .val (.int (1 : Int32))] [(.int (1 : Int32))]))
    refine own_go (fun t_ k_ => XS.ifNo X1.here hx rfl (hb hby at_88) rfl ((if0 _ _).trans (feq (by decide)).1) k_) ?_
    show OwnFin p e below s _ _ _ (T1.setTop (mkF m 91 #[.val (.long xx), .second, .val (.int ss), .val (.long w), .second, .val (.int (1 : Int32)), .val (.int (1 : Int32)), .val (.int (1 : Int32))] []))
    refine own_go (fun t_ k_ => XS.iconst X1.here hx rfl (hb hby at_91) k_) ?_
    show OwnFin p e below s _ _ _ (T1.setTop (mkF m 92 #[.val (.long xx), .second, .val (.int ss), .val (.long w), .second, .val (.int (1 : Int32)), .val (.int (1 : Int32)), .val (.int (1 : Int32))] [(.int (1 : Int32))]))
    refine own_go (fun t_ k_ => XS.goto X1.here hx rfl (pc0 := 92) (pc' := 96) rfl (hb hby at_92) (by decide) (by decide) k_) ?_
    show OwnFin p e below s _ _ _ (T1.setTop (mkF m 96 #[.val (.long xx), .second, .val (.int ss), .val (.long w), .second, .val (.int (1 : Int32)), .val (.int (1 : Int32)), .val (.int (1 : Int32))] [(.int (1 : Int32))]))
    refine own_ret X1 (v := some (.int (1 : Int32))) hlk (fun hh => by rw [hret] at hh; cases hh) (fun fs hr => retN X1 hx (t := .boolean) hret (by simp) (hb hby at_96) hr) (by decide) (by decide) ?_
    exact ⟨rfl, N1⟩
  · show OwnFin p e below s _ _ _ (T1.setTop (mkF m 13 #[.val (.long xx), .second, .val (.int ss), .val (.long w), .second, .val (.int (2 : Int32)), .unset, .unset] []))
    refine own_go (fun t_ k_ => XS.iload X1.here hx rfl (hb hby at_13) rfl k_) ?_
    show OwnFin p e below s _ _ _ (T1.setTop (mkF m 15 #[.val (.long xx), .second, .val (.int ss), .val (.long w), .second, .val (.int (2 : Int32)), .unset, .unset] [(.int (2 : Int32))]))
    refine own_go (fun t_ k_ => XS.iconst X1.here hx rfl (hb hby at_15) k_) ?_
    show OwnFin p e below s _ _ _ (T1.setTop (mkF m 16 #[.val (.long xx), .second, .val (.int ss), .val (.long w), .second, .val (.int (2 : Int32)), .unset, .unset] [(.int (1 : Int32)), (.int (2 : Int32))]))
    refine own_go (fun t_ k_ => XS.icmpNo X1.here hx rfl (hb hby at_16) rfl (flt (by decide)).1 k_) ?_
    show OwnFin p e below s _ _ _ (T1.setTop (mkF m 19 #[.val (.long xx), .second, .val (.int ss), .val (.long w), .second, .val (.int (2 : Int32)), .unset, .unset] []))
    refine own_go (fun t_ k_ => XS.iload X1.here hx rfl (hb hby at_19) rfl k_) ?_
    show OwnFin p e below s _ _ _ (T1.setTop (mkF m 21 #[.val (.long xx), .second, .val (.int ss), .val (.long w), .second, .val (.int (2 : Int32)), .unset, .unset] [(.int (2 : Int32))]))
    refine own_go (fun t_ k_ => XS.bipush X1.here hx rfl (hb hby at_21) k_) ?_
    show OwnFin p e below s _ _ _ (T1.setTop (mkF m 23 #[.val (.long xx), .second, .val (.int ss), .val (.long w), .second, .val (.int (2 : Int32)), .unset, .unset] [(.int (10 : Int32)), (.int (2 : Int32))]))
    refine own_go (fun t_ k_ => XS.icmpYes X1.here hx rfl (pc0 := 23) (pc' := 28) rfl (hb hby at_23) rfl (flt (by decide)).2.2.2 (by decide) (by decide) k_) ?_
    show OwnFin p e below s _ _ _ (T1.setTop (mkF m 28 #[.val (.long xx), .second, .val (.int ss), .val (.long w), .second, .val (.int (2 : Int32)), .unset, .unset] []))
    refine own_go (fun t_ k_ => XS.iload X1.here hx rfl (hb hby at_28) rfl k_) ?_
    show OwnFin p e below s _ _ _ (T1.setTop (mkF m 30 #[.val (.long xx), .second, .val (.int ss), .val (.long w), .second, .val (.int (2 : Int32)), .unset, .unset] [(.int (2 : Int32))]))
    refine own_go (fun t_ k_ => XS.bipush X1.here hx rfl (hb hby at_30) k_) ?_
    show OwnFin p e below s _ _ _ (T1.setTop (mkF m 32 #[.val (.long xx), .second, .val (.int ss), .val (.long w), .second, .val (.int (2 : Int32)), .unset, .unset] [(.int (10 : Int32)), (.int (2 : Int32))]))
    refine own_go (fun t_ k_ => XS.icmpNo X1.here hx rfl (hb hby at_32) rfl (feq (by decide)).1 k_) ?_
    show OwnFin p e below s _ _ _ (T1.setTop (mkF m 35 #[.val (.long xx), .second, .val (.int ss), .val (.long w), .second, .val (.int (2 : Int32)), .unset, .unset] []))
    refine own_go (fun t_ k_ => XS.lloadN X1.here hx rfl (hb hby at_35) rfl k_) ?_
    show OwnFin p e below s _ _ _ (T1.setTop (mkF m 36 #[.val (.long xx), .second, .val (.int ss), .val (.long w), .second, .val (.int (2 : Int32)), .unset, .unset] [(.long w)]))
    refine own_go (fun t_ k_ => XS.bipush X1.here hx rfl (hb hby at_36) k_) ?_
    show OwnFin p e below s _ _ _ (T1.setTop (mkF m 38 #[.val (.long xx), .second, .val (.int ss), .val (.long w), .second, .val (.int (2 : Int32)), .unset, .unset] [(.int (7 : Int32)), (.long w)]))
    refine own_go (fun t_ k_ => XS.iload X1.here hx rfl (hb hby at_38) rfl k_) ?_
    show OwnFin p e below s _ _ _ (T1.setTop (mkF m 40 #[.val (.long xx), .second, .val (.int ss), .val (.long w), .second, .val (.int (2 : Int32)), .unset, .unset] [(.int (2 : Int32)), (.int (7 : Int32)), (.long w)]))
    refine own_go (fun t_ k_ => XS.imul X1.here hx rfl (hb hby at_40) rfl k_) ?_
    show OwnFin p e below s _ _ _ (T1.setTop (mkF m 41 #[.val (.long xx), .second, .val (.int ss), .val (.long w), .second, .val (.int (2 : Int32)), .unset, .unset] [(.int ((7 : Int32) * (2 : Int32))), (.long w)]))
    refine own_go (fun t_ k_ => XS.lushr X1.here hx rfl (hb hby at_41) rfl k_) ?_
    show OwnFin p e below s _ _ _ (T1.setTop (mkF m 42 #[.val (.long xx), .second, .val (.int ss), .val (.long w), .second, .val (.int (2 : Int32)), .unset, .unset] [(.long ((w.toUInt64 >>> (((7 : Int32) * (2 : Int32)) &&& 0x3f).toInt64.toUInt64).toInt64))]))
    refine own_go (fun t_ k_ => XS.lconst X1.here hx rfl (hb hby at_42) k_) ?_
    show OwnFin p e below s _ _ _ (T1.setTop (mkF m 43 #[.val (.long xx), .second, .val (.int ss), .val (.long w), .second, .val (.int (2 : Int32)), .unset, .unset] [(.long (0 : Int64)), (.long ((w.toUInt64 >>> (((7 : Int32) * (2 : Int32)) &&& 0x3f).toInt64.toUInt64).toInt64))]))
    refine own_go (fun t_ k_ => XS.lcmp X1.here hx rfl (hb hby at_43) rfl k_) ?_
    show OwnFin p e below s _ _ _ (T1.setTop (mkF m 44 #[.val (.long xx), .second, .val (.int ss), .val (.long w), .second, .val (.int (2 : Int32)), .unset, .unset] [(.int (lcmpW ((w.toUInt64 >>> (((7 : Int32) * (2 : Int32)) &&& 0x3f).toInt64.toUInt64).toInt64) (0 : Int64)))]))
    have hc44 : ((w.toUInt64 >>> (((7 : Int32) * (2 : Int32)) &&& 0x3f).toInt64.toUInt64).toInt64) = (0 : Int64) := (own_ush0 w (n := (((7 : Int32) * (2 : Int32)) &&& 0x3f).toInt64.toUInt64) (k := 14) (by decide) (by decide)).mpr (by have hP : (2 : Nat) ^ 14 = 16384 := (by decide); rw [hP]; omega)
    refine own_go (fun t_ k_ => XS.ifNo X1.here hx rfl (hb hby at_44) rfl ((if0 _ _).trans (teq ((lw_eq ((w.toUInt64 >>> (((7 : Int32) * (2 : Int32)) &&& 0x3f).toInt64.toUInt64).toInt64) (0 : Int64)).mpr hc44)).2) k_) ?_
    show OwnFin p e below s _ _ _ (T1.setTop (mkF m 47 #[.val (.long xx), .second, .val (.int ss), .val (.long w), .second, .val (.int (2 : Int32)), .unset, .unset] []))
    refine own_go (fun t_ k_ => XS.iconst X1.here hx rfl (hb hby at_47) k_) ?_
    show OwnFin p e below s _ _ _ (T1.setTop (mkF m 48 #[.val (.long xx), .second, .val (.int ss), .val (.long w), .second, .val (.int (2 : Int32)), .unset, .unset] [(.int (1 : Int32))]))
    refine own_go (fun t_ k_ => XS.goto X1.here hx rfl (pc0 := 48) (pc' := 52) rfl (hb hby at_48) (by decide) (by decide) k_) ?_
    show OwnFin p e below s _ _ _ (T1.setTop (mkF m 52 #[.val (.long xx), .second, .val (.int ss), .val (.long w), .second, .val (.int (2 : Int32)), .unset, .unset] [(.int (1 : Int32))]))
    refine own_go (fun t_ k_ => XS.istore X1.here hx rfl (hb hby at_52) rfl (l' := #[.val (.long xx), .second, .val (.int ss), .val (.long w), .second, .val (.int (2 : Int32)), .val (.int (1 : Int32)), .unset]) rfl k_) ?_
    show OwnFin p e below s _ _ _ (T1.setTop (mkF m 54 #[.val (.long xx), .second, .val (.int ss), .val (.long w), .second, .val (.int (2 : Int32)), .val (.int (1 : Int32)), .unset] []))
    refine own_go (fun t_ k_ => XS.iload X1.here hx rfl (hb hby at_54) rfl k_) ?_
    show OwnFin p e below s _ _ _ (T1.setTop (mkF m 56 #[.val (.long xx), .second, .val (.int ss), .val (.long w), .second, .val (.int (2 : Int32)), .val (.int (1 : Int32)), .unset] [(.int (2 : Int32))]))
    refine own_go (fun t_ k_ => XS.iconst X1.here hx rfl (hb hby at_56) k_) ?_
    show OwnFin p e below s _ _ _ (T1.setTop (mkF m 57 #[.val (.long xx), .second, .val (.int ss), .val (.long w), .second, .val (.int (2 : Int32)), .val (.int (1 : Int32)), .unset] [(.int (1 : Int32)), (.int (2 : Int32))]))
    refine own_go (fun t_ k_ => XS.icmpNo X1.here hx rfl (hb hby at_57) rfl (feq (by decide)).1 k_) ?_
    show OwnFin p e below s _ _ _ (T1.setTop (mkF m 60 #[.val (.long xx), .second, .val (.int ss), .val (.long w), .second, .val (.int (2 : Int32)), .val (.int (1 : Int32)), .unset] []))
    refine own_go (fun t_ k_ => XS.lloadN X1.here hx rfl (hb hby at_60) rfl k_) ?_
    show OwnFin p e below s _ _ _ (T1.setTop (mkF m 61 #[.val (.long xx), .second, .val (.int ss), .val (.long w), .second, .val (.int (2 : Int32)), .val (.int (1 : Int32)), .unset] [(.long w)]))
    refine own_go (fun t_ k_ => XS.bipush X1.here hx rfl (hb hby at_61) k_) ?_
    show OwnFin p e below s _ _ _ (T1.setTop (mkF m 63 #[.val (.long xx), .second, .val (.int ss), .val (.long w), .second, .val (.int (2 : Int32)), .val (.int (1 : Int32)), .unset] [(.int (7 : Int32)), (.long w)]))
    refine own_go (fun t_ k_ => XS.iload X1.here hx rfl (hb hby at_63) rfl k_) ?_
    show OwnFin p e below s _ _ _ (T1.setTop (mkF m 65 #[.val (.long xx), .second, .val (.int ss), .val (.long w), .second, .val (.int (2 : Int32)), .val (.int (1 : Int32)), .unset] [(.int (2 : Int32)), (.int (7 : Int32)), (.long w)]))
    refine own_go (fun t_ k_ => XS.iconst X1.here hx rfl (hb hby at_65) k_) ?_
    show OwnFin p e below s _ _ _ (T1.setTop (mkF m 66 #[.val (.long xx), .second, .val (.int ss), .val (.long w), .second, .val (.int (2 : Int32)), .val (.int (1 : Int32)), .unset] [(.int (1 : Int32)), (.int (2 : Int32)), (.int (7 : Int32)), (.long w)]))
    refine own_go (fun t_ k_ => XS.isub X1.here hx rfl (hb hby at_66) rfl k_) ?_
    show OwnFin p e below s _ _ _ (T1.setTop (mkF m 67 #[.val (.long xx), .second, .val (.int ss), .val (.long w), .second, .val (.int (2 : Int32)), .val (.int (1 : Int32)), .unset] [(.int ((2 : Int32) - (1 : Int32))), (.int (7 : Int32)), (.long w)]))
    refine own_go (fun t_ k_ => XS.imul X1.here hx rfl (hb hby at_67) rfl k_) ?_
    show OwnFin p e below s _ _ _ (T1.setTop (mkF m 68 #[.val (.long xx), .second, .val (.int ss), .val (.long w), .second, .val (.int (2 : Int32)), .val (.int (1 : Int32)), .unset] [(.int ((7 : Int32) * ((2 : Int32) - (1 : Int32)))), (.long w)]))
    refine own_go (fun t_ k_ => XS.lushr X1.here hx rfl (hb hby at_68) rfl k_) ?_
    show OwnFin p e below s _ _ _ (T1.setTop (mkF m 69 #[.val (.long xx), .second, .val (.int ss), .val (.long w), .second, .val (.int (2 : Int32)), .val (.int (1 : Int32)), .unset] [(.long ((w.toUInt64 >>> (((7 : Int32) * ((2 : Int32) - (1 : Int32))) &&& 0x3f).toInt64.toUInt64).toInt64))]))
    refine own_go (fun t_ k_ => XS.lconst X1.here hx rfl (hb hby at_69) k_) ?_
    show OwnFin p e below s _ _ _ (T1.setTop (mkF m 70 #[.val (.long xx), .second, .val (.int ss), .val (.long w), .second, .val (.int (2 : Int32)), .val (.int (1 : Int32)), .unset] [(.long (0 : Int64)), (.long ((w.toUInt64 >>> (((7 : Int32) * ((2 : Int32) - (1 : Int32))) &&& 0x3f).toInt64.toUInt64).toInt64))]))
    refine own_go (fun t_ k_ => XS.lcmp X1.here hx rfl (hb hby at_70) rfl k_) ?_
    show OwnFin p e below s _ _ _ (T1.setTop (mkF m 71 #[.val (.long xx), .second, .val (.int ss), .val (.long w), .second, .val (.int (2 : Int32)), .val (.int (1 : Int32)), .unset] [(.int (lcmpW ((w.toUInt64 >>> (((7 : Int32) * ((2 : Int32) - (1 : Int32))) &&& 0x3f).toInt64.toUInt64).toInt64) (0 : Int64)))]))
    have hc71 : ¬ (((w.toUInt64 >>> (((7 : Int32) * ((2 : Int32) - (1 : Int32))) &&& 0x3f).toInt64.toUInt64).toInt64) = (0 : Int64)) := fun q => by have q' := (own_ush0 w (n := (((7 : Int32) * ((2 : Int32) - (1 : Int32))) &&& 0x3f).toInt64.toUInt64) (k := 7) (by decide) (by decide)).mp q; have hP : (2 : Nat) ^ 7 = 128 := (by decide); rw [hP] at q'; omega
    refine own_go (fun t_ k_ => XS.ifNo X1.here hx rfl (hb hby at_71) rfl ((if0 _ _).trans (feq (mt (lw_eq ((w.toUInt64 >>> (((7 : Int32) * ((2 : Int32) - (1 : Int32))) &&& 0x3f).toInt64.toUInt64).toInt64) (0 : Int64)).mp hc71)).1) k_) ?_
    show OwnFin p e below s _ _ _ (T1.setTop (mkF m 74 #[.val (.long xx), .second, .val (.int ss), .val (.long w), .second, .val (.int (2 : Int32)), .val (.int (1 : Int32)), .unset] []))
    refine own_go (fun t_ k_ => XS.iconst X1.here hx rfl (hb hby at_74) k_) ?_
    show OwnFin p e below s _ _ _ (T1.setTop (mkF m 75 #[.val (.long xx), .second, .val (.int ss), .val (.long w), .second, .val (.int (2 : Int32)), .val (.int (1 : Int32)), .unset] [(.int (1 : Int32))]))
    refine own_go (fun t_ k_ => XS.goto X1.here hx rfl (pc0 := 75) (pc' := 79) rfl (hb hby at_75) (by decide) (by decide) k_) ?_
    show OwnFin p e below s _ _ _ (T1.setTop (mkF m 79 #[.val (.long xx), .second, .val (.int ss), .val (.long w), .second, .val (.int (2 : Int32)), .val (.int (1 : Int32)), .unset] [(.int (1 : Int32))]))
    refine own_go (fun t_ k_ => XS.istore X1.here hx rfl (hb hby at_79) rfl (l' := #[.val (.long xx), .second, .val (.int ss), .val (.long w), .second, .val (.int (2 : Int32)), .val (.int (1 : Int32)), .val (.int (1 : Int32))]) rfl k_) ?_
    show OwnFin p e below s _ _ _ (T1.setTop (mkF m 81 #[.val (.long xx), .second, .val (.int ss), .val (.long w), .second, .val (.int (2 : Int32)), .val (.int (1 : Int32)), .val (.int (1 : Int32))] []))
    refine own_go (fun t_ k_ => XS.iload X1.here hx rfl (hb hby at_81) rfl k_) ?_
    show OwnFin p e below s _ _ _ (T1.setTop (mkF m 83 #[.val (.long xx), .second, .val (.int ss), .val (.long w), .second, .val (.int (2 : Int32)), .val (.int (1 : Int32)), .val (.int (1 : Int32))] [(.int (1 : Int32))]))
    refine own_go (fun t_ k_ => XS.ifNo X1.here hx rfl (hb hby at_83) rfl ((if0 _ _).trans (feq (by decide)).1) k_) ?_
    show OwnFin p e below s _ _ _ (T1.setTop (mkF m 86 #[.val (.long xx), .second, .val (.int ss), .val (.long w), .second, .val (.int (2 : Int32)), .val (.int (1 : Int32)), .val (.int (1 : Int32))] []))
    refine own_go (fun t_ k_ => XS.iload X1.here hx rfl (hb hby at_86) rfl k_) ?_
    show OwnFin p e below s _ _ _ (T1.setTop (mkF m 88 #[.val (.long xx), .second, .val (.int ss), .val (.long w), .second, .val (.int (2 : Int32)), .val (.int (1 : Int32)), .val (.int (1 : Int32))] [(.int (1 : Int32))]))
    refine own_go (fun t_ k_ => XS.ifNo X1.here hx rfl (hb hby at_88) rfl ((if0 _ _).trans (feq (by decide)).1) k_) ?_
    show OwnFin p e below s _ _ _ (T1.setTop (mkF m 91 #[.val (.long xx), .second, .val (.int ss), .val (.long w), .second, .val (.int (2 : Int32)), .val (.int (1 : Int32)), .val (.int (1 : Int32))] []))
    refine own_go (fun t_ k_ => XS.iconst X1.here hx rfl (hb hby at_91) k_) ?_
    show OwnFin p e below s _ _ _ (T1.setTop (mkF m 92 #[.val (.long xx), .second, .val (.int ss), .val (.long w), .second, .val (.int (2 : Int32)), .val (.int (1 : Int32)), .val (.int (1 : Int32))] [(.int (1 : Int32))]))
    refine own_go (fun t_ k_ => XS.goto X1.here hx rfl (pc0 := 92) (pc' := 96) rfl (hb hby at_92) (by decide) (by decide) k_) ?_
    show OwnFin p e below s _ _ _ (T1.setTop (mkF m 96 #[.val (.long xx), .second, .val (.int ss), .val (.long w), .second, .val (.int (2 : Int32)), .val (.int (1 : Int32)), .val (.int (1 : Int32))] [(.int (1 : Int32))]))
    refine own_ret X1 (v := some (.int (1 : Int32))) hlk (fun hh => by rw [hret] at hh; cases hh) (fun fs hr => retN X1 hx (t := .boolean) hret (by simp) (hb hby at_96) hr) (by decide) (by decide) ?_
    exact ⟨rfl, N1⟩
  · show OwnFin p e below s _ _ _ (T1.setTop (mkF m 13 #[.val (.long xx), .second, .val (.int ss), .val (.long w), .second, .val (.int (3 : Int32)), .unset, .unset] []))
    refine own_go (fun t_ k_ => XS.iload X1.here hx rfl (hb hby at_13) rfl k_) ?_
    show OwnFin p e below s _ _ _ (T1.setTop (mkF m 15 #[.val (.long xx), .second, .val (.int ss), .val (.long w), .second, .val (.int (3 : Int32)), .unset, .unset] [(.int (3 : Int32))]))
    refine own_go (fun t_ k_ => XS.iconst X1.here hx rfl (hb hby at_15) k_) ?_
    show OwnFin p e below s _ _ _ (T1.setTop (mkF m 16 #[.val (.long xx), .second, .val (.int ss), .val (.long w), .second, .val (.int (3 : Int32)), .unset, .unset] [(.int (1 : Int32)), (.int (3 : Int32))]))
    refine own_go (fun t_ k_ => XS.icmpNo X1.here hx rfl (hb hby at_16) rfl (flt (by decide)).1 k_) ?_
    show OwnFin p e below s _ _ _ (T1.setTop (mkF m 19 #[.val (.long xx), .second, .val (.int ss), .val (.long w), .second, .val (.int (3 : Int32)), .unset, .unset] []))
    refine own_go (fun t_ k_ => XS.iload X1.here hx rfl (hb hby at_19) rfl k_) ?_
    show OwnFin p e below s _ _ _ (T1.setTop (mkF m 21 #[.val (.long xx), .second, .val (.int ss), .val (.long w), .second, .val (.int (3 : Int32)), .unset, .unset] [(.int (3 : Int32))]))
    refine own_go (fun t_ k_ => XS.bipush X1.here hx rfl (hb hby at_21) k_) ?_
    show OwnFin p e below s _ _ _ (T1.setTop (mkF m 23 #[.val (.long xx), .second, .val (.int ss), .val (.long w), .second, .val (.int (3 : Int32)), .unset, .unset] [(.int (10 : Int32)), (.int (3 : Int32))]))
    refine own_go (fun t_ k_ => XS.icmpYes X1.here hx rfl (pc0 := 23) (pc' := 28) rfl (hb hby at_23) rfl (flt (by decide)).2.2.2 (by decide) (by decide) k_) ?_
    show OwnFin p e below s _ _ _ (T1.setTop (mkF m 28 #[.val (.long xx), .second, .val (.int ss), .val (.long w), .second, .val (.int (3 : Int32)), .unset, .unset] []))
    refine own_go (fun t_ k_ => XS.iload X1.here hx rfl (hb hby at_28) rfl k_) ?_
    show OwnFin p e below s _ _ _ (T1.setTop (mkF m 30 #[.val (.long xx), .second, .val (.int ss), .val (.long w), .second, .val (.int (3 : Int32)), .unset, .unset] [(.int (3 : Int32))]))
    refine own_go (fun t_ k_ => XS.bipush X1.here hx rfl (hb hby at_30) k_) ?_
    show OwnFin p e below s _ _ _ (T1.setTop (mkF m 32 #[.val (.long xx), .second, .val (.int ss), .val (.long w), .second, .val (.int (3 : Int32)), .unset, .unset] [(.int (10 : Int32)), (.int (3 : Int32))]))
    refine own_go (fun t_ k_ => XS.icmpNo X1.here hx rfl (hb hby at_32) rfl (feq (by decide)).1 k_) ?_
    show OwnFin p e below s _ _ _ (T1.setTop (mkF m 35 #[.val (.long xx), .second, .val (.int ss), .val (.long w), .second, .val (.int (3 : Int32)), .unset, .unset] []))
    refine own_go (fun t_ k_ => XS.lloadN X1.here hx rfl (hb hby at_35) rfl k_) ?_
    show OwnFin p e below s _ _ _ (T1.setTop (mkF m 36 #[.val (.long xx), .second, .val (.int ss), .val (.long w), .second, .val (.int (3 : Int32)), .unset, .unset] [(.long w)]))
    refine own_go (fun t_ k_ => XS.bipush X1.here hx rfl (hb hby at_36) k_) ?_
    show OwnFin p e below s _ _ _ (T1.setTop (mkF m 38 #[.val (.long xx), .second, .val (.int ss), .val (.long w), .second, .val (.int (3 : Int32)), .unset, .unset] [(.int (7 : Int32)), (.long w)]))
    refine own_go (fun t_ k_ => XS.iload X1.here hx rfl (hb hby at_38) rfl k_) ?_
    show OwnFin p e below s _ _ _ (T1.setTop (mkF m 40 #[.val (.long xx), .second, .val (.int ss), .val (.long w), .second, .val (.int (3 : Int32)), .unset, .unset] [(.int (3 : Int32)), (.int (7 : Int32)), (.long w)]))
    refine own_go (fun t_ k_ => XS.imul X1.here hx rfl (hb hby at_40) rfl k_) ?_
    show OwnFin p e below s _ _ _ (T1.setTop (mkF m 41 #[.val (.long xx), .second, .val (.int ss), .val (.long w), .second, .val (.int (3 : Int32)), .unset, .unset] [(.int ((7 : Int32) * (3 : Int32))), (.long w)]))
    refine own_go (fun t_ k_ => XS.lushr X1.here hx rfl (hb hby at_41) rfl k_) ?_
    show OwnFin p e below s _ _ _ (T1.setTop (mkF m 42 #[.val (.long xx), .second, .val (.int ss), .val (.long w), .second, .val (.int (3 : Int32)), .unset, .unset] [(.long ((w.toUInt64 >>> (((7 : Int32) * (3 : Int32)) &&& 0x3f).toInt64.toUInt64).toInt64))]))
    refine own_go (fun t_ k_ => XS.lconst X1.here hx rfl (hb hby at_42) k_) ?_
    show OwnFin p e below s _ _ _ (T1.setTop (mkF m 43 #[.val (.long xx), .second, .val (.int ss), .val (.long w), .second, .val (.int (3 : Int32)), .unset, .unset] [(.long (0 : Int64)), (.long ((w.toUInt64 >>> (((7 : Int32) * (3 : Int32)) &&& 0x3f).toInt64.toUInt64).toInt64))]))
    refine own_go (fun t_ k_ => XS.lcmp X1.here hx rfl (hb hby at_43) rfl k_) ?_
    show OwnFin p e below s _ _ _ (T1.setTop (mkF m 44 #[.val (.long xx), .second, .val (.int ss), .val (.long w), .second, .val (.int (3 : Int32)), .unset, .unset] [(.int (lcmpW ((w.toUInt64 >>> (((7 : Int32) * (3 : Int32)) &&& 0x3f).toInt64.toUInt64).toInt64) (0 : Int64)))]))
    have hc44 : ((w.toUInt64 >>> (((7 : Int32) * (3 : Int32)) &&& 0x3f).toInt64.toUInt64).toInt64) = (0 : Int64) := (own_ush0 w (n := (((7 : Int32) * (3 : Int32)) &&& 0x3f).toInt64.toUInt64) (k := 21) (by decide) (by decide)).mpr (by have hP : (2 : Nat) ^ 21 = 2097152 := (by decide); rw [hP]; omega)
    refine own_go (fun t_ k_ => XS.ifNo X1.here hx rfl (hb hby at_44) rfl ((if0 _ _).trans (teq ((lw_eq ((w.toUInt64 >>> (((7 : Int32) * (3 : Int32)) &&& 0x3f).toInt64.toUInt64).toInt64) (0 : Int64)).mpr hc44)).2) k_) ?_
    show OwnFin p e below s _ _ _ (T1.setTop (mkF m 47 #[.val (.long xx), .second, .val (.int ss), .val (.long w), .second, .val (.int (3 : Int32)), .unset, .unset] []))
    refine own_go (fun t_ k_ => XS.iconst X1.here hx rfl (hb hby at_47) k_) ?_
    show OwnFin p e below s _ _ _ (T1.setTop (mkF m 48 #[.val (.long xx), .second, .val (.int ss), .val (.long w), .second, .val (.int (3 : Int32)), .unset, .unset] [(.int (1 : Int32))]))
    refine own_go (fun t_ k_ => XS.goto X1.here hx rfl (pc0 := 48) (pc' := 52) rfl (hb hby at_48) (by decide) (by decide) k_) ?_
    show OwnFin p e below s _ _ _ (T1.setTop (mkF m 52 #[.val (.long xx), .second, .val (.int ss), .val (.long w), .second, .val (.int (3 : Int32)), .unset, .unset] [(.int (1 : Int32))]))
    refine own_go (fun t_ k_ => XS.istore X1.here hx rfl (hb hby at_52) rfl (l' := #[.val (.long xx), .second, .val (.int ss), .val (.long w), .second, .val (.int (3 : Int32)), .val (.int (1 : Int32)), .unset]) rfl k_) ?_
    show OwnFin p e below s _ _ _ (T1.setTop (mkF m 54 #[.val (.long xx), .second, .val (.int ss), .val (.long w), .second, .val (.int (3 : Int32)), .val (.int (1 : Int32)), .unset] []))
    refine own_go (fun t_ k_ => XS.iload X1.here hx rfl (hb hby at_54) rfl k_) ?_
    show OwnFin p e below s _ _ _ (T1.setTop (mkF m 56 #[.val (.long xx), .second, .val (.int ss), .val (.long w), .second, .val (.int (3 : Int32)), .val (.int (1 : Int32)), .unset] [(.int (3 : Int32))]))
    refine own_go (fun t_ k_ => XS.iconst X1.here hx rfl (hb hby at_56) k_) ?_
    show OwnFin p e below s _ _ _ (T1.setTop (mkF m 57 #[.val (.long xx), .second, .val (.int ss), .val (.long w), .second, .val (.int (3 : Int32)), .val (.int (1 : Int32)), .unset] [(.int (1 : Int32)), (.int (3 : Int32))]))
    refine own_go (fun t_ k_ => XS.icmpNo X1.here hx rfl (hb hby at_57) rfl (feq (by decide)).1 k_) ?_
    show OwnFin p e below s _ _ _ (T1.setTop (mkF m 60 #[.val (.long xx), .second, .val (.int ss), .val (.long w), .second, .val (.int (3 : Int32)), .val (.int (1 : Int32)), .unset] []))
    refine own_go (fun t_ k_ => XS.lloadN X1.here hx rfl (hb hby at_60) rfl k_) ?_
    show OwnFin p e below s _ _ _ (T1.setTop (mkF m 61 #[.val (.long xx), .second, .val (.int ss), .val (.long w), .second, .val (.int (3 : Int32)), .val (.int (1 : Int32)), .unset] [(.long w)]))
    refine own_go (fun t_ k_ => XS.bipush X1.here hx rfl (hb hby at_61) k_) ?_
    show OwnFin p e below s _ _ _ (T1.setTop (mkF m 63 #[.val (.long xx), .second, .val (.int ss), .val (.long w), .second, .val (.int (3 : Int32)), .val (.int (1 : Int32)), .unset] [(.int (7 : Int32)), (.long w)]))
    refine own_go (fun t_ k_ => XS.iload X1.here hx rfl (hb hby at_63) rfl k_) ?_
    show OwnFin p e below s _ _ _ (T1.setTop (mkF m 65 #[.val (.long xx), .second, .val (.int ss), .val (.long w), .second, .val (.int (3 : Int32)), .val (.int (1 : Int32)), .unset] [(.int (3 : Int32)), (.int (7 : Int32)), (.long w)]))
    refine own_go (fun t_ k_ => XS.iconst X1.here hx rfl (hb hby at_65) k_) ?_
    show OwnFin p e below s _ _ _ (T1.setTop (mkF m 66 #[.val (.long xx), .second, .val (.int ss), .val (.long w), .second, .val (.int (3 : Int32)), .val (.int (1 : Int32)), .unset] [(.int (1 : Int32)), (.int (3 : Int32)), (.int (7 : Int32)), (.long w)]))
    refine own_go (fun t_ k_ => XS.isub X1.here hx rfl (hb hby at_66) rfl k_) ?_
    show OwnFin p e below s _ _ _ (T1.setTop (mkF m 67 #[.val (.long xx), .second, .val (.int ss), .val (.long w), .second, .val (.int (3 : Int32)), .val (.int (1 : Int32)), .unset] [(.int ((3 : Int32) - (1 : Int32))), (.int (7 : Int32)), (.long w)]))
    refine own_go (fun t_ k_ => XS.imul X1.here hx rfl (hb hby at_67) rfl k_) ?_
    show OwnFin p e below s _ _ _ (T1.setTop (mkF m 68 #[.val (.long xx), .second, .val (.int ss), .val (.long w), .second, .val (.int (3 : Int32)), .val (.int (1 : Int32)), .unset] [(.int ((7 : Int32) * ((3 : Int32) - (1 : Int32)))), (.long w)]))
    refine own_go (fun t_ k_ => XS.lushr X1.here hx rfl (hb hby at_68) rfl k_) ?_
    show OwnFin p e below s _ _ _ (T1.setTop (mkF m 69 #[.val (.long xx), .second, .val (.int ss), .val (.long w), .second, .val (.int (3 : Int32)), .val (.int (1 : Int32)), .unset] [(.long ((w.toUInt64 >>> (((7 : Int32) * ((3 : Int32) - (1 : Int32))) &&& 0x3f).toInt64.toUInt64).toInt64))]))
    refine own_go (fun t_ k_ => XS.lconst X1.here hx rfl (hb hby at_69) k_) ?_
    show OwnFin p e below s _ _ _ (T1.setTop (mkF m 70 #[.val (.long xx), .second, .val (.int ss), .val (.long w), .second, .val (.int (3 : Int32)), .val (.int (1 : Int32)), .unset] [(.long (0 : Int64)), (.long ((w.toUInt64 >>> (((7 : Int32) * ((3 : Int32) - (1 : Int32))) &&& 0x3f).toInt64.toUInt64).toInt64))]))
    refine own_go (fun t_ k_ => XS.lcmp X1.here hx rfl (hb hby at_70) rfl k_) ?_
    show OwnFin p e below s _ _ _ (T1.setTop (mkF m 71 #[.val (.long xx), .second, .val (.int ss), .val (.long w), .second, .val (.int (3 : Int32)), .val (.int (1 : Int32)), .unset] [(.int (lcmpW ((w.toUInt64 >>> (((7 : Int32) * ((3 : Int32) - (1 : Int32))) &&& 0x3f).toInt64.toUInt64).toInt64) (0 : Int64)))]))
    have hc71 : ¬ (((w.toUInt64 >>> (((7 : Int32) * ((3 : Int32) - (1 : Int32))) &&& 0x3f).toInt64.toUInt64).toInt64) = (0 : Int64)) := fun q => by have q' := (own_ush0 w (n := (((7 : Int32) * ((3 : Int32) - (1 : Int32))) &&& 0x3f).toInt64.toUInt64) (k := 14) (by decide) (by decide)).mp q; have hP : (2 : Nat) ^ 14 = 16384 := (by decide); rw [hP] at q'; omega
    refine own_go (fun t_ k_ => XS.ifNo X1.here hx rfl (hb hby at_71) rfl ((if0 _ _).trans (feq (mt (lw_eq ((w.toUInt64 >>> (((7 : Int32) * ((3 : Int32) - (1 : Int32))) &&& 0x3f).toInt64.toUInt64).toInt64) (0 : Int64)).mp hc71)).1) k_) ?_
    show OwnFin p e below s _ _ _ (T1.setTop (mkF m 74 #[.val (.long xx), .second, .val (.int ss), .val (.long w), .second, .val (.int (3 : Int32)), .val (.int (1 : Int32)), .unset] []))
    refine own_go (fun t_ k_ => XS.iconst X1.here hx rfl (hb hby at_74) k_) ?_
    show OwnFin p e below s _ _ _ (T1.setTop (mkF m 75 #[.val (.long xx), .second, .val (.int ss), .val (.long w), .second, .val (.int (3 : Int32)), .val (.int (1 : Int32)), .unset] [(.int (1 : Int32))]))
    refine own_go (fun t_ k_ => XS.goto X1.here hx rfl (pc0 := 75) (pc' := 79) rfl (hb hby at_75) (by decide) (by decide) k_) ?_
    show OwnFin p e below s _ _ _ (T1.setTop (mkF m 79 #[.val (.long xx), .second, .val (.int ss), .val (.long w), .second, .val (.int (3 : Int32)), .val (.int (1 : Int32)), .unset] [(.int (1 : Int32))]))
    refine own_go (fun t_ k_ => XS.istore X1.here hx rfl (hb hby at_79) rfl (l' := #[.val (.long xx), .second, .val (.int ss), .val (.long w), .second, .val (.int (3 : Int32)), .val (.int (1 : Int32)), .val (.int (1 : Int32))]) rfl k_) ?_
    show OwnFin p e below s _ _ _ (T1.setTop (mkF m 81 #[.val (.long xx), .second, .val (.int ss), .val (.long w), .second, .val (.int (3 : Int32)), .val (.int (1 : Int32)), .val (.int (1 : Int32))] []))
    refine own_go (fun t_ k_ => XS.iload X1.here hx rfl (hb hby at_81) rfl k_) ?_
    show OwnFin p e below s _ _ _ (T1.setTop (mkF m 83 #[.val (.long xx), .second, .val (.int ss), .val (.long w), .second, .val (.int (3 : Int32)), .val (.int (1 : Int32)), .val (.int (1 : Int32))] [(.int (1 : Int32))]))
    refine own_go (fun t_ k_ => XS.ifNo X1.here hx rfl (hb hby at_83) rfl ((if0 _ _).trans (feq (by decide)).1) k_) ?_
    show OwnFin p e below s _ _ _ (T1.setTop (mkF m 86 #[.val (.long xx), .second, .val (.int ss), .val (.long w), .second, .val (.int (3 : Int32)), .val (.int (1 : Int32)), .val (.int (1 : Int32))] []))
    refine own_go (fun t_ k_ => XS.iload X1.here hx rfl (hb hby at_86) rfl k_) ?_
    show OwnFin p e below s _ _ _ (T1.setTop (mkF m 88 #[.val (.long xx), .second, .val (.int ss), .val (.long w), .second, .val (.int (3 : Int32)), .val (.int (1 : Int32)), .val (.int (1 : Int32))] [(.int (1 : Int32))]))
    refine own_go (fun t_ k_ => XS.ifNo X1.here hx rfl (hb hby at_88) rfl ((if0 _ _).trans (feq (by decide)).1) k_) ?_
    show OwnFin p e below s _ _ _ (T1.setTop (mkF m 91 #[.val (.long xx), .second, .val (.int ss), .val (.long w), .second, .val (.int (3 : Int32)), .val (.int (1 : Int32)), .val (.int (1 : Int32))] []))
    refine own_go (fun t_ k_ => XS.iconst X1.here hx rfl (hb hby at_91) k_) ?_
    show OwnFin p e below s _ _ _ (T1.setTop (mkF m 92 #[.val (.long xx), .second, .val (.int ss), .val (.long w), .second, .val (.int (3 : Int32)), .val (.int (1 : Int32)), .val (.int (1 : Int32))] [(.int (1 : Int32))]))
    refine own_go (fun t_ k_ => XS.goto X1.here hx rfl (pc0 := 92) (pc' := 96) rfl (hb hby at_92) (by decide) (by decide) k_) ?_
    show OwnFin p e below s _ _ _ (T1.setTop (mkF m 96 #[.val (.long xx), .second, .val (.int ss), .val (.long w), .second, .val (.int (3 : Int32)), .val (.int (1 : Int32)), .val (.int (1 : Int32))] [(.int (1 : Int32))]))
    refine own_ret X1 (v := some (.int (1 : Int32))) hlk (fun hh => by rw [hret] at hh; cases hh) (fun fs hr => retN X1 hx (t := .boolean) hret (by simp) (hb hby at_96) hr) (by decide) (by decide) ?_
    exact ⟨rfl, N1⟩
  · show OwnFin p e below s _ _ _ (T1.setTop (mkF m 13 #[.val (.long xx), .second, .val (.int ss), .val (.long w), .second, .val (.int (4 : Int32)), .unset, .unset] []))
    refine own_go (fun t_ k_ => XS.iload X1.here hx rfl (hb hby at_13) rfl k_) ?_
    show OwnFin p e below s _ _ _ (T1.setTop (mkF m 15 #[.val (.long xx), .second, .val (.int ss), .val (.long w), .second, .val (.int (4 : Int32)), .unset, .unset] [(.int (4 : Int32))]))
    refine own_go (fun t_ k_ => XS.iconst X1.here hx rfl (hb hby at_15) k_) ?_
    show OwnFin p e below s _ _ _ (T1.setTop (mkF m 16 #[.val (.long xx), .second, .val (.int ss), .val (.long w), .second, .val (.int (4 : Int32)), .unset, .unset] [(.int (1 : Int32)), (.int (4 : Int32))]))
    refine own_go (fun t_ k_ => XS.icmpNo X1.here hx rfl (hb hby at_16) rfl (flt (by decide)).1 k_) ?_
    show OwnFin p e below s _ _ _ (T1.setTop (mkF m 19 #[.val (.long xx), .second, .val (.int ss), .val (.long w), .second, .val (.int (4 : Int32)), .unset, .unset] []))
    refine own_go (fun t_ k_ => XS.iload X1.here hx rfl (hb hby at_19) rfl k_) ?_
    show OwnFin p e below s _ _ _ (T1.setTop (mkF m 21 #[.val (.long xx), .second, .val (.int ss), .val (.long w), .second, .val (.int (4 : Int32)), .unset, .unset] [(.int (4 : Int32))]))
    refine own_go (fun t_ k_ => XS.bipush X1.here hx rfl (hb hby at_21) k_) ?_
    show OwnFin p e below s _ _ _ (T1.setTop (mkF m 23 #[.val (.long xx), .second, .val (.int ss), .val (.long w), .second, .val (.int (4 : Int32)), .unset, .unset] [(.int (10 : Int32)), (.int (4 : Int32))]))
    refine own_go (fun t_ k_ => XS.icmpYes X1.here hx rfl (pc0 := 23) (pc' := 28) rfl (hb hby at_23) rfl (flt (by decide)).2.2.2 (by decide) (by decide) k_) ?_
    show OwnFin p e below s _ _ _ (T1.setTop (mkF m 28 #[.val (.long xx), .second, .val (.int ss), .val (.long w), .second, .val (.int (4 : Int32)), .unset, .unset] []))
    refine own_go (fun t_ k_ => XS.iload X1.here hx rfl (hb hby at_28) rfl k_) ?_
    show OwnFin p e below s _ _ _ (T1.setTop (mkF m 30 #[.val (.long xx), .second, .val (.int ss), .val (.long w), .second, .val (.int (4 : Int32)), .unset, .unset] [(.int (4 : Int32))]))
    refine own_go (fun t_ k_ => XS.bipush X1.here hx rfl (hb hby at_30) k_) ?_
    show OwnFin p e below s _ _ _ (T1.setTop (mkF m 32 #[.val (.long xx), .second, .val (.int ss), .val (.long w), .second, .val (.int (4 : Int32)), .unset, .unset] [(.int (10 : Int32)), (.int (4 : Int32))]))
    refine own_go (fun t_ k_ => XS.icmpNo X1.here hx rfl (hb hby at_32) rfl (feq (by decide)).1 k_) ?_
    show OwnFin p e below s _ _ _ (T1.setTop (mkF m 35 #[.val (.long xx), .second, .val (.int ss), .val (.long w), .second, .val (.int (4 : Int32)), .unset, .unset] []))
    refine own_go (fun t_ k_ => XS.lloadN X1.here hx rfl (hb hby at_35) rfl k_) ?_
    show OwnFin p e below s _ _ _ (T1.setTop (mkF m 36 #[.val (.long xx), .second, .val (.int ss), .val (.long w), .second, .val (.int (4 : Int32)), .unset, .unset] [(.long w)]))
    refine own_go (fun t_ k_ => XS.bipush X1.here hx rfl (hb hby at_36) k_) ?_
    show OwnFin p e below s _ _ _ (T1.setTop (mkF m 38 #[.val (.long xx), .second, .val (.int ss), .val (.long w), .second, .val (.int (4 : Int32)), .unset, .unset] [(.int (7 : Int32)), (.long w)]))
    refine own_go (fun t_ k_ => XS.iload X1.here hx rfl (hb hby at_38) rfl k_) ?_
    show OwnFin p e below s _ _ _ (T1.setTop (mkF m 40 #[.val (.long xx), .second, .val (.int ss), .val (.long w), .second, .val (.int (4 : Int32)), .unset, .unset] [(.int (4 : Int32)), (.int (7 : Int32)), (.long w)]))
    refine own_go (fun t_ k_ => XS.imul X1.here hx rfl (hb hby at_40) rfl k_) ?_
    show OwnFin p e below s _ _ _ (T1.setTop (mkF m 41 #[.val (.long xx), .second, .val (.int ss), .val (.long w), .second, .val (.int (4 : Int32)), .unset, .unset] [(.int ((7 : Int32) * (4 : Int32))), (.long w)]))
    refine own_go (fun t_ k_ => XS.lushr X1.here hx rfl (hb hby at_41) rfl k_) ?_
    show OwnFin p e below s _ _ _ (T1.setTop (mkF m 42 #[.val (.long xx), .second, .val (.int ss), .val (.long w), .second, .val (.int (4 : Int32)), .unset, .unset] [(.long ((w.toUInt64 >>> (((7 : Int32) * (4 : Int32)) &&& 0x3f).toInt64.toUInt64).toInt64))]))
    refine own_go (fun t_ k_ => XS.lconst X1.here hx rfl (hb hby at_42) k_) ?_
    show OwnFin p e below s _ _ _ (T1.setTop (mkF m 43 #[.val (.long xx), .second, .val (.int ss), .val (.long w), .second, .val (.int (4 : Int32)), .unset, .unset] [(.long (0 : Int64)), (.long ((w.toUInt64 >>> (((7 : Int32) * (4 : Int32)) &&& 0x3f).toInt64.toUInt64).toInt64))]))
    refine own_go (fun t_ k_ => XS.lcmp X1.here hx rfl (hb hby at_43) rfl k_) ?_
    show OwnFin p e below s _ _ _ (T1.setTop (mkF m 44 #[.val (.long xx), .second, .val (.int ss), .val (.long w), .second, .val (.int (4 : Int32)), .unset, .unset] [(.int (lcmpW ((w.toUInt64 >>> (((7 : Int32) * (4 : Int32)) &&& 0x3f).toInt64.toUInt64).toInt64) (0 : Int64)))]))
    have hc44 : ((w.toUInt64 >>> (((7 : Int32) * (4 : Int32)) &&& 0x3f).toInt64.toUInt64).toInt64) = (0 : Int64) := (own_ush0 w (n := (((7 : Int32) * (4 : Int32)) &&& 0x3f).toInt64.toUInt64) (k := 28) (by decide) (by decide)).mpr (by have hP : (2 : Nat) ^ 28 = 268435456 := (by decide); rw [hP]; omega)
    refine own_go (fun t_ k_ => XS.ifNo X1.here hx rfl (hb hby at_44) rfl ((if0 _ _).trans (teq ((lw_eq ((w.toUInt64 >>> (((7 : Int32) * (4 : Int32)) &&& 0x3f).toInt64.toUInt64).toInt64) (0 : Int64)).mpr hc44)).2) k_) ?_
    show OwnFin p e below s _ _ _ (T1.setTop (mkF m 47 #[.val (.long xx), .second, .val (.int ss), .val (.long w), .second, .val (.int (4 : Int32)), .unset, .unset] []))
    refine own_go (fun t_ k_ => XS.iconst X1.here hx rfl (hb hby at_47) k_) ?_
    show OwnFin p e below s _ _ _ (T1.setTop (mkF m 48 #[.val (.long xx), .second, .val (.int ss), .val (.long w), .second, .val (.int (4 : Int32)), .unset, .unset] [(.int (1 : Int32))]))
    refine own_go (fun t_ k_ => XS.goto X1.here hx rfl (pc0 := 48) (pc' := 52) rfl (hb hby at_48) (by decide) (by decide) k_) ?_
    show OwnFin p e below s _ _ _ (T1.setTop (mkF m 52 #[.val (.long xx), .second, .val (.int ss), .val (.long w), .second, .val (.int (4 : Int32)), .unset, .unset] [(.int (1 : Int32))]))
    refine own_go (fun t_ k_ => XS.istore X1.here hx rfl (hb hby at_52) rfl (l' := #[.val (.long xx), .second, .val (.int ss), .val (.long w), .second, .val (.int (4 : Int32)), .val (.int (1 : Int32)), .unset]) rfl k_) ?_
    show OwnFin p e below s _ _ _ (T1.setTop (mkF m 54 #[.val (.long xx), .second, .val (.int ss), .val (.long w), .second, .val (.int (4 : Int32)), .val (.int (1 : Int32)), .unset] []))
    refine own_go (fun t_ k_ => XS.iload X1.here hx rfl (hb hby at_54) rfl k_) ?_
    show OwnFin p e below s _ _ _ (T1.setTop (mkF m 56 #[.val (.long xx), .second, .val (.int ss), .val (.long w), .second, .val (.int (4 : Int32)), .val (.int (1 : Int32)), .unset] [(.int (4 : Int32))]))
    refine own_go (fun t_ k_ => XS.iconst X1.here hx rfl (hb hby at_56) k_) ?_
    show OwnFin p e below s _ _ _ (T1.setTop (mkF m 57 #[.val (.long xx), .second, .val (.int ss), .val (.long w), .second, .val (.int (4 : Int32)), .val (.int (1 : Int32)), .unset] [(.int (1 : Int32)), (.int (4 : Int32))]))
    refine own_go (fun t_ k_ => XS.icmpNo X1.here hx rfl (hb hby at_57) rfl (feq (by decide)).1 k_) ?_
    show OwnFin p e below s _ _ _ (T1.setTop (mkF m 60 #[.val (.long xx), .second, .val (.int ss), .val (.long w), .second, .val (.int (4 : Int32)), .val (.int (1 : Int32)), .unset] []))
    refine own_go (fun t_ k_ => XS.lloadN X1.here hx rfl (hb hby at_60) rfl k_) ?_
    show OwnFin p e below s _ _ _ (T1.setTop (mkF m 61 #[.val (.long xx), .second, .val (.int ss), .val (.long w), .second, .val (.int (4 : Int32)), .val (.int (1 : Int32)), .unset] [(.long w)]))
    refine own_go (fun t_ k_ => XS.bipush X1.here hx rfl (hb hby at_61) k_) ?_
    show OwnFin p e below s _ _ _ (T1.setTop (mkF m 63 #[.val (.long xx), .second, .val (.int ss), .val (.long w), .second, .val (.int (4 : Int32)), .val (.int (1 : Int32)), .unset] [(.int (7 : Int32)), (.long w)]))
    refine own_go (fun t_ k_ => XS.iload X1.here hx rfl (hb hby at_63) rfl k_) ?_
    show OwnFin p e below s _ _ _ (T1.setTop (mkF m 65 #[.val (.long xx), .second, .val (.int ss), .val (.long w), .second, .val (.int (4 : Int32)), .val (.int (1 : Int32)), .unset] [(.int (4 : Int32)), (.int (7 : Int32)), (.long w)]))
    refine own_go (fun t_ k_ => XS.iconst X1.here hx rfl (hb hby at_65) k_) ?_
    show OwnFin p e below s _ _ _ (T1.setTop (mkF m 66 #[.val (.long xx), .second, .val (.int ss), .val (.long w), .second, .val (.int (4 : Int32)), .val (.int (1 : Int32)), .unset] [(.int (1 : Int32)), (.int (4 : Int32)), (.int (7 : Int32)), (.long w)]))
    refine own_go (fun t_ k_ => XS.isub X1.here hx rfl (hb hby at_66) rfl k_) ?_
    show OwnFin p e below s _ _ _ (T1.setTop (mkF m 67 #[.val (.long xx), .second, .val (.int ss), .val (.long w), .second, .val (.int (4 : Int32)), .val (.int (1 : Int32)), .unset] [(.int ((4 : Int32) - (1 : Int32))), (.int (7 : Int32)), (.long w)]))
    refine own_go (fun t_ k_ => XS.imul X1.here hx rfl (hb hby at_67) rfl k_) ?_
    show OwnFin p e below s _ _ _ (T1.setTop (mkF m 68 #[.val (.long xx), .second, .val (.int ss), .val (.long w), .second, .val (.int (4 : Int32)), .val (.int (1 : Int32)), .unset] [(.int ((7 : Int32) * ((4 : Int32) - (1 : Int32)))), (.long w)]))
    refine own_go (fun t_ k_ => XS.lushr X1.here hx rfl (hb hby at_68) rfl k_) ?_
    show OwnFin p e below s _ _ _ (T1.setTop (mkF m 69 #[.val (.long xx), .second, .val (.int ss), .val (.long w), .second, .val (.int (4 : Int32)), .val (.int (1 : Int32)), .unset] [(.long ((w.toUInt64 >>> (((7 : Int32) * ((4 : Int32) - (1 : Int32))) &&& 0x3f).toInt64.toUInt64).toInt64))]))
    refine own_go (fun t_ k_ => XS.lconst X1.here hx rfl (hb hby at_69) k_) ?_
    show OwnFin p e below s _ _ _ (T1.setTop (mkF m 70 #[.val (.long xx), .second, .val (.int ss), .val (.long w), .second, .val (.int (4 : Int32)), .val (.int (1 : Int32)), .unset] [(.long (0 : Int64)), (.long ((w.toUInt64 >>> (((7 : Int32) * ((4 : Int32) - (1 : Int32))) &&& 0x3f).toInt64.toUInt64).toInt64))]))
    refine own_go (fun t_ k_ => XS.lcmp X1.here hx rfl (hb hby at_70) rfl k_) ?_
    show OwnFin p e below s _ _ _ (T1.setTop (mkF m 71 #[.val (.long xx), .second, .val (.int ss), .val (.long w), .second, .val (.int (4 : Int32)), .val (.int (1 : Int32)), .unset] [(.int (lcmpW ((w.toUInt64 >>> (((7 : Int32) * ((4 : Int32) - (1 : Int32))) &&& 0x3f).toInt64.toUInt64).toInt64) (0 : Int64)))]))
    have hc71 : ¬ (((w.toUInt64 >>> (((7 : Int32) * ((4 : Int32) - (1 : Int32))) &&& 0x3f).toInt64.toUInt64).toInt64) = (0 : Int64)) := fun q => by have q' := (own_ush0 w (n := (((7 : Int32) * ((4 : Int32) - (1 : Int32))) &&& 0x3f).toInt64.toUInt64) (k := 21) (by decide) (by decide)).mp q; have hP : (2 : Nat) ^ 21 = 2097152 := (by decide); rw [hP] at q'; omega
    refine own_go (fun t_ k_ => XS.ifNo X1.here hx rfl (hb hby at_71) rfl ((if0 _ _).trans (feq (mt (lw_eq ((w.toUInt64 >>> (((7 : Int32) * ((4 : Int32) - (1 : Int32))) &&& 0x3f).toInt64.toUInt64).toInt64) (0 : Int64)).mp hc71)).1) k_) ?_
    show OwnFin p e below s _ _ _ (T1.setTop (mkF m 74 #[.val (.long xx), .second, .val (.int ss), .val (.long w), .second, .val (.int (4 : Int32)), .val (.int (1 : Int32)), .unset] []))
    refine own_go (fun t_ k_ => XS.iconst X1.here hx rfl (hb hby at_74) k_) ?_
    show OwnFin p e below s _ _ _ (T1.setTop (mkF m 75 #[.val (.long xx), .second, .val (.int ss), .val (.long w), .second, .val (.int (4 : Int32)), .val (.int (1 : Int32)), .unset] [(.int (1 : Int32))]))
    refine own_go (fun t_ k_ => XS.goto X1.here hx rfl (pc0 := 75) (pc' := 79) rfl (hb hby at_75) (by decide) (by decide) k_) ?_
    show OwnFin p e below s _ _ _ (T1.setTop (mkF m 79 #[.val (.long xx), .second, .val (.int ss), .val (.long w), .second, .val (.int (4 : Int32)), .val (.int (1 : Int32)), .unset] [(.int (1 : Int32))]))
    refine own_go (fun t_ k_ => XS.istore X1.here hx rfl (hb hby at_79) rfl (l' := #[.val (.long xx), .second, .val (.int ss), .val (.long w), .second, .val (.int (4 : Int32)), .val (.int (1 : Int32)), .val (.int (1 : Int32))]) rfl k_) ?_
    show OwnFin p e below s _ _ _ (T1.setTop (mkF m 81 #[.val (.long xx), .second, .val (.int ss), .val (.long w), .second, .val (.int (4 : Int32)), .val (.int (1 : Int32)), .val (.int (1 : Int32))] []))
    refine own_go (fun t_ k_ => XS.iload X1.here hx rfl (hb hby at_81) rfl k_) ?_
    show OwnFin p e below s _ _ _ (T1.setTop (mkF m 83 #[.val (.long xx), .second, .val (.int ss), .val (.long w), .second, .val (.int (4 : Int32)), .val (.int (1 : Int32)), .val (.int (1 : Int32))] [(.int (1 : Int32))]))
    refine own_go (fun t_ k_ => XS.ifNo X1.here hx rfl (hb hby at_83) rfl ((if0 _ _).trans (feq (by decide)).1) k_) ?_
    show OwnFin p e below s _ _ _ (T1.setTop (mkF m 86 #[.val (.long xx), .second, .val (.int ss), .val (.long w), .second, .val (.int (4 : Int32)), .val (.int (1 : Int32)), .val (.int (1 : Int32))] []))
    refine own_go (fun t_ k_ => XS.iload X1.here hx rfl (hb hby at_86) rfl k_) ?_
    show OwnFin p e below s _ _ _ (T1.setTop (mkF m 88 #[.val (.long xx), .second, .val (.int ss), .val (.long w), .second, .val (.int (4 : Int32)), .val (.int (1 : Int32)), .val (.int (1 : Int32))] [(.int (1 : Int32))]))
    refine own_go (fun t_ k_ => XS.ifNo X1.here hx rfl (hb hby at_88) rfl ((if0 _ _).trans (feq (by decide)).1) k_) ?_
    show OwnFin p e below s _ _ _ (T1.setTop (mkF m 91 #[.val (.long xx), .second, .val (.int ss), .val (.long w), .second, .val (.int (4 : Int32)), .val (.int (1 : Int32)), .val (.int (1 : Int32))] []))
    refine own_go (fun t_ k_ => XS.iconst X1.here hx rfl (hb hby at_91) k_) ?_
    show OwnFin p e below s _ _ _ (T1.setTop (mkF m 92 #[.val (.long xx), .second, .val (.int ss), .val (.long w), .second, .val (.int (4 : Int32)), .val (.int (1 : Int32)), .val (.int (1 : Int32))] [(.int (1 : Int32))]))
    refine own_go (fun t_ k_ => XS.goto X1.here hx rfl (pc0 := 92) (pc' := 96) rfl (hb hby at_92) (by decide) (by decide) k_) ?_
    show OwnFin p e below s _ _ _ (T1.setTop (mkF m 96 #[.val (.long xx), .second, .val (.int ss), .val (.long w), .second, .val (.int (4 : Int32)), .val (.int (1 : Int32)), .val (.int (1 : Int32))] [(.int (1 : Int32))]))
    refine own_ret X1 (v := some (.int (1 : Int32))) hlk (fun hh => by rw [hret] at hh; cases hh) (fun fs hr => retN X1 hx (t := .boolean) hret (by simp) (hb hby at_96) hr) (by decide) (by decide) ?_
    exact ⟨rfl, N1⟩
  · show OwnFin p e below s _ _ _ (T1.setTop (mkF m 13 #[.val (.long xx), .second, .val (.int ss), .val (.long w), .second, .val (.int (5 : Int32)), .unset, .unset] []))
    refine own_go (fun t_ k_ => XS.iload X1.here hx rfl (hb hby at_13) rfl k_) ?_
    show OwnFin p e below s _ _ _ (T1.setTop (mkF m 15 #[.val (.long xx), .second, .val (.int ss), .val (.long w), .second, .val (.int (5 : Int32)), .unset, .unset] [(.int (5 : Int32))]))
    refine own_go (fun t_ k_ => XS.iconst X1.here hx rfl (hb hby at_15) k_) ?_
    show OwnFin p e below s _ _ _ (T1.setTop (mkF m 16 #[.val (.long xx), .second, .val (.int ss), .val (.long w), .second, .val (.int (5 : Int32)), .unset, .unset] [(.int (1 : Int32)), (.int (5 : Int32))]))
    refine own_go (fun t_ k_ => XS.icmpNo X1.here hx rfl (hb hby at_16) rfl (flt (by decide)).1 k_) ?_
    show OwnFin p e below s _ _ _ (T1.setTop (mkF m 19 #[.val (.long xx), .second, .val (.int ss), .val (.long w), .second, .val (.int (5 : Int32)), .unset, .unset] []))
    refine own_go (fun t_ k_ => XS.iload X1.here hx rfl (hb hby at_19) rfl k_) ?_
    show OwnFin p e below s _ _ _ (T1.setTop (mkF m 21 #[.val (.long xx), .second, .val (.int ss), .val (.long w), .second, .val (.int (5 : Int32)), .unset, .unset] [(.int (5 : Int32))]))
    refine own_go (fun t_ k_ => XS.bipush X1.here hx rfl (hb hby at_21) k_) ?_
    show OwnFin p e below s _ _ _ (T1.setTop (mkF m 23 #[.val (.long xx), .second, .val (.int ss), .val (.long w), .second, .val (.int (5 : Int32)), .unset, .unset] [(.int (10 : Int32)), (.int (5 : Int32))]))
    refine own_go (fun t_ k_ => XS.icmpYes X1.here hx rfl (pc0 := 23) (pc' := 28) rfl (hb hby at_23) rfl (flt (by decide)).2.2.2 (by decide) (by decide) k_) ?_
    show OwnFin p e below s _ _ _ (T1.setTop (mkF m 28 #[.val (.long xx), .second, .val (.int ss), .val (.long w), .second, .val (.int (5 : Int32)), .unset, .unset] []))
    refine own_go (fun t_ k_ => XS.iload X1.here hx rfl (hb hby at_28) rfl k_) ?_
    show OwnFin p e below s _ _ _ (T1.setTop (mkF m 30 #[.val (.long xx), .second, .val (.int ss), .val (.long w), .second, .val (.int (5 : Int32)), .unset, .unset] [(.int (5 : Int32))]))
    refine own_go (fun t_ k_ => XS.bipush X1.here hx rfl (hb hby at_30) k_) ?_
    show OwnFin p e below s _ _ _ (T1.setTop (mkF m 32 #[.val (.long xx), .second, .val (.int ss), .val (.long w), .second, .val (.int (5 : Int32)), .unset, .unset] [(.int (10 : Int32)), (.int (5 : Int32))]))
    refine own_go (fun t_ k_ => XS.icmpNo X1.here hx rfl (hb hby at_32) rfl (feq (by decide)).1 k_) ?_
    show OwnFin p e below s _ _ _ (T1.setTop (mkF m 35 #[.val (.long xx), .second, .val (.int ss), .val (.long w), .second, .val (.int (5 : Int32)), .unset, .unset] []))
    refine own_go (fun t_ k_ => XS.lloadN X1.here hx rfl (hb hby at_35) rfl k_) ?_
    show OwnFin p e below s _ _ _ (T1.setTop (mkF m 36 #[.val (.long xx), .second, .val (.int ss), .val (.long w), .second, .val (.int (5 : Int32)), .unset, .unset] [(.long w)]))
    refine own_go (fun t_ k_ => XS.bipush X1.here hx rfl (hb hby at_36) k_) ?_
    show OwnFin p e below s _ _ _ (T1.setTop (mkF m 38 #[.val (.long xx), .second, .val (.int ss), .val (.long w), .second, .val (.int (5 : Int32)), .unset, .unset] [(.int (7 : Int32)), (.long w)]))
    refine own_go (fun t_ k_ => XS.iload X1.here hx rfl (hb hby at_38) rfl k_) ?_
    show OwnFin p e below s _ _ _ (T1.setTop (mkF m 40 #[.val (.long xx), .second, .val (.int ss), .val (.long w), .second, .val (.int (5 : Int32)), .unset, .unset] [(.int (5 : Int32)), (.int (7 : Int32)), (.long w)]))
    refine own_go (fun t_ k_ => XS.imul X1.here hx rfl (hb hby at_40) rfl k_) ?_
    show OwnFin p e below s _ _ _ (T1.setTop (mkF m 41 #[.val (.long xx), .second, .val (.int ss), .val (.long w), .second, .val (.int (5 : Int32)), .unset, .unset] [(.int ((7 : Int32) * (5 : Int32))), (.long w)]))
    refine own_go (fun t_ k_ => XS.lushr X1.here hx rfl (hb hby at_41) rfl k_) ?_
    show OwnFin p e below s _ _ _ (T1.setTop (mkF m 42 #[.val (.long xx), .second, .val (.int ss), .val (.long w), .second, .val (.int (5 : Int32)), .unset, .unset] [(.long ((w.toUInt64 >>> (((7 : Int32) * (5 : Int32)) &&& 0x3f).toInt64.toUInt64).toInt64))]))
    refine own_go (fun t_ k_ => XS.lconst X1.here hx rfl (hb hby at_42) k_) ?_
    show OwnFin p e below s _ _ _ (T1.setTop (mkF m 43 #[.val (.long xx), .second, .val (.int ss), .val (.long w), .second, .val (.int (5 : Int32)), .unset, .unset] [(.long (0 : Int64)), (.long ((w.toUInt64 >>> (((7 : Int32) * (5 : Int32)) &&& 0x3f).toInt64.toUInt64).toInt64))]))
    refine own_go (fun t_ k_ => XS.lcmp X1.here hx rfl (hb hby at_43) rfl k_) ?_
    show OwnFin p e below s _ _ _ (T1.setTop (mkF m 44 #[.val (.long xx), .second, .val (.int ss), .val (.long w), .second, .val (.int (5 : Int32)), .unset, .unset] [(.int (lcmpW ((w.toUInt64 >>> (((7 : Int32) * (5 : Int32)) &&& 0x3f).toInt64.toUInt64).toInt64) (0 : Int64)))]))
    have hc44 : ((w.toUInt64 >>> (((7 : Int32) * (5 : Int32)) &&& 0x3f).toInt64.toUInt64).toInt64) = (0 : Int64) := (own_ush0 w (n := (((7 : Int32) * (5 : Int32)) &&& 0x3f).toInt64.toUInt64) (k := 35) (by decide) (by decide)).mpr (by have hP : (2 : Nat) ^ 35 = 34359738368 := (by decide); rw [hP]; omega)
    refine own_go (fun t_ k_ => XS.ifNo X1.here hx rfl (hb hby at_44) rfl ((if0 _ _).trans (teq ((lw_eq ((w.toUInt64 >>> (((7 : Int32) * (5 : Int32)) &&& 0x3f).toInt64.toUInt64).toInt64) (0 : Int64)).mpr hc44)).2) k_) ?_
    show OwnFin p e below s _ _ _ (T1.setTop (mkF m 47 #[.val (.long xx), .second, .val (.int ss), .val (.long w), .second, .val (.int (5 : Int32)), .unset, .unset] []))
    refine own_go (fun t_ k_ => XS.iconst X1.here hx rfl (hb hby at_47) k_) ?_
    show OwnFin p e below s _ _ _ (T1.setTop (mkF m 48 #[.val (.long xx), .second, .val (.int ss), .val (.long w), .second, .val (.int (5 : Int32)), .unset, .unset] [(.int (1 : Int32))]))
    refine own_go (fun t_ k_ => XS.goto X1.here hx rfl (pc0 := 48) (pc' := 52) rfl (hb hby at_48) (by decide) (by decide) k_) ?_
    show OwnFin p e below s _ _ _ (T1.setTop (mkF m 52 #[.val (.long xx), .second, .val (.int ss), .val (.long w), .second, .val (.int (5 : Int32)), .unset, .unset] [(.int (1 : Int32))]))
    refine own_go (fun t_ k_ => XS.istore X1.here hx rfl (hb hby at_52) rfl (l' := #[.val (.long xx), .second, .val (.int ss), .val (.long w), .second, .val (.int (5 : Int32)), .val (.int (1 : Int32)), .unset]) rfl k_) ?_
    show OwnFin p e below s _ _ _ (T1.setTop (mkF m 54 #[.val (.long xx), .second, .val (.int ss), .val (.long w), .second, .val (.int (5 : Int32)), .val (.int (1 : Int32)), .unset] []))
    refine own_go (fun t_ k_ => XS.iload X1.here hx rfl (hb hby at_54) rfl k_) ?_
    show OwnFin p e below s _ _ _ (T1.setTop (mkF m 56 #[.val (.long xx), .second, .val (.int ss), .val (.long w), .second, .val (.int (5 : Int32)), .val (.int (1 : Int32)), .unset] [(.int (5 : Int32))]))
    refine own_go (fun t_ k_ => XS.iconst X1.here hx rfl (hb hby at_56) k_) ?_
    show OwnFin p e below s _ _ _ (T1.setTop (mkF m 57 #[.val (.long xx), .second, .val (.int ss), .val (.long w), .second, .val (.int (5 : Int32)), .val (.int (1 : Int32)), .unset] [(.int (1 : Int32)), (.int (5 : Int32))]))
    refine own_go (fun t_ k_ => XS.icmpNo X1.here hx rfl (hb hby at_57) rfl (feq (by decide)).1 k_) ?_
    show OwnFin p e below s _ _ _ (T1.setTop (mkF m 60 #[.val (.long xx), .second, .val (.int ss), .val (.long w), .second, .val (.int (5 : Int32)), .val (.int (1 : Int32)), .unset] []))
    refine own_go (fun t_ k_ => XS.lloadN X1.here hx rfl (hb hby at_60) rfl k_) ?_
    show OwnFin p e below s _ _ _ (T1.setTop (mkF m 61 #[.val (.long xx), .second, .val (.int ss), .val (.long w), .second, .val (.int (5 : Int32)), .val (.int (1 : Int32)), .unset] [(.long w)]))
    refine own_go (fun t_ k_ => XS.bipush X1.here hx rfl (hb hby at_61) k_) ?_
    show OwnFin p e below s _ _ _ (T1.setTop (mkF m 63 #[.val (.long xx), .second, .val (.int ss), .val (.long w), .second, .val (.int (5 : Int32)), .val (.int (1 : Int32)), .unset] [(.int (7 : Int32)), (.long w)]))
    refine own_go (fun t_ k_ => XS.iload X1.here hx rfl (hb hby at_63) rfl k_) ?_
    show OwnFin p e below s _ _ _ (T1.setTop (mkF m 65 #[.val (.long xx), .second, .val (.int ss), .val (.long w), .second, .val (.int (5 : Int32)), .val (.int (1 : Int32)), .unset] [(.int (5 : Int32)), (.int (7 : Int32)), (.long w)]))
    refine own_go (fun t_ k_ => XS.iconst X1.here hx rfl (hb hby at_65) k_) ?_
    show OwnFin p e below s _ _ _ (T1.setTop (mkF m 66 #[.val (.long xx), .second, .val (.int ss), .val (.long w), .second, .val (.int (5 : Int32)), .val (.int (1 : Int32)), .unset] [(.int (1 : Int32)), (.int (5 : Int32)), (.int (7 : Int32)), (.long w)]))
    refine own_go (fun t_ k_ => XS.isub X1.here hx rfl (hb hby at_66) rfl k_) ?_
    show OwnFin p e below s _ _ _ (T1.setTop (mkF m 67 #[.val (.long xx), .second, .val (.int ss), .val (.long w), .second, .val (.int (5 : Int32)), .val (.int (1 : Int32)), .unset] [(.int ((5 : Int32) - (1 : Int32))), (.int (7 : Int32)), (.long w)]))
    refine own_go (fun t_ k_ => XS.imul X1.here hx rfl (hb hby at_67) rfl k_) ?_
    show OwnFin p e below s _ _ _ (T1.setTop (mkF m 68 #[.val (.long xx), .second, .val (.int ss), .val (.long w), .second, .val (.int (5 : Int32)), .val (.int (1 : Int32)), .unset] [(.int ((7 : Int32) * ((5 : Int32) - (1 : Int32)))), (.long w)]))
    refine own_go (fun t_ k_ => XS.lushr X1.here hx rfl (hb hby at_68) rfl k_) ?_
    show OwnFin p e below s _ _ _ (T1.setTop (mkF m 69 #[.val (.long xx), .second, .val (.int ss), .val (.long w), .second, .val (.int (5 : Int32)), .val (.int (1 : Int32)), .unset] [(.long ((w.toUInt64 >>> (((7 : Int32) * ((5 : Int32) - (1 : Int32))) &&& 0x3f).toInt64.toUInt64).toInt64))]))
    refine own_go (fun t_ k_ => XS.lconst X1.here hx rfl (hb hby at_69) k_) ?_
    show OwnFin p e below s _ _ _ (T1.setTop (mkF m 70 #[.val (.long xx), .second, .val (.int ss), .val (.long w), .second, .val (.int (5 : Int32)), .val (.int (1 : Int32)), .unset] [(.long (0 : Int64)), (.long ((w.toUInt64 >>> (((7 : Int32) * ((5 : Int32) - (1 : Int32))) &&& 0x3f).toInt64.toUInt64).toInt64))]))
    refine own_go (fun t_ k_ => XS.lcmp X1.here hx rfl (hb hby at_70) rfl k_) ?_
    show OwnFin p e below s _ _ _ (T1.setTop (mkF m 71 #[.val (.long xx), .second, .val (.int ss), .val (.long w), .second, .val (.int (5 : Int32)), .val (.int (1 : Int32)), .unset] [(.int (lcmpW ((w.toUInt64 >>> (((7 : Int32) * ((5 : Int32) - (1 : Int32))) &&& 0x3f).toInt64.toUInt64).toInt64) (0 : Int64)))]))
    have hc71 : ¬ (((w.toUInt64 >>> (((7 : Int32) * ((5 : Int32) - (1 : Int32))) &&& 0x3f).toInt64.toUInt64).toInt64) = (0 : Int64)) := fun q => by have q' := (own_ush0 w (n := (((7 : Int32) * ((5 : Int32) - (1 : Int32))) &&& 0x3f).toInt64.toUInt64) (k := 28) (by decide) (by decide)).mp q; have hP : (2 : Nat) ^ 28 = 268435456 := (by decide); rw [hP] at q'; omega
    refine own_go (fun t_ k_ => XS.ifNo X1.here hx rfl (hb hby at_71) rfl ((if0 _ _).trans (feq (mt (lw_eq ((w.toUInt64 >>> (((7 : Int32) * ((5 : Int32) - (1 : Int32))) &&& 0x3f).toInt64.toUInt64).toInt64) (0 : Int64)).mp hc71)).1) k_) ?_
    show OwnFin p e below s _ _ _ (T1.setTop (mkF m 74 #[.val (.long xx), .second, .val (.int ss), .val (.long w), .second, .val (.int (5 : Int32)), .val (.int (1 : Int32)), .unset] []))
    refine own_go (fun t_ k_ => XS.iconst X1.here hx rfl (hb hby at_74) k_) ?_
    show OwnFin p e below s _ _ _ (T1.setTop (mkF m 75 #[.val (.long xx), .second, .val (.int ss), .val (.long w), .second, .val (.int (5 : Int32)), .val (.int (1 : Int32)), .unset] [(.int (1 : Int32))]))
    refine own_go (fun t_ k_ => XS.goto X1.here hx rfl (pc0 := 75) (pc' := 79) rfl (hb hby at_75) (by decide) (by decide) k_) ?_
    show OwnFin p e below s _ _ _ (T1.setTop (mkF m 79 #[.val (.long xx), .second, .val (.int ss), .val (.long w), .second, .val (.int (5 : Int32)), .val (.int (1 : Int32)), .unset] [(.int (1 : Int32))]))
    refine own_go (fun t_ k_ => XS.istore X1.here hx rfl (hb hby at_79) rfl (l' := #[.val (.long xx), .second, .val (.int ss), .val (.long w), .second, .val (.int (5 : Int32)), .val (.int (1 : Int32)), .val (.int (1 : Int32))]) rfl k_) ?_
    show OwnFin p e below s _ _ _ (T1.setTop (mkF m 81 #[.val (.long xx), .second, .val (.int ss), .val (.long w), .second, .val (.int (5 : Int32)), .val (.int (1 : Int32)), .val (.int (1 : Int32))] []))
    refine own_go (fun t_ k_ => XS.iload X1.here hx rfl (hb hby at_81) rfl k_) ?_
    show OwnFin p e below s _ _ _ (T1.setTop (mkF m 83 #[.val (.long xx), .second, .val (.int ss), .val (.long w), .second, .val (.int (5 : Int32)), .val (.int (1 : Int32)), .val (.int (1 : Int32))] [(.int (1 : Int32))]))
    refine own_go (fun t_ k_ => XS.ifNo X1.here hx rfl (hb hby at_83) rfl ((if0 _ _).trans (feq (by decide)).1) k_) ?_
    show OwnFin p e below s _ _ _ (T1.setTop (mkF m 86 #[.val (.long xx), .second, .val (.int ss), .val (.long w), .second, .val (.int (5 : Int32)), .val (.int (1 : Int32)), .val (.int (1 : Int32))] []))
    refine own_go (fun t_ k_ => XS.iload X1.here hx rfl (hb hby at_86) rfl k_) ?_
    show OwnFin p e below s _ _ _ (T1.setTop (mkF m 88 #[.val (.long xx), .second, .val (.int ss), .val (.long w), .second, .val (.int (5 : Int32)), .val (.int (1 : Int32)), .val (.int (1 : Int32))] [(.int (1 : Int32))]))
    refine own_go (fun t_ k_ => XS.ifNo X1.here hx rfl (hb hby at_88) rfl ((if0 _ _).trans (feq (by decide)).1) k_) ?_
    show OwnFin p e below s _ _ _ (T1.setTop (mkF m 91 #[.val (.long xx), .second, .val (.int ss), .val (.long w), .second, .val (.int (5 : Int32)), .val (.int (1 : Int32)), .val (.int (1 : Int32))] []))
    refine own_go (fun t_ k_ => XS.iconst X1.here hx rfl (hb hby at_91) k_) ?_
    show OwnFin p e below s _ _ _ (T1.setTop (mkF m 92 #[.val (.long xx), .second, .val (.int ss), .val (.long w), .second, .val (.int (5 : Int32)), .val (.int (1 : Int32)), .val (.int (1 : Int32))] [(.int (1 : Int32))]))
    refine own_go (fun t_ k_ => XS.goto X1.here hx rfl (pc0 := 92) (pc' := 96) rfl (hb hby at_92) (by decide) (by decide) k_) ?_
    show OwnFin p e below s _ _ _ (T1.setTop (mkF m 96 #[.val (.long xx), .second, .val (.int ss), .val (.long w), .second, .val (.int (5 : Int32)), .val (.int (1 : Int32)), .val (.int (1 : Int32))] [(.int (1 : Int32))]))
    refine own_ret X1 (v := some (.int (1 : Int32))) hlk (fun hh => by rw [hret] at hh; cases hh) (fun fs hr => retN X1 hx (t := .boolean) hret (by simp) (hb hby at_96) hr) (by decide) (by decide) ?_
    exact ⟨rfl, N1⟩
  · show OwnFin p e below s _ _ _ (T1.setTop (mkF m 13 #[.val (.long xx), .second, .val (.int ss), .val (.long w), .second, .val (.int (6 : Int32)), .unset, .unset] []))
    refine own_go (fun t_ k_ => XS.iload X1.here hx rfl (hb hby at_13) rfl k_) ?_
    show OwnFin p e below s _ _ _ (T1.setTop (mkF m 15 #[.val (.long xx), .second, .val (.int ss), .val (.long w), .second, .val (.int (6 : Int32)), .unset, .unset] [(.int (6 : Int32))]))
    refine own_go (fun t_ k_ => XS.iconst X1.here hx rfl (hb hby at_15) k_) ?_
    show OwnFin p e below s _ _ _ (T1.setTop (mkF m 16 #[.val (.long xx), .second, .val (.int ss), .val (.long w), .second, .val (.int (6 : Int32)), .unset, .unset] [(.int (1 : Int32)), (.int (6 : Int32))]))
    refine own_go (fun t_ k_ => XS.icmpNo X1.here hx rfl (hb hby at_16) rfl (flt (by decide)).1 k_) ?_
    show OwnFin p e below s _ _ _ (T1.setTop (mkF m 19 #[.val (.long xx), .second, .val (.int ss), .val (.long w), .second, .val (.int (6 : Int32)), .unset, .unset] []))
    refine own_go (fun t_ k_ => XS.iload X1.here hx rfl (hb hby at_19) rfl k_) ?_
    show OwnFin p e below s _ _ _ (T1.setTop (mkF m 21 #[.val (.long xx), .second, .val (.int ss), .val (.long w), .second, .val (.int (6 : Int32)), .unset, .unset] [(.int (6 : Int32))]))
    refine own_go (fun t_ k_ => XS.bipush X1.here hx rfl (hb hby at_21) k_) ?_
    show OwnFin p e below s _ _ _ (T1.setTop (mkF m 23 #[.val (.long xx), .second, .val (.int ss), .val (.long w), .second, .val (.int (6 : Int32)), .unset, .unset] [(.int (10 : Int32)), (.int (6 : Int32))]))
    refine own_go (fun t_ k_ => XS.icmpYes X1.here hx rfl (pc0 := 23) (pc' := 28) rfl (hb hby at_23) rfl (flt (by decide)).2.2.2 (by decide) (by decide) k_) ?_
    show OwnFin p e below s _ _ _ (T1.setTop (mkF m 28 #[.val (.long xx), .second, .val (.int ss), .val (.long w), .second, .val (.int (6 : Int32)), .unset, .unset] []))
    refine own_go (fun t_ k_ => XS.iload X1.here hx rfl (hb hby at_28) rfl k_) ?_
    show OwnFin p e below s _ _ _ (T1.setTop (mkF m 30 #[.val (.long xx), .second, .val (.int ss), .val (.long w), .second, .val (.int (6 : Int32)), .unset, .unset] [(.int (6 : Int32))]))
    refine own_go (fun t_ k_ => XS.bipush X1.here hx rfl (hb hby at_30) k_) ?_
    show OwnFin p e below s _ _ _ (T1.setTop (mkF m 32 #[.val (.long xx), .second, .val (.int ss), .val (.long w), .second, .val (.int (6 : Int32)), .unset, .unset] [(.int (10 : Int32)), (.int (6 : Int32))]))
    refine own_go (fun t_ k_ => XS.icmpNo X1.here hx rfl (hb hby at_32) rfl (feq (by decide)).1 k_) ?_
    show OwnFin p e below s _ _ _ (T1.setTop (mkF m 35 #[.val (.long xx), .second, .val (.int ss), .val (.long w), .second, .val (.int (6 : Int32)), .unset, .unset] []))
    refine own_go (fun t_ k_ => XS.lloadN X1.here hx rfl (hb hby at_35) rfl k_) ?_
    show OwnFin p e below s _ _ _ (T1.setTop (mkF m 36 #[.val (.long xx), .second, .val (.int ss), .val (.long w), .second, .val (.int (6 : Int32)), .unset, .unset] [(.long w)]))
    refine own_go (fun t_ k_ => XS.bipush X1.here hx rfl (hb hby at_36) k_) ?_
    show OwnFin p e below s _ _ _ (T1.setTop (mkF m 38 #[.val (.long xx), .second, .val (.int ss), .val (.long w), .second, .val (.int (6 : Int32)), .unset, .unset] [(.int (7 : Int32)), (.long w)]))
    refine own_go (fun t_ k_ => XS.iload X1.here hx rfl (hb hby at_38) rfl k_) ?_
    show OwnFin p e below s _ _ _ (T1.setTop (mkF m 40 #[.val (.long xx), .second, .val (.int ss), .val (.long w), .second, .val (.int (6 : Int32)), .unset, .unset] [(.int (6 : Int32)), (.int (7 : Int32)), (.long w)]))
    refine own_go (fun t_ k_ => XS.imul X1.here hx rfl (hb hby at_40) rfl k_) ?_
    show OwnFin p e below s _ _ _ (T1.setTop (mkF m 41 #[.val (.long xx), .second, .val (.int ss), .val (.long w), .second, .val (.int (6 : Int32)), .unset, .unset] [(.int ((7 : Int32) * (6 : Int32))), (.long w)]))
    refine own_go (fun t_ k_ => XS.lushr X1.here hx rfl (hb hby at_41) rfl k_) ?_
    show OwnFin p e below s _ _ _ (T1.setTop (mkF m 42 #[.val (.long xx), .second, .val (.int ss), .val (.long w), .second, .val (.int (6 : Int32)), .unset, .unset] [(.long ((w.toUInt64 >>> (((7 : Int32) * (6 : Int32)) &&& 0x3f).toInt64.toUInt64).toInt64))]))
    refine own_go (fun t_ k_ => XS.lconst X1.here hx rfl (hb hby at_42) k_) ?_
    show OwnFin p e below s _ _ _ (T1.setTop (mkF m 43 #[.val (.long xx), .second, .val (.int ss), .val (.long w), .second, .val (.int (6 : Int32)), .unset, .unset] [(.long (0 : Int64)), (.long ((w.toUInt64 >>> (((7 : Int32) * (6 : Int32)) &&& 0x3f).toInt64.toUInt64).toInt64))]))
    refine own_go (fun t_ k_ => XS.lcmp X1.here hx rfl (hb hby at_43) rfl k_) ?_
    show OwnFin p e below s _ _ _ (T1.setTop (mkF m 44 #[.val (.long xx), .second, .val (.int ss), .val (.long w), .second, .val (.int (6 : Int32)), .unset, .unset] [(.int (lcmpW ((w.toUInt64 >>> (((7 : Int32) * (6 : Int32)) &&& 0x3f).toInt64.toUInt64).toInt64) (0 : Int64)))]))
    have hc44 : ((w.toUInt64 >>> (((7 : Int32) * (6 : Int32)) &&& 0x3f).toInt64.toUInt64).toInt64) = (0 : Int64) := (own_ush0 w (n := (((7 : Int32) * (6 : Int32)) &&& 0x3f).toInt64.toUInt64) (k := 42) (by decide) (by decide)).mpr (by have hP : (2 : Nat) ^ 42 = 4398046511104 := (by decide); rw [hP]; omega)
    refine own_go (fun t_ k_ => XS.ifNo X1.here hx rfl (hb hby at_44) rfl ((if0 _ _).trans (teq ((lw_eq ((w.toUInt64 >>> (((7 : Int32) * (6 : Int32)) &&& 0x3f).toInt64.toUInt64).toInt64) (0 : Int64)).mpr hc44)).2) k_) ?_
    show OwnFin p e below s _ _ _ (T1.setTop (mkF m 47 #[.val (.long xx), .second, .val (.int ss), .val (.long w), .second, .val (.int (6 : Int32)), .unset, .unset] []))
    refine own_go (fun t_ k_ => XS.iconst X1.here hx rfl (hb hby at_47) k_) ?_
    show OwnFin p e below s _ _ _ (T1.setTop (mkF m 48 #[.val (.long xx), .second, .val (.int ss), .val (.long w), .second, .val (.int (6 : Int32)), .unset, .unset] [(.int (1 : Int32))]))
    refine own_go (fun t_ k_ => XS.goto X1.here hx rfl (pc0 := 48) (pc' := 52) rfl (hb hby at_48) (by decide) (by decide) k_) ?_
    show OwnFin p e below s _ _ _ (T1.setTop (mkF m 52 #[.val (.long xx), .second, .val (.int ss), .val (.long w), .second, .val (.int (6 : Int32)), .unset, .unset] [(.int (1 : Int32))]))
    refine own_go (fun t_ k_ => XS.istore X1.here hx rfl (hb hby at_52) rfl (l' := #[.val (.long xx), .second, .val (.int ss), .val (.long w), .second, .val (.int (6 : Int32)), .val (.int (1 : Int32)), .unset]) rfl k_) ?_
    show OwnFin p e below s _ _ _ (T1.setTop (mkF m 54 #[.val (.long xx), .second, .val (.int ss), .val (.long w), .second, .val (.int (6 : Int32)), .val (.int (1 : Int32)), .unset] []))
    refine own_go (fun t_ k_ => XS.iload X1.here hx rfl (hb hby at_54) rfl k_) ?_
    show OwnFin p e below s _ _ _ (T1.setTop (mkF m 56 #[.val (.long xx), .second, .val (.int ss), .val (.long w), .second, .val (.int (6 : Int32)), .val (.int (1 : Int32)), .unset] [(.int (6 : Int32))]))
    refine own_go (fun t_ k_ => XS.iconst X1.here hx rfl (hb hby at_56) k_) ?_
    show OwnFin p e below s _ _ _ (T1.setTop (mkF m 57 #[.val (.long xx), .second, .val (.int ss), .val (.long w), .second, .val (.int (6 : Int32)), .val (.int (1 : Int32)), .unset] [(.int (1 : Int32)), (.int (6 : Int32))]))
    refine own_go (fun t_ k_ => XS.icmpNo X1.here hx rfl (hb hby at_57) rfl (feq (by decide)).1 k_) ?_
    show OwnFin p e below s _ _ _ (T1.setTop (mkF m 60 #[.val (.long xx), .second, .val (.int ss), .val (.long w), .second, .val (.int (6 : Int32)), .val (.int (1 : Int32)), .unset] []))
    refine own_go (fun t_ k_ => XS.lloadN X1.here hx rfl (hb hby at_60) rfl k_) ?_
    show OwnFin p e below s _ _ _ (T1.setTop (mkF m 61 #[.val (.long xx), .second, .val (.int ss), .val (.long w), .second, .val (.int (6 : Int32)), .val (.int (1 : Int32)), .unset] [(.long w)]))
    refine own_go (fun t_ k_ => XS.bipush X1.here hx rfl (hb hby at_61) k_) ?_
    show OwnFin p e below s _ _ _ (T1.setTop (mkF m 63 #[.val (.long xx), .second, .val (.int ss), .val (.long w), .second, .val (.int (6 : Int32)), .val (.int (1 : Int32)), .unset] [(.int (7 : Int32)), (.long w)]))
    refine own_go (fun t_ k_ => XS.iload X1.here hx rfl (hb hby at_63) rfl k_) ?_
    show OwnFin p e below s _ _ _ (T1.setTop (mkF m 65 #[.val (.long xx), .second, .val (.int ss), .val (.long w), .second, .val (.int (6 : Int32)), .val (.int (1 : Int32)), .unset] [(.int (6 : Int32)), (.int (7 : Int32)), (.long w)]))
    refine own_go (fun t_ k_ => XS.iconst X1.here hx rfl (hb hby at_65) k_) ?_
    show OwnFin p e below s _ _ _ (T1.setTop (mkF m 66 #[.val (.long xx), .second, .val (.int ss), .val (.long w), .second, .val (.int (6 : Int32)), .val (.int (1 : Int32)), .unset] [(.int (1 : Int32)), (.int (6 : Int32)), (.int (7 : Int32)), (.long w)]))
    refine own_go (fun t_ k_ => XS.isub X1.here hx rfl (hb hby at_66) rfl k_) ?_
    show OwnFin p e below s _ _ _ (T1.setTop (mkF m 67 #[.val (.long xx), .second, .val (.int ss), .val (.long w), .second, .val (.int (6 : Int32)), .val (.int (1 : Int32)), .unset] [(.int ((6 : Int32) - (1 : Int32))), (.int (7 : Int32)), (.long w)]))
    refine own_go (fun t_ k_ => XS.imul X1.here hx rfl (hb hby at_67) rfl k_) ?_
    show OwnFin p e below s _ _ _ (T1.setTop (mkF m 68 #[.val (.long xx), .second, .val (.int ss), .val (.long w), .second, .val (.int (6 : Int32)), .val (.int (1 : Int32)), .unset] [(.int ((7 : Int32) * ((6 : Int32) - (1 : Int32)))), (.long w)]))
    refine own_go (fun t_ k_ => XS.lushr X1.here hx rfl (hb hby at_68) rfl k_) ?_
    show OwnFin p e below s _ _ _ (T1.setTop (mkF m 69 #[.val (.long xx), .second, .val (.int ss), .val (.long w), .second, .val (.int (6 : Int32)), .val (.int (1 : Int32)), .unset] [(.long ((w.toUInt64 >>> (((7 : Int32) * ((6 : Int32) - (1 : Int32))) &&& 0x3f).toInt64.toUInt64).toInt64))]))
    refine own_go (fun t_ k_ => XS.lconst X1.here hx rfl (hb hby at_69) k_) ?_
    show OwnFin p e below s _ _ _ (T1.setTop (mkF m 70 #[.val (.long xx), .second, .val (.int ss), .val (.long w), .second, .val (.int (6 : Int32)), .val (.int (1 : Int32)), .unset] [(.long (0 : Int64)), (.long ((w.toUInt64 >>> (((7 : Int32) * ((6 : Int32) - (1 : Int32))) &&& 0x3f).toInt64.toUInt64).toInt64))]))
    refine own_go (fun t_ k_ => XS.lcmp X1.here hx rfl (hb hby at_70) rfl k_) ?_
    show OwnFin p e below s _ _ _ (T1.setTop (mkF m 71 #[.val (.long xx), .second, .val (.int ss), .val (.long w), .second, .val (.int (6 : Int32)), .val (.int (1 : Int32)), .unset] [(.int (lcmpW ((w.toUInt64 >>> (((7 : Int32) * ((6 : Int32) - (1 : Int32))) &&& 0x3f).toInt64.toUInt64).toInt64) (0 : Int64)))]))
    have hc71 : ¬ (((w.toUInt64 >>> (((7 : Int32) * ((6 : Int32) - (1 : Int32))) &&& 0x3f).toInt64.toUInt64).toInt64) = (0 : Int64)) := fun q => by have q' := (own_ush0 w (n := (((7 : Int32) * ((6 : Int32) - (1 : Int32))) &&& 0x3f).toInt64.toUInt64) (k := 35) (by decide) (by decide)).mp q; have hP : (2 : Nat) ^ 35 = 34359738368 := (by decide); rw [hP] at q'; omega
    refine own_go (fun t_ k_ => XS.ifNo X1.here hx rfl (hb hby at_71) rfl ((if0 _ _).trans (feq (mt (lw_eq ((w.toUInt64 >>> (((7 : Int32) * ((6 : Int32) - (1 : Int32))) &&& 0x3f).toInt64.toUInt64).toInt64) (0 : Int64)).mp hc71)).1) k_) ?_
    show OwnFin p e below s _ _ _ (T1.setTop (mkF m 74 #[.val (.long xx), .second, .val (.int ss), .val (.long w), .second, .val (.int (6 : Int32)), .val (.int (1 : Int32)), .unset] []))
    refine own_go (fun t_ k_ => XS.iconst X1.here hx rfl (hb hby at_74) k_) ?_
    show OwnFin p e below s _ _ _ (T1.setTop (mkF m 75 #[.val (.long xx), .second, .val (.int ss), .val (.long w), .second, .val (.int (6 : Int32)), .val (.int (1 : Int32)), .unset] [(.int (1 : Int32))]))
    refine own_go (fun t_ k_ => XS.goto X1.here hx rfl (pc0 := 75) (pc' := 79) rfl (hb hby at_75) (by decide) (by decide) k_) ?_
    show OwnFin p e below s _ _ _ (T1.setTop (mkF m 79 #[.val (.long xx), .second, .val (.int ss), .val (.long w), .second, .val (.int (6 : Int32)), .val (.int (1 : Int32)), .unset] [(.int (1 : Int32))]))
    refine own_go (fun t_ k_ => XS.istore X1.here hx rfl (hb hby at_79) rfl (l' := #[.val (.long xx), .second, .val (.int ss), .val (.long w), .second, .val (.int (6 : Int32)), .val (.int (1 : Int32)), .val (.int (1 : Int32))]) rfl k_) ?_
    show OwnFin p e below s _ _ _ (T1.setTop (mkF m 81 #[.val (.long xx), .second, .val (.int ss), .val (.long w), .second, .val (.int (6 : Int32)), .val (.int (1 : Int32)), .val (.int (1 : Int32))] []))
    refine own_go (fun t_ k_ => XS.iload X1.here hx rfl (hb hby at_81) rfl k_) ?_
    show OwnFin p e below s _ _ _ (T1.setTop (mkF m 83 #[.val (.long xx), .second, .val (.int ss), .val (.long w), .second, .val (.int (6 : Int32)), .val (.int (1 : Int32)), .val (.int (1 : Int32))] [(.int (1 : Int32))]))
    refine own_go (fun t_ k_ => XS.ifNo X1.here hx rfl (hb hby at_83) rfl ((if0 _ _).trans (feq (by decide)).1) k_) ?_
    show OwnFin p e below s _ _ _ (T1.setTop (mkF m 86 #[.val (.long xx), .second, .val (.int ss), .val (.long w), .second, .val (.int (6 : Int32)), .val (.int (1 : Int32)), .val (.int (1 : Int32))] []))
    refine own_go (fun t_ k_ => XS.iload X1.here hx rfl (hb hby at_86) rfl k_) ?_
    show OwnFin p e below s _ _ _ (T1.setTop (mkF m 88 #[.val (.long xx), .second, .val (.int ss), .val (.long w), .second, .val (.int (6 : Int32)), .val (.int (1 : Int32)), .val (.int (1 : Int32))] [(.int (1 : Int32))]))
    refine own_go (fun t_ k_ => XS.ifNo X1.here hx rfl (hb hby at_88) rfl ((if0 _ _).trans (feq (by decide)).1) k_) ?_
    show OwnFin p e below s _ _ _ (T1.setTop (mkF m 91 #[.val (.long xx), .second, .val (.int ss), .val (.long w), .second, .val (.int (6 : Int32)), .val (.int (1 : Int32)), .val (.int (1 : Int32))] []))
    refine own_go (fun t_ k_ => XS.iconst X1.here hx rfl (hb hby at_91) k_) ?_
    show OwnFin p e below s _ _ _ (T1.setTop (mkF m 92 #[.val (.long xx), .second, .val (.int ss), .val (.long w), .second, .val (.int (6 : Int32)), .val (.int (1 : Int32)), .val (.int (1 : Int32))] [(.int (1 : Int32))]))
    refine own_go (fun t_ k_ => XS.goto X1.here hx rfl (pc0 := 92) (pc' := 96) rfl (hb hby at_92) (by decide) (by decide) k_) ?_
    show OwnFin p e below s _ _ _ (T1.setTop (mkF m 96 #[.val (.long xx), .second, .val (.int ss), .val (.long w), .second, .val (.int (6 : Int32)), .val (.int (1 : Int32)), .val (.int (1 : Int32))] [(.int (1 : Int32))]))
    refine own_ret X1 (v := some (.int (1 : Int32))) hlk (fun hh => by rw [hret] at hh; cases hh) (fun fs hr => retN X1 hx (t := .boolean) hret (by simp) (hb hby at_96) hr) (by decide) (by decide) ?_
    exact ⟨rfl, N1⟩
  · show OwnFin p e below s _ _ _ (T1.setTop (mkF m 13 #[.val (.long xx), .second, .val (.int ss), .val (.long w), .second, .val (.int (7 : Int32)), .unset, .unset] []))
    refine own_go (fun t_ k_ => XS.iload X1.here hx rfl (hb hby at_13) rfl k_) ?_
    show OwnFin p e below s _ _ _ (T1.setTop (mkF m 15 #[.val (.long xx), .second, .val (.int ss), .val (.long w), .second, .val (.int (7 : Int32)), .unset, .unset] [(.int (7 : Int32))]))
    refine own_go (fun t_ k_ => XS.iconst X1.here hx rfl (hb hby at_15) k_) ?_
    show OwnFin p e below s _ _ _ (T1.setTop (mkF m 16 #[.val (.long xx), .second, .val (.int ss), .val (.long w), .second, .val (.int (7 : Int32)), .unset, .unset] [(.int (1 : Int32)), (.int (7 : Int32))]))
    refine own_go (fun t_ k_ => XS.icmpNo X1.here hx rfl (hb hby at_16) rfl (flt (by decide)).1 k_) ?_
    show OwnFin p e below s _ _ _ (T1.setTop (mkF m 19 #[.val (.long xx), .second, .val (.int ss), .val (.long w), .second, .val (.int (7 : Int32)), .unset, .unset] []))
    refine own_go (fun t_ k_ => XS.iload X1.here hx rfl (hb hby at_19) rfl k_) ?_
    show OwnFin p e below s _ _ _ (T1.setTop (mkF m 21 #[.val (.long xx), .second, .val (.int ss), .val (.long w), .second, .val (.int (7 : Int32)), .unset, .unset] [(.int (7 : Int32))]))
    refine own_go (fun t_ k_ => XS.bipush X1.here hx rfl (hb hby at_21) k_) ?_
    show OwnFin p e below s _ _ _ (T1.setTop (mkF m 23 #[.val (.long xx), .second, .val (.int ss), .val (.long w), .second, .val (.int (7 : Int32)), .unset, .unset] [(.int (10 : Int32)), (.int (7 : Int32))]))
    refine own_go (fun t_ k_ => XS.icmpYes X1.here hx rfl (pc0 := 23) (pc' := 28) rfl (hb hby at_23) rfl (flt (by decide)).2.2.2 (by decide) (by decide) k_) ?_
    show OwnFin p e below s _ _ _ (T1.setTop (mkF m 28 #[.val (.long xx), .second, .val (.int ss), .val (.long w), .second, .val (.int (7 : Int32)), .unset, .unset] []))
    refine own_go (fun t_ k_ => XS.iload X1.here hx rfl (hb hby at_28) rfl k_) ?_
    show OwnFin p e below s _ _ _ (T1.setTop (mkF m 30 #[.val (.long xx), .second, .val (.int ss), .val (.long w), .second, .val (.int (7 : Int32)), .unset, .unset] [(.int (7 : Int32))]))
    refine own_go (fun t_ k_ => XS.bipush X1.here hx rfl (hb hby at_30) k_) ?_
    show OwnFin p e below s _ _ _ (T1.setTop (mkF m 32 #[.val (.long xx), .second, .val (.int ss), .val (.long w), .second, .val (.int (7 : Int32)), .unset, .unset] [(.int (10 : Int32)), (.int (7 : Int32))]))
    refine own_go (fun t_ k_ => XS.icmpNo X1.here hx rfl (hb hby at_32) rfl (feq (by decide)).1 k_) ?_
    show OwnFin p e below s _ _ _ (T1.setTop (mkF m 35 #[.val (.long xx), .second, .val (.int ss), .val (.long w), .second, .val (.int (7 : Int32)), .unset, .unset] []))
    refine own_go (fun t_ k_ => XS.lloadN X1.here hx rfl (hb hby at_35) rfl k_) ?_
    show OwnFin p e below s _ _ _ (T1.setTop (mkF m 36 #[.val (.long xx), .second, .val (.int ss), .val (.long w), .second, .val (.int (7 : Int32)), .unset, .unset] [(.long w)]))
    refine own_go (fun t_ k_ => XS.bipush X1.here hx rfl (hb hby at_36) k_) ?_
    show OwnFin p e below s _ _ _ (T1.setTop (mkF m 38 #[.val (.long xx), .second, .val (.int ss), .val (.long w), .second, .val (.int (7 : Int32)), .unset, .unset] [(.int (7 : Int32)), (.long w)]))
    refine own_go (fun t_ k_ => XS.iload X1.here hx rfl (hb hby at_38) rfl k_) ?_
    show OwnFin p e below s _ _ _ (T1.setTop (mkF m 40 #[.val (.long xx), .second, .val (.int ss), .val (.long w), .second, .val (.int (7 : Int32)), .unset, .unset] [(.int (7 : Int32)), (.int (7 : Int32)), (.long w)]))
    refine own_go (fun t_ k_ => XS.imul X1.here hx rfl (hb hby at_40) rfl k_) ?_
    show OwnFin p e below s _ _ _ (T1.setTop (mkF m 41 #[.val (.long xx), .second, .val (.int ss), .val (.long w), .second, .val (.int (7 : Int32)), .unset, .unset] [(.int ((7 : Int32) * (7 : Int32))), (.long w)]))
    refine own_go (fun t_ k_ => XS.lushr X1.here hx rfl (hb hby at_41) rfl k_) ?_
    show OwnFin p e below s _ _ _ (T1.setTop (mkF m 42 #[.val (.long xx), .second, .val (.int ss), .val (.long w), .second, .val (.int (7 : Int32)), .unset, .unset] [(.long ((w.toUInt64 >>> (((7 : Int32) * (7 : Int32)) &&& 0x3f).toInt64.toUInt64).toInt64))]))
    refine own_go (fun t_ k_ => XS.lconst X1.here hx rfl (hb hby at_42) k_) ?_
    show OwnFin p e below s _ _ _ (T1.setTop (mkF m 43 #[.val (.long xx), .second, .val (.int ss), .val (.long w), .second, .val (.int (7 : Int32)), .unset, .unset] [(.long (0 : Int64)), (.long ((w.toUInt64 >>> (((7 : Int32) * (7 : Int32)) &&& 0x3f).toInt64.toUInt64).toInt64))]))
    refine own_go (fun t_ k_ => XS.lcmp X1.here hx rfl (hb hby at_43) rfl k_) ?_
    show OwnFin p e below s _ _ _ (T1.setTop (mkF m 44 #[.val (.long xx), .second, .val (.int ss), .val (.long w), .second, .val (.int (7 : Int32)), .unset, .unset] [(.int (lcmpW ((w.toUInt64 >>> (((7 : Int32) * (7 : Int32)) &&& 0x3f).toInt64.toUInt64).toInt64) (0 : Int64)))]))
    have hc44 : ((w.toUInt64 >>> (((7 : Int32) * (7 : Int32)) &&& 0x3f).toInt64.toUInt64).toInt64) = (0 : Int64) := (own_ush0 w (n := (((7 : Int32) * (7 : Int32)) &&& 0x3f).toInt64.toUInt64) (k := 49) (by decide) (by decide)).mpr (by have hP : (2 : Nat) ^ 49 = 562949953421312 := (by decide); rw [hP]; omega)
    refine own_go (fun t_ k_ => XS.ifNo X1.here hx rfl (hb hby at_44) rfl ((if0 _ _).trans (teq ((lw_eq ((w.toUInt64 >>> (((7 : Int32) * (7 : Int32)) &&& 0x3f).toInt64.toUInt64).toInt64) (0 : Int64)).mpr hc44)).2) k_) ?_
    show OwnFin p e below s _ _ _ (T1.setTop (mkF m 47 #[.val (.long xx), .second, .val (.int ss), .val (.long w), .second, .val (.int (7 : Int32)), .unset, .unset] []))
    refine own_go (fun t_ k_ => XS.iconst X1.here hx rfl (hb hby at_47) k_) ?_
    show OwnFin p e below s _ _ _ (T1.setTop (mkF m 48 #[.val (.long xx), .second, .val (.int ss), .val (.long w), .second, .val (.int (7 : Int32)), .unset, .unset] [(.int (1 : Int32))]))
    refine own_go (fun t_ k_ => XS.goto X1.here hx rfl (pc0 := 48) (pc' := 52) rfl (hb hby at_48) (by decide) (by decide) k_) ?_
    show OwnFin p e below s _ _ _ (T1.setTop (mkF m 52 #[.val (.long xx), .second, .val (.int ss), .val (.long w), .second, .val (.int (7 : Int32)), .unset, .unset] [(.int (1 : Int32))]))
    refine own_go (fun t_ k_ => XS.istore X1.here hx rfl (hb hby at_52) rfl (l' := #[.val (.long xx), .second, .val (.int ss), .val (.long w), .second, .val (.int (7 : Int32)), .val (.int (1 : Int32)), .unset]) rfl k_) ?_
    show OwnFin p e below s _ _ _ (T1.setTop (mkF m 54 #[.val (.long xx), .second, .val (.int ss), .val (.long w), .second, .val (.int (7 : Int32)), .val (.int (1 : Int32)), .unset] []))
    refine own_go (fun t_ k_ => XS.iload X1.here hx rfl (hb hby at_54) rfl k_) ?_
    show OwnFin p e below s _ _ _ (T1.setTop (mkF m 56 #[.val (.long xx), .second, .val (.int ss), .val (.long w), .second, .val (.int (7 : Int32)), .val (.int (1 : Int32)), .unset] [(.int (7 : Int32))]))
    refine own_go (fun t_ k_ => XS.iconst X1.here hx rfl (hb hby at_56) k_) ?_
    show OwnFin p e below s _ _ _ (T1.setTop (mkF m 57 #[.val (.long xx), .second, .val (.int ss), .val (.long w), .second, .val (.int (7 : Int32)), .val (.int (1 : Int32)), .unset] [(.int (1 : Int32)), (.int (7 : Int32))]))
    refine own_go (fun t_ k_ => XS.icmpNo X1.here hx rfl (hb hby at_57) rfl (feq (by decide)).1 k_) ?_
    show OwnFin p e below s _ _ _ (T1.setTop (mkF m 60 #[.val (.long xx), .second, .val (.int ss), .val (.long w), .second, .val (.int (7 : Int32)), .val (.int (1 : Int32)), .unset] []))
    refine own_go (fun t_ k_ => XS.lloadN X1.here hx rfl (hb hby at_60) rfl k_) ?_
    show OwnFin p e below s _ _ _ (T1.setTop (mkF m 61 #[.val (.long xx), .second, .val (.int ss), .val (.long w), .second, .val (.int (7 : Int32)), .val (.int (1 : Int32)), .unset] [(.long w)]))
    refine own_go (fun t_ k_ => XS.bipush X1.here hx rfl (hb hby at_61) k_) ?_
    show OwnFin p e below s _ _ _ (T1.setTop (mkF m 63 #[.val (.long xx), .second, .val (.int ss), .val (.long w), .second, .val (.int (7 : Int32)), .val (.int (1 : Int32)), .unset] [(.int (7 : Int32)), (.long w)]))
    refine own_go (fun t_ k_ => XS.iload X1.here hx rfl (hb hby at_63) rfl k_) ?_
    show OwnFin p e below s _ _ _ (T1.setTop (mkF m 65 #[.val (.long xx), .second, .val (.int ss), .val (.long w), .second, .val (.int (7 : Int32)), .val (.int (1 : Int32)), .unset] [(.int (7 : Int32)), (.int (7 : Int32)), (.long w)]))
    refine own_go (fun t_ k_ => XS.iconst X1.here hx rfl (hb hby at_65) k_) ?_
    show OwnFin p e below s _ _ _ (T1.setTop (mkF m 66 #[.val (.long xx), .second, .val (.int ss), .val (.long w), .second, .val (.int (7 : Int32)), .val (.int (1 : Int32)), .unset] [(.int (1 : Int32)), (.int (7 : Int32)), (.int (7 : Int32)), (.long w)]))
    refine own_go (fun t_ k_ => XS.isub X1.here hx rfl (hb hby at_66) rfl k_) ?_
    show OwnFin p e below s _ _ _ (T1.setTop (mkF m 67 #[.val (.long xx), .second, .val (.int ss), .val (.long w), .second, .val (.int (7 : Int32)), .val (.int (1 : Int32)), .unset] [(.int ((7 : Int32) - (1 : Int32))), (.int (7 : Int32)), (.long w)]))
    refine own_go (fun t_ k_ => XS.imul X1.here hx rfl (hb hby at_67) rfl k_) ?_
    show OwnFin p e below s _ _ _ (T1.setTop (mkF m 68 #[.val (.long xx), .second, .val (.int ss), .val (.long w), .second, .val (.int (7 : Int32)), .val (.int (1 : Int32)), .unset] [(.int ((7 : Int32) * ((7 : Int32) - (1 : Int32)))), (.long w)]))
    refine own_go (fun t_ k_ => XS.lushr X1.here hx rfl (hb hby at_68) rfl k_) ?_
    show OwnFin p e below s _ _ _ (T1.setTop (mkF m 69 #[.val (.long xx), .second, .val (.int ss), .val (.long w), .second, .val (.int (7 : Int32)), .val (.int (1 : Int32)), .unset] [(.long ((w.toUInt64 >>> (((7 : Int32) * ((7 : Int32) - (1 : Int32))) &&& 0x3f).toInt64.toUInt64).toInt64))]))
    refine own_go (fun t_ k_ => XS.lconst X1.here hx rfl (hb hby at_69) k_) ?_
    show OwnFin p e below s _ _ _ (T1.setTop (mkF m 70 #[.val (.long xx), .second, .val (.int ss), .val (.long w), .second, .val (.int (7 : Int32)), .val (.int (1 : Int32)), .unset] [(.long (0 : Int64)), (.long ((w.toUInt64 >>> (((7 : Int32) * ((7 : Int32) - (1 : Int32))) &&& 0x3f).toInt64.toUInt64).toInt64))]))
    refine own_go (fun t_ k_ => XS.lcmp X1.here hx rfl (hb hby at_70) rfl k_) ?_
    show OwnFin p e below s _ _ _ (T1.setTop (mkF m 71 #[.val (.long xx), .second, .val (.int ss), .val (.long w), .second, .val (.int (7 : Int32)), .val (.int (1 : Int32)), .unset] [(.int (lcmpW ((w.toUInt64 >>> (((7 : Int32) * ((7 : Int32) - (1 : Int32))) &&& 0x3f).toInt64.toUInt64).toInt64) (0 : Int64)))]))
    have hc71 : ¬ (((w.toUInt64 >>> (((7 : Int32) * ((7 : Int32) - (1 : Int32))) &&& 0x3f).toInt64.toUInt64).toInt64) = (0 : Int64)) := fun q => by have q' := (own_ush0 w (n := (((7 : Int32) * ((7 : Int32) - (1 : Int32))) &&& 0x3f).toInt64.toUInt64) (k := 42) (by decide) (by decide)).mp q; have hP : (2 : Nat) ^ 42 = 4398046511104 := (by decide); rw [hP] at q'; omega
    refine own_go (fun t_ k_ => XS.ifNo X1.here hx rfl (hb hby at_71) rfl ((if0 _ _).trans (feq (mt (lw_eq ((w.toUInt64 >>> (((7 : Int32) * ((7 : Int32) - (1 : Int32))) &&& 0x3f).toInt64.toUInt64).toInt64) (0 : Int64)).mp hc71)).1) k_) ?_
    show OwnFin p e below s _ _ _ (T1.setTop (mkF m 74 #[.val (.long xx), .second, .val (.int ss), .val (.long w), .second, .val (.int (7 : Int32)), .val (.int (1 : Int32)), .unset] []))
    refine own_go (fun t_ k_ => XS.iconst X1.here hx rfl (hb hby at_74) k_) ?_
    show OwnFin p e below s _ _ _ (T1.setTop (mkF m 75 #[.val (.long xx), .second, .val (.int ss), .val (.long w), .second, .val (.int (7 : Int32)), .val (.int (1 : Int32)), .unset] [(.int (1 : Int32))]))
    refine own_go (fun t_ k_ => XS.goto X1.here hx rfl (pc0 := 75) (pc' := 79) rfl (hb hby at_75) (by decide) (by decide) k_) ?_
    show OwnFin p e below s _ _ _ (T1.setTop (mkF m 79 #[.val (.long xx), .second, .val (.int ss), .val (.long w), .second, .val (.int (7 : Int32)), .val (.int (1 : Int32)), .unset] [(.int (1 : Int32))]))
    refine own_go (fun t_ k_ => XS.istore X1.here hx rfl (hb hby at_79) rfl (l' := #[.val (.long xx), .second, .val (.int ss), .val (.long w), .second, .val (.int (7 : Int32)), .val (.int (1 : Int32)), .val (.int (1 : Int32))]) rfl k_) ?_
    show OwnFin p e below s _ _ _ (T1.setTop (mkF m 81 #[.val (.long xx), .second, .val (.int ss), .val (.long w), .second, .val (.int (7 : Int32)), .val (.int (1 : Int32)), .val (.int (1 : Int32))] []))
    refine own_go (fun t_ k_ => XS.iload X1.here hx rfl (hb hby at_81) rfl k_) ?_
    show OwnFin p e below s _ _ _ (T1.setTop (mkF m 83 #[.val (.long xx), .second, .val (.int ss), .val (.long w), .second, .val (.int (7 : Int32)), .val (.int (1 : Int32)), .val (.int (1 : Int32))] [(.int (1 : Int32))]))
    refine own_go (fun t_ k_ => XS.ifNo X1.here hx rfl (hb hby at_83) rfl ((if0 _ _).trans (feq (by decide)).1) k_) ?_
    show OwnFin p e below s _ _ _ (T1.setTop (mkF m 86 #[.val (.long xx), .second, .val (.int ss), .val (.long w), .second, .val (.int (7 : Int32)), .val (.int (1 : Int32)), .val (.int (1 : Int32))] []))
    refine own_go (fun t_ k_ => XS.iload X1.here hx rfl (hb hby at_86) rfl k_) ?_
    show OwnFin p e below s _ _ _ (T1.setTop (mkF m 88 #[.val (.long xx), .second, .val (.int ss), .val (.long w), .second, .val (.int (7 : Int32)), .val (.int (1 : Int32)), .val (.int (1 : Int32))] [(.int (1 : Int32))]))
    refine own_go (fun t_ k_ => XS.ifNo X1.here hx rfl (hb hby at_88) rfl ((if0 _ _).trans (feq (by decide)).1) k_) ?_
    show OwnFin p e below s _ _ _ (T1.setTop (mkF m 91 #[.val (.long xx), .second, .val (.int ss), .val (.long w), .second, .val (.int (7 : Int32)), .val (.int (1 : Int32)), .val (.int (1 : Int32))] []))
    refine own_go (fun t_ k_ => XS.iconst X1.here hx rfl (hb hby at_91) k_) ?_
    show OwnFin p e below s _ _ _ (T1.setTop (mkF m 92 #[.val (.long xx), .second, .val (.int ss), .val (.long w), .second, .val (.int (7 : Int32)), .val (.int (1 : Int32)), .val (.int (1 : Int32))] [(.int (1 : Int32))]))
    refine own_go (fun t_ k_ => XS.goto X1.here hx rfl (pc0 := 92) (pc' := 96) rfl (hb hby at_92) (by decide) (by decide) k_) ?_
    show OwnFin p e below s _ _ _ (T1.setTop (mkF m 96 #[.val (.long xx), .second, .val (.int ss), .val (.long w), .second, .val (.int (7 : Int32)), .val (.int (1 : Int32)), .val (.int (1 : Int32))] [(.int (1 : Int32))]))
    refine own_ret X1 (v := some (.int (1 : Int32))) hlk (fun hh => by rw [hret] at hh; cases hh) (fun fs hr => retN X1 hx (t := .boolean) hret (by simp) (hb hby at_96) hr) (by decide) (by decide) ?_
    exact ⟨rfl, N1⟩
  · show OwnFin p e below s _ _ _ (T1.setTop (mkF m 13 #[.val (.long xx), .second, .val (.int ss), .val (.long w), .second, .val (.int (8 : Int32)), .unset, .unset] []))
    refine own_go (fun t_ k_ => XS.iload X1.here hx rfl (hb hby at_13) rfl k_) ?_
    show OwnFin p e below s _ _ _ (T1.setTop (mkF m 15 #[.val (.long xx), .second, .val (.int ss), .val (.long w), .second, .val (.int (8 : Int32)), .unset, .unset] [(.int (8 : Int32))]))
    refine own_go (fun t_ k_ => XS.iconst X1.here hx rfl (hb hby at_15) k_) ?_
    show OwnFin p e below s _ _ _ (T1.setTop (mkF m 16 #[.val (.long xx), .second, .val (.int ss), .val (.long w), .second, .val (.int (8 : Int32)), .unset, .unset] [(.int (1 : Int32)), (.int (8 : Int32))]))
    refine own_go (fun t_ k_ => XS.icmpNo X1.here hx rfl (hb hby at_16) rfl (flt (by decide)).1 k_) ?_
    show OwnFin p e below s _ _ _ (T1.setTop (mkF m 19 #[.val (.long xx), .second, .val (.int ss), .val (.long w), .second, .val (.int (8 : Int32)), .unset, .unset] []))
    refine own_go (fun t_ k_ => XS.iload X1.here hx rfl (hb hby at_19) rfl k_) ?_
    show OwnFin p e below s _ _ _ (T1.setTop (mkF m 21 #[.val (.long xx), .second, .val (.int ss), .val (.long w), .second, .val (.int (8 : Int32)), .unset, .unset] [(.int (8 : Int32))]))
    refine own_go (fun t_ k_ => XS.bipush X1.here hx rfl (hb hby at_21) k_) ?_
    show OwnFin p e below s _ _ _ (T1.setTop (mkF m 23 #[.val (.long xx), .second, .val (.int ss), .val (.long w), .second, .val (.int (8 : Int32)), .unset, .unset] [(.int (10 : Int32)), (.int (8 : Int32))]))
    refine own_go (fun t_ k_ => XS.icmpYes X1.here hx rfl (pc0 := 23) (pc' := 28) rfl (hb hby at_23) rfl (flt (by decide)).2.2.2 (by decide) (by decide) k_) ?_
    show OwnFin p e below s _ _ _ (T1.setTop (mkF m 28 #[.val (.long xx), .second, .val (.int ss), .val (.long w), .second, .val (.int (8 : Int32)), .unset, .unset] []))
    refine own_go (fun t_ k_ => XS.iload X1.here hx rfl (hb hby at_28) rfl k_) ?_
    show OwnFin p e below s _ _ _ (T1.setTop (mkF m 30 #[.val (.long xx), .second, .val (.int ss), .val (.long w), .second, .val (.int (8 : Int32)), .unset, .unset] [(.int (8 : Int32))]))
    refine own_go (fun t_ k_ => XS.bipush X1.here hx rfl (hb hby at_30) k_) ?_
    show OwnFin p e below s _ _ _ (T1.setTop (mkF m 32 #[.val (.long xx), .second, .val (.int ss), .val (.long w), .second, .val (.int (8 : Int32)), .unset, .unset] [(.int (10 : Int32)), (.int (8 : Int32))]))
    refine own_go (fun t_ k_ => XS.icmpNo X1.here hx rfl (hb hby at_32) rfl (feq (by decide)).1 k_) ?_
    show OwnFin p e below s _ _ _ (T1.setTop (mkF m 35 #[.val (.long xx), .second, .val (.int ss), .val (.long w), .second, .val (.int (8 : Int32)), .unset, .unset] []))
    refine own_go (fun t_ k_ => XS.lloadN X1.here hx rfl (hb hby at_35) rfl k_) ?_
    show OwnFin p e below s _ _ _ (T1.setTop (mkF m 36 #[.val (.long xx), .second, .val (.int ss), .val (.long w), .second, .val (.int (8 : Int32)), .unset, .unset] [(.long w)]))
    refine own_go (fun t_ k_ => XS.bipush X1.here hx rfl (hb hby at_36) k_) ?_
    show OwnFin p e below s _ _ _ (T1.setTop (mkF m 38 #[.val (.long xx), .second, .val (.int ss), .val (.long w), .second, .val (.int (8 : Int32)), .unset, .unset] [(.int (7 : Int32)), (.long w)]))
    refine own_go (fun t_ k_ => XS.iload X1.here hx rfl (hb hby at_38) rfl k_) ?_
    show OwnFin p e below s _ _ _ (T1.setTop (mkF m 40 #[.val (.long xx), .second, .val (.int ss), .val (.long w), .second, .val (.int (8 : Int32)), .unset, .unset] [(.int (8 : Int32)), (.int (7 : Int32)), (.long w)]))
    refine own_go (fun t_ k_ => XS.imul X1.here hx rfl (hb hby at_40) rfl k_) ?_
    show OwnFin p e below s _ _ _ (T1.setTop (mkF m 41 #[.val (.long xx), .second, .val (.int ss), .val (.long w), .second, .val (.int (8 : Int32)), .unset, .unset] [(.int ((7 : Int32) * (8 : Int32))), (.long w)]))
    refine own_go (fun t_ k_ => XS.lushr X1.here hx rfl (hb hby at_41) rfl k_) ?_
    show OwnFin p e below s _ _ _ (T1.setTop (mkF m 42 #[.val (.long xx), .second, .val (.int ss), .val (.long w), .second, .val (.int (8 : Int32)), .unset, .unset] [(.long ((w.toUInt64 >>> (((7 : Int32) * (8 : Int32)) &&& 0x3f).toInt64.toUInt64).toInt64))]))
    refine own_go (fun t_ k_ => XS.lconst X1.here hx rfl (hb hby at_42) k_) ?_
    show OwnFin p e below s _ _ _ (T1.setTop (mkF m 43 #[.val (.long xx), .second, .val (.int ss), .val (.long w), .second, .val (.int (8 : Int32)), .unset, .unset] [(.long (0 : Int64)), (.long ((w.toUInt64 >>> (((7 : Int32) * (8 : Int32)) &&& 0x3f).toInt64.toUInt64).toInt64))]))
    refine own_go (fun t_ k_ => XS.lcmp X1.here hx rfl (hb hby at_43) rfl k_) ?_
    show OwnFin p e below s _ _ _ (T1.setTop (mkF m 44 #[.val (.long xx), .second, .val (.int ss), .val (.long w), .second, .val (.int (8 : Int32)), .unset, .unset] [(.int (lcmpW ((w.toUInt64 >>> (((7 : Int32) * (8 : Int32)) &&& 0x3f).toInt64.toUInt64).toInt64) (0 : Int64)))]))
    have hc44 : ((w.toUInt64 >>> (((7 : Int32) * (8 : Int32)) &&& 0x3f).toInt64.toUInt64).toInt64) = (0 : Int64) := (own_ush0 w (n := (((7 : Int32) * (8 : Int32)) &&& 0x3f).toInt64.toUInt64) (k := 56) (by decide) (by decide)).mpr (by have hP : (2 : Nat) ^ 56 = 72057594037927936 := (by decide); rw [hP]; omega)
    refine own_go (fun t_ k_ => XS.ifNo X1.here hx rfl (hb hby at_44) rfl ((if0 _ _).trans (teq ((lw_eq ((w.toUInt64 >>> (((7 : Int32) * (8 : Int32)) &&& 0x3f).toInt64.toUInt64).toInt64) (0 : Int64)).mpr hc44)).2) k_) ?_
    show OwnFin p e below s _ _ _ (T1.setTop (mkF m 47 #[.val (.long xx), .second, .val (.int ss), .val (.long w), .second, .val (.int (8 : Int32)), .unset, .unset] []))
    refine own_go (fun t_ k_ => XS.iconst X1.here hx rfl (hb hby at_47) k_) ?_
    show OwnFin p e below s _ _ _ (T1.setTop (mkF m 48 #[.val (.long xx), .second, .val (.int ss), .val (.long w), .second, .val (.int (8 : Int32)), .unset, .unset] [(.int (1 : Int32))]))
    refine own_go (fun t_ k_ => XS.goto X1.here hx rfl (pc0 := 48) (pc' := 52) rfl (hb hby at_48) (by decide) (by decide) k_) ?_
    show OwnFin p e below s _ _ _ (T1.setTop (mkF m 52 #[.val (.long xx), .second, .val (.int ss), .val (.long w), .second, .val (.int (8 : Int32)), .unset, .unset] [(.int (1 : Int32))]))
    refine own_go (fun t_ k_ => XS.istore X1.here hx rfl (hb hby at_52) rfl (l' := #[.val (.long xx), .second, .val (.int ss), .val (.long w), .second, .val (.int (8 : Int32)), .val (.int (1 : Int32)), .unset]) rfl k_) ?_
    show OwnFin p e below s _ _ _ (T1.setTop (mkF m 54 #[.val (.long xx), .second, .val (.int ss), .val (.long w), .second, .val (.int (8 : Int32)), .val (.int (1 : Int32)), .unset] []))
    refine own_go (fun t_ k_ => XS.iload X1.here hx rfl (hb hby at_54) rfl k_) ?_
    show OwnFin p e below s _ _ _ (T1.setTop (mkF m 56 #[.val (.long xx), .second, .val (.int ss), .val (.long w), .second, .val (.int (8 : Int32)), .val (.int (1 : Int32)), .unset] [(.int (8 : Int32))]))
    refine own_go (fun t_ k_ => XS.iconst X1.here hx rfl (hb hby at_56) k_) ?_
    show OwnFin p e below s _ _ _ (T1.setTop (mkF m 57 #[.val (.long xx), .second, .val (.int ss), .val (.long w), .second, .val (.int (8 : Int32)), .val (.int (1 : Int32)), .unset] [(.int (1 : Int32)), (.int (8 : Int32))]))
    refine own_go (fun t_ k_ => XS.icmpNo X1.here hx rfl (hb hby at_57) rfl (feq (by decide)).1 k_) ?_
    show OwnFin p e below s _ _ _ (T1.setTop (mkF m 60 #[.val (.long xx), .second, .val (.int ss), .val (.long w), .second, .val (.int (8 : Int32)), .val (.int (1 : Int32)), .unset] []))
    refine own_go (fun t_ k_ => XS.lloadN X1.here hx rfl (hb hby at_60) rfl k_) ?_
    show OwnFin p e below s _ _ _ (T1.setTop (mkF m 61 #[.val (.long xx), .second, .val (.int ss), .val (.long w), .second, .val (.int (8 : Int32)), .val (.int (1 : Int32)), .unset] [(.long w)]))
    refine own_go (fun t_ k_ => XS.bipush X1.here hx rfl (hb hby at_61) k_) ?_
    show OwnFin p e below s _ _ _ (T1.setTop (mkF m 63 #[.val (.long xx), .second, .val (.int ss), .val (.long w), .second, .val (.int (8 : Int32)), .val (.int (1 : Int32)), .unset] [(.int (7 : Int32)), (.long w)]))
    refine own_go (fun t_ k_ => XS.iload X1.here hx rfl (hb hby at_63) rfl k_) ?_
    show OwnFin p e below s _ _ _ (T1.setTop (mkF m 65 #[.val (.long xx), .second, .val (.int ss), .val (.long w), .second, .val (.int (8 : Int32)), .val (.int (1 : Int32)), .unset] [(.int (8 : Int32)), (.int (7 : Int32)), (.long w)]))
    refine own_go (fun t_ k_ => XS.iconst X1.here hx rfl (hb hby at_65) k_) ?_
    show OwnFin p e below s _ _ _ (T1.setTop (mkF m 66 #[.val (.long xx), .second, .val (.int ss), .val (.long w), .second, .val (.int (8 : Int32)), .val (.int (1 : Int32)), .unset] [(.int (1 : Int32)), (.int (8 : Int32)), (.int (7 : Int32)), (.long w)]))
    refine own_go (fun t_ k_ => XS.isub X1.here hx rfl (hb hby at_66) rfl k_) ?_
    show OwnFin p e below s _ _ _ (T1.setTop (mkF m 67 #[.val (.long xx), .second, .val (.int ss), .val (.long w), .second, .val (.int (8 : Int32)), .val (.int (1 : Int32)), .unset] [(.int ((8 : Int32) - (1 : Int32))), (.int (7 : Int32)), (.long w)]))
    refine own_go (fun t_ k_ => XS.imul X1.here hx rfl (hb hby at_67) rfl k_) ?_
    show OwnFin p e below s _ _ _ (T1.setTop (mkF m 68 #[.val (.long xx), .second, .val (.int ss), .val (.long w), .second, .val (.int (8 : Int32)), .val (.int (1 : Int32)), .unset] [(.int ((7 : Int32) * ((8 : Int32) - (1 : Int32)))), (.long w)]))
    refine own_go (fun t_ k_ => XS.lushr X1.here hx rfl (hb hby at_68) rfl k_) ?_
    show OwnFin p e below s _ _ _ (T1.setTop (mkF m 69 #[.val (.long xx), .second, .val (.int ss), .val (.long w), .second, .val (.int (8 : Int32)), .val (.int (1 : Int32)), .unset] [(.long ((w.toUInt64 >>> (((7 : Int32) * ((8 : Int32) - (1 : Int32))) &&& 0x3f).toInt64.toUInt64).toInt64))]))
    refine own_go (fun t_ k_ => XS.lconst X1.here hx rfl (hb hby at_69) k_) ?_
    show OwnFin p e below s _ _ _ (T1.setTop (mkF m 70 #[.val (.long xx), .second, .val (.int ss), .val (.long w), .second, .val (.int (8 : Int32)), .val (.int (1 : Int32)), .unset] [(.long (0 : Int64)), (.long ((w.toUInt64 >>> (((7 : Int32) * ((8 : Int32) - (1 : Int32))) &&& 0x3f).toInt64.toUInt64).toInt64))]))
    refine own_go (fun t_ k_ => XS.lcmp X1.here hx rfl (hb hby at_70) rfl k_) ?_
    show OwnFin p e below s _ _ _ (T1.setTop (mkF m 71 #[.val (.long xx), .second, .val (.int ss), .val (.long w), .second, .val (.int (8 : Int32)), .val (.int (1 : Int32)), .unset] [(.int (lcmpW ((w.toUInt64 >>> (((7 : Int32) * ((8 : Int32) - (1 : Int32))) &&& 0x3f).toInt64.toUInt64).toInt64) (0 : Int64)))]))
    have hc71 : ¬ (((w.toUInt64 >>> (((7 : Int32) * ((8 : Int32) - (1 : Int32))) &&& 0x3f).toInt64.toUInt64).toInt64) = (0 : Int64)) := fun q => by have q' := (own_ush0 w (n := (((7 : Int32) * ((8 : Int32) - (1 : Int32))) &&& 0x3f).toInt64.toUInt64) (k := 49) (by decide) (by decide)).mp q; have hP : (2 : Nat) ^ 49 = 562949953421312 := (by decide); rw [hP] at q'; omega
    refine own_go (fun t_ k_ => XS.ifNo X1.here hx rfl (hb hby at_71) rfl ((if0 _ _).trans (feq (mt (lw_eq ((w.toUInt64 >>> (((7 : Int32) * ((8 : Int32) - (1 : Int32))) &&& 0x3f).toInt64.toUInt64).toInt64) (0 : Int64)).mp hc71)).1) k_) ?_
    show OwnFin p e below s _ _ _ (T1.setTop (mkF m 74 #[.val (.long xx), .second, .val (.int ss), .val (.long w), .second, .val (.int (8 : Int32)), .val (.int (1 : Int32)), .unset] []))
    refine own_go (fun t_ k_ => XS.iconst X1.here hx rfl (hb hby at_74) k_) ?_
    show OwnFin p e below s _ _ _ (T1.setTop (mkF m 75 #[.val (.long xx), .second, .val (.int ss), .val (.long w), .second, .val (.int (8 : Int32)), .val (.int (1 : Int32)), .unset] [(.int (1 : Int32))]))
    refine own_go (fun t_ k_ => XS.goto X1.here hx rfl (pc0 := 75) (pc' := 79) rfl (hb hby at_75) (by decide) (by decide) k_) ?_
    show OwnFin p e below s _ _ _ (T1.setTop (mkF m 79 #[.val (.long xx), .second, .val (.int ss), .val (.long w), .second, .val (.int (8 : Int32)), .val (.int (1 : Int32)), .unset] [(.int (1 : Int32))]))
    refine own_go (fun t_ k_ => XS.istore X1.here hx rfl (hb hby at_79) rfl (l' := #[.val (.long xx), .second, .val (.int ss), .val (.long w), .second, .val (.int (8 : Int32)), .val (.int (1 : Int32)), .val (.int (1 : Int32))]) rfl k_) ?_
    show OwnFin p e below s _ _ _ (T1.setTop (mkF m 81 #[.val (.long xx), .second, .val (.int ss), .val (.long w), .second, .val (.int (8 : Int32)), .val (.int (1 : Int32)), .val (.int (1 : Int32))] []))
    refine own_go (fun t_ k_ => XS.iload X1.here hx rfl (hb hby at_81) rfl k_) ?_
    show OwnFin p e below s _ _ _ (T1.setTop (mkF m 83 #[.val (.long xx), .second, .val (.int ss), .val (.long w), .second, .val (.int (8 : Int32)), .val (.int (1 : Int32)), .val (.int (1 : Int32))] [(.int (1 : Int32))]))
    refine own_go (fun t_ k_ => XS.ifNo X1.here hx rfl (hb hby at_83) rfl ((if0 _ _).trans (feq (by decide)).1) k_) ?_
    show OwnFin p e below s _ _ _ (T1.setTop (mkF m 86 #[.val (.long xx), .second, .val (.int ss), .val (.long w), .second, .val (.int (8 : Int32)), .val (.int (1 : Int32)), .val (.int (1 : Int32))] []))
    refine own_go (fun t_ k_ => XS.iload X1.here hx rfl (hb hby at_86) rfl k_) ?_
    show OwnFin p e below s _ _ _ (T1.setTop (mkF m 88 #[.val (.long xx), .second, .val (.int ss), .val (.long w), .second, .val (.int (8 : Int32)), .val (.int (1 : Int32)), .val (.int (1 : Int32))] [(.int (1 : Int32))]))
    refine own_go (fun t_ k_ => XS.ifNo X1.here hx rfl (hb hby at_88) rfl ((if0 _ _).trans (feq (by decide)).1) k_) ?_
    show OwnFin p e below s _ _ _ (T1.setTop (mkF m 91 #[.val (.long xx), .second, .val (.int ss), .val (.long w), .second, .val (.int (8 : Int32)), .val (.int (1 : Int32)), .val (.int (1 : Int32))] []))
    refine own_go (fun t_ k_ => XS.iconst X1.here hx rfl (hb hby at_91) k_) ?_
    show OwnFin p e below s _ _ _ (T1.setTop (mkF m 92 #[.val (.long xx), .second, .val (.int ss), .val (.long w), .second, .val (.int (8 : Int32)), .val (.int (1 : Int32)), .val (.int (1 : Int32))] [(.int (1 : Int32))]))
    refine own_go (fun t_ k_ => XS.goto X1.here hx rfl (pc0 := 92) (pc' := 96) rfl (hb hby at_92) (by decide) (by decide) k_) ?_
    show OwnFin p e below s _ _ _ (T1.setTop (mkF m 96 #[.val (.long xx), .second, .val (.int ss), .val (.long w), .second, .val (.int (8 : Int32)), .val (.int (1 : Int32)), .val (.int (1 : Int32))] [(.int (1 : Int32))]))
    refine own_ret X1 (v := some (.int (1 : Int32))) hlk (fun hh => by rw [hret] at hh; cases hh) (fun fs hr => retN X1 hx (t := .boolean) hret (by simp) (hb hby at_96) hr) (by decide) (by decide) ?_
    exact ⟨rfl, N1⟩
  · show OwnFin p e below s _ _ _ (T1.setTop (mkF m 13 #[.val (.long xx), .second, .val (.int ss), .val (.long w), .second, .val (.int (9 : Int32)), .unset, .unset] []))
    refine own_go (fun t_ k_ => XS.iload X1.here hx rfl (hb hby at_13) rfl k_) ?_
    show OwnFin p e below s _ _ _ (T1.setTop (mkF m 15 #[.val (.long xx), .second, .val (.int ss), .val (.long w), .second, .val (.int (9 : Int32)), .unset, .unset] [(.int (9 : Int32))]))
    refine own_go (fun t_ k_ => XS.iconst X1.here hx rfl (hb hby at_15) k_) ?_
    show OwnFin p e below s _ _ _ (T1.setTop (mkF m 16 #[.val (.long xx), .second, .val (.int ss), .val (.long w), .second, .val (.int (9 : Int32)), .unset, .unset] [(.int (1 : Int32)), (.int (9 : Int32))]))
    refine own_go (fun t_ k_ => XS.icmpNo X1.here hx rfl (hb hby at_16) rfl (flt (by decide)).1 k_) ?_
    show OwnFin p e below s _ _ _ (T1.setTop (mkF m 19 #[.val (.long xx), .second, .val (.int ss), .val (.long w), .second, .val (.int (9 : Int32)), .unset, .unset] []))
    refine own_go (fun t_ k_ => XS.iload X1.here hx rfl (hb hby at_19) rfl k_) ?_
    show OwnFin p e below s _ _ _ (T1.setTop (mkF m 21 #[.val (.long xx), .second, .val (.int ss), .val (.long w), .second, .val (.int (9 : Int32)), .unset, .unset] [(.int (9 : Int32))]))
    refine own_go (fun t_ k_ => XS.bipush X1.here hx rfl (hb hby at_21) k_) ?_
    show OwnFin p e below s _ _ _ (T1.setTop (mkF m 23 #[.val (.long xx), .second, .val (.int ss), .val (.long w), .second, .val (.int (9 : Int32)), .unset, .unset] [(.int (10 : Int32)), (.int (9 : Int32))]))
    refine own_go (fun t_ k_ => XS.icmpYes X1.here hx rfl (pc0 := 23) (pc' := 28) rfl (hb hby at_23) rfl (flt (by decide)).2.2.2 (by decide) (by decide) k_) ?_
    show OwnFin p e below s _ _ _ (T1.setTop (mkF m 28 #[.val (.long xx), .second, .val (.int ss), .val (.long w), .second, .val (.int (9 : Int32)), .unset, .unset] []))
    refine own_go (fun t_ k_ => XS.iload X1.here hx rfl (hb hby at_28) rfl k_) ?_
    show OwnFin p e below s _ _ _ (T1.setTop (mkF m 30 #[.val (.long xx), .second, .val (.int ss), .val (.long w), .second, .val (.int (9 : Int32)), .unset, .unset] [(.int (9 : Int32))]))
    refine own_go (fun t_ k_ => XS.bipush X1.here hx rfl (hb hby at_30) k_) ?_
    show OwnFin p e below s _ _ _ (T1.setTop (mkF m 32 #[.val (.long xx), .second, .val (.int ss), .val (.long w), .second, .val (.int (9 : Int32)), .unset, .unset] [(.int (10 : Int32)), (.int (9 : Int32))]))
    refine own_go (fun t_ k_ => XS.icmpNo X1.here hx rfl (hb hby at_32) rfl (feq (by decide)).1 k_) ?_
    show OwnFin p e below s _ _ _ (T1.setTop (mkF m 35 #[.val (.long xx), .second, .val (.int ss), .val (.long w), .second, .val (.int (9 : Int32)), .unset, .unset] []))
    refine own_go (fun t_ k_ => XS.lloadN X1.here hx rfl (hb hby at_35) rfl k_) ?_
    show OwnFin p e below s _ _ _ (T1.setTop (mkF m 36 #[.val (.long xx), .second, .val (.int ss), .val (.long w), .second, .val (.int (9 : Int32)), .unset, .unset] [(.long w)]))
    refine own_go (fun t_ k_ => XS.bipush X1.here hx rfl (hb hby at_36) k_) ?_
    show OwnFin p e below s _ _ _ (T1.setTop (mkF m 38 #[.val (.long xx), .second, .val (.int ss), .val (.long w), .second, .val (.int (9 : Int32)), .unset, .unset] [(.int (7 : Int32)), (.long w)]))
    refine own_go (fun t_ k_ => XS.iload X1.here hx rfl (hb hby at_38) rfl k_) ?_
    show OwnFin p e below s _ _ _ (T1.setTop (mkF m 40 #[.val (.long xx), .second, .val (.int ss), .val (.long w), .second, .val (.int (9 : Int32)), .unset, .unset] [(.int (9 : Int32)), (.int (7 : Int32)), (.long w)]))
    refine own_go (fun t_ k_ => XS.imul X1.here hx rfl (hb hby at_40) rfl k_) ?_
    show OwnFin p e below s _ _ _ (T1.setTop (mkF m 41 #[.val (.long xx), .second, .val (.int ss), .val (.long w), .second, .val (.int (9 : Int32)), .unset, .unset] [(.int ((7 : Int32) * (9 : Int32))), (.long w)]))
    refine own_go (fun t_ k_ => XS.lushr X1.here hx rfl (hb hby at_41) rfl k_) ?_
    show OwnFin p e below s _ _ _ (T1.setTop (mkF m 42 #[.val (.long xx), .second, .val (.int ss), .val (.long w), .second, .val (.int (9 : Int32)), .unset, .unset] [(.long ((w.toUInt64 >>> (((7 : Int32) * (9 : Int32)) &&& 0x3f).toInt64.toUInt64).toInt64))]))
    refine own_go (fun t_ k_ => XS.lconst X1.here hx rfl (hb hby at_42) k_) ?_
    show OwnFin p e below s _ _ _ (T1.setTop (mkF m 43 #[.val (.long xx), .second, .val (.int ss), .val (.long w), .second, .val (.int (9 : Int32)), .unset, .unset] [(.long (0 : Int64)), (.long ((w.toUInt64 >>> (((7 : Int32) * (9 : Int32)) &&& 0x3f).toInt64.toUInt64).toInt64))]))
    refine own_go (fun t_ k_ => XS.lcmp X1.here hx rfl (hb hby at_43) rfl k_) ?_
    show OwnFin p e below s _ _ _ (T1.setTop (mkF m 44 #[.val (.long xx), .second, .val (.int ss), .val (.long w), .second, .val (.int (9 : Int32)), .unset, .unset] [(.int (lcmpW ((w.toUInt64 >>> (((7 : Int32) * (9 : Int32)) &&& 0x3f).toInt64.toUInt64).toInt64) (0 : Int64)))]))
    have hc44 : ((w.toUInt64 >>> (((7 : Int32) * (9 : Int32)) &&& 0x3f).toInt64.toUInt64).toInt64) = (0 : Int64) := (own_ush0 w (n := (((7 : Int32) * (9 : Int32)) &&& 0x3f).toInt64.toUInt64) (k := 63) (by decide) (by decide)).mpr (by have hP : (2 : Nat) ^ 63 = 9223372036854775808 := (by decide); rw [hP]; omega)
    refine own_go (fun t_ k_ => XS.ifNo X1.here hx rfl (hb hby at_44) rfl ((if0 _ _).trans (teq ((lw_eq ((w.toUInt64 >>> (((7 : Int32) * (9 : Int32)) &&& 0x3f).toInt64.toUInt64).toInt64) (0 : Int64)).mpr hc44)).2) k_) ?_
    show OwnFin p e below s _ _ _ (T1.setTop (mkF m 47 #[.val (.long xx), .second, .val (.int ss), .val (.long w), .second, .val (.int (9 : Int32)), .unset, .unset] []))
    refine own_go (fun t_ k_ => XS.iconst X1.here hx rfl (hb hby at_47) k_) ?_
    show OwnFin p e below s _ _ _ (T1.setTop (mkF m 48 #[.val (.long xx), .second, .val (.int ss), .val (.long w), .second, .val (.int (9 : Int32)), .unset, .unset] [(.int (1 : Int32))]))
    refine own_go (fun t_ k_ => XS.goto X1.here hx rfl (pc0 := 48) (pc' := 52) rfl (hb hby at_48) (by decide) (by decide) k_) ?_
    show OwnFin p e below s _ _ _ (T1.setTop (mkF m 52 #[.val (.long xx), .second, .val (.int ss), .val (.long w), .second, .val (.int (9 : Int32)), .unset, .unset] [(.int (1 : Int32))]))
    refine own_go (fun t_ k_ => XS.istore X1.here hx rfl (hb hby at_52) rfl (l' := #[.val (.long xx), .second, .val (.int ss), .val (.long w), .second, .val (.int (9 : Int32)), .val (.int (1 : Int32)), .unset]) rfl k_) ?_
    show OwnFin p e below s _ _ _ (T1.setTop (mkF m 54 #[.val (.long xx), .second, .val (.int ss), .val (.long w), .second, .val (.int (9 : Int32)), .val (.int (1 : Int32)), .unset] []))
    refine own_go (fun t_ k_ => XS.iload X1.here hx rfl (hb hby at_54) rfl k_) ?_
    show OwnFin p e below s _ _ _ (T1.setTop (mkF m 56 #[.val (.long xx), .second, .val (.int ss), .val (.long w), .second, .val (.int (9 : Int32)), .val (.int (1 : Int32)), .unset] [(.int (9 : Int32))]))
    refine own_go (fun t_ k_ => XS.iconst X1.here hx rfl (hb hby at_56) k_) ?_
    show OwnFin p e below s _ _ _ (T1.setTop (mkF m 57 #[.val (.long xx), .second, .val (.int ss), .val (.long w), .second, .val (.int (9 : Int32)), .val (.int (1 : Int32)), .unset] [(.int (1 : Int32)), (.int (9 : Int32))]))
    refine own_go (fun t_ k_ => XS.icmpNo X1.here hx rfl (hb hby at_57) rfl (feq (by decide)).1 k_) ?_
    show OwnFin p e below s _ _ _ (T1.setTop (mkF m 60 #[.val (.long xx), .second, .val (.int ss), .val (.long w), .second, .val (.int (9 : Int32)), .val (.int (1 : Int32)), .unset] []))
    refine own_go (fun t_ k_ => XS.lloadN X1.here hx rfl (hb hby at_60) rfl k_) ?_
    show OwnFin p e below s _ _ _ (T1.setTop (mkF m 61 #[.val (.long xx), .second, .val (.int ss), .val (.long w), .second, .val (.int (9 : Int32)), .val (.int (1 : Int32)), .unset] [(.long w)]))
    refine own_go (fun t_ k_ => XS.bipush X1.here hx rfl (hb hby at_61) k_) ?_
    show OwnFin p e below s _ _ _ (T1.setTop (mkF m 63 #[.val (.long xx), .second, .val (.int ss), .val (.long w), .second, .val (.int (9 : Int32)), .val (.int (1 : Int32)), .unset] [(.int (7 : Int32)), (.long w)]))
    refine own_go (fun t_ k_ => XS.iload X1.here hx rfl (hb hby at_63) rfl k_) ?_
    show OwnFin p e below s _ _ _ (T1.setTop (mkF m 65 #[.val (.long xx), .second, .val (.int ss), .val (.long w), .second, .val (.int (9 : Int32)), .val (.int (1 : Int32)), .unset] [(.int (9 : Int32)), (.int (7 : Int32)), (.long w)]))
    refine own_go (fun t_ k_ => XS.iconst X1.here hx rfl (hb hby at_65) k_) ?_
    show OwnFin p e below s _ _ _ (T1.setTop (mkF m 66 #[.val (.long xx), .second, .val (.int ss), .val (.long w), .second, .val (.int (9 : Int32)), .val (.int (1 : Int32)), .unset] [(.int (1 : Int32)), (.int (9 : Int32)), (.int (7 : Int32)), (.long w)]))
    refine own_go (fun t_ k_ => XS.isub X1.here hx rfl (hb hby at_66) rfl k_) ?_
    show OwnFin p e below s _ _ _ (T1.setTop (mkF m 67 #[.val (.long xx), .second, .val (.int ss), .val (.long w), .second, .val (.int (9 : Int32)), .val (.int (1 : Int32)), .unset] [(.int ((9 : Int32) - (1 : Int32))), (.int (7 : Int32)), (.long w)]))
    refine own_go (fun t_ k_ => XS.imul X1.here hx rfl (hb hby at_67) rfl k_) ?_
    show OwnFin p e below s _ _ _ (T1.setTop (mkF m 68 #[.val (.long xx), .second, .val (.int ss), .val (.long w), .second, .val (.int (9 : Int32)), .val (.int (1 : Int32)), .unset] [(.int ((7 : Int32) * ((9 : Int32) - (1 : Int32)))), (.long w)]))
    refine own_go (fun t_ k_ => XS.lushr X1.here hx rfl (hb hby at_68) rfl k_) ?_
    show OwnFin p e below s _ _ _ (T1.setTop (mkF m 69 #[.val (.long xx), .second, .val (.int ss), .val (.long w), .second, .val (.int (9 : Int32)), .val (.int (1 : Int32)), .unset] [(.long ((w.toUInt64 >>> (((7 : Int32) * ((9 : Int32) - (1 : Int32))) &&& 0x3f).toInt64.toUInt64).toInt64))]))
    refine own_go (fun t_ k_ => XS.lconst X1.here hx rfl (hb hby at_69) k_) ?_
    show OwnFin p e below s _ _ _ (T1.setTop (mkF m 70 #[.val (.long xx), .second, .val (.int ss), .val (.long w), .second, .val (.int (9 : Int32)), .val (.int (1 : Int32)), .unset] [(.long (0 : Int64)), (.long ((w.toUInt64 >>> (((7 : Int32) * ((9 : Int32) - (1 : Int32))) &&& 0x3f).toInt64.toUInt64).toInt64))]))
    refine own_go (fun t_ k_ => XS.lcmp X1.here hx rfl (hb hby at_70) rfl k_) ?_
    show OwnFin p e below s _ _ _ (T1.setTop (mkF m 71 #[.val (.long xx), .second, .val (.int ss), .val (.long w), .second, .val (.int (9 : Int32)), .val (.int (1 : Int32)), .unset] [(.int (lcmpW ((w.toUInt64 >>> (((7 : Int32) * ((9 : Int32) - (1 : Int32))) &&& 0x3f).toInt64.toUInt64).toInt64) (0 : Int64)))]))
    have hc71 : ¬ (((w.toUInt64 >>> (((7 : Int32) * ((9 : Int32) - (1 : Int32))) &&& 0x3f).toInt64.toUInt64).toInt64) = (0 : Int64)) := fun q => by have q' := (own_ush0 w (n := (((7 : Int32) * ((9 : Int32) - (1 : Int32))) &&& 0x3f).toInt64.toUInt64) (k := 56) (by decide) (by decide)).mp q; have hP : (2 : Nat) ^ 56 = 72057594037927936 := (by decide); rw [hP] at q'; omega
    refine own_go (fun t_ k_ => XS.ifNo X1.here hx rfl (hb hby at_71) rfl ((if0 _ _).trans (feq (mt (lw_eq ((w.toUInt64 >>> (((7 : Int32) * ((9 : Int32) - (1 : Int32))) &&& 0x3f).toInt64.toUInt64).toInt64) (0 : Int64)).mp hc71)).1) k_) ?_
    show OwnFin p e below s _ _ _ (T1.setTop (mkF m 74 #[.val (.long xx), .second, .val (.int ss), .val (.long w), .second, .val (.int (9 : Int32)), .val (.int (1 : Int32)), .unset] []))
    refine own_go (fun t_ k_ => XS.iconst X1.here hx rfl (hb hby at_74) k_) ?_
    show OwnFin p e below s _ _ _ (T1.setTop (mkF m 75 #[.val (.long xx), .second, .val (.int ss), .val (.long w), .second, .val (.int (9 : Int32)), .val (.int (1 : Int32)), .unset] [(.int (1 : Int32))]))
    refine own_go (fun t_ k_ => XS.goto X1.here hx rfl (pc0 := 75) (pc' := 79) rfl (hb hby at_75) (by decide) (by decide) k_) ?_
    show OwnFin p e below s _ _ _ (T1.setTop (mkF m 79 #[.val (.long xx), .second, .val (.int ss), .val (.long w), .second, .val (.int (9 : Int32)), .val (.int (1 : Int32)), .unset] [(.int (1 : Int32))]))
    refine own_go (fun t_ k_ => XS.istore X1.here hx rfl (hb hby at_79) rfl (l' := #[.val (.long xx), .second, .val (.int ss), .val (.long w), .second, .val (.int (9 : Int32)), .val (.int (1 : Int32)), .val (.int (1 : Int32))]) rfl k_) ?_
    show OwnFin p e below s _ _ _ (T1.setTop (mkF m 81 #[.val (.long xx), .second, .val (.int ss), .val (.long w), .second, .val (.int (9 : Int32)), .val (.int (1 : Int32)), .val (.int (1 : Int32))] []))
    refine own_go (fun t_ k_ => XS.iload X1.here hx rfl (hb hby at_81) rfl k_) ?_
    show OwnFin p e below s _ _ _ (T1.setTop (mkF m 83 #[.val (.long xx), .second, .val (.int ss), .val (.long w), .second, .val (.int (9 : Int32)), .val (.int (1 : Int32)), .val (.int (1 : Int32))] [(.int (1 : Int32))]))
    refine own_go (fun t_ k_ => XS.ifNo X1.here hx rfl (hb hby at_83) rfl ((if0 _ _).trans (feq (by decide)).1) k_) ?_
    show OwnFin p e below s _ _ _ (T1.setTop (mkF m 86 #[.val (.long xx), .second, .val (.int ss), .val (.long w), .second, .val (.int (9 : Int32)), .val (.int (1 : Int32)), .val (.int (1 : Int32))] []))
    refine own_go (fun t_ k_ => XS.iload X1.here hx rfl (hb hby at_86) rfl k_) ?_
    show OwnFin p e below s _ _ _ (T1.setTop (mkF m 88 #[.val (.long xx), .second, .val (.int ss), .val (.long w), .second, .val (.int (9 : Int32)), .val (.int (1 : Int32)), .val (.int (1 : Int32))] [(.int (1 : Int32))]))
    refine own_go (fun t_ k_ => XS.ifNo X1.here hx rfl (hb hby at_88) rfl ((if0 _ _).trans (feq (by decide)).1) k_) ?_
    show OwnFin p e below s _ _ _ (T1.setTop (mkF m 91 #[.val (.long xx), .second, .val (.int ss), .val (.long w), .second, .val (.int (9 : Int32)), .val (.int (1 : Int32)), .val (.int (1 : Int32))] []))
    refine own_go (fun t_ k_ => XS.iconst X1.here hx rfl (hb hby at_91) k_) ?_
    show OwnFin p e below s _ _ _ (T1.setTop (mkF m 92 #[.val (.long xx), .second, .val (.int ss), .val (.long w), .second, .val (.int (9 : Int32)), .val (.int (1 : Int32)), .val (.int (1 : Int32))] [(.int (1 : Int32))]))
    refine own_go (fun t_ k_ => XS.goto X1.here hx rfl (pc0 := 92) (pc' := 96) rfl (hb hby at_92) (by decide) (by decide) k_) ?_
    show OwnFin p e below s _ _ _ (T1.setTop (mkF m 96 #[.val (.long xx), .second, .val (.int ss), .val (.long w), .second, .val (.int (9 : Int32)), .val (.int (1 : Int32)), .val (.int (1 : Int32))] [(.int (1 : Int32))]))
    refine own_ret X1 (v := some (.int (1 : Int32))) hlk (fun hh => by rw [hret] at hh; cases hh) (fun fs hr => retN X1 hx (t := .boolean) hret (by simp) (hb hby at_96) hr) (by decide) (by decide) ?_
    exact ⟨rfl, N1⟩
  · show OwnFin p e below s _ _ _ (T1.setTop (mkF m 13 #[.val (.long xx), .second, .val (.int ss), .val (.long w), .second, .val (.int (10 : Int32)), .unset, .unset] []))
    refine own_go (fun t_ k_ => XS.iload X1.here hx rfl (hb hby at_13) rfl k_) ?_
    show OwnFin p e below s _ _ _ (T1.setTop (mkF m 15 #[.val (.long xx), .second, .val (.int ss), .val (.long w), .second, .val (.int (10 : Int32)), .unset, .unset] [(.int (10 : Int32))]))
    refine own_go (fun t_ k_ => XS.iconst X1.here hx rfl (hb hby at_15) k_) ?_
    show OwnFin p e below s _ _ _ (T1.setTop (mkF m 16 #[.val (.long xx), .second, .val (.int ss), .val (.long w), .second, .val (.int (10 : Int32)), .unset, .unset] [(.int (1 : Int32)), (.int (10 : Int32))]))
    refine own_go (fun t_ k_ => XS.icmpNo X1.here hx rfl (hb hby at_16) rfl (flt (by decide)).1 k_) ?_
    show OwnFin p e below s _ _ _ (T1.setTop (mkF m 19 #[.val (.long xx), .second, .val (.int ss), .val (.long w), .second, .val (.int (10 : Int32)), .unset, .unset] []))
    refine own_go (fun t_ k_ => XS.iload X1.here hx rfl (hb hby at_19) rfl k_) ?_
    show OwnFin p e below s _ _ _ (T1.setTop (mkF m 21 #[.val (.long xx), .second, .val (.int ss), .val (.long w), .second, .val (.int (10 : Int32)), .unset, .unset] [(.int (10 : Int32))]))
    refine own_go (fun t_ k_ => XS.bipush X1.here hx rfl (hb hby at_21) k_) ?_
    show OwnFin p e below s _ _ _ (T1.setTop (mkF m 23 #[.val (.long xx), .second, .val (.int ss), .val (.long w), .second, .val (.int (10 : Int32)), .unset, .unset] [(.int (10 : Int32)), (.int (10 : Int32))]))
    refine own_go (fun t_ k_ => XS.icmpYes X1.here hx rfl (pc0 := 23) (pc' := 28) rfl (hb hby at_23) rfl (flt (by decide)).2.2.2 (by decide) (by decide) k_) ?_
    show OwnFin p e below s _ _ _ (T1.setTop (mkF m 28 #[.val (.long xx), .second, .val (.int ss), .val (.long w), .second, .val (.int (10 : Int32)), .unset, .unset] []))
    refine own_go (fun t_ k_ => XS.iload X1.here hx rfl (hb hby at_28) rfl k_) ?_
    show OwnFin p e below s _ _ _ (T1.setTop (mkF m 30 #[.val (.long xx), .second, .val (.int ss), .val (.long w), .second, .val (.int (10 : Int32)), .unset, .unset] [(.int (10 : Int32))]))
    refine own_go (fun t_ k_ => XS.bipush X1.here hx rfl (hb hby at_30) k_) ?_
    show OwnFin p e below s _ _ _ (T1.setTop (mkF m 32 #[.val (.long xx), .second, .val (.int ss), .val (.long w), .second, .val (.int (10 : Int32)), .unset, .unset] [(.int (10 : Int32)), (.int (10 : Int32))]))
    refine own_go (fun t_ k_ => XS.icmpYes X1.here hx rfl (pc0 := 32) (pc' := 47) rfl (hb hby at_32) rfl (teq (by decide)).1 (by decide) (by decide) k_) ?_
    show OwnFin p e below s _ _ _ (T1.setTop (mkF m 47 #[.val (.long xx), .second, .val (.int ss), .val (.long w), .second, .val (.int (10 : Int32)), .unset, .unset] []))
    refine own_go (fun t_ k_ => XS.iconst X1.here hx rfl (hb hby at_47) k_) ?_
    show OwnFin p e below s _ _ _ (T1.setTop (mkF m 48 #[.val (.long xx), .second, .val (.int ss), .val (.long w), .second, .val (.int (10 : Int32)), .unset, .unset] [(.int (1 : Int32))]))
    refine own_go (fun t_ k_ => XS.goto X1.here hx rfl (pc0 := 48) (pc' := 52) rfl (hb hby at_48) (by decide) (by decide) k_) ?_
    show OwnFin p e below s _ _ _ (T1.setTop (mkF m 52 #[.val (.long xx), .second, .val (.int ss), .val (.long w), .second, .val (.int (10 : Int32)), .unset, .unset] [(.int (1 : Int32))]))
    refine own_go (fun t_ k_ => XS.istore X1.here hx rfl (hb hby at_52) rfl (l' := #[.val (.long xx), .second, .val (.int ss), .val (.long w), .second, .val (.int (10 : Int32)), .val (.int (1 : Int32)), .unset]) rfl k_) ?_
    show OwnFin p e below s _ _ _ (T1.setTop (mkF m 54 #[.val (.long xx), .second, .val (.int ss), .val (.long w), .second, .val (.int (10 : Int32)), .val (.int (1 : Int32)), .unset] []))
    refine own_go (fun t_ k_ => XS.iload X1.here hx rfl (hb hby at_54) rfl k_) ?_
    show OwnFin p e below s _ _ _ (T1.setTop (mkF m 56 #[.val (.long xx), .second, .val (.int ss), .val (.long w), .second, .val (.int (10 : Int32)), .val (.int (1 : Int32)), .unset] [(.int (10 : Int32))]))
    refine own_go (fun t_ k_ => XS.iconst X1.here hx rfl (hb hby at_56) k_) ?_
    show OwnFin p e below s _ _ _ (T1.setTop (mkF m 57 #[.val (.long xx), .second, .val (.int ss), .val (.long w), .second, .val (.int (10 : Int32)), .val (.int (1 : Int32)), .unset] [(.int (1 : Int32)), (.int (10 : Int32))]))
    refine own_go (fun t_ k_ => XS.icmpNo X1.here hx rfl (hb hby at_57) rfl (feq (by decide)).1 k_) ?_
    show OwnFin p e below s _ _ _ (T1.setTop (mkF m 60 #[.val (.long xx), .second, .val (.int ss), .val (.long w), .second, .val (.int (10 : Int32)), .val (.int (1 : Int32)), .unset] []))
    refine own_go (fun t_ k_ => XS.lloadN X1.here hx rfl (hb hby at_60) rfl k_) ?_
    show OwnFin p e below s _ _ _ (T1.setTop (mkF m 61 #[.val (.long xx), .second, .val (.int ss), .val (.long w), .second, .val (.int (10 : Int32)), .val (.int (1 : Int32)), .unset] [(.long w)]))
    refine own_go (fun t_ k_ => XS.bipush X1.here hx rfl (hb hby at_61) k_) ?_
    show OwnFin p e below s _ _ _ (T1.setTop (mkF m 63 #[.val (.long xx), .second, .val (.int ss), .val (.long w), .second, .val (.int (10 : Int32)), .val (.int (1 : Int32)), .unset] [(.int (7 : Int32)), (.long w)]))
    refine own_go (fun t_ k_ => XS.iload X1.here hx rfl (hb hby at_63) rfl k_) ?_
    show OwnFin p e below s _ _ _ (T1.setTop (mkF m 65 #[.val (.long xx), .second, .val (.int ss), .val (.long w), .second, .val (.int (10 : Int32)), .val (.int (1 : Int32)), .unset] [(.int (10 : Int32)), (.int (7 : Int32)), (.long w)]))
    refine own_go (fun t_ k_ => XS.iconst X1.here hx rfl (hb hby at_65) k_) ?_
    show OwnFin p e below s _ _ _ (T1.setTop (mkF m 66 #[.val (.long xx), .second, .val (.int ss), .val (.long w), .second, .val (.int (10 : Int32)), .val (.int (1 : Int32)), .unset] [(.int (1 : Int32)), (.int (10 : Int32)), (.int (7 : Int32)), (.long w)]))
    refine own_go (fun t_ k_ => XS.isub X1.here hx rfl (hb hby at_66) rfl k_) ?_
    show OwnFin p e below s _ _ _ (T1.setTop (mkF m 67 #[.val (.long xx), .second, .val (.int ss), .val (.long w), .second, .val (.int (10 : Int32)), .val (.int (1 : Int32)), .unset] [(.int ((10 : Int32) - (1 : Int32))), (.int (7 : Int32)), (.long w)]))
    refine own_go (fun t_ k_ => XS.imul X1.here hx rfl (hb hby at_67) rfl k_) ?_
    show OwnFin p e below s _ _ _ (T1.setTop (mkF m 68 #[.val (.long xx), .second, .val (.int ss), .val (.long w), .second, .val (.int (10 : Int32)), .val (.int (1 : Int32)), .unset] [(.int ((7 : Int32) * ((10 : Int32) - (1 : Int32)))), (.long w)]))
    refine own_go (fun t_ k_ => XS.lushr X1.here hx rfl (hb hby at_68) rfl k_) ?_
    show OwnFin p e below s _ _ _ (T1.setTop (mkF m 69 #[.val (.long xx), .second, .val (.int ss), .val (.long w), .second, .val (.int (10 : Int32)), .val (.int (1 : Int32)), .unset] [(.long ((w.toUInt64 >>> (((7 : Int32) * ((10 : Int32) - (1 : Int32))) &&& 0x3f).toInt64.toUInt64).toInt64))]))
    refine own_go (fun t_ k_ => XS.lconst X1.here hx rfl (hb hby at_69) k_) ?_
    show OwnFin p e below s _ _ _ (T1.setTop (mkF m 70 #[.val (.long xx), .second, .val (.int ss), .val (.long w), .second, .val (.int (10 : Int32)), .val (.int (1 : Int32)), .unset] [(.long (0 : Int64)), (.long ((w.toUInt64 >>> (((7 : Int32) * ((10 : Int32) - (1 : Int32))) &&& 0x3f).toInt64.toUInt64).toInt64))]))
    refine own_go (fun t_ k_ => XS.lcmp X1.here hx rfl (hb hby at_70) rfl k_) ?_
    show OwnFin p e below s _ _ _ (T1.setTop (mkF m 71 #[.val (.long xx), .second, .val (.int ss), .val (.long w), .second, .val (.int (10 : Int32)), .val (.int (1 : Int32)), .unset] [(.int (lcmpW ((w.toUInt64 >>> (((7 : Int32) * ((10 : Int32) - (1 : Int32))) &&& 0x3f).toInt64.toUInt64).toInt64) (0 : Int64)))]))
    have hc71 : ¬ (((w.toUInt64 >>> (((7 : Int32) * ((10 : Int32) - (1 : Int32))) &&& 0x3f).toInt64.toUInt64).toInt64) = (0 : Int64)) := fun q => by have q' := (own_ush0 w (n := (((7 : Int32) * ((10 : Int32) - (1 : Int32))) &&& 0x3f).toInt64.toUInt64) (k := 63) (by decide) (by decide)).mp q; have hP : (2 : Nat) ^ 63 = 9223372036854775808 := (by decide); rw [hP] at q'; omega
    refine own_go (fun t_ k_ => XS.ifNo X1.here hx rfl (hb hby at_71) rfl ((if0 _ _).trans (feq (mt (lw_eq ((w.toUInt64 >>> (((7 : Int32) * ((10 : Int32) - (1 : Int32))) &&& 0x3f).toInt64.toUInt64).toInt64) (0 : Int64)).mp hc71)).1) k_) ?_
    show OwnFin p e below s _ _ _ (T1.setTop (mkF m 74 #[.val (.long xx), .second, .val (.int ss), .val (.long w), .second, .val (.int (10 : Int32)), .val (.int (1 : Int32)), .unset] []))
    refine own_go (fun t_ k_ => XS.iconst X1.here hx rfl (hb hby at_74) k_) ?_
    show OwnFin p e below s _ _ _ (T1.setTop (mkF m 75 #[.val (.long xx), .second, .val (.int ss), .val (.long w), .second, .val (.int (10 : Int32)), .val (.int (1 : Int32)), .unset] [(.int (1 : Int32))]))
    refine own_go (fun t_ k_ => XS.goto X1.here hx rfl (pc0 := 75) (pc' := 79) rfl (hb hby at_75) (by decide) (by decide) k_) ?_
    show OwnFin p e below s _ _ _ (T1.setTop (mkF m 79 #[.val (.long xx), .second, .val (.int ss), .val (.long w), .second, .val (.int (10 : Int32)), .val (.int (1 : Int32)), .unset] [(.int (1 : Int32))]))
    refine own_go (fun t_ k_ => XS.istore X1.here hx rfl (hb hby at_79) rfl (l' := #[.val (.long xx), .second, .val (.int ss), .val (.long w), .second, .val (.int (10 : Int32)), .val (.int (1 : Int32)), .val (.int (1 : Int32))]) rfl k_) ?_
    show OwnFin p e below s _ _ _ (T1.setTop (mkF m 81 #[.val (.long xx), .second, .val (.int ss), .val (.long w), .second, .val (.int (10 : Int32)), .val (.int (1 : Int32)), .val (.int (1 : Int32))] []))
    refine own_go (fun t_ k_ => XS.iload X1.here hx rfl (hb hby at_81) rfl k_) ?_
    show OwnFin p e below s _ _ _ (T1.setTop (mkF m 83 #[.val (.long xx), .second, .val (.int ss), .val (.long w), .second, .val (.int (10 : Int32)), .val (.int (1 : Int32)), .val (.int (1 : Int32))] [(.int (1 : Int32))]))
    refine own_go (fun t_ k_ => XS.ifNo X1.here hx rfl (hb hby at_83) rfl ((if0 _ _).trans (feq (by decide)).1) k_) ?_
    show OwnFin p e below s _ _ _ (T1.setTop (mkF m 86 #[.val (.long xx), .second, .val (.int ss), .val (.long w), .second, .val (.int (10 : Int32)), .val (.int (1 : Int32)), .val (.int (1 : Int32))] []))
    refine own_go (fun t_ k_ => XS.iload X1.here hx rfl (hb hby at_86) rfl k_) ?_
    show OwnFin p e below s _ _ _ (T1.setTop (mkF m 88 #[.val (.long xx), .second, .val (.int ss), .val (.long w), .second, .val (.int (10 : Int32)), .val (.int (1 : Int32)), .val (.int (1 : Int32))] [(.int (1 : Int32))]))
    refine own_go (fun t_ k_ => XS.ifNo X1.here hx rfl (hb hby at_88) rfl ((if0 _ _).trans (feq (by decide)).1) k_) ?_
    show OwnFin p e below s _ _ _ (T1.setTop (mkF m 91 #[.val (.long xx), .second, .val (.int ss), .val (.long w), .second, .val (.int (10 : Int32)), .val (.int (1 : Int32)), .val (.int (1 : Int32))] []))
    refine own_go (fun t_ k_ => XS.iconst X1.here hx rfl (hb hby at_91) k_) ?_
    show OwnFin p e below s _ _ _ (T1.setTop (mkF m 92 #[.val (.long xx), .second, .val (.int ss), .val (.long w), .second, .val (.int (10 : Int32)), .val (.int (1 : Int32)), .val (.int (1 : Int32))] [(.int (1 : Int32))]))
    refine own_go (fun t_ k_ => XS.goto X1.here hx rfl (pc0 := 92) (pc' := 96) rfl (hb hby at_92) (by decide) (by decide) k_) ?_
    show OwnFin p e below s _ _ _ (T1.setTop (mkF m 96 #[.val (.long xx), .second, .val (.int ss), .val (.long w), .second, .val (.int (10 : Int32)), .val (.int (1 : Int32)), .val (.int (1 : Int32))] [(.int (1 : Int32))]))
    refine own_ret X1 (v := some (.int (1 : Int32))) hlk (fun hh => by rw [hret] at hh; cases hh) (fun fs hr => retN X1 hx (t := .boolean) hret (by simp) (hb hby at_96) hr) (by decide) (by decide) ?_
    exact ⟨rfl, N1⟩
set_option maxRecDepth 65536 in
set_option maxHeartbeats 40000000 in
theorem comes_1 {Post : Tables → Env → Array Value → State → Outcome → State → Prop} (hpost : ∀ tb e args s v u, (limb_1_1.after args s (.returned v) u = true ∧ limb_1_2.after args s (.returned v) u = true ∧ True) → FrameEnd s (.returned v) u (Jvm.fieldLocs frame_1_writes args s ++ Jvm.arrayLocs frame_1_arrays args s ++ Jvm.staticLocs frame_1_statics s) 0 0 → Post tb e args s (.returned v) u) :
    ArmFor flags0 classFile x code maxLocals ret World_1 tables_1 room_1 Calls_1 rest_1 Pre_1 Post := by
  intro l hfl _ _ p e ha hc hk s m args below hf hA hF happ hP
  obtain ⟨hcalls, hrest, hpre⟩ := hP
  obtain ⟨-, -, -, hnamed, -, -, -, hat⟩ := (Spec.applies_iff hf).mp happ
  obtain ⟨hg, hn⟩ := and_e (Cond.before_iff.mp (show (Jvm.Cond.and given_1 narrow_1).before args s = true from hpre))
  obtain ⟨g1, g2⟩ := and_e hg
  obtain ⟨g3, g4⟩ := and_e g2
  obtain ⟨w0, w1, rfl⟩ : ∃ w0 w1 : Value, args = #[w0, w1] := by
    have hs : args.size = 2 := by simpa [Cond.value, given_1] using g1
    obtain ⟨L⟩ := args
    match L, hs with
    | [w0, w1], _ => exact ⟨w0, w1, rfl⟩
  have hw := fun d (hd : d ∈ tables_1) => atoms_spec (ws := Jvm.Cond.code x code maxLocals ret :: tables_1) hat d (List.mem_cons_of_mem _ hd)
  have hfit : Fit s := fun {y c} hc i hi => by
    obtain ⟨ha, rfl⟩ := Array.getElem?_eq_some_iff.mp hc
    have q := List.all_eq_true.mp ((Array.all_eq_true_iff_forall_mem.mp hF) _ (Array.getElem_mem ha)) i (List.mem_range.mpr hi)
    simpa [Array.getElem?_eq_getElem hi] using q
  obtain ⟨i0, ei0⟩ := isL_v g3
  obtain rfl : w0 = (.long i0) := Option.some.inj ei0
  obtain ⟨i1, ei1⟩ := is_v g4
  obtain rfl : w1 = (.int i1) := Option.some.inj ei1
  obtain ⟨n, o, h1, h2, h3, _, L, rfl, ⟨rfl, N⟩, hq⟩ := rm0 l s _ hw tables_1 i0 i1 s.heap s.heap.size (Nat.le_refl _) p e ha hc hk s m _ below hf ((Spec.applies_iff_loose hf).mp happ).1 ⟨rfl, State.Warmed39.refl s, rfl⟩ trivial
  refine ⟨n, _, h1, h2, h3, hpost _ _ _ _ _ _ ⟨Cond.after_iff.mpr rfl, Cond.after_iff.mpr (eq_i res_at (Term.int_eval (1)) rfl), trivial⟩ ⟨hq.1, hq.2.1, (hq.2.2.sift fun y hy => Or.inr (N y hy)).mono (by decide) (by decide)⟩⟩
theorem main_1_1 : Claimed_1_1 := comes_1 fun _ _ _ _ _ _ h hF => ⟨h.1, hF⟩
theorem main_1_2 : Claimed_1_2 := comes_1 fun _ _ _ _ _ _ h hF => ⟨h.2.1, hF⟩
end Jvm.Pilot.@@N@@
namespace Jvm.Pilot.@@N@@
open Jvm Jvm.ClassFile Sem Op Lib Jvm.Free Jvm.Stand Jvm.Pilot.@@N@@.Jvm.D
/-! MADE BY PROGRAM (witnessworld.py) out of the Statement's table words and the real class files: 15 classes; the members and pool entries that the words name. The judged class is class 1, her method 1. -/
namespace start1
open Jvm.ClassFile
def u (s : String) : CpInfo := .utf8 (stringToUtf16 s)
/-- a pool by its gaps: so many unusable entries, then the entry; so many at the end -/
def gap : Nat → List CpInfo → List CpInfo
  | 0, r => r
  | n + 1, r => .unusable :: gap n r
def poolList (es : List (Nat × CpInfo)) (last : Nat) : List CpInfo := es.foldr (fun e r => gap e.1 (e.2 :: r)) (gap last [])
def pool (es : List (Nat × CpInfo)) (last : Nat) : Array CpInfo := ⟨poolList es last⟩
def fileOf (pool : Array CpInfo) (this : Nat) (attrs : Array Attribute := #[]) (ms : Array MethodInfo := #[]) (fl : Nat := 33) (sup : Nat := 0) (ifs : Array Nat := #[]) (fds : Array FieldInfo := #[]) : ClassFile where
  minorVersion := 0
  majorVersion := 65
  constantPool := pool
  accessFlags := fl
  thisClass := this
  superClass := sup
  interfaces := ifs
  fields := fds
  methods := ms
  attributes := attrs
def plain (name : String) (sup : Option ClassId) : Class where
  name := name
  kind := .ordinary
  loader := none
  accessFlags := 33
  super := sup
  interfaces := #[]
  cf := none
  fields := #[]
  methods := #[]
  instanceTypes := #[]
  staticTypes := #[]
  resolved := #[]
  callSites := []
  init := .initialized
  statics := none
  mirror := none

def pool0 : Array CpInfo := pool [(5, u "<init>"), (0, u "()V"), (1, .class_ 10), (1, u "java/lang/Object")] 113

def k0m0 : Method := { name := "<init>", desc := "()V", sig := { parameters := [], returnType := none }, accessFlags := 1, code := none }
/-- java/lang/Object -/
def k0 : Class := { plain "java/lang/Object" none with
  accessFlags := 33
  interfaces := #[]
  cf := some (fileOf pool0 8 #[] #[{ accessFlags := 1, nameIndex := 5, descriptorIndex := 6, attributes := #[] }] 33 0 #[] #[])
  fields := #[]
  methods := #[k0m0]
  instanceTypes := #[]
  staticTypes := #[]
  resolved := Array.replicate 124 none
  statics := none }

def pool1 : Array CpInfo := pool [(2, .class_ 4), (1, u "java/lang/Object"), (0, u "<init>"), (0, u "()V"), (0, .methodref 8 9), (0, .class_ 10), (0, .nameAndType 11 12), (0, u "com/example/bytefold/bytefold/ContinuationBitForm"), (0, u "encodedLength"), (0, u "(J)I"), (0, .class_ 14), (0, u "com/example/bytefold/bytefold/ContinuationBitFormEncodedLengthPinLaw"), (2, u "law"), (0, u "(JI)Z")] 3

def k1m0 : Method := { name := "<init>", desc := "()V", sig := { parameters := [], returnType := none }, accessFlags := 1, code := none }
def k1c1 : Code := { maxStack := 5, maxLocals := 8, code := code, exceptionTable := #[], attributes := #[] }
def k1m1 : Method := { name := "law", desc := "(JI)Z", sig := { parameters := [.long, .int], returnType := some .boolean }, accessFlags := 9, code := some k1c1 }
/-- com/example/bytefold/bytefold/ContinuationBitFormEncodedLengthPinLaw -/
def k1 : Class := { plain "com/example/bytefold/bytefold/ContinuationBitFormEncodedLengthPinLaw" (some 0) with
  accessFlags := 49
  interfaces := #[]
  cf := some (fileOf pool1 13 #[] #[{ accessFlags := 1, nameIndex := 5, descriptorIndex := 6, attributes := #[] }, { accessFlags := 9, nameIndex := 17, descriptorIndex := 18, attributes := #[] }] 49 2 #[] #[])
  fields := #[]
  methods := #[k1m0, k1m1]
  instanceTypes := #[]
  staticTypes := #[]
  resolved := Array.replicate 22 none
  statics := none }

def pool2 : Array CpInfo := pool [(2, .class_ 4), (1, u "java/lang/Object"), (3, .class_ 10), (1, u "com/example/bytefold/bytefold/ContinuationBitForm"), (0, u "flip"), (0, u "I"), (2, u "name"), (0, u "Ljava/lang/String;"), (2, u "withArticle"), (0, .methodref 21 22), (0, .class_ 23), (0, .nameAndType 24 25), (0, u "java/lang/Long"), (0, u "numberOfLeadingZeros"), (0, u "(J)I"), (2, u "encodedLength"), (127, u "LONG_RANGE"), (0, u "J"), (3, u "INT_RANGE"), (2, u "CONTINUATION"), (1, u "GROUP_MASK"), (1, u "GROUP_BITS")] 49

def k2c0 : Code := { maxStack := 2, maxLocals := 2, code := prog_1_method_4_code, exceptionTable := #[], attributes := #[] }
def k2m0 : Method := { name := "encodedLength", desc := "(J)I", sig := { parameters := [.long], returnType := some .int }, accessFlags := 8, code := some k2c0 }
/-- com/example/bytefold/bytefold/ContinuationBitForm -/
def k2 : Class := { plain "com/example/bytefold/bytefold/ContinuationBitForm" (some 0) with
  accessFlags := 1056
  interfaces := #[]
  cf := some (fileOf pool2 8 #[] #[{ accessFlags := 8, nameIndex := 28, descriptorIndex := 25, attributes := #[] }] 1056 2 #[] #[{ accessFlags := 24, nameIndex := 156, descriptorIndex := 157, attributes := #[] }, { accessFlags := 24, nameIndex := 161, descriptorIndex := 157, attributes := #[] }, { accessFlags := 24, nameIndex := 164, descriptorIndex := 12, attributes := #[] }, { accessFlags := 24, nameIndex := 166, descriptorIndex := 12, attributes := #[] }, { accessFlags := 24, nameIndex := 168, descriptorIndex := 12, attributes := #[] }, { accessFlags := 16, nameIndex := 11, descriptorIndex := 12, attributes := #[] }, { accessFlags := 16, nameIndex := 15, descriptorIndex := 16, attributes := #[] }, { accessFlags := 16, nameIndex := 19, descriptorIndex := 16, attributes := #[] }])
  fields := #[{ name := "LONG_RANGE", type := .long, accessFlags := 24, slot := 0, constantValue := 0 }, { name := "INT_RANGE", type := .long, accessFlags := 24, slot := 1, constantValue := 0 }, { name := "CONTINUATION", type := .int, accessFlags := 24, slot := 2, constantValue := 0 }, { name := "GROUP_MASK", type := .int, accessFlags := 24, slot := 3, constantValue := 0 }, { name := "GROUP_BITS", type := .int, accessFlags := 24, slot := 4, constantValue := 0 }, { name := "flip", type := .int, accessFlags := 16, slot := 0, constantValue := 0 }, { name := "name", type := (.object "java/lang/String"), accessFlags := 16, slot := 1, constantValue := 0 }, { name := "withArticle", type := (.object "java/lang/String"), accessFlags := 16, slot := 2, constantValue := 0 }]
  methods := #[k2m0]
  instanceTypes := #[.int, (.object "java/lang/String"), (.object "java/lang/String")]
  staticTypes := #[.long, .long, .int, .int, .int]
  resolved := Array.replicate 218 none
  statics := none }

def pool3 : Array CpInfo := pool [(1, .class_ 2), (0, u "java/io/Serializable"), (0, .class_ 4), (0, u "java/lang/Object")] 2

/-- java/io/Serializable -/
def k3 : Class := { plain "java/io/Serializable" (some 0) with
  accessFlags := 1537
  interfaces := #[]
  cf := some (fileOf pool3 1 #[] #[] 1537 3 #[] #[])
  fields := #[]
  methods := #[]
  instanceTypes := #[]
  staticTypes := #[]
  resolved := Array.replicate 7 none
  statics := none }

def pool4 : Array CpInfo := pool [(2, .class_ 4), (1, u "java/lang/Object"), (0, u "<init>"), (0, u "()V"), (1, .class_ 10), (1, u "java/lang/Number"), (2, .class_ 14), (0, u "java/io/Serializable"), (0, u "serialVersionUID"), (0, u "J")] 20

def k4m0 : Method := { name := "<init>", desc := "()V", sig := { parameters := [], returnType := none }, accessFlags := 1, code := none }
/-- java/lang/Number -/
def k4 : Class := { plain "java/lang/Number" (some 0) with
  accessFlags := 1057
  interfaces := #[3]
  cf := some (fileOf pool4 8 #[] #[{ accessFlags := 1, nameIndex := 5, descriptorIndex := 6, attributes := #[] }] 1057 2 #[13] #[{ accessFlags := 26, nameIndex := 15, descriptorIndex := 16, attributes := #[] }])
  fields := #[{ name := "serialVersionUID", type := .long, accessFlags := 26, slot := 0, constantValue := 0 }]
  methods := #[k4m0]
  instanceTypes := #[]
  staticTypes := #[.long]
  resolved := Array.replicate 37 none
  statics := none }

def pool5 : Array CpInfo := pool [(1, .class_ 2), (0, u "java/lang/Comparable"), (0, .class_ 4), (0, u "java/lang/Object")] 7

/-- java/lang/Comparable -/
def k5 : Class := { plain "java/lang/Comparable" (some 0) with
  accessFlags := 1537
  interfaces := #[]
  cf := some (fileOf pool5 1 #[] #[] 1537 3 #[] #[])
  fields := #[]
  methods := #[]
  instanceTypes := #[]
  staticTypes := #[]
  resolved := Array.replicate 12 none
  statics := none }

def pool6 : Array CpInfo := pool [(1, .class_ 2), (0, u "java/lang/constant/Constable"), (0, .class_ 4), (0, u "java/lang/Object")] 6

/-- java/lang/constant/Constable -/
def k6 : Class := { plain "java/lang/constant/Constable" (some 0) with
  accessFlags := 1537
  interfaces := #[]
  cf := some (fileOf pool6 1 #[] #[] 1537 3 #[] #[])
  fields := #[]
  methods := #[]
  instanceTypes := #[]
  staticTypes := #[]
  resolved := Array.replicate 11 none
  statics := none }

def pool7 : Array CpInfo := pool [(1, .class_ 2), (0, u "java/lang/constant/ConstantDesc"), (0, .class_ 4), (0, u "java/lang/Object")] 32

/-- java/lang/constant/ConstantDesc -/
def k7 : Class := { plain "java/lang/constant/ConstantDesc" (some 0) with
  accessFlags := 1537
  interfaces := #[]
  cf := some (fileOf pool7 1 #[] #[] 1537 3 #[] #[])
  fields := #[]
  methods := #[]
  instanceTypes := #[]
  staticTypes := #[]
  resolved := Array.replicate 37 none
  statics := none }

def pool8 : Array CpInfo := pool [(1, .class_ 2), (0, u "java/lang/Long"), (15, .class_ 20), (1, u "java/lang/Integer"), (79, u "numberOfLeadingZeros"), (0, u "(J)I"), (133, .class_ 237), (1, u "java/lang/Long$LongCache"), (33, .class_ 272), (0, u "java/lang/Number"), (2, u "value"), (0, u "J"), (31, .methodref 18 309), (0, .nameAndType 100 310), (0, u "(I)I"), (50, u "TYPE"), (0, u "Ljava/lang/Class;"), (0, .class_ 364), (0, u "java/lang/Comparable"), (0, .class_ 366), (0, u "java/lang/constant/Constable"), (0, .class_ 368), (0, u "java/lang/constant/ConstantDesc"), (0, u "MIN_VALUE"), (1, u "MAX_VALUE"), (4, u "SIZE"), (0, u "I"), (1, u "BYTES"), (1, u "serialVersionUID")] 142

def k8c0 : Code := { maxStack := 3, maxLocals := 3, code := jdk_35_method_48_code, exceptionTable := #[], attributes := #[] }
def k8m0 : Method := { name := "numberOfLeadingZeros", desc := "(J)I", sig := { parameters := [.long], returnType := some .int }, accessFlags := 9, code := some k8c0 }
/-- java/lang/Long -/
def k8 : Class := { plain "java/lang/Long" (some 4) with
  accessFlags := 49
  interfaces := #[5, 6, 7]
  cf := some (fileOf pool8 1 #[.nestMembers #[235]] #[{ accessFlags := 9, nameIndex := 100, descriptorIndex := 101, attributes := #[] }] 49 271 #[363, 365, 367] #[{ accessFlags := 25, nameIndex := 369, descriptorIndex := 276, attributes := #[] }, { accessFlags := 25, nameIndex := 371, descriptorIndex := 276, attributes := #[] }, { accessFlags := 25, nameIndex := 361, descriptorIndex := 362, attributes := #[] }, { accessFlags := 18, nameIndex := 275, descriptorIndex := 276, attributes := #[] }, { accessFlags := 25, nameIndex := 376, descriptorIndex := 377, attributes := #[] }, { accessFlags := 25, nameIndex := 379, descriptorIndex := 377, attributes := #[] }, { accessFlags := 26, nameIndex := 381, descriptorIndex := 276, attributes := #[] }])
  fields := #[{ name := "MIN_VALUE", type := .long, accessFlags := 25, slot := 0, constantValue := 0 }, { name := "MAX_VALUE", type := .long, accessFlags := 25, slot := 1, constantValue := 0 }, { name := "TYPE", type := (.object "java/lang/Class"), accessFlags := 25, slot := 2, constantValue := 0 }, { name := "value", type := .long, accessFlags := 18, slot := 0, constantValue := 0 }, { name := "SIZE", type := .int, accessFlags := 25, slot := 3, constantValue := 0 }, { name := "BYTES", type := .int, accessFlags := 25, slot := 4, constantValue := 0 }, { name := "serialVersionUID", type := .long, accessFlags := 26, slot := 5, constantValue := 0 }]
  methods := #[k8m0]
  instanceTypes := #[.long]
  staticTypes := #[.long, .long, (.object "java/lang/Class"), .int, .int, .long]
  resolved := Array.replicate 524 none
  statics := none }

def pool9 : Array CpInfo := pool [(1, .class_ 2), (0, u "java/lang/Integer"), (16, u "digits"), (0, u "[C"), (32, u "numberOfLeadingZeros"), (0, u "(I)I"), (30, u "DigitOnes"), (0, u "[B"), (2, u "DigitTens"), (99, .class_ 190), (0, u "java/lang/Integer$IntegerCache"), (3, u "I"), (8, .class_ 204), (0, u "java/lang/Number"), (2, u "value"), (56, .integer 65536), (37, u "TYPE"), (0, u "Ljava/lang/Class;"), (0, .class_ 305), (0, u "java/lang/Comparable"), (0, .class_ 307), (0, u "java/lang/constant/Constable"), (0, .class_ 309), (0, u "java/lang/constant/ConstantDesc"), (0, u "MIN_VALUE"), (1, u "MAX_VALUE"), (3, u "SIZE"), (1, u "BYTES"), (1, u "serialVersionUID"), (0, u "J")] 131

def k9c0 : Code := { maxStack := 3, maxLocals := 2, code := jdk_33_method_47_code, exceptionTable := #[], attributes := #[] }
def k9m0 : Method := { name := "numberOfLeadingZeros", desc := "(I)I", sig := { parameters := [.int], returnType := some .int }, accessFlags := 9, code := some k9c0 }
/-- java/lang/Integer -/
def k9 : Class := { plain "java/lang/Integer" (some 4) with
  accessFlags := 49
  interfaces := #[5, 6, 7]
  cf := some (fileOf pool9 1 #[.nestMembers #[189]] #[{ accessFlags := 9, nameIndex := 53, descriptorIndex := 54, attributes := #[] }] 49 203 #[304, 306, 308] #[{ accessFlags := 25, nameIndex := 310, descriptorIndex := 194, attributes := #[] }, { accessFlags := 25, nameIndex := 312, descriptorIndex := 194, attributes := #[] }, { accessFlags := 25, nameIndex := 302, descriptorIndex := 303, attributes := #[] }, { accessFlags := 24, nameIndex := 19, descriptorIndex := 20, attributes := #[] }, { accessFlags := 24, nameIndex := 89, descriptorIndex := 86, attributes := #[] }, { accessFlags := 24, nameIndex := 85, descriptorIndex := 86, attributes := #[] }, { accessFlags := 18, nameIndex := 207, descriptorIndex := 194, attributes := #[] }, { accessFlags := 25, nameIndex := 316, descriptorIndex := 194, attributes := #[] }, { accessFlags := 25, nameIndex := 318, descriptorIndex := 194, attributes := #[] }, { accessFlags := 26, nameIndex := 320, descriptorIndex := 321, attributes := #[] }])
  fields := #[{ name := "MIN_VALUE", type := .int, accessFlags := 25, slot := 0, constantValue := 0 }, { name := "MAX_VALUE", type := .int, accessFlags := 25, slot := 1, constantValue := 0 }, { name := "TYPE", type := (.object "java/lang/Class"), accessFlags := 25, slot := 2, constantValue := 0 }, { name := "digits", type := (.array .char), accessFlags := 24, slot := 3, constantValue := 0 }, { name := "DigitTens", type := (.array .byte), accessFlags := 24, slot := 4, constantValue := 0 }, { name := "DigitOnes", type := (.array .byte), accessFlags := 24, slot := 5, constantValue := 0 }, { name := "value", type := .int, accessFlags := 18, slot := 0, constantValue := 0 }, { name := "SIZE", type := .int, accessFlags := 25, slot := 6, constantValue := 0 }, { name := "BYTES", type := .int, accessFlags := 25, slot := 7, constantValue := 0 }, { name := "serialVersionUID", type := .long, accessFlags := 26, slot := 8, constantValue := 0 }]
  methods := #[k9m0]
  instanceTypes := #[.int]
  staticTypes := #[.int, .int, (.object "java/lang/Class"), (.array .char), (.array .byte), (.array .byte), .int, .int, .long]
  resolved := Array.replicate 453 none
  statics := none }

def pool10 : Array CpInfo := pool [(1, u "java/lang/Cloneable"), (0, .class_ 1), (0, u "java/lang/Object"), (0, .class_ 3)] 3

/-- java/lang/Cloneable -/
def k10 : Class := { plain "java/lang/Cloneable" (some 0) with
  accessFlags := 1537
  interfaces := #[]
  cf := some (fileOf pool10 2 #[] #[] 1537 4 #[] #[])
  fields := #[]
  methods := #[]
  instanceTypes := #[]
  staticTypes := #[]
  resolved := Array.replicate 8 none
  statics := none }

/-- the primitive byte -/
def k11 : Class := { plain "byte" none with kind := .primitive 'B', accessFlags := 0x411 }
/-- [B -/
def k12 : Class := { plain "[B" (some 0) with kind := .array 11 .byte, interfaces := #[10, 3], accessFlags := 1041 }

/-- the primitive int -/
def k13 : Class := { plain "int" none with kind := .primitive 'I', accessFlags := 0x411 }
/-- [I -/
def k14 : Class := { plain "[I" (some 0) with kind := .array 13 .int, interfaces := #[10, 3], accessFlags := 1041 }

def heap : Heap := #[]
def classes : Array Class := #[k0, k1, k2, k3, k4, k5, k6, k7, k8, k9, k10, k11, k12, k13, k14]
def interned : List (Array UInt16 × Addr) := []
def slotsUsed : Nat := 0
def theMethod : MethodId := ⟨1, 1⟩
def args0 : Array Value := #[.long 5, .int 0]
def aboutOver (below : List Frame) : State where
  vm := { classes := classes, interned := interned.toArray }
  heap := heap
  slotsUsed := slotsUsed
  threads := #[{ frames := .invoking theMethod args0 :: below }]
def below0 : List Frame := [.native { method := ⟨0, 0⟩, args := #[] }]
def about1 : State := aboutOver below0
def p0 : Program := .bare "" "" ""
def e0 : Env := launch0.env 0 0 0
theorem w_frames : about1.frames = Frame.invoking theMethod args0 :: below0 := rfl
set_option maxRecDepth 65536 in
theorem w_args : argsFit about1.vm theMethod args0 = true := by decide +kernel
set_option maxRecDepth 65536 in
theorem w_heap : heapFits about1 = true := by decide +kernel
set_option maxRecDepth 65536 in
theorem w_runnable : about1.curStatus? = some .runnable := by decide +kernel
set_option maxRecDepth 65536 in
theorem w_alone : about1.alone = true := by decide +kernel
set_option maxRecDepth 65536 in
theorem w_named : about1.methodNamed? x = some theMethod := by decide +kernel
set_option maxRecDepth 65536 in
theorem w_hears : about1.hears theMethod below0 = true := by decide +kernel
set_option maxRecDepth 65536 in
theorem w_ripe : about1.ripe theMethod args0 below0 = true := by decide +kernel
theorem w_running : about1.status = .running := rfl
set_option maxRecDepth 65536 in
theorem w_room : about1.hasRoom e0.platform room_1 = true :=
  launch0.hasRoom_least _ room_1 (by decide +kernel) (by decide +kernel) (by decide +kernel) (by decide +kernel) (by decide +kernel) (by decide +kernel)
theorem allAtoms_all (ts : List Jvm.Cond) (a : Array Jvm.Value) (st : Jvm.State) : (allAtoms ts).before a st = ts.all (fun c => c.before a st) := by
  induction ts with
  | nil => rfl
  | cons c t ih =>
    show (Jvm.Cond.and c (allAtoms t)).before a st = _
    rw [Jvm.Cond.before_and, ih, List.all_cons]
def words1 : List Jvm.Cond := Jvm.Cond.code x code maxLocals ret :: tables_1
/-- a 'code' word, met by the world's own term for the bytes: nothing is compared byte by byte -/
theorem code_word {y : MethodName} {bytes : ByteArray} {mx : Nat} {rt : Option FieldType} {a : Array Value} {s : State} {m : MethodId} {meth : Method} {c : Code} (h1 : s.methodNamed? y = some m) (h2 : s.vm.method? m = some meth) (h3 : meth.code = some c) (h4 : c.code = bytes)
    (h5 : (c.maxLocals == mx && c.exceptionTable.isEmpty && decide (c.maxStack ≤ mostOperands) && decide (meth.sig.returnType = rt) && !meth.locks && decide (parseMethodDescriptor y.desc = some meth.sig)) = true) : (Jvm.Cond.code y bytes mx rt).before a s = true := by
  simp only [Bool.and_eq_true, beq_iff_eq, Bool.not_eq_true', decide_eq_true_eq] at h5
  obtain ⟨⟨⟨⟨⟨g1, g2⟩, g3⟩, g4⟩, g5⟩, g6⟩ := h5
  simp [Cond.before, Cond.holds, Cond.value, h1, h2, h3, h4, g1, g2, g3, g4, g5, g6]
def isCode : Jvm.Cond → Bool
  | .code _ _ _ _ => true
  | _ => false
theorem all_split {L : List Jvm.Cond} {P : Jvm.Cond → Bool} (h1 : L.all (fun c => isCode c || P c) = true) (h2 : ∀ c ∈ L.filter isCode, P c = true) : L.all P = true := by
  refine List.all_eq_true.mpr fun c hc => ?_
  have h := List.all_eq_true.mp h1 c hc
  rcases Bool.eq_false_or_eq_true (isCode c) with hi | hi
  · exact h2 c (List.mem_filter.mpr ⟨hc, hi⟩)
  · simpa [hi] using h
set_option maxRecDepth 65536 in
theorem w_c0 : (Jvm.Cond.code x code maxLocals ret).before args0 about1 = true := code_word (m := ⟨1, 1⟩) (meth := k1m1) (c := k1c1) (by decide +kernel) rfl rfl rfl (by decide +kernel)
set_option maxRecDepth 65536 in
theorem w_c1 : (Jvm.Cond.code ({ cls := "com/example/bytefold/bytefold/ContinuationBitForm", name := "encodedLength", desc := "(J)I" } : Jvm.MethodName) prog_1_method_4_code (2 : Nat) (Option.some Jvm.ClassFile.FieldType.int)).before args0 about1 = true := code_word (m := ⟨2, 0⟩) (meth := k2m0) (c := k2c0) (by decide +kernel) rfl rfl rfl (by decide +kernel)
set_option maxRecDepth 65536 in
theorem w_c2 : (Jvm.Cond.code ({ cls := "java/lang/Long", name := "numberOfLeadingZeros", desc := "(J)I" } : Jvm.MethodName) jdk_35_method_48_code (3 : Nat) (Option.some Jvm.ClassFile.FieldType.int)).before args0 about1 = true := code_word (m := ⟨8, 0⟩) (meth := k8m0) (c := k8c0) (by decide +kernel) rfl rfl rfl (by decide +kernel)
set_option maxRecDepth 65536 in
theorem w_c3 : (Jvm.Cond.code ({ cls := "java/lang/Integer", name := "numberOfLeadingZeros", desc := "(I)I" } : Jvm.MethodName) jdk_33_method_47_code (2 : Nat) (Option.some Jvm.ClassFile.FieldType.int)).before args0 about1 = true := code_word (m := ⟨9, 0⟩) (meth := k9m0) (c := k9c0) (by decide +kernel) rfl rfl rfl (by decide +kernel)
def codes1 : List Jvm.Cond := [Jvm.Cond.code x code maxLocals ret, Jvm.Cond.code ({ cls := "com/example/bytefold/bytefold/ContinuationBitForm", name := "encodedLength", desc := "(J)I" } : Jvm.MethodName) prog_1_method_4_code (2 : Nat) (Option.some Jvm.ClassFile.FieldType.int), Jvm.Cond.code ({ cls := "java/lang/Long", name := "numberOfLeadingZeros", desc := "(J)I" } : Jvm.MethodName) jdk_35_method_48_code (3 : Nat) (Option.some Jvm.ClassFile.FieldType.int), Jvm.Cond.code ({ cls := "java/lang/Integer", name := "numberOfLeadingZeros", desc := "(I)I" } : Jvm.MethodName) jdk_33_method_47_code (2 : Nat) (Option.some Jvm.ClassFile.FieldType.int)]
set_option maxRecDepth 65536 in
theorem codes_eq : words1.filter isCode = codes1 := rfl
theorem w_codes : ∀ c ∈ words1.filter isCode, c.before args0 about1 = true := by
  rw [codes_eq]
  intro c hc
  simp only [codes1, List.mem_cons, List.not_mem_nil, or_false] at hc
  rcases hc with rfl | rfl | rfl | rfl
  · exact w_c0
  · exact w_c1
  · exact w_c2
  · exact w_c3
set_option maxRecDepth 65536 in
theorem w_t1 : words1.all (fun c => isCode c || c.before args0 about1) = true := by decide +kernel
theorem w_tables : (allAtoms (Jvm.Cond.code x code maxLocals ret :: tables_1)).before args0 about1 = true := by
  rw [allAtoms_all]
  show words1.all (fun c => c.before args0 about1) = true
  refine all_split ?_ w_codes
  rw [w_t1]
set_option maxRecDepth 65536 in
theorem w_case : (Jvm.Cond.and given_1 narrow_1).before args0 about1 = true := by decide +kernel
theorem w_applies : (headSpec (Jvm.Cond.code x code maxLocals ret :: tables_1) room_1).applies x e0.platform about1 = true :=
  (Spec.applies_iff w_frames).mpr ⟨w_running, w_runnable, w_alone, w_named, w_hears, w_ripe, w_room, w_tables⟩
theorem atStart : AtStart classFile x code maxLocals ret World_1 tables_1 room_1 Calls_1 rest_1 Pre_1 launch0 p0 e0 about1 theMethod args0 below0 :=
  ⟨lists_1, trivial, launch0.admits_env _ _ _, launch0.least_env, fairChoices_fair.cas, fairChoices_fair.clock, w_frames, w_args, w_heap, w_applies, trivial, trivial, w_case⟩
end start1
theorem witness_1 : WitnessClaimed_1 := ⟨start1.p0, start1.e0, start1.about1, start1.theMethod, start1.args0, start1.below0, start1.atStart⟩
end Jvm.Pilot.@@N@@
