import JvmDerived
import JvmDerived.Pilot.@@N@@Statement
import JvmDerived.Pilot.@@N@@Code
set_option linter.unusedVariables false
set_option linter.unusedSimpArgs false
@@BLOCK:NumsL.lean.txt@@
namespace Jvm.Pilot.@@N@@
open Jvm Jvm.ClassFile Sem Op Lib Jvm.Free Jvm.Stand Jvm.LawKit Jvm.RoadKit Bundle Jvm.Pilot.@@N@@.Jvm.D
section Own
variable {p : Program} {l : Launch} {e : Env} {R : Room} {s : State} {m : MethodId} {args : Array Value} {below : List Frame} {meth : Method} {c : Code} {T : State} {locs : List Loc} {cells slots : Nat} {Z : State} {a0 : Array Value} {h : Heap}
/-- from the state A the run comes to the method's end, and Q says what it leaves -/
def OwnFin (p : Program) (e : Env) (below : List Frame) (s : State) (Q : Option Value → Heap → List Loc → Prop) (C S : Nat) (A : State) : Prop :=
  ∃ s₂ o, Steps p.tables e below A s₂ ∧ s₂.status = .running ∧ Ended s₂ below o ∧ ∃ v L, o = .returned v ∧ Q v s₂.heap L ∧ FrameEnd s o s₂ L C S
variable {Q : Option Value → Heap → List Loc → Prop} {C S : Nat}
theorem own_go {A B : State} (h : ∀ t, Steps p.tables e below B t → Steps p.tables e below A t) (k : OwnFin p e below s Q C S B) : OwnFin p e below s Q C S A := by
  obtain ⟨s₂, o, h1, r⟩ := k
  exact ⟨s₂, o, h _ h1, r⟩
theorem own_ret (X : Stand p l e R s m args below meth c T locs cells slots) {v : Option Value} (hlk : meth.locks = false) (hv : meth.sig.returnType = none → v = none) {g : JFrame}
    (hstep : ∀ fs, (∀ (f : JFrame) (acts : List Action), f.method = m → f.locked = none → f.entered = [] → (doReturn e (T.setTop f) acts v).1 = T.setFrames fs) → Steps p.tables e below (T.setTop g) (T.setFrames fs))
    (hc : cells ≤ C) (hs : slots ≤ S) (hQ : Q v T.heap locs) : OwnFin p e below s Q C S (T.setTop g) := by
  obtain ⟨fs, hr, hrun, hended, hW, hsame⟩ := X.leave hv hlk
  exact ⟨_, _, hstep fs hr, hrun, hended, _, _, rfl, hQ, ⟨_, rfl⟩, hW, hsame.mono hc hs⟩
/-- a method's contract, in the form that backOf takes -/
abbrev OwnCtr (l : Launch) (Z : State) (y : MethodName) (ws : List Jvm.Cond) (bytes : ByteArray) (maxL : Nat) (ret : Option FieldType) (rm : Room) (as' : Array Value) (h0 : Heap) (Q : Option Value → Heap → List Loc → Prop) : Prop :=
  MetFree l y (head1 (Jvm.Cond.code y bytes maxL ret :: ws) rm) (fun a U => a = as' ∧ Z.Warmed39 U.vm ∧ U.heap = h0) (fun _ _ _ _ _ => True) (fun _ U o U' => ∃ v L, o = .returned v ∧ Q v U'.heap L ∧ FrameEnd U o U' L rm.cells rm.slots)
theorem own_body {l : Launch} {Z : State} {y : MethodName} {ws : List Jvm.Cond} {bytes : ByteArray} {maxL : Nat} {ret : Option FieldType} {rm : Room} {as' : Array Value} {h0 : Heap} {g0 : MethodId → JFrame}
    (hpl : plainFor y = true) (hef : ∀ m, entryFrame m as' maxL = g0 m)
    (body : ∀ (p : Program) (e : Env) (s : State) (m : MethodId) (below : List Frame) (meth : Method) (c : Code) (s₁ : State), Stand p l e rm s m as' below meth c s₁ [] 0 0 → p.tables.exec = Jvm.exec → c.code = bytes → c.maxLocals = maxL →
      s.vm.findClass y.cls = some m.cls → meth.name = y.name → Z.Warmed39 s.vm → s₁.heap = h0 → meth.sig.returnType = ret → meth.locks = false → OwnFin p e below s Q rm.cells rm.slots (s₁.setTop (g0 m))) :
    OwnCtr l Z y ws bytes maxL ret rm as' h0 Q := by
  refine MetFree.of_bodySF hpl hisR ?_
  intro p e s m args below meth c s₁ Bd hml0 hP hK
  obtain ⟨rfl, hZ, hh⟩ := hP
  have e0 : s₁.heap = h0 := by rw [← hh, Bd.state]; rfl
  have k := body p e s m below meth c s₁ (Stand.of_body Bd) Bd.exec Bd.bytes hml0 (findClass_of_methodNamed Bd.named) (name_of_methodNamed Bd.named Bd.method).1 hZ e0 Bd.returns Bd.notSynchronized
  rw [← hef m] at k
  exact k
/-- a static call by its contract -/
theorem own_callS (X : Stand p l e R s m args below meth c T locs cells slots) (hx : p.tables.exec = Jvm.exec) (hZ : Z.Warmed39 s.vm) {own : String} {index : Nat} {y : MethodName} {bytes : ByteArray} {maxL : Nat} {ret : Option FieldType} {rm : Room} {as' : Array Value} {Q : Option Value → Heap → List Loc → Prop}
    (hown : s.vm.findClass own = some m.cls) (hlink : (Cond.methodLink own index y).before a0 Z = true) (hstat : (Cond.static y).before a0 Z = true) (hinit : (Cond.initialized y.cls).before a0 Z = true) (hcode : (Cond.code y bytes maxL ret).before a0 Z = true)
    (hy : y.cls ≠ "java/lang/invoke/MethodHandle" ∧ y.cls ≠ "java/lang/invoke/VarHandle") {W : Nat} (hM : OwnCtr l Z y [] bytes maxL ret rm as' h Q) (hf : rm.frames + 1 ≤ R.frames) (hl : W + (maxL + 11) + rm.locals ≤ R.locals)
    {g : JFrame} (hg : g.method = m) (hsize : g.locals.size = c.maxLocals) {argsL rest : List Value} (hlen : ∀ sig, parseMethodDescriptor y.desc = some sig → argsL.length = sig.parameters.length)
    (hstack : g.stack = argsL.reverse ++ rest) (hW : 2 * g.monitorRoom + (rest.map fun v => v.category).sum ≤ W) (hdg : decode c.code g.pc = .ok (.invokestatic index, 3)) (eT : T.heap = h) (ha : argsL.toArray = as') (hc : cells + rm.cells ≤ R.cells) (hs : slots + rm.slots ≤ R.slots) :
    ∃ (v : Option Value) (T' : State) (L : List Loc), Stand p l e R s m args below meth c T' (locs ++ L) (cells + rm.cells) (slots + rm.slots) ∧ Q v T'.heap L ∧ ∀ target, Steps p.tables e below (T'.setTop { g with pc := g.pc + 3, stack := v.toList ++ rest }) target → Steps p.tables e below (T.setTop g) target := by
  obtain ⟨v, _, ⟨T', L', k, n⟩, -, X', ⟨L, hQ, l1, y1, z1⟩, st⟩ := Jvm.LawKit.callS X hx (y := y) hown (mvT hZ hlink) (mvT hZ hstat) (mvT hZ hinit) (mvT hZ hcode) hy (backOf (W := W) hM hZ hcode hinit hf hl) hg hsize hlen hstack hW hdg (fun _ _ => ⟨ha, eT, hc, hs⟩)
  dsimp only [Pt.U, Pt.locs, Pt.cells, Pt.slots] at X' l1 y1 z1 st hQ
  subst l1 y1 z1
  exact ⟨v, T', L, X', hQ, st⟩
/-- a constructor by its contract -/
theorem own_callI (X : Stand p l e R s m args below meth c T locs cells slots) (hx : p.tables.exec = Jvm.exec) (hZ : Z.Warmed39 s.vm) {own : String} {index : Nat} {y : MethodName} {bytes : ByteArray} {maxL : Nat} {rm : Room} {as' : Array Value} {Q : Option Value → Heap → List Loc → Prop}
    (hy1 : y.name = "<init>") (hown : s.vm.findClass own = some m.cls) (hlink : (Cond.methodLink own index y).before a0 Z = true) (hinst : (Cond.instanceMethod y).before a0 Z = true) (hinit : (Cond.initialized y.cls).before a0 Z = true) (hcode : (Cond.code y bytes maxL none).before a0 Z = true)
    (hy : y.cls ≠ "java/lang/invoke/MethodHandle" ∧ y.cls ≠ "java/lang/invoke/VarHandle") {W : Nat} (hM : OwnCtr l Z y [] bytes maxL none rm as' h Q) (hf : rm.frames + 1 ≤ R.frames) (hl : W + (maxL + 11) + rm.locals ≤ R.locals)
    {g : JFrame} (hg : g.method = m) (hsize : g.locals.size = c.maxLocals) {a : Addr} {argsL rest : List Value} (hlen : ∀ sig, parseMethodDescriptor y.desc = some sig → argsL.length = sig.parameters.length)
    (hstack : g.stack = argsL.reverse ++ .ref a :: rest) (hW : 2 * g.monitorRoom + (rest.map fun v => v.category).sum ≤ W) (hdg : decode c.code g.pc = .ok (.invokespecial index, 3)) (eT : T.heap = h) (ha : (.ref a :: argsL).toArray = as') (hc : cells + rm.cells ≤ R.cells) (hs : slots + rm.slots ≤ R.slots) :
    ∃ (v : Option Value) (T' : State) (L : List Loc), Stand p l e R s m args below meth c T' (locs ++ L) (cells + rm.cells) (slots + rm.slots) ∧ Q v T'.heap L ∧ ∀ target, Steps p.tables e below (T'.setTop { g with pc := g.pc + 3, stack := v.toList ++ rest }) target → Steps p.tables e below (T.setTop g) target := by
  obtain ⟨v, _, ⟨T', L', k, n⟩, -, X', ⟨L, hQ, l1, y1, z1⟩, st⟩ := X.specialBack hx (y := y) hy1 hown (mvT hZ hlink) (mvT hZ hinst) (mvT hZ hcode) hy (backOf (W := W) hM hZ hcode hinit hf hl) hg hsize (Steps.refl _) hlen hstack hW hdg (fun _ _ => ⟨ha, eT, hc, hs⟩)
  dsimp only [Pt.U, Pt.locs, Pt.cells, Pt.slots] at X' l1 y1 z1 st hQ
  subst l1 y1 z1
  exact ⟨v, T', L, X', hQ, fun t k => st.trans k⟩
/-- an instance method by its contract -/
theorem own_callV (X : Stand p l e R s m args below meth c T locs cells slots) (hx : p.tables.exec = Jvm.exec) (hZ : Z.Warmed39 s.vm) {own K : String} {index : Nat} {y z : MethodName} {bytes : ByteArray} {maxL : Nat} {ret : Option FieldType} {rm : Room} {as' : Array Value} {Q : Option Value → Heap → List Loc → Prop}
    (hown : s.vm.findClass own = some m.cls) (hlink : (Cond.methodLink own index y).before a0 Z = true) (hdecl : (Cond.declares y).before a0 Z = true) (hnf : NotFace s y) (hsel : (Cond.selects K y z).before a0 Z = true) (hinst : (Cond.instanceMethod z).before a0 Z = true) (hinit : (Cond.initialized z.cls).before a0 Z = true) (hcode : (Cond.code z bytes maxL ret).before a0 Z = true)
    (hy : y.cls ≠ "java/lang/invoke/MethodHandle" ∧ y.cls ≠ "java/lang/invoke/VarHandle") {W : Nat} (hM : OwnCtr l Z z [] bytes maxL ret rm as' h Q) (hf : rm.frames + 1 ≤ R.frames) (hl : W + (maxL + 11) + rm.locals ≤ R.locals)
    {b : Addr} (E : Exa Z h b K) {g : JFrame} (hg : g.method = m) (hsize : g.locals.size = c.maxLocals) {argsL rest : List Value} (hlen : ∀ sig, parseMethodDescriptor y.desc = some sig → argsL.length = sig.parameters.length)
    (hstack : g.stack = argsL.reverse ++ .ref b :: rest) (hW : 2 * g.monitorRoom + (rest.map fun v => v.category).sum ≤ W) (hdg : decode c.code g.pc = .ok (.invokevirtual index, 3)) (eT : T.heap = h) (ha : (.ref b :: argsL).toArray = as') (hc : cells + rm.cells ≤ R.cells) (hs : slots + rm.slots ≤ R.slots) :
    ∃ (v : Option Value) (T' : State) (L : List Loc), Stand p l e R s m args below meth c T' (locs ++ L) (cells + rm.cells) (slots + rm.slots) ∧ Q v T'.heap L ∧ ∀ target, Steps p.tables e below (T'.setTop { g with pc := g.pc + 3, stack := v.toList ++ rest }) target → Steps p.tables e below (T.setTop g) target := by
  obtain ⟨cq, kq, qa, qb, qc⟩ := isOf hZ eT E
  obtain ⟨v, _, ⟨T', L', k, n⟩, -, X', ⟨L, hQ, l1, y1, z1⟩, st⟩ := X.virtualBack hx (y := y) (z := z) hown (mvT hZ hlink) (mvT hZ hdecl) hnf (mvT hZ hsel) (mvT hZ hinst) hy (backOf (W := W) hM hZ hcode hinit hf hl) qa qc hg hsize (Steps.refl _) hlen hstack hW hdg (fun _ _ => ⟨ha, eT, hc, hs⟩)
  dsimp only [Pt.U, Pt.locs, Pt.cells, Pt.slots] at X' l1 y1 z1 st hQ
  subst l1 y1 z1
  exact ⟨v, T', L, X', hQ, fun t k => st.trans k⟩
/-- a private instance method, called by invokevirtual, by its contract -/
theorem own_callP (X : Stand p l e R s m args below meth c T locs cells slots) (hx : p.tables.exec = Jvm.exec) (hZ : Z.Warmed39 s.vm) {own : String} {index : Nat} {y : MethodName} {bytes : ByteArray} {maxL : Nat} {ret : Option FieldType} {rm : Room} {as' : Array Value} {Q : Option Value → Heap → List Loc → Prop}
    (hown : s.vm.findClass own = some m.cls) (hlink : (Cond.methodLink own index y).before a0 Z = true) (hinst : (Cond.instanceMethod y).before a0 Z = true) (hsel : (Cond.selects y.cls y y).before a0 Z = true) (hpriv : (Cond.privateMethod y).before a0 Z = true) (hinit : (Cond.initialized y.cls).before a0 Z = true) (hcode : (Cond.code y bytes maxL ret).before a0 Z = true)
    (hy : y.cls ≠ "java/lang/invoke/MethodHandle" ∧ y.cls ≠ "java/lang/invoke/VarHandle") {W : Nat} (hM : OwnCtr l Z y [] bytes maxL ret rm as' h Q) (hf : rm.frames + 1 ≤ R.frames) (hl : W + (maxL + 11) + rm.locals ≤ R.locals)
    {b : Addr} {K : String} (E : Exa Z h b K) {g : JFrame} (hg : g.method = m) (hsize : g.locals.size = c.maxLocals) {argsL rest : List Value} (hlen : ∀ sig, parseMethodDescriptor y.desc = some sig → argsL.length = sig.parameters.length)
    (hstack : g.stack = argsL.reverse ++ .ref b :: rest) (hW : 2 * g.monitorRoom + (rest.map fun v => v.category).sum ≤ W) (hdg : decode c.code g.pc = .ok (.invokevirtual index, 3)) (eT : T.heap = h) (ha : (.ref b :: argsL).toArray = as') (hc : cells + rm.cells ≤ R.cells) (hs : slots + rm.slots ≤ R.slots) :
    ∃ (v : Option Value) (T' : State) (L : List Loc), Stand p l e R s m args below meth c T' (locs ++ L) (cells + rm.cells) (slots + rm.slots) ∧ Q v T'.heap L ∧ ∀ target, Steps p.tables e below (T'.setTop { g with pc := g.pc + 3, stack := v.toList ++ rest }) target → Steps p.tables e below (T.setTop g) target := by
  obtain ⟨cq, q1, q2⟩ := E.cell
  obtain ⟨v, _, ⟨T', L', k, n⟩, -, X', ⟨L, hQ, l1, y1, z1⟩, st⟩ := X.privateBack hx (y := y) hown (mvT hZ hlink) (mvT hZ hinst) (mvT hZ hsel) (Cond.privateMethod_at (mvP hZ hpriv (args := #[]))) (mvT hZ hcode) hy (backOf (W := W) hM hZ hcode hinit hf hl) hg hsize (Steps.refl _) (by rw [eT]; exact q1) q2 hlen hstack hW hdg (fun _ _ => ⟨ha, eT, hc, hs⟩)
  dsimp only [Pt.U, Pt.locs, Pt.cells, Pt.slots] at X' l1 y1 z1 st hQ
  subst l1 y1 z1
  exact ⟨v, T', L, X', hQ, fun t k => st.trans k⟩
theorem own_retI (X : Stand p l e R s m args below meth c T locs cells slots) (hx : p.tables.exec = Jvm.exec) {pc : Nat} {Ls : Array Slot} {z : Int32} {rest : List Value} (hret : meth.sig.returnType = some .int) (hd : decode c.code pc = .ok (.ireturn, 1)) {fs : List Frame}
    (hl : ∀ (f : JFrame) (acts : List Action), f.method = m → f.locked = none → f.entered = [] → (doReturn e (T.setTop f) acts (some (.int z))).1 = T.setFrames fs) : Steps p.tables e below (T.setTop (mkF m pc Ls (.int z :: rest))) (T.setFrames fs) :=
  retOut X hx hret rfl (Or.inl ⟨rfl, Or.inl rfl, _, rfl⟩) hd hl
theorem own_retJ (X : Stand p l e R s m args below meth c T locs cells slots) (hx : p.tables.exec = Jvm.exec) {pc : Nat} {Ls : Array Slot} {z : Int64} {rest : List Value} (hret : meth.sig.returnType = some .long) (hd : decode c.code pc = .ok (.lreturn, 1)) {fs : List Frame}
    (hl : ∀ (f : JFrame) (acts : List Action), f.method = m → f.locked = none → f.entered = [] → (doReturn e (T.setTop f) acts (some (.long z))).1 = T.setFrames fs) : Steps p.tables e below (T.setTop (mkF m pc Ls (.long z :: rest))) (T.setFrames fs) :=
  retOut X hx hret rfl (Or.inr (Or.inl ⟨rfl, rfl, _, rfl⟩)) hd hl
theorem own_retR (X : Stand p l e R s m args below meth c T locs cells slots) (hx : p.tables.exec = Jvm.exec) {pc : Nat} {Ls : Array Slot} {w : Value} {t : FieldType} {rest : List Value} (hret : meth.sig.returnType = some t) (ht : t.isReference = true) (hw : w.isRef = true) (hd : decode c.code pc = .ok (.areturn, 1)) {fs : List Frame}
    (hl : ∀ (f : JFrame) (acts : List Action), f.method = m → f.locked = none → f.entered = [] → (doReturn e (T.setTop f) acts (some w)).1 = T.setFrames fs) : Steps p.tables e below (T.setTop (mkF m pc Ls (w :: rest))) (T.setFrames fs) :=
  retOut X hx hret (by cases t <;> simp [FieldType.isReference] at ht <;> cases w <;> simp [Value.isRef] at hw <;> rfl) (Or.inr (Or.inr (Or.inr (Or.inr ⟨rfl, ht, hw⟩)))) hd hl
theorem own_nf {K : String} {y y' : MethodName} (hsel : (Cond.selects K y' y').before args s = true) (hc : y'.cls = y.cls) : NotFace s y := fun r0 h0 => by
  obtain ⟨c2, r2, m2, q1, q2, q3, q4, kP, hkP, hkPi⟩ := Cond.selects_spec hsel
  have e1 := findClass_of_methodNamed q3
  have e2 := findClass_of_methodNamed h0
  rw [hc, e2] at e1
  have e3 := Option.some.inj e1
  exact ⟨kP, by rw [e3]; exact hkP, hkPi⟩
theorem own_stakeep {h' : Heap} {O n d : String} {v : Value} (F : Sta Z h O n d v) (K : Keep h h' []) : Sta Z h' O n d v := by
  obtain ⟨cf, i, k, f, st, cell, h1, h2, h3, h4, h5, r⟩ := F
  exact ⟨cf, i, k, f, st, cell, h1, h2, h3, h4, K.2.1 _ _ h5 nin0, r⟩
end Own

section OwnArrays
variable {p : Program} {l : Launch} {e : Env} {R : Room} {s : State} {m : MethodId} {args : Array Value} {below : List Frame} {meth : Method} {c : Code} {T : State} {locs : List Loc} {cells slots : Nat} {Z : State} {a0 : Array Value} {h h' : Heap} {a b : Addr} {ty : FieldType} {n : Nat} {f : Nat → Value}
/-- at a lies an array of n places of the kind ty, and its i-th place holds f i -/
def OwnArr (Z : State) (h : Heap) (a : Addr) (ty : FieldType) (n : Nat) (f : Nat → Value) : Prop := ∃ c : Cell, Arr Z h a c ty ∧ c.slots.size = n ∧ n < 2 ^ 31 ∧ ∀ i, i < n → c.slots[i]? = some (f i)
theorem OwnArr.lt (F : OwnArr Z h a ty n f) : a < h.size := by obtain ⟨c, A, -⟩ := F; exact A.lt
theorem OwnArr.ext (F : OwnArr Z h a ty n f) (E : Ext h h') : OwnArr Z h' a ty n f := by obtain ⟨c, A, r⟩ := F; exact ⟨c, A.ext E, r⟩
theorem OwnArr.other {sl : Nat} {v : Value} (F : OwnArr Z h b ty n f) (W : Wr h h' a sl v) (q : b ≠ a) : OwnArr Z h' b ty n f := by obtain ⟨c, A, r⟩ := F; exact ⟨c, A.other W q, r⟩
theorem OwnArr.keep {ws : List Addr} (F : OwnArr Z h a ty n f) (K : Keep h h' ws) (q : a ∉ ws) : OwnArr Z h' a ty n f := by obtain ⟨c, A, r⟩ := F; exact ⟨c, ⟨K.2.1 a c A.1 q, A.2⟩, r⟩
theorem OwnArr.congr {f' : Nat → Value} (F : OwnArr Z h a ty n f) (q : ∀ i, i < n → f i = f' i) : OwnArr Z h a ty n f' := by obtain ⟨c, A, r1, r2, r3⟩ := F; exact ⟨c, A, r1, r2, fun i hi => by rw [← q i hi]; exact r3 i hi⟩
theorem OwnArr.set {i : Nat} {v : Value} (F : OwnArr Z h a ty n f) (W : Wr h h' a i v) : OwnArr Z h' a ty n (fun k => if k = i then v else f k) := by
  obtain ⟨c, A, r1, r2, r3⟩ := F
  refine ⟨_, A.same W, by rw [sz_set]; exact r1, r2, fun k hk => ?_⟩
  show (c.slots.setIfInBounds i v)[k]? = _
  by_cases e : k = i
  · subst e; simp [r1, hk]
  · rw [Array.getElem?_setIfInBounds_ne (Ne.symm e), r3 k hk]; simp [e]
theorem own_newarr (X : Stand p l e R s m args below meth c T locs cells slots) (hx : p.tables.exec = Jvm.exec) (hZ : Z.Warmed39 s.vm) {aty : ArrayType} (w : (Cond.arrayClass (newarray.typeOf aty)).before a0 Z = true) (eT : T.heap = h) {g : JFrame} (hg : g.method = m) (hd : decode c.code g.pc = .ok (.newarray aty, 2)) {z : Int32} {rest : List Value} (hs : g.stack = .int z :: rest)
    {n cap : Nat} (hz : z = Int32.ofNat n) (hcap : n ≤ cap) (hb : cap * 8 ≤ 536870912) (hc : cells + 1 ≤ R.cells) (hl : slots + cap ≤ R.slots) :
    ∃ T' h', Stand p l e R s m args below meth c T' locs (cells + 1) (slots + cap) ∧ T'.heap = h' ∧ Ext h h' ∧ OwnArr Z h' h.size (newarray.typeOf aty) n (fun _ => defaultValue (newarray.typeOf aty)) ∧
      ∀ target, Steps p.tables e below (T'.setTop { g with pc := g.pc + 2, stack := .ref h.size :: rest }) target → Steps p.tables e below (T.setTop g) target := by
  have hn31 : n < 2 ^ 31 := by omega
  have hcl : z.toNatClampNeg = n := clamp_of hz hn31
  have hnn : ¬ z < 0 := by
    have q := toInt_of hz hn31
    rw [Int32.lt_iff_toInt_lt, q, Int32.toInt_zero]; omega
  obtain ⟨T', h', cA, X', e', E', A', st⟩ := newP X hx hZ w eT hg hd hs hnn (cap := cap) (by rw [hcl]; exact hcap) hb hc hl
  refine ⟨T', h', X', e', E', ⟨_, A', by rw [sz_new, hcl], hn31, fun i hi => ?_⟩, st⟩
  show (Array.replicate z.toNatClampNeg _)[i]? = _
  rw [hcl]; simp [hi]
theorem own_laload (X : Stand p l e R s m args below meth c T locs cells slots) (hx : p.tables.exec = Jvm.exec) (hZ : Z.Warmed39 s.vm) (eT : T.heap = h) (A : OwnArr Z h a .long n f) {j : Int32} {i : Nat} (hj : j = Int32.ofNat i) (hi : i < n) {g : JFrame} (hg : g.method = m) {rest : List Value} (hs : g.stack = .int j :: .ref a :: rest) (hd : decode c.code g.pc = .ok (.laload, 1)) :
    ∀ target, Steps p.tables e below (T.setTop { g with pc := g.pc + 1, stack := f i :: rest }) target → Steps p.tables e below (T.setTop g) target := by
  obtain ⟨cl, A, r1, r2, r3⟩ := A
  exact fun t k => X.laload hx (j := j) (v := f i) (by rw [eT]; exact A.1) (State.isArrayOf_alike hZ.alike A.2.1) A.2.2 (by rw [r1]; exact within hj hi r2) (by rw [clamp_of hj (by omega)]; exact r3 i hi) hg hs hd t k
theorem own_iaload (X : Stand p l e R s m args below meth c T locs cells slots) (hx : p.tables.exec = Jvm.exec) (hZ : Z.Warmed39 s.vm) (eT : T.heap = h) (A : OwnArr Z h a .int n f) {j : Int32} {i : Nat} (hj : j = Int32.ofNat i) (hi : i < n) {g : JFrame} (hg : g.method = m) {rest : List Value} (hs : g.stack = .int j :: .ref a :: rest) (hd : decode c.code g.pc = .ok (.iaload, 1)) :
    ∀ target, Steps p.tables e below (T.setTop { g with pc := g.pc + 1, stack := f i :: rest }) target → Steps p.tables e below (T.setTop g) target := by
  obtain ⟨cl, A, r1, r2, r3⟩ := A
  exact fun t k => X.iaload hx (j := j) (v := f i) (by rw [eT]; exact A.1) (State.isArrayOf_alike hZ.alike A.2.1) A.2.2 (by rw [r1]; exact within hj hi r2) (by rw [clamp_of hj (by omega)]; exact r3 i hi) hg hs hd t k
theorem own_zaload (X : Stand p l e R s m args below meth c T locs cells slots) (hx : p.tables.exec = Jvm.exec) (hZ : Z.Warmed39 s.vm) (eT : T.heap = h) (A : OwnArr Z h a .boolean n f) {j : Int32} {i : Nat} (hj : j = Int32.ofNat i) (hi : i < n) {g : JFrame} (hg : g.method = m) {rest : List Value} (hs : g.stack = .int j :: .ref a :: rest) (hd : decode c.code g.pc = .ok (.baload, 1)) :
    ∀ target, Steps p.tables e below (T.setTop { g with pc := g.pc + 1, stack := f i :: rest }) target → Steps p.tables e below (T.setTop g) target := by
  obtain ⟨cl, A, r1, r2, r3⟩ := A
  exact fun t k => X.baloadBooleans hx (j := j) (v := f i) (by rw [eT]; exact A.1) (State.isArrayOf_alike hZ.alike A.2.1) A.2.2 (by rw [r1]; exact within hj hi r2) (by rw [clamp_of hj (by omega)]; exact r3 i hi) hg hs hd t k
theorem own_alength (X : Stand p l e R s m args below meth c T locs cells slots) (hx : p.tables.exec = Jvm.exec) (hZ : Z.Warmed39 s.vm) (eT : T.heap = h) (A : OwnArr Z h a ty n f) {g : JFrame} (hg : g.method = m) {rest : List Value} (hs : g.stack = .ref a :: rest) (hd : decode c.code g.pc = .ok (.arraylength, 1)) :
    ∀ target, Steps p.tables e below (T.setTop { g with pc := g.pc + 1, stack := .int (Int32.ofNat n) :: rest }) target → Steps p.tables e below (T.setTop g) target := by
  obtain ⟨cl, A, r1, r2, r3⟩ := A
  subst r1
  exact fun t k => X.arraylength hx (by rw [eT]; exact A.1) (State.isArrayOf_alike hZ.alike A.2.1) hg hs hd t k
theorem own_lastore (X : Stand p l e R s m args below meth c T locs cells slots) (hx : p.tables.exec = Jvm.exec) (hZ : Z.Warmed39 s.vm) (eT : T.heap = h) (A : OwnArr Z h a .long n f) {j : Int32} {i : Nat} {x : Int64} (hj : j = Int32.ofNat i) (hi : i < n) {g : JFrame} (hg : g.method = m) {rest : List Value} (hs : g.stack = .long x :: .int j :: .ref a :: rest) (hd : decode c.code g.pc = .ok (.lastore, 1)) :
    ∃ T' h', Stand p l e R s m args below meth c T' (locs ++ [⟨a, i⟩]) cells slots ∧ T'.heap = h' ∧ Wr h h' a i (.long x) ∧ OwnArr Z h' a .long n (fun k => if k = i then .long x else f k) ∧ ∀ target, Steps p.tables e below (T'.setTop { g with pc := g.pc + 1, stack := rest }) target → Steps p.tables e below (T.setTop g) target := by
  have A0 := A
  obtain ⟨cl, A, r1, r2, r3⟩ := A
  obtain ⟨T', h', X', e', W, st⟩ := stJ X hx hZ eT A (j := j) (x := x) (by rw [r1]; exact within hj hi r2) hg hs hd
  rw [clamp_of hj (by omega)] at X' W
  exact ⟨T', h', X', e', W, A0.set W, st⟩
theorem own_iastore (X : Stand p l e R s m args below meth c T locs cells slots) (hx : p.tables.exec = Jvm.exec) (hZ : Z.Warmed39 s.vm) (eT : T.heap = h) (A : OwnArr Z h a .int n f) {j : Int32} {i : Nat} {x : Int32} (hj : j = Int32.ofNat i) (hi : i < n) {g : JFrame} (hg : g.method = m) {rest : List Value} (hs : g.stack = .int x :: .int j :: .ref a :: rest) (hd : decode c.code g.pc = .ok (.iastore, 1)) :
    ∃ T' h', Stand p l e R s m args below meth c T' (locs ++ [⟨a, i⟩]) cells slots ∧ T'.heap = h' ∧ Wr h h' a i (.int x) ∧ OwnArr Z h' a .int n (fun k => if k = i then .int x else f k) ∧ ∀ target, Steps p.tables e below (T'.setTop { g with pc := g.pc + 1, stack := rest }) target → Steps p.tables e below (T.setTop g) target := by
  have A0 := A
  obtain ⟨cl, A, r1, r2, r3⟩ := A
  obtain ⟨T', h', X', e', W, st⟩ := stI X hx hZ eT A (j := j) (x := x) (by rw [r1]; exact within hj hi r2) hg hs hd
  rw [clamp_of hj (by omega)] at X' W
  exact ⟨T', h', X', e', W, A0.set W, st⟩
theorem own_zastore (X : Stand p l e R s m args below meth c T locs cells slots) (hx : p.tables.exec = Jvm.exec) (hZ : Z.Warmed39 s.vm) (eT : T.heap = h) (A : OwnArr Z h a .boolean n f) {j : Int32} {i : Nat} {x : Int32} (hj : j = Int32.ofNat i) (hi : i < n) {g : JFrame} (hg : g.method = m) {rest : List Value} (hs : g.stack = .int x :: .int j :: .ref a :: rest) (hd : decode c.code g.pc = .ok (.bastore, 1)) :
    ∃ T' h', Stand p l e R s m args below meth c T' (locs ++ [⟨a, i⟩]) cells slots ∧ T'.heap = h' ∧ Wr h h' a i (.int (nar .boolean x)) ∧ OwnArr Z h' a .boolean n (fun k => if k = i then .int (nar .boolean x) else f k) ∧ ∀ target, Steps p.tables e below (T'.setTop { g with pc := g.pc + 1, stack := rest }) target → Steps p.tables e below (T.setTop g) target := by
  have A0 := A
  obtain ⟨cl, A, r1, r2, r3⟩ := A
  obtain ⟨T', h', X', e', W, st⟩ := stZ X hx hZ eT A (j := j) (x := x) (by rw [r1]; exact within hj hi r2) hg hs hd
  rw [clamp_of hj (by omega)] at X' W
  exact ⟨T', h', X', e', W, A0.set W, st⟩
theorem own_longs (F : OwnArr Z h a .long n f) (q : ∀ i, i < n → ∃ x : Int64, f i = .long x) : ∃ g : Nat → Int64, OwnArr Z h a .long n (fun i => .long (g i)) := by
  have q' : ∀ i, ∃ x : Int64, i < n → f i = .long x := fun i => by
    by_cases hi : i < n
    · obtain ⟨x, hx⟩ := q i hi; exact ⟨x, fun _ => hx⟩
    · exact ⟨0, fun z => absurd z hi⟩
  exact ⟨fun i => Classical.choose (q' i), F.congr fun i hi => Classical.choose_spec (q' i) hi⟩
end OwnArrays

def own_tab (i : Nat) : Int32 := if i < 128 then 1 else if i < 192 then 2 else if i < 224 then 4 else 0
theorem own_tab1 {i : Nat} (h : i < 128) : own_tab i = 1 := if_pos h
theorem own_tab2 {i : Nat} (h1 : 128 ≤ i) (h : i < 192) : own_tab i = 2 := by rw [own_tab, if_neg (by omega), if_pos h]
theorem own_tab4 {i : Nat} (h1 : 192 ≤ i) (h : i < 224) : own_tab i = 4 := by rw [own_tab, if_neg (by omega), if_neg (by omega), if_pos h]
theorem own_tab_nz {i : Nat} (h : i < 224) : ¬ own_tab i = (0 : Int32) := by
  rcases Nat.lt_or_ge i 128 with q | q
  · rw [own_tab1 q]; decide
  · rcases Nat.lt_or_ge i 192 with q' | q'
    · rw [own_tab2 q q']; decide
    · rw [own_tab4 q' h]; decide
theorem own_rem224 (x : Int32) : ∃ k : Nat, ((x &&& (2147483647 : Int32)) % (224 : Int32)) = Int32.ofNat k ∧ k < 224 := by
  have h := c_mask x 2147483647 31 (by decide) (by decide)
  have hq' : (224 : Int32).toInt = 224 := by decide
  have h1 := Jvm.Kit.i32_rem_nonneg (x := (x &&& (2147483647 : Int32))) (y := 224) (by rw [h]; exact Int.emod_nonneg _ (by decide))
  have h2 : 0 ≤ ((x &&& (2147483647 : Int32)) % (224 : Int32)).toInt := by rw [h1, hq']; exact Int.emod_nonneg _ (by omega)
  have h3 : ((x &&& (2147483647 : Int32)) % (224 : Int32)).toInt < 224 := by rw [h1, hq']; exact Int.emod_lt_of_pos _ (by omega)
  refine ⟨((x &&& (2147483647 : Int32)) % (224 : Int32)).toInt.toNat, ?_, by omega⟩
  apply Int32.toInt_inj.mp
  rw [toInt_of (n := Int32.ofNat ((x &&& (2147483647 : Int32)) % (224 : Int32)).toInt.toNat) rfl (by omega)]
  omega
theorem own_byte {i : Nat} (h : i < 224) : (((Int32.ofNat i).toInt8.toInt32) &&& (255 : Int32)) = Int32.ofNat i := by
  apply Int32.toInt_inj.mp
  have hv : (Int32.ofNat i).toInt = (i : Int) := toInt_of rfl (by omega)
  have h1 := (c_i2b (Int32.ofNat i)).1
  have h2 := c_mask ((Int32.ofNat i).toInt8.toInt32) 255 8 (by decide) (by decide)
  rw [h2, hv]
  rw [hv] at h1
  have e : ((2 ^ 8 : Nat) : Int) = 256 := by decide
  rw [e]
  omega
theorem own_at {args : Array Value} {s : State} {t : Term} {ar : Addr} {cl : Cell} {z : Int32} {i : Nat} (ear : t.eval args s none [i] s = some (.ref ar)) (hAt : s.arrayAt? ar = some cl) (hi : i < 256) (h : (Jvm.Cond.eq (.elem t (.index 0)) (.int z)).value args s none s [i] = some true) : cl.slots[i]? = some (.int z) := by
  have hj : (Term.index 0).eval args s none [i] s = some (.int (Int32.ofNat i)) := rfl
  have hn : ¬ (Int32.ofNat i) < 0 := by
    have q : (Int32.ofNat i).toInt = (i : Int) := toInt_of rfl (by omega)
    rw [Int32.lt_iff_toInt_lt, q, Int32.toInt_zero]; omega
  have he := elem_f ear hj hAt hn
  rw [clamp_of (n := Int32.ofNat i) rfl (by omega)] at he
  obtain ⟨x, y, h1, h2, -, k2⟩ := cmp_v (Or.inl h)
  cases (Term.int_eval (args := args) (first := s) (o := none) (idx := [i]) (s := s) z).symm.trans h2
  obtain ⟨w, rfl⟩ := k2
  have q : w = z := by
    simp only [Jvm.Cond.value, h1, h2] at h
    simpa using h
  subst q
  rw [← he, h1]
theorem own_index {args : Array Value} {s : State} {i : Nat} {k : Int32} {n : Nat} (hk : k.toInt = n) (hi : i < 256) : (Jvm.Cond.le (.int k) (.index 0)).value args s none s [i] = some (decide (n ≤ i)) ∧ (Jvm.Cond.lt (.index 0) (.int k)).value args s none s [i] = some (decide (i < n)) := by
  have q : (i.toInt32).toInt = (i : Int) := toInt_of (n := i.toInt32) rfl (by omega)
  constructor
  · simp only [Jvm.Cond.value, Term.eval]
    show some (decide (k ≤ i.toInt32)) = _
    refine congrArg some (decide_eq_decide.mpr ?_)
    rw [Int32.le_iff_toInt_le, hk, q]
    omega
  · simp only [Jvm.Cond.value, Term.eval]
    show some (decide (i.toInt32 < k)) = _
    refine congrArg some (decide_eq_decide.mpr ?_)
    rw [Int32.lt_iff_toInt_lt, hk, q]
    omega
theorem own_or {args : Array Value} {s : State} {G X : Jvm.Cond} {idx : List Nat} (h1 : (Jvm.Cond.or G X).value args s none s idx = some true) (h2 : G.value args s none s idx = some false) : X.value args s none s idx = some true := by
  simp only [Jvm.Cond.value, h2] at h1
  exact h1
theorem own_tabs {args : Array Value} {s : State} {C O n d e f : String} {ar : Addr} {cl : Cell}
    (ear : (Term.field (.static C n d) O e f).eval args s none [] s = some (.ref ar)) (A : Arr s s.heap ar cl .int)
    (n3 : (Jvm.Cond.eq (.length (.field (.static C n d) O e f)) (.int 256)).value args s none s [] = some true)
    (n4 : (Jvm.Cond.all (.field (.static C n d) O e f) (.or (.le (.int 128) (.index 0)) (.eq (.elem (.field (.static C n d) O e f) (.index 0)) (.int 1)))).value args s none s [] = some true)
    (n5 : (Jvm.Cond.all (.field (.static C n d) O e f) (.or (.lt (.index 0) (.int 128)) (.or (.le (.int 192) (.index 0)) (.eq (.elem (.field (.static C n d) O e f) (.index 0)) (.int 2))))).value args s none s [] = some true)
    (n6 : (Jvm.Cond.all (.field (.static C n d) O e f) (.or (.lt (.index 0) (.int 192)) (.or (.le (.int 224) (.index 0)) (.eq (.elem (.field (.static C n d) O e f) (.index 0)) (.int 4))))).value args s none s [] = some true)
    (n7 : (Jvm.Cond.all (.field (.static C n d) O e f) (.or (.lt (.index 0) (.int 224)) (.eq (.elem (.field (.static C n d) O e f) (.index 0)) (.int 0)))).value args s none s [] = some true) :
    OwnArr s s.heap ar .int 256 (fun i => .int (own_tab i)) := by
  have hAt : s.arrayAt? ar = some cl := A.fin (Vm.Alike.refl _)
  have ear' : ∀ i : Nat, (Term.field (.static C n d) O e f).eval args s none [i] s = some (.ref ar) := fun i => ear
  have hsz : cl.slots.size = 256 := by
    simp only [Jvm.Cond.value, Term.eval, Option.bind_eq_bind] at n3
    have e2 := ear
    simp only [Term.eval, Option.bind_eq_bind] at e2
    rw [e2] at n3
    simp only [Option.bind_some, hAt] at n3
    by_cases q : cl.slots.size < 2 ^ 31
    · simp only [q, if_true] at n3
      have q2 : cl.slots.size.toInt32 = 256 := by simpa using n3
      have q3 : (cl.slots.size.toInt32).toInt = (cl.slots.size : Int) := toInt_of (n := cl.slots.size.toInt32) rfl q
      rw [q2] at q3
      have q4 : (256 : Int32).toInt = 256 := by decide
      omega
    · simp [q] at n3
  have a4 := Jvm.Cond.all_elim ear hAt n4
  have a5 := Jvm.Cond.all_elim ear hAt n5
  have a6 := Jvm.Cond.all_elim ear hAt n6
  have a7 := Jvm.Cond.all_elim ear hAt n7
  rw [hsz] at a4 a5 a6 a7
  have t1 : (128 : Int32).toInt = ((128 : Nat) : Int) := by decide
  have t2 : (192 : Int32).toInt = ((192 : Nat) : Int) := by decide
  have t3 : (224 : Int32).toInt = ((224 : Nat) : Int) := by decide
  refine ⟨cl, A, hsz, by decide, fun i hi => ?_⟩
  rcases Nat.lt_or_ge i 128 with q | q
  · dsimp only
    rw [own_tab1 q]
    exact own_at (ear' i) hAt hi (own_or (a4 i hi) (by rw [(own_index t1 hi).1]; simp; omega))
  · rcases Nat.lt_or_ge i 192 with q' | q'
    · dsimp only
      rw [own_tab2 q q']
      exact own_at (ear' i) hAt hi (own_or (own_or (a5 i hi) (by rw [(own_index t1 hi).2]; simp; omega)) (by rw [(own_index t2 hi).1]; simp; omega))
    · rcases Nat.lt_or_ge i 224 with q'' | q''
      · dsimp only
        rw [own_tab4 q' q'']
        exact own_at (ear' i) hAt hi (own_or (own_or (a6 i hi) (by rw [(own_index t2 hi).2]; simp; omega)) (by rw [(own_index t3 hi).1]; simp; omega))
      · have e0 : own_tab i = 0 := by rw [own_tab, if_neg (by omega), if_neg (by omega), if_neg (by omega)]
        dsimp only
        rw [e0]
        exact own_at (ear' i) hAt hi (own_or (a7 i hi) (by rw [(own_index t3 hi).2]; simp; omega))

theorem d3_0 : decode prog_10_method_5_code 0 = .ok (.aload_n 0, 1) := by decide +kernel
theorem d3_1 : decode prog_10_method_5_code 1 = .ok (.getfield 7, 3) := by decide +kernel
theorem d3_4 : decode prog_10_method_5_code 4 = .ok (.iload_n 1, 1) := by decide +kernel
theorem d3_5 : decode prog_10_method_5_code 5 = .ok (.iaload, 1) := by decide +kernel
theorem d3_6 : decode prog_10_method_5_code 6 = .ok (.ireturn, 1) := by decide +kernel
theorem pn_3 : plainFor (⟨"com/example/bytefold/bytefold/LengthPrefixForm", "lengthOf", "(I)I"⟩ : MethodName) = true := plainFor_of_name (by first | (simp [plainName, overriddenIn]; done) | decide +kernel)
theorem ef_3 (m : MethodId) (fo : Addr) (pl : Int32) : entryFrame m #[(.ref fo), (.int pl)] 2 = mkF m 0 #[.val (.ref fo), .val (.int pl)] [] := by first | (simp [entryFrame, mkF, argsToLocals, Value.category]; done) | rfl
set_option maxRecDepth 65536 in
set_option maxHeartbeats 40000000 in
theorem rm3 (l : Launch) (Z : State) (a0 : Array Value) (hw : ∀ d ∈ tables_1, d.before a0 Z = true) (ws : List Jvm.Cond) (fo : Addr) (pl : Int32) (ar : Addr) (i : Nat) (h0 : Heap) (n0 : Nat) (Z0 : n0 ≤ h0.size) (E_fo : Exa Z h0 fo "com/example/bytefold/bytefold/LengthPrefixForm") (F_ar : Fld Z h0 fo "com/example/bytefold/bytefold/LengthPrefixForm" "lengthOfLead" "[I" (.ref ar)) (V_ar : OwnArr Z h0 ar .int 256 (fun i => .int (own_tab i))) (hi : pl = Int32.ofNat i) (h256 : i < 256) :
    OwnCtr l Z (⟨"com/example/bytefold/bytefold/LengthPrefixForm", "lengthOf", "(I)I"⟩ : MethodName) ws prog_10_method_5_code 2 (some .int) ({ frames := 0, cells := 0, slots := 0, locals := 0 } : Room) #[(.ref fo), (.int pl)] h0 (fun v h L => v = some (.int (own_tab i)) ∧ Fr n0 L ∧ h = h0) := by
  refine own_body (g0 := fun m => mkF m 0 #[.val (.ref fo), .val (.int pl)] []) pn_3 (fun m => ef_3 m fo pl) ?_
  intro p e s m below meth c s₁ X0 hx hby hml hown hnm hZ e0 hret hlk
  have hml : c.maxLocals = 2 := hml
  have hown : s.vm.findClass "com/example/bytefold/bytefold/LengthPrefixForm" = some m.cls := hown
  have hnm : meth.name = "lengthOf" := hnm
  have hret : meth.sig.returnType = (some .int) := hret
  have N0 := Fr.nil n0
  show OwnFin p e below s _ _ _ (s₁.setTop (mkF m 0 #[.val (.ref fo), .val (.int pl)] []))
  refine own_go (fun t_ k_ => XS.aloadN X0.here hx rfl (hb hby d3_0) rfl rfl k_) ?_
  show OwnFin p e below s _ _ _ (s₁.setTop (mkF m 1 #[.val (.ref fo), .val (.int pl)] [(.ref fo)]))
  obtain ⟨T1, X1, e1, st1⟩ := getF X0 hx hZ hown (host := "") (Or.inl (hw _ (List.mem_of_getElem? (i := 19) rfl))) Via.refl e0 F_ar (g := (mkF m 1 #[.val (.ref fo), .val (.int pl)] [(.ref fo)])) rfl rfl (hb hby d3_1)
  refine own_go st1 ?_
  show OwnFin p e below s _ _ _ (T1.setTop (mkF m 4 #[.val (.ref fo), .val (.int pl)] [(.ref ar)]))
  refine own_go (fun t_ k_ => XS.iloadN X1.here hx rfl (hb hby d3_4) rfl k_) ?_
  show OwnFin p e below s _ _ _ (T1.setTop (mkF m 5 #[.val (.ref fo), .val (.int pl)] [(.int pl), (.ref ar)]))
  refine own_go (own_iaload X1 hx hZ e1 V_ar (i := i) hi h256 (g := (mkF m 5 #[.val (.ref fo), .val (.int pl)] [(.int pl), (.ref ar)])) rfl rfl (hb hby d3_5)) ?_
  show OwnFin p e below s _ _ _ (T1.setTop (mkF m 6 #[.val (.ref fo), .val (.int pl)] [(.int (own_tab i))]))
  refine own_ret X1 (v := some (.int (own_tab i))) hlk (fun hh => by rw [hret] at hh; cases hh) (fun fs hr => own_retI X1 hx hret (hb hby d3_6) hr) (by decide) (by decide) ?_
  rw [e1]
  exact ⟨rfl, N0, rfl⟩
theorem d2_0 : decode prog_5_method_12_code 0 = .ok (.aload_n 0, 1) := by decide +kernel
theorem d2_1 : decode prog_5_method_12_code 1 = .ok (.iload_n 1, 1) := by decide +kernel
theorem d2_2 : decode prog_5_method_12_code 2 = .ok (.invokevirtual 72, 3) := by decide +kernel
theorem d2_5 : decode prog_5_method_12_code 5 = .ok (.istore_n 3, 1) := by decide +kernel
theorem d2_6 : decode prog_5_method_12_code 6 = .ok (.iload_n 3, 1) := by decide +kernel
theorem d2_7 : decode prog_5_method_12_code 7 = .ok (.ifCond .ne 35, 3) := by decide +kernel
theorem d2_42 : decode prog_5_method_12_code 42 = .ok (.iload_n 3, 1) := by decide +kernel
theorem d2_43 : decode prog_5_method_12_code 43 = .ok (.ireturn, 1) := by decide +kernel
theorem pn_2 : plainFor (⟨"com/example/bytefold/bytefold/LeadByteForm", "lengthOfEncoding", "(II)I"⟩ : MethodName) = true := plainFor_of_name (by first | (simp [plainName, overriddenIn]; done) | decide +kernel)
theorem pd_2_2 : parseMethodDescriptor "(I)I" = some ⟨[.int], some .int⟩ := by decide +kernel
theorem ef_2 (m : MethodId) (fo : Addr) (pl : Int32) (px : Int32) : entryFrame m #[(.ref fo), (.int pl), (.int px)] 4 = mkF m 0 #[.val (.ref fo), .val (.int pl), .val (.int px), .unset] [] := by first | (simp [entryFrame, mkF, argsToLocals, Value.category]; done) | rfl
set_option maxRecDepth 65536 in
set_option maxHeartbeats 40000000 in
theorem rm2 (l : Launch) (Z : State) (a0 : Array Value) (hw : ∀ d ∈ tables_1, d.before a0 Z = true) (ws : List Jvm.Cond) (fo : Addr) (pl : Int32) (px : Int32) (ar : Addr) (i : Nat) (h0 : Heap) (n0 : Nat) (Z0 : n0 ≤ h0.size) (E_fo : Exa Z h0 fo "com/example/bytefold/bytefold/LengthPrefixForm") (F_ar : Fld Z h0 fo "com/example/bytefold/bytefold/LengthPrefixForm" "lengthOfLead" "[I" (.ref ar)) (V_ar : OwnArr Z h0 ar .int 256 (fun i => .int (own_tab i))) (hi : pl = Int32.ofNat i) (h224 : i < 224) :
    OwnCtr l Z (⟨"com/example/bytefold/bytefold/LeadByteForm", "lengthOfEncoding", "(II)I"⟩ : MethodName) ws prog_5_method_12_code 4 (some .int) ({ frames := 1, cells := 0, slots := 0, locals := 13 } : Room) #[(.ref fo), (.int pl), (.int px)] h0 (fun v h L => v = some (.int (own_tab i)) ∧ Fr n0 L ∧ h = h0) := by
  refine own_body (g0 := fun m => mkF m 0 #[.val (.ref fo), .val (.int pl), .val (.int px), .unset] []) pn_2 (fun m => ef_2 m fo pl px) ?_
  intro p e s m below meth c s₁ X0 hx hby hml hown hnm hZ e0 hret hlk
  have hml : c.maxLocals = 4 := hml
  have hown : s.vm.findClass "com/example/bytefold/bytefold/LeadByteForm" = some m.cls := hown
  have hnm : meth.name = "lengthOfEncoding" := hnm
  have hret : meth.sig.returnType = (some .int) := hret
  have N0 := Fr.nil n0
  show OwnFin p e below s _ _ _ (s₁.setTop (mkF m 0 #[.val (.ref fo), .val (.int pl), .val (.int px), .unset] []))
  have h256 : i < 256 := by omega
  refine own_go (fun t_ k_ => XS.aloadN X0.here hx rfl (hb hby d2_0) rfl rfl k_) ?_
  show OwnFin p e below s _ _ _ (s₁.setTop (mkF m 1 #[.val (.ref fo), .val (.int pl), .val (.int px), .unset] [(.ref fo)]))
  refine own_go (fun t_ k_ => XS.iloadN X0.here hx rfl (hb hby d2_1) rfl k_) ?_
  show OwnFin p e below s _ _ _ (s₁.setTop (mkF m 2 #[.val (.ref fo), .val (.int pl), .val (.int px), .unset] [(.int pl), (.ref fo)]))
  obtain ⟨v1, T1, L1, X1, hQ1, st1⟩ := own_callV X0 hx hZ (y := (⟨"com/example/bytefold/bytefold/LeadByteForm", "lengthOf", "(I)I"⟩ : MethodName)) (z := (⟨"com/example/bytefold/bytefold/LengthPrefixForm", "lengthOf", "(I)I"⟩ : MethodName)) hown (hw _ (List.mem_of_getElem? (i := 13) rfl)) (hw _ (List.mem_of_getElem? (i := 14) rfl)) (own_nf (y' := (⟨"com/example/bytefold/bytefold/LeadByteForm", "lengthOfEncoding", "(II)I"⟩ : MethodName)) (args := #[]) (mvT hZ (hw _ (List.mem_of_getElem? (i := 10) rfl))) rfl) (hw _ (List.mem_of_getElem? (i := 15) rfl)) (hw _ (List.mem_of_getElem? (i := 16) rfl)) (hw _ (List.mem_of_getElem? (i := 17) rfl)) (hw _ (List.mem_of_getElem? (i := 18) rfl)) (by decide) (W := 0) (rm3 l Z a0 hw [] fo pl ar i h0 n0 Z0 E_fo F_ar V_ar hi h256) (by decide) (by decide) E_fo (g := (mkF m 2 #[.val (.ref fo), .val (.int pl), .val (.int px), .unset] [(.int pl), (.ref fo)])) rfl (by rw [hml]; rfl) (argsL := [(.int pl)]) (rest := []) (lenOf pd_2_2 rfl) rfl (by show 2 * 0 + _ ≤ _; exact Nat.le_of_eq rfl) (hb hby d2_2) e0 rfl (by decide) (by decide)
  obtain ⟨rfl, Nq1, e1⟩ := hQ1
  have N1 := Fr.app N0 Nq1
  refine own_go st1 ?_
  show OwnFin p e below s _ _ _ (T1.setTop (mkF m 5 #[.val (.ref fo), .val (.int pl), .val (.int px), .unset] [(.int (own_tab i))]))
  refine own_go (fun t_ k_ => XS.istoreN X1.here hx rfl (hb hby d2_5) rfl (l' := #[.val (.ref fo), .val (.int pl), .val (.int px), .val (.int (own_tab i))]) rfl k_) ?_
  show OwnFin p e below s _ _ _ (T1.setTop (mkF m 6 #[.val (.ref fo), .val (.int pl), .val (.int px), .val (.int (own_tab i))] []))
  refine own_go (fun t_ k_ => XS.iloadN X1.here hx rfl (hb hby d2_6) rfl k_) ?_
  show OwnFin p e below s _ _ _ (T1.setTop (mkF m 7 #[.val (.ref fo), .val (.int pl), .val (.int px), .val (.int (own_tab i))] [(.int (own_tab i))]))
  have hc7 : ¬ ((own_tab i) = (0 : Int32)) := own_tab_nz h224
  refine own_go (fun t_ k_ => XS.ifYes X1.here hx rfl (pc0 := 7) (pc' := 42) rfl (hb hby d2_7) rfl ((if0 _ _).trans (feq hc7).2) (by decide) (by decide) k_) ?_
  show OwnFin p e below s _ _ _ (T1.setTop (mkF m 42 #[.val (.ref fo), .val (.int pl), .val (.int px), .val (.int (own_tab i))] []))
  refine own_go (fun t_ k_ => XS.iloadN X1.here hx rfl (hb hby d2_42) rfl k_) ?_
  show OwnFin p e below s _ _ _ (T1.setTop (mkF m 43 #[.val (.ref fo), .val (.int pl), .val (.int px), .val (.int (own_tab i))] [(.int (own_tab i))]))
  refine own_ret X1 (v := some (.int (own_tab i))) hlk (fun hh => by rw [hret] at hh; cases hh) (fun fs hr => own_retI X1 hx hret (hb hby d2_43) hr) (by decide) (by decide) ?_
  rw [e1]
  exact ⟨rfl, N1, rfl⟩
theorem d1_0 : decode prog_2_method_7_code 0 = .ok (.getstatic 7, 3) := by decide +kernel
theorem d1_3 : decode prog_2_method_7_code 3 = .ok (.iload_n 0, 1) := by decide +kernel
theorem d1_4 : decode prog_2_method_7_code 4 = .ok (.sipush 255, 3) := by decide +kernel
theorem d1_7 : decode prog_2_method_7_code 7 = .ok (.iand, 1) := by decide +kernel
theorem d1_8 : decode prog_2_method_7_code 8 = .ok (.iconst 0, 1) := by decide +kernel
theorem d1_9 : decode prog_2_method_7_code 9 = .ok (.invokevirtual 32, 3) := by decide +kernel
theorem d1_12 : decode prog_2_method_7_code 12 = .ok (.ireturn, 1) := by decide +kernel
theorem pn_1 : plainFor (⟨"com/example/bytefold/bytefold/Ecma335CompressedUnsignedInt", "lengthOfEncoding", "(B)I"⟩ : MethodName) = true := plainFor_of_name (by first | (simp [plainName, overriddenIn]; done) | decide +kernel)
theorem pd_1_1 : parseMethodDescriptor "(II)I" = some ⟨[.int, .int], some .int⟩ := by decide +kernel
theorem ef_1 (m : MethodId) (pb : Int32) : entryFrame m #[(.int pb)] 1 = mkF m 0 #[.val (.int pb)] [] := by first | (simp [entryFrame, mkF, argsToLocals, Value.category]; done) | rfl
set_option maxRecDepth 65536 in
set_option maxHeartbeats 40000000 in
theorem rm1 (l : Launch) (Z : State) (a0 : Array Value) (hw : ∀ d ∈ tables_1, d.before a0 Z = true) (ws : List Jvm.Cond) (pb : Int32) (fo : Addr) (ar : Addr) (i : Nat) (h0 : Heap) (n0 : Nat) (Z0 : n0 ≤ h0.size) (S_fo : Sta Z h0 "com/example/bytefold/bytefold/Ecma335CompressedUnsignedInt" "FORM" "Lcom/example/bytefold/bytefold/LeadByteForm;" (.ref fo)) (E_fo : Exa Z h0 fo "com/example/bytefold/bytefold/LengthPrefixForm") (F_ar : Fld Z h0 fo "com/example/bytefold/bytefold/LengthPrefixForm" "lengthOfLead" "[I" (.ref ar)) (V_ar : OwnArr Z h0 ar .int 256 (fun i => .int (own_tab i))) (hi2 : (pb &&& (255 : Int32)) = Int32.ofNat i) (h224 : i < 224) :
    OwnCtr l Z (⟨"com/example/bytefold/bytefold/Ecma335CompressedUnsignedInt", "lengthOfEncoding", "(B)I"⟩ : MethodName) ws prog_2_method_7_code 1 (some .int) ({ frames := 2, cells := 0, slots := 0, locals := 28 } : Room) #[(.int pb)] h0 (fun v h L => v = some (.int (own_tab i)) ∧ Fr n0 L ∧ h = h0) := by
  refine own_body (g0 := fun m => mkF m 0 #[.val (.int pb)] []) pn_1 (fun m => ef_1 m pb) ?_
  intro p e s m below meth c s₁ X0 hx hby hml hown hnm hZ e0 hret hlk
  have hml : c.maxLocals = 1 := hml
  have hown : s.vm.findClass "com/example/bytefold/bytefold/Ecma335CompressedUnsignedInt" = some m.cls := hown
  have hnm : meth.name = "lengthOfEncoding" := hnm
  have hret : meth.sig.returnType = (some .int) := hret
  have N0 := Fr.nil n0
  show OwnFin p e below s _ _ _ (s₁.setTop (mkF m 0 #[.val (.int pb)] []))
  obtain ⟨T1, X1, e1, st1⟩ := getS2 X0 hx hZ hown (host := "") (Or.inl (hw _ (List.mem_of_getElem? (i := 5) rfl))) Via.refl e0 S_fo (g := (mkF m 0 #[.val (.int pb)] [])) rfl (hb hby d1_0)
  refine own_go st1 ?_
  show OwnFin p e below s _ _ _ (T1.setTop (mkF m 3 #[.val (.int pb)] [(.ref fo)]))
  refine own_go (fun t_ k_ => XS.iloadN X1.here hx rfl (hb hby d1_3) rfl k_) ?_
  show OwnFin p e below s _ _ _ (T1.setTop (mkF m 4 #[.val (.int pb)] [(.int pb), (.ref fo)]))
  refine own_go (fun t_ k_ => XS.sipush X1.here hx rfl (hb hby d1_4) k_) ?_
  show OwnFin p e below s _ _ _ (T1.setTop (mkF m 7 #[.val (.int pb)] [(.int (255 : Int32)), (.int pb), (.ref fo)]))
  refine own_go (fun t_ k_ => XS.iand X1.here hx rfl (hb hby d1_7) rfl k_) ?_
  show OwnFin p e below s _ _ _ (T1.setTop (mkF m 8 #[.val (.int pb)] [(.int (pb &&& (255 : Int32))), (.ref fo)]))
  refine own_go (fun t_ k_ => XS.iconst X1.here hx rfl (hb hby d1_8) k_) ?_
  show OwnFin p e below s _ _ _ (T1.setTop (mkF m 9 #[.val (.int pb)] [(.int (0 : Int32)), (.int (pb &&& (255 : Int32))), (.ref fo)]))
  obtain ⟨v2, T2, L2, X2, hQ2, st2⟩ := own_callV X1 hx hZ (y := (⟨"com/example/bytefold/bytefold/LeadByteForm", "lengthOfEncoding", "(II)I"⟩ : MethodName)) (z := (⟨"com/example/bytefold/bytefold/LeadByteForm", "lengthOfEncoding", "(II)I"⟩ : MethodName)) hown (hw _ (List.mem_of_getElem? (i := 7) rfl)) (hw _ (List.mem_of_getElem? (i := 8) rfl)) (notFace_of_selects (args := #[]) (mvT hZ (hw _ (List.mem_of_getElem? (i := 10) rfl)))) (hw _ (List.mem_of_getElem? (i := 10) rfl)) (hw _ (List.mem_of_getElem? (i := 9) rfl)) (hw _ (List.mem_of_getElem? (i := 11) rfl)) (hw _ (List.mem_of_getElem? (i := 12) rfl)) (by decide) (W := 0) (rm2 l Z a0 hw [] fo (pb &&& (255 : Int32)) (0 : Int32) ar i h0 n0 Z0 E_fo F_ar V_ar hi2 h224) (by decide) (by decide) E_fo (g := (mkF m 9 #[.val (.int pb)] [(.int (0 : Int32)), (.int (pb &&& (255 : Int32))), (.ref fo)])) rfl (by rw [hml]; rfl) (argsL := [(.int (pb &&& (255 : Int32))), (.int (0 : Int32))]) (rest := []) (lenOf pd_1_1 rfl) rfl (by show 2 * 0 + _ ≤ _; exact Nat.le_of_eq rfl) (hb hby d1_9) e1 rfl (by decide) (by decide)
  obtain ⟨rfl, Nq2, e2⟩ := hQ2
  have N2 := Fr.app N0 Nq2
  refine own_go st2 ?_
  show OwnFin p e below s _ _ _ (T2.setTop (mkF m 12 #[.val (.int pb)] [(.int (own_tab i))]))
  refine own_ret X2 (v := some (.int (own_tab i))) hlk (fun hh => by rw [hret] at hh; cases hh) (fun fs hr => own_retI X2 hx hret (hb hby d1_12) hr) (by decide) (by decide) ?_
  rw [e2]
  exact ⟨rfl, N2, rfl⟩
theorem d4_0 : decode method_2_code 0 = .ok (.iload_n 0, 1) := by decide +kernel
theorem d4_1 : decode method_2_code 1 = .ok (.sipush 128, 3) := by decide +kernel
theorem d4_4 : decode method_2_code 4 = .ok (.if_icmp .ge 5, 3) := by decide +kernel
theorem d4_7 : decode method_2_code 7 = .ok (.iconst 1, 1) := by decide +kernel
theorem d4_8 : decode method_2_code 8 = .ok (.ireturn, 1) := by decide +kernel
theorem d4_9 : decode method_2_code 9 = .ok (.iload_n 0, 1) := by decide +kernel
theorem d4_10 : decode method_2_code 10 = .ok (.sipush 192, 3) := by decide +kernel
theorem d4_13 : decode method_2_code 13 = .ok (.if_icmp .ge 5, 3) := by decide +kernel
theorem d4_16 : decode method_2_code 16 = .ok (.iconst 2, 1) := by decide +kernel
theorem d4_17 : decode method_2_code 17 = .ok (.ireturn, 1) := by decide +kernel
theorem d4_18 : decode method_2_code 18 = .ok (.iconst 4, 1) := by decide +kernel
theorem d4_19 : decode method_2_code 19 = .ok (.ireturn, 1) := by decide +kernel
theorem pn_4 : plainFor (⟨"com/example/bytefold/bytefold/Ecma335CompressedUnsignedIntLengthOfEncodingPinLaw", "expected", "(I)I"⟩ : MethodName) = true := plainFor_of_name (by first | (simp [plainName, overriddenIn]; done) | decide +kernel)
theorem ef_4 (m : MethodId) (pu : Int32) : entryFrame m #[(.int pu)] 1 = mkF m 0 #[.val (.int pu)] [] := by first | (simp [entryFrame, mkF, argsToLocals, Value.category]; done) | rfl
set_option maxRecDepth 65536 in
set_option maxHeartbeats 40000000 in
theorem rm4 (l : Launch) (Z : State) (a0 : Array Value) (hw : ∀ d ∈ tables_1, d.before a0 Z = true) (ws : List Jvm.Cond) (pu : Int32) (i : Nat) (h0 : Heap) (n0 : Nat) (Z0 : n0 ≤ h0.size) (hi : pu = Int32.ofNat i) (h224 : i < 224) :
    OwnCtr l Z (⟨"com/example/bytefold/bytefold/Ecma335CompressedUnsignedIntLengthOfEncodingPinLaw", "expected", "(I)I"⟩ : MethodName) ws method_2_code 1 (some .int) ({ frames := 0, cells := 0, slots := 0, locals := 0 } : Room) #[(.int pu)] h0 (fun v h L => v = some (.int (own_tab i)) ∧ Fr n0 L ∧ h = h0) := by
  refine own_body (g0 := fun m => mkF m 0 #[.val (.int pu)] []) pn_4 (fun m => ef_4 m pu) ?_
  intro p e s m below meth c s₁ X0 hx hby hml hown hnm hZ e0 hret hlk
  have hml : c.maxLocals = 1 := hml
  have hown : s.vm.findClass "com/example/bytefold/bytefold/Ecma335CompressedUnsignedIntLengthOfEncodingPinLaw" = some m.cls := hown
  have hnm : meth.name = "expected" := hnm
  have hret : meth.sig.returnType = (some .int) := hret
  have N0 := Fr.nil n0
  show OwnFin p e below s _ _ _ (s₁.setTop (mkF m 0 #[.val (.int pu)] []))
  refine own_go (fun t_ k_ => XS.iloadN X0.here hx rfl (hb hby d4_0) rfl k_) ?_
  show OwnFin p e below s _ _ _ (s₁.setTop (mkF m 1 #[.val (.int pu)] [(.int pu)]))
  refine own_go (fun t_ k_ => XS.sipush X0.here hx rfl (hb hby d4_1) k_) ?_
  show OwnFin p e below s _ _ _ (s₁.setTop (mkF m 4 #[.val (.int pu)] [(.int (128 : Int32)), (.int pu)]))
  by_cases hc4 : pu < (128 : Int32)
  · refine own_go (fun t_ k_ => XS.icmpNo X0.here hx rfl (hb hby d4_4) rfl (tlt hc4).2.1 k_) ?_
    show OwnFin p e below s _ _ _ (s₁.setTop (mkF m 7 #[.val (.int pu)] []))
    refine own_go (fun t_ k_ => XS.iconst X0.here hx rfl (hb hby d4_7) k_) ?_
    show OwnFin p e below s _ _ _ (s₁.setTop (mkF m 8 #[.val (.int pu)] [(.int (1 : Int32))]))
    refine own_ret X0 (v := some (.int (1 : Int32))) hlk (fun hh => by rw [hret] at hh; cases hh) (fun fs hr => own_retI X0 hx hret (hb hby d4_8) hr) (by decide) (by decide) ?_
    rw [e0]
    have hv : (Int32.ofNat i).toInt = (i : Int) := toInt_of rfl (by omega)
    rw [hi, Int32.lt_iff_toInt_lt, hv] at hc4
    have t128 : (128 : Int32).toInt = 128 := by decide
    have t192 : (192 : Int32).toInt = 192 := by decide
    exact ⟨by rw [own_tab1 (by omega)], N0, rfl⟩
  · refine own_go (fun t_ k_ => XS.icmpYes X0.here hx rfl (pc0 := 4) (pc' := 9) rfl (hb hby d4_4) rfl (flt hc4).2.1 (by decide) (by decide) k_) ?_
    show OwnFin p e below s _ _ _ (s₁.setTop (mkF m 9 #[.val (.int pu)] []))
    refine own_go (fun t_ k_ => XS.iloadN X0.here hx rfl (hb hby d4_9) rfl k_) ?_
    show OwnFin p e below s _ _ _ (s₁.setTop (mkF m 10 #[.val (.int pu)] [(.int pu)]))
    refine own_go (fun t_ k_ => XS.sipush X0.here hx rfl (hb hby d4_10) k_) ?_
    show OwnFin p e below s _ _ _ (s₁.setTop (mkF m 13 #[.val (.int pu)] [(.int (192 : Int32)), (.int pu)]))
    by_cases hc13 : pu < (192 : Int32)
    · refine own_go (fun t_ k_ => XS.icmpNo X0.here hx rfl (hb hby d4_13) rfl (tlt hc13).2.1 k_) ?_
      show OwnFin p e below s _ _ _ (s₁.setTop (mkF m 16 #[.val (.int pu)] []))
      refine own_go (fun t_ k_ => XS.iconst X0.here hx rfl (hb hby d4_16) k_) ?_
      show OwnFin p e below s _ _ _ (s₁.setTop (mkF m 17 #[.val (.int pu)] [(.int (2 : Int32))]))
      refine own_ret X0 (v := some (.int (2 : Int32))) hlk (fun hh => by rw [hret] at hh; cases hh) (fun fs hr => own_retI X0 hx hret (hb hby d4_17) hr) (by decide) (by decide) ?_
      rw [e0]
      have hv : (Int32.ofNat i).toInt = (i : Int) := toInt_of rfl (by omega)
      rw [hi, Int32.lt_iff_toInt_lt, hv] at hc4
      rw [hi, Int32.lt_iff_toInt_lt, hv] at hc13
      have t128 : (128 : Int32).toInt = 128 := by decide
      have t192 : (192 : Int32).toInt = 192 := by decide
      exact ⟨by rw [own_tab2 (by omega) (by omega)], N0, rfl⟩
    · refine own_go (fun t_ k_ => XS.icmpYes X0.here hx rfl (pc0 := 13) (pc' := 18) rfl (hb hby d4_13) rfl (flt hc13).2.1 (by decide) (by decide) k_) ?_
      show OwnFin p e below s _ _ _ (s₁.setTop (mkF m 18 #[.val (.int pu)] []))
      refine own_go (fun t_ k_ => XS.iconst X0.here hx rfl (hb hby d4_18) k_) ?_
      show OwnFin p e below s _ _ _ (s₁.setTop (mkF m 19 #[.val (.int pu)] [(.int (4 : Int32))]))
      refine own_ret X0 (v := some (.int (4 : Int32))) hlk (fun hh => by rw [hret] at hh; cases hh) (fun fs hr => own_retI X0 hx hret (hb hby d4_19) hr) (by decide) (by decide) ?_
      rw [e0]
      have hv : (Int32.ofNat i).toInt = (i : Int) := toInt_of rfl (by omega)
      rw [hi, Int32.lt_iff_toInt_lt, hv] at hc4
      rw [hi, Int32.lt_iff_toInt_lt, hv] at hc13
      have t128 : (128 : Int32).toInt = 128 := by decide
      have t192 : (192 : Int32).toInt = 192 := by decide
      exact ⟨by rw [own_tab4 (by omega) h224], N0, rfl⟩
theorem pn_0 : plainFor (⟨"com/example/bytefold/bytefold/Ecma335CompressedUnsignedIntLengthOfEncodingPinLaw", "law", "(I)Z"⟩ : MethodName) = true := plainFor_of_name (by first | (simp [plainName, overriddenIn]; done) | decide +kernel)
theorem pd_0_0 : parseMethodDescriptor "(B)I" = some ⟨[.byte], some .int⟩ := by decide +kernel
theorem pd_0_2 : parseMethodDescriptor "(I)I" = some ⟨[.int], some .int⟩ := by decide +kernel
theorem ef_0 (m : MethodId) (xx : Int32) : entryFrame m #[(.int xx)] maxLocals = mkF m 0 #[.val (.int xx), .unset, .unset, .unset] [] := by first | (simp [entryFrame, mkF, argsToLocals, Value.category, maxLocals]; done) | rfl
set_option maxRecDepth 65536 in
set_option maxHeartbeats 40000000 in
theorem rm0 (l : Launch) (Z : State) (a0 : Array Value) (hw : ∀ d ∈ tables_1, d.before a0 Z = true) (ws : List Jvm.Cond) (xx : Int32) (fo : Addr) (ar : Addr) (h0 : Heap) (n0 : Nat) (Z0 : n0 ≤ h0.size) (S_fo : Sta Z h0 "com/example/bytefold/bytefold/Ecma335CompressedUnsignedInt" "FORM" "Lcom/example/bytefold/bytefold/LeadByteForm;" (.ref fo)) (E_fo : Exa Z h0 fo "com/example/bytefold/bytefold/LengthPrefixForm") (F_ar : Fld Z h0 fo "com/example/bytefold/bytefold/LengthPrefixForm" "lengthOfLead" "[I" (.ref ar)) (V_ar : OwnArr Z h0 ar .int 256 (fun i => .int (own_tab i))) :
    OwnCtr l Z x ws code maxLocals ret room_1 #[(.int xx)] h0 (fun v h L => v = some (.int 1) ∧ Fr n0 L) := by
  refine own_body (g0 := fun m => mkF m 0 #[.val (.int xx), .unset, .unset, .unset] []) pn_0 (fun m => ef_0 m xx) ?_
  intro p e s m below meth c s₁ X0 hx hby hml hown hnm hZ e0 hret hlk
  have hml : c.maxLocals = 4 := hml
  have hown : s.vm.findClass "com/example/bytefold/bytefold/Ecma335CompressedUnsignedIntLengthOfEncodingPinLaw" = some m.cls := hown
  have hnm : meth.name = "law" := hnm
  have hret : meth.sig.returnType = (some .boolean) := hret
  have N0 := Fr.nil n0
  show OwnFin p e below s _ _ _ (s₁.setTop (mkF m 0 #[.val (.int xx), .unset, .unset, .unset] []))
  refine own_go (fun t_ k_ => XS.iloadN X0.here hx rfl (hb hby at_0) rfl k_) ?_
  show OwnFin p e below s _ _ _ (s₁.setTop (mkF m 1 #[.val (.int xx), .unset, .unset, .unset] [(.int xx)]))
  refine own_go (X0.ldcInt hx hown (mvT hZ (hw _ (List.mem_of_getElem? (i := 0) rfl))) (g := (mkF m 1 #[.val (.int xx), .unset, .unset, .unset] [(.int xx)])) rfl (hb hby at_1)) ?_
  show OwnFin p e below s _ _ _ (s₁.setTop (mkF m 3 #[.val (.int xx), .unset, .unset, .unset] [(.int (2147483647 : Int32)), (.int xx)]))
  refine own_go (fun t_ k_ => XS.iand X0.here hx rfl (hb hby at_3) rfl k_) ?_
  show OwnFin p e below s _ _ _ (s₁.setTop (mkF m 4 #[.val (.int xx), .unset, .unset, .unset] [(.int (xx &&& (2147483647 : Int32)))]))
  refine own_go (fun t_ k_ => XS.sipush X0.here hx rfl (hb hby at_4) k_) ?_
  show OwnFin p e below s _ _ _ (s₁.setTop (mkF m 7 #[.val (.int xx), .unset, .unset, .unset] [(.int (224 : Int32)), (.int (xx &&& (2147483647 : Int32)))]))
  refine own_go (fun t_ k_ => Jvm.RoadKit.iremM X0 hx rfl (hb hby at_7) rfl (by decide) k_) ?_
  show OwnFin p e below s _ _ _ (s₁.setTop (mkF m 8 #[.val (.int xx), .unset, .unset, .unset] [(.int ((xx &&& (2147483647 : Int32)) % (224 : Int32)))]))
  refine own_go (fun t_ k_ => XS.istoreN X0.here hx rfl (hb hby at_8) rfl (l' := #[.val (.int xx), .val (.int ((xx &&& (2147483647 : Int32)) % (224 : Int32))), .unset, .unset]) rfl k_) ?_
  show OwnFin p e below s _ _ _ (s₁.setTop (mkF m 9 #[.val (.int xx), .val (.int ((xx &&& (2147483647 : Int32)) % (224 : Int32))), .unset, .unset] []))
  obtain ⟨i, hi, h224⟩ := own_rem224 xx
  rw [hi]
  show OwnFin p e below s _ _ _ (s₁.setTop (mkF m 9 #[.val (.int xx), .val (.int (Int32.ofNat i)), .unset, .unset] []))
  have hb2 := own_byte h224
  refine own_go (fun t_ k_ => XS.iloadN X0.here hx rfl (hb hby at_9) rfl k_) ?_
  show OwnFin p e below s _ _ _ (s₁.setTop (mkF m 10 #[.val (.int xx), .val (.int (Int32.ofNat i)), .unset, .unset] [(.int (Int32.ofNat i))]))
  refine own_go (fun t_ k_ => XS.i2b X0.here hx rfl (hb hby at_10) rfl k_) ?_
  show OwnFin p e below s _ _ _ (s₁.setTop (mkF m 11 #[.val (.int xx), .val (.int (Int32.ofNat i)), .unset, .unset] [(.int ((Int32.ofNat i).toInt8.toInt32))]))
  refine own_go (fun t_ k_ => XS.istoreN X0.here hx rfl (hb hby at_11) rfl (l' := #[.val (.int xx), .val (.int (Int32.ofNat i)), .val (.int ((Int32.ofNat i).toInt8.toInt32)), .unset]) rfl k_) ?_
  show OwnFin p e below s _ _ _ (s₁.setTop (mkF m 12 #[.val (.int xx), .val (.int (Int32.ofNat i)), .val (.int ((Int32.ofNat i).toInt8.toInt32)), .unset] []))
  refine own_go (fun t_ k_ => XS.iloadN X0.here hx rfl (hb hby at_12) rfl k_) ?_
  show OwnFin p e below s _ _ _ (s₁.setTop (mkF m 13 #[.val (.int xx), .val (.int (Int32.ofNat i)), .val (.int ((Int32.ofNat i).toInt8.toInt32)), .unset] [(.int ((Int32.ofNat i).toInt8.toInt32))]))
  obtain ⟨v1, T1, L1, X1, hQ1, st1⟩ := own_callS X0 hx hZ (y := (⟨"com/example/bytefold/bytefold/Ecma335CompressedUnsignedInt", "lengthOfEncoding", "(B)I"⟩ : MethodName)) hown (hw _ (List.mem_of_getElem? (i := 1) rfl)) (hw _ (List.mem_of_getElem? (i := 2) rfl)) (hw _ (List.mem_of_getElem? (i := 3) rfl)) (hw _ (List.mem_of_getElem? (i := 4) rfl)) (by decide) (W := 0) (rm1 l Z a0 hw [] ((Int32.ofNat i).toInt8.toInt32) fo ar i h0 n0 Z0 S_fo E_fo F_ar V_ar hb2 h224) (by decide) (by decide) (g := (mkF m 13 #[.val (.int xx), .val (.int (Int32.ofNat i)), .val (.int ((Int32.ofNat i).toInt8.toInt32)), .unset] [(.int ((Int32.ofNat i).toInt8.toInt32))])) rfl (by rw [hml]; rfl) (argsL := [(.int ((Int32.ofNat i).toInt8.toInt32))]) (rest := []) (lenOf pd_0_0 rfl) rfl (by show 2 * 0 + _ ≤ _; exact Nat.le_of_eq rfl) (hb hby at_13) e0 rfl (by decide) (by decide)
  obtain ⟨rfl, Nq1, e1⟩ := hQ1
  have N1 := Fr.app N0 Nq1
  refine own_go st1 ?_
  show OwnFin p e below s _ _ _ (T1.setTop (mkF m 16 #[.val (.int xx), .val (.int (Int32.ofNat i)), .val (.int ((Int32.ofNat i).toInt8.toInt32)), .unset] [(.int (own_tab i))]))
  refine own_go (fun t_ k_ => XS.istoreN X1.here hx rfl (hb hby at_16) rfl (l' := #[.val (.int xx), .val (.int (Int32.ofNat i)), .val (.int ((Int32.ofNat i).toInt8.toInt32)), .val (.int (own_tab i))]) rfl k_) ?_
  show OwnFin p e below s _ _ _ (T1.setTop (mkF m 17 #[.val (.int xx), .val (.int (Int32.ofNat i)), .val (.int ((Int32.ofNat i).toInt8.toInt32)), .val (.int (own_tab i))] []))
  refine own_go (fun t_ k_ => XS.iloadN X1.here hx rfl (hb hby at_17) rfl k_) ?_
  show OwnFin p e below s _ _ _ (T1.setTop (mkF m 18 #[.val (.int xx), .val (.int (Int32.ofNat i)), .val (.int ((Int32.ofNat i).toInt8.toInt32)), .val (.int (own_tab i))] [(.int (own_tab i))]))
  refine own_go (fun t_ k_ => XS.iloadN X1.here hx rfl (hb hby at_18) rfl k_) ?_
  show OwnFin p e below s _ _ _ (T1.setTop (mkF m 19 #[.val (.int xx), .val (.int (Int32.ofNat i)), .val (.int ((Int32.ofNat i).toInt8.toInt32)), .val (.int (own_tab i))] [(.int (Int32.ofNat i)), (.int (own_tab i))]))
  obtain ⟨v2, T2, L2, X2, hQ2, st2⟩ := own_callS X1 hx hZ (y := (⟨"com/example/bytefold/bytefold/Ecma335CompressedUnsignedIntLengthOfEncodingPinLaw", "expected", "(I)I"⟩ : MethodName)) hown (hw _ (List.mem_of_getElem? (i := 21) rfl)) (hw _ (List.mem_of_getElem? (i := 22) rfl)) (hw _ (List.mem_of_getElem? (i := 23) rfl)) (hw _ (List.mem_of_getElem? (i := 24) rfl)) (by decide) (W := 1) (rm4 l Z a0 hw [] (Int32.ofNat i) i h0 n0 Z0 rfl h224) (by decide) (by decide) (g := (mkF m 19 #[.val (.int xx), .val (.int (Int32.ofNat i)), .val (.int ((Int32.ofNat i).toInt8.toInt32)), .val (.int (own_tab i))] [(.int (Int32.ofNat i)), (.int (own_tab i))])) rfl (by rw [hml]; rfl) (argsL := [(.int (Int32.ofNat i))]) (rest := [(.int (own_tab i))]) (lenOf pd_0_2 rfl) rfl (by show 2 * 0 + _ ≤ _; exact Nat.le_of_eq rfl) (hb hby at_19) e1 rfl (by decide) (by decide)
  obtain ⟨rfl, Nq2, e2⟩ := hQ2
  have N2 := Fr.app N1 Nq2
  refine own_go st2 ?_
  show OwnFin p e below s _ _ _ (T2.setTop (mkF m 22 #[.val (.int xx), .val (.int (Int32.ofNat i)), .val (.int ((Int32.ofNat i).toInt8.toInt32)), .val (.int (own_tab i))] [(.int (own_tab i)), (.int (own_tab i))]))
  refine own_go (fun t_ k_ => XS.icmpNo X2.here hx rfl (hb hby at_22) rfl (teq rfl).2 k_) ?_
  show OwnFin p e below s _ _ _ (T2.setTop (mkF m 25 #[.val (.int xx), .val (.int (Int32.ofNat i)), .val (.int ((Int32.ofNat i).toInt8.toInt32)), .val (.int (own_tab i))] []))
  refine own_go (fun t_ k_ => XS.iconst X2.here hx rfl (hb hby at_25) k_) ?_
  show OwnFin p e below s _ _ _ (T2.setTop (mkF m 26 #[.val (.int xx), .val (.int (Int32.ofNat i)), .val (.int ((Int32.ofNat i).toInt8.toInt32)), .val (.int (own_tab i))] [(.int (1 : Int32))]))
  refine own_go (fun t_ k_ => XS.goto X2.here hx rfl (pc0 := 26) (pc' := 30) rfl (hb hby at_26) (by decide) (by decide) k_) ?_
  show OwnFin p e below s _ _ _ (T2.setTop (mkF m 30 #[.val (.int xx), .val (.int (Int32.ofNat i)), .val (.int ((Int32.ofNat i).toInt8.toInt32)), .val (.int (own_tab i))] [(.int (1 : Int32))]))
  refine own_ret X2 (v := some (.int (1 : Int32))) hlk (fun hh => by rw [hret] at hh; cases hh) (fun fs hr => retN X2 hx (t := .boolean) hret (by simp) (hb hby at_30) hr) (by decide) (by decide) ?_
  exact ⟨rfl, N2⟩
set_option maxRecDepth 65536 in
set_option maxHeartbeats 40000000 in
theorem comes_1 {Post : Tables → Env → Array Value → State → Outcome → State → Prop} (hpost : ∀ tb e args s v u, (limb_1_1.after args s (.returned v) u = true ∧ limb_1_2.after args s (.returned v) u = true ∧ True) → FrameEnd s (.returned v) u (Jvm.fieldLocs frame_1_writes args s ++ Jvm.arrayLocs frame_1_arrays args s ++ Jvm.staticLocs frame_1_statics s) 0 0 → Post tb e args s (.returned v) u) :
    ArmFor flags0 classFile x code maxLocals ret World_1 tables_1 room_1 Calls_1 rest_1 Pre_1 Post := by
  intro l hfl _ _ p e ha hc hk s m args below hf hA hF happ hP
  obtain ⟨hcalls, hrest, hpre⟩ := hP
  obtain ⟨-, -, -, hnamed, -, -, -, hat⟩ := (Spec.applies_iff hf).mp happ
  obtain ⟨hg, hn⟩ := and_e (Cond.before_iff.mp (show (Jvm.Cond.and given_1 narrow_1).before args s = true from hpre))
  obtain ⟨g1, g2⟩ := and_e hg
  obtain ⟨w0, rfl⟩ : ∃ w0 : Value, args = #[w0] := by
    have hs : args.size = 1 := by simpa [Cond.value, given_1] using g1
    obtain ⟨L⟩ := args
    match L, hs with
    | [w0], _ => exact ⟨w0, rfl⟩
  have hw := fun d (hd : d ∈ tables_1) => atoms_spec (ws := Jvm.Cond.code x code maxLocals ret :: tables_1) hat d (List.mem_cons_of_mem _ hd)
  have hfit : Fit s := fun {y c} hc i hi => by
    obtain ⟨ha, rfl⟩ := Array.getElem?_eq_some_iff.mp hc
    have q := List.all_eq_true.mp ((Array.all_eq_true_iff_forall_mem.mp hF) _ (Array.getElem_mem ha)) i (List.mem_range.mpr hi)
    simpa [Array.getElem?_eq_getElem hi] using q
  obtain ⟨i0, ei0⟩ := is_v g2
  obtain rfl : w0 = (.int i0) := Option.some.inj ei0
  obtain ⟨n1, hn'⟩ := and_e (show narrow_1.value _ s none s [] = some true from hn)
  obtain ⟨n2, hn'⟩ := and_e hn'
  obtain ⟨n3, hn'⟩ := and_e hn'
  obtain ⟨n4, hn'⟩ := and_e hn'
  obtain ⟨n5, hn'⟩ := and_e hn'
  obtain ⟨n6, n7⟩ := and_e hn'
  obtain ⟨fo, efo⟩ := exa_v n1
  have E_fo := Exa.start efo n1
  have S_fo := Sta.start efo (Or.inr ⟨(hw _ (List.mem_of_getElem? (i := 3) rfl)), (hw _ (List.mem_of_getElem? (i := 6) rfl))⟩)
  obtain ⟨ar, ear⟩ := arr_v n2
  obtain ⟨cl, A⟩ := Arr.start ear n2
  have F_ar := Fld.start ((fld_at efo).symm.trans ear)
  have V_ar := own_tabs ear A n3 n4 n5 n6 n7
  obtain ⟨n, o, h1, h2, h3, _, L, rfl, ⟨rfl, N⟩, hq⟩ := rm0 l s _ hw tables_1 i0 fo ar s.heap s.heap.size (Nat.le_refl _) S_fo E_fo F_ar V_ar p e ha hc hk s m _ below hf ((Spec.applies_iff_loose hf).mp happ).1 ⟨rfl, State.Warmed39.refl s, rfl⟩ trivial
  refine ⟨n, _, h1, h2, h3, hpost _ _ _ _ _ _ ⟨Cond.after_iff.mpr rfl, Cond.after_iff.mpr (eq_i res_at (Term.int_eval (1)) rfl), trivial⟩ ⟨hq.1, hq.2.1, (hq.2.2.sift fun y hy => Or.inr (N y hy)).mono (by decide) (by decide)⟩⟩
theorem main_1_1 : Claimed_1_1 := comes_1 fun _ _ _ _ _ _ h hF => ⟨h.1, hF⟩
theorem main_1_2 : Claimed_1_2 := comes_1 fun _ _ _ _ _ _ h hF => ⟨h.2.1, hF⟩
end Jvm.Pilot.@@N@@
namespace Jvm.Pilot.@@N@@
open Jvm Jvm.ClassFile Sem Op Lib Jvm.Free Jvm.Stand Jvm.Pilot.@@N@@.Jvm.D
/-! MADE BY PROGRAM (witnessworld.py) out of the Statement's table words and the real class files: 11 classes; the members and pool entries that the words name. The judged class is class 1, her method 2. -/
namespace start1
open Jvm.ClassFile
def u (s : String) : CpInfo := .utf8 (stringToUtf16 s)
/-- a pool by its gaps: so many unusable entries, then the entry; so many at the end -/
def gap : Nat → List CpInfo → List CpInfo
  | 0, r => r
  | n + 1, r => .unusable :: gap n r
def poolList (es : List (Nat × CpInfo)) (last : Nat) : List CpInfo := es.foldr (fun e r => gap e.1 (e.2 :: r)) (gap last [])
def pool (es : List (Nat × CpInfo)) (last : Nat) : Array CpInfo := ⟨poolList es last⟩
def fileOf (pool : Array CpInfo) (this : Nat) (attrs : Array Attribute := #[]) (ms : Array MethodInfo := #[]) (fl : Nat := 33) (sup : Nat := 0) (ifs : Array Nat := #[]) (fds : Array FieldInfo := #[]) : ClassFile where
  minorVersion := 0
  majorVersion := 65
  constantPool := pool
  accessFlags := fl
  thisClass := this
  superClass := sup
  interfaces := ifs
  fields := fds
  methods := ms
  attributes := attrs
def plain (name : String) (sup : Option ClassId) : Class where
  name := name
  kind := .ordinary
  loader := none
  accessFlags := 33
  super := sup
  interfaces := #[]
  cf := none
  fields := #[]
  methods := #[]
  instanceTypes := #[]
  staticTypes := #[]
  resolved := #[]
  callSites := []
  init := .initialized
  statics := none
  mirror := none

def pool0 : Array CpInfo := pool [(5, u "<init>"), (0, u "()V"), (1, .class_ 10), (1, u "java/lang/Object")] 113

def k0m0 : Method := { name := "<init>", desc := "()V", sig := { parameters := [], returnType := none }, accessFlags := 1, code := none }
/-- java/lang/Object -/
def k0 : Class := { plain "java/lang/Object" none with
  accessFlags := 33
  interfaces := #[]
  cf := some (fileOf pool0 8 #[] #[{ accessFlags := 1, nameIndex := 5, descriptorIndex := 6, attributes := #[] }] 33 0 #[] #[])
  fields := #[]
  methods := #[k0m0]
  instanceTypes := #[]
  staticTypes := #[]
  resolved := Array.replicate 124 none
  statics := none }

def pool1 : Array CpInfo := pool [(2, .class_ 4), (1, u "java/lang/Object"), (0, u "<init>"), (0, u "()V"), (0, .integer 2147483647), (0, .methodref 9 10), (0, .class_ 11), (0, .nameAndType 12 13), (0, u "com/example/bytefold/bytefold/Ecma335CompressedUnsignedInt"), (0, u "lengthOfEncoding"), (0, u "(B)I"), (0, .methodref 15 16), (0, .class_ 17), (0, .nameAndType 18 19), (0, u "com/example/bytefold/bytefold/Ecma335CompressedUnsignedIntLengthOfEncodingPinLaw"), (0, u "expected"), (0, u "(I)I"), (3, u "law"), (0, u "(I)Z")] 2

def k1m0 : Method := { name := "<init>", desc := "()V", sig := { parameters := [], returnType := none }, accessFlags := 2, code := none }
def k1c1 : Code := { maxStack := 2, maxLocals := 1, code := method_2_code, exceptionTable := #[], attributes := #[] }
def k1m1 : Method := { name := "expected", desc := "(I)I", sig := { parameters := [.int], returnType := some .int }, accessFlags := 10, code := some k1c1 }
def k1c2 : Code := { maxStack := 2, maxLocals := 4, code := code, exceptionTable := #[], attributes := #[] }
def k1m2 : Method := { name := "law", desc := "(I)Z", sig := { parameters := [.int], returnType := some .boolean }, accessFlags := 9, code := some k1c2 }
/-- com/example/bytefold/bytefold/Ecma335CompressedUnsignedIntLengthOfEncodingPinLaw -/
def k1 : Class := { plain "com/example/bytefold/bytefold/Ecma335CompressedUnsignedIntLengthOfEncodingPinLaw" (some 0) with
  accessFlags := 49
  interfaces := #[]
  cf := some (fileOf pool1 15 #[] #[{ accessFlags := 2, nameIndex := 5, descriptorIndex := 6, attributes := #[] }, { accessFlags := 10, nameIndex := 18, descriptorIndex := 19, attributes := #[] }, { accessFlags := 9, nameIndex := 23, descriptorIndex := 24, attributes := #[] }] 49 2 #[] #[])
  fields := #[]
  methods := #[k1m0, k1m1, k1m2]
  instanceTypes := #[]
  staticTypes := #[]
  resolved := Array.replicate 27 none
  statics := none }

def pool2 : Array CpInfo := pool [(2, .class_ 4), (1, u "java/lang/Object"), (0, u "<init>"), (0, u "()V"), (0, .fieldref 8 9), (0, .class_ 10), (0, .nameAndType 11 12), (0, u "com/example/bytefold/bytefold/Ecma335CompressedUnsignedInt"), (0, u "FORM"), (0, u "Lcom/example/bytefold/bytefold/LeadByteForm;"), (1, .class_ 16), (1, u "com/example/bytefold/bytefold/LeadByteForm"), (15, .methodref 14 33), (0, .nameAndType 34 35), (0, u "lengthOfEncoding"), (0, u "(II)I"), (41, u "MAX_LENGTH"), (0, u "I"), (2, u "MAX_VALUE"), (11, u "(B)I")] 7

def k2m0 : Method := { name := "<init>", desc := "()V", sig := { parameters := [], returnType := none }, accessFlags := 2, code := none }
def k2c1 : Code := { maxStack := 3, maxLocals := 1, code := prog_2_method_7_code, exceptionTable := #[], attributes := #[] }
def k2m1 : Method := { name := "lengthOfEncoding", desc := "(B)I", sig := { parameters := [.byte], returnType := some .int }, accessFlags := 9, code := some k2c1 }
/-- com/example/bytefold/bytefold/Ecma335CompressedUnsignedInt -/
def k2 : Class := { plain "com/example/bytefold/bytefold/Ecma335CompressedUnsignedInt" (some 0) with
  accessFlags := 49
  interfaces := #[]
  cf := some (fileOf pool2 8 #[] #[{ accessFlags := 2, nameIndex := 5, descriptorIndex := 6, attributes := #[] }, { accessFlags := 9, nameIndex := 34, descriptorIndex := 93, attributes := #[] }] 49 2 #[] #[{ accessFlags := 25, nameIndex := 77, descriptorIndex := 78, attributes := #[] }, { accessFlags := 25, nameIndex := 81, descriptorIndex := 78, attributes := #[] }, { accessFlags := 26, nameIndex := 11, descriptorIndex := 12, attributes := #[] }])
  fields := #[{ name := "MAX_LENGTH", type := .int, accessFlags := 25, slot := 0, constantValue := 0 }, { name := "MAX_VALUE", type := .int, accessFlags := 25, slot := 1, constantValue := 0 }, { name := "FORM", type := (.object "com/example/bytefold/bytefold/LeadByteForm"), accessFlags := 26, slot := 2, constantValue := 0 }]
  methods := #[k2m0, k2m1]
  instanceTypes := #[]
  staticTypes := #[.int, .int, (.object "com/example/bytefold/bytefold/LeadByteForm")]
  resolved := Array.replicate 101 none
  statics := some 0 }

def pool3 : Array CpInfo := pool [(2, .class_ 4), (1, u "java/lang/Object"), (3, .class_ 10), (1, u "com/example/bytefold/bytefold/LeadByteForm"), (0, u "name"), (0, u "Ljava/lang/String;"), (2, u "withArticle"), (56, .methodref 8 73), (0, .nameAndType 74 75), (0, u "lengthOf"), (0, u "(I)I"), (32, u "(II)I"), (3, u "lengthOfEncoding")] 94

def k3m0 : Method := { name := "lengthOf", desc := "(I)I", sig := { parameters := [.int], returnType := some .int }, accessFlags := 1024, code := none }
def k3c1 : Code := { maxStack := 7, maxLocals := 4, code := prog_5_method_12_code, exceptionTable := #[], attributes := #[] }
def k3m1 : Method := { name := "lengthOfEncoding", desc := "(II)I", sig := { parameters := [.int, .int], returnType := some .int }, accessFlags := 0, code := some k3c1 }
/-- com/example/bytefold/bytefold/LeadByteForm -/
def k3 : Class := { plain "com/example/bytefold/bytefold/LeadByteForm" (some 0) with
  accessFlags := 1056
  interfaces := #[]
  cf := some (fileOf pool3 8 #[] #[{ accessFlags := 1024, nameIndex := 74, descriptorIndex := 75, attributes := #[] }, { accessFlags := 0, nameIndex := 112, descriptorIndex := 108, attributes := #[] }] 1056 2 #[] #[{ accessFlags := 16, nameIndex := 11, descriptorIndex := 12, attributes := #[] }, { accessFlags := 18, nameIndex := 15, descriptorIndex := 12, attributes := #[] }])
  fields := #[{ name := "name", type := (.object "java/lang/String"), accessFlags := 16, slot := 0, constantValue := 0 }, { name := "withArticle", type := (.object "java/lang/String"), accessFlags := 18, slot := 1, constantValue := 0 }]
  methods := #[k3m0, k3m1]
  instanceTypes := #[(.object "java/lang/String"), (.object "java/lang/String")]
  staticTypes := #[]
  resolved := Array.replicate 207 none
  statics := none }

def pool4 : Array CpInfo := pool [(2, .class_ 4), (1, u "com/example/bytefold/bytefold/LeadByteForm"), (2, .fieldref 8 9), (0, .class_ 10), (0, .nameAndType 11 12), (0, u "com/example/bytefold/bytefold/LengthPrefixForm"), (0, u "lengthOfLead"), (0, u "[I"), (2, u "prefixOfLead"), (3, u "[Lcom/example/bytefold/bytefold/LengthPrefixForm$Tier;"), (4, u "tiers"), (1, .class_ 28), (1, u "com/example/bytefold/bytefold/LengthPrefixForm$Tier"), (53, u "lengthOf"), (0, u "(I)I")] 8

def k4c0 : Code := { maxStack := 2, maxLocals := 2, code := prog_10_method_5_code, exceptionTable := #[], attributes := #[] }
def k4m0 : Method := { name := "lengthOf", desc := "(I)I", sig := { parameters := [.int], returnType := some .int }, accessFlags := 0, code := some k4c0 }
/-- com/example/bytefold/bytefold/LengthPrefixForm -/
def k4 : Class := { plain "com/example/bytefold/bytefold/LengthPrefixForm" (some 3) with
  accessFlags := 48
  interfaces := #[]
  cf := some (fileOf pool4 8 #[.nestMembers #[26]] #[{ accessFlags := 0, nameIndex := 82, descriptorIndex := 83, attributes := #[] }] 48 2 #[] #[{ accessFlags := 18, nameIndex := 24, descriptorIndex := 19, attributes := #[] }, { accessFlags := 18, nameIndex := 11, descriptorIndex := 12, attributes := #[] }, { accessFlags := 18, nameIndex := 15, descriptorIndex := 12, attributes := #[] }])
  fields := #[{ name := "tiers", type := (.array (.object "com/example/bytefold/bytefold/LengthPrefixForm$Tier")), accessFlags := 18, slot := 2, constantValue := 0 }, { name := "lengthOfLead", type := (.array .int), accessFlags := 18, slot := 3, constantValue := 0 }, { name := "prefixOfLead", type := (.array .int), accessFlags := 18, slot := 4, constantValue := 0 }]
  methods := #[k4m0]
  instanceTypes := #[(.object "java/lang/String"), (.object "java/lang/String"), (.array (.object "com/example/bytefold/bytefold/LengthPrefixForm$Tier")), (.array .int), (.array .int)]
  staticTypes := #[]
  resolved := Array.replicate 92 none
  statics := none }

def pool5 : Array CpInfo := pool [(1, u "java/lang/Cloneable"), (0, .class_ 1), (0, u "java/lang/Object"), (0, .class_ 3)] 3

/-- java/lang/Cloneable -/
def k5 : Class := { plain "java/lang/Cloneable" (some 0) with
  accessFlags := 1537
  interfaces := #[]
  cf := some (fileOf pool5 2 #[] #[] 1537 4 #[] #[])
  fields := #[]
  methods := #[]
  instanceTypes := #[]
  staticTypes := #[]
  resolved := Array.replicate 8 none
  statics := none }

def pool6 : Array CpInfo := pool [(1, u "java/io/Serializable"), (0, .class_ 1), (0, u "java/lang/Object"), (0, .class_ 3)] 3

/-- java/io/Serializable -/
def k6 : Class := { plain "java/io/Serializable" (some 0) with
  accessFlags := 1537
  interfaces := #[]
  cf := some (fileOf pool6 2 #[] #[] 1537 4 #[] #[])
  fields := #[]
  methods := #[]
  instanceTypes := #[]
  staticTypes := #[]
  resolved := Array.replicate 8 none
  statics := none }

/-- the primitive byte -/
def k7 : Class := { plain "byte" none with kind := .primitive 'B', accessFlags := 0x411 }
/-- [B -/
def k8 : Class := { plain "[B" (some 0) with kind := .array 7 .byte, interfaces := #[5, 6], accessFlags := 1041 }

/-- the primitive int -/
def k9 : Class := { plain "int" none with kind := .primitive 'I', accessFlags := 0x411 }
/-- [I -/
def k10 : Class := { plain "[I" (some 0) with kind := .array 9 .int, interfaces := #[5, 6], accessFlags := 1041 }

def heap : Heap := #[{ cls := 2, slots := #[.int 0, .int 0, .ref 1], vm := .statics 2 },
  { cls := 4, slots := #[.null, .null, .null, .ref 2, .null], vm := .none },
  { cls := 10, slots := #[.int 1, .int 1, .int 1, .int 1, .int 1, .int 1, .int 1, .int 1, .int 1, .int 1, .int 1, .int 1, .int 1, .int 1, .int 1, .int 1, .int 1, .int 1, .int 1, .int 1, .int 1, .int 1, .int 1, .int 1, .int 1, .int 1, .int 1, .int 1, .int 1, .int 1, .int 1, .int 1, .int 1, .int 1, .int 1, .int 1, .int 1, .int 1, .int 1, .int 1, .int 1, .int 1, .int 1, .int 1, .int 1, .int 1, .int 1, .int 1, .int 1, .int 1, .int 1, .int 1, .int 1, .int 1, .int 1, .int 1, .int 1, .int 1, .int 1, .int 1, .int 1, .int 1, .int 1, .int 1, .int 1, .int 1, .int 1, .int 1, .int 1, .int 1, .int 1, .int 1, .int 1, .int 1, .int 1, .int 1, .int 1, .int 1, .int 1, .int 1, .int 1, .int 1, .int 1, .int 1, .int 1, .int 1, .int 1, .int 1, .int 1, .int 1, .int 1, .int 1, .int 1, .int 1, .int 1, .int 1, .int 1, .int 1, .int 1, .int 1, .int 1, .int 1, .int 1, .int 1, .int 1, .int 1, .int 1, .int 1, .int 1, .int 1, .int 1, .int 1, .int 1, .int 1, .int 1, .int 1, .int 1, .int 1, .int 1, .int 1, .int 1, .int 1, .int 1, .int 1, .int 1, .int 1, .int 1, .int 1, .int 2, .int 2, .int 2, .int 2, .int 2, .int 2, .int 2, .int 2, .int 2, .int 2, .int 2, .int 2, .int 2, .int 2, .int 2, .int 2, .int 2, .int 2, .int 2, .int 2, .int 2, .int 2, .int 2, .int 2, .int 2, .int 2, .int 2, .int 2, .int 2, .int 2, .int 2, .int 2, .int 2, .int 2, .int 2, .int 2, .int 2, .int 2, .int 2, .int 2, .int 2, .int 2, .int 2, .int 2, .int 2, .int 2, .int 2, .int 2, .int 2, .int 2, .int 2, .int 2, .int 2, .int 2, .int 2, .int 2, .int 2, .int 2, .int 2, .int 2, .int 2, .int 2, .int 2, .int 2, .int 4, .int 4, .int 4, .int 4, .int 4, .int 4, .int 4, .int 4, .int 4, .int 4, .int 4, .int 4, .int 4, .int 4, .int 4, .int 4, .int 4, .int 4, .int 4, .int 4, .int 4, .int 4, .int 4, .int 4, .int 4, .int 4, .int 4, .int 4, .int 4, .int 4, .int 4, .int 4, .int 0, .int 0, .int 0, .int 0, .int 0, .int 0, .int 0, .int 0, .int 0, .int 0, .int 0, .int 0, .int 0, .int 0, .int 0, .int 0, .int 0, .int 0, .int 0, .int 0, .int 0, .int 0, .int 0, .int 0, .int 0, .int 0, .int 0, .int 0, .int 0, .int 0, .int 0, .int 0], vm := .none }]
def classes : Array Class := #[k0, k1, k2, k3, k4, k5, k6, k7, k8, k9, k10]
def interned : List (Array UInt16 × Addr) := []
def slotsUsed : Nat := 264
def theMethod : MethodId := ⟨1, 2⟩
def args0 : Array Value := #[.int 5]
def aboutOver (below : List Frame) : State where
  vm := { classes := classes, interned := interned.toArray }
  heap := heap
  slotsUsed := slotsUsed
  threads := #[{ frames := .invoking theMethod args0 :: below }]
def below0 : List Frame := [.native { method := ⟨0, 0⟩, args := #[] }]
def about1 : State := aboutOver below0
def p0 : Program := .bare "" "" ""
def e0 : Env := launch0.env 0 0 0
theorem w_frames : about1.frames = Frame.invoking theMethod args0 :: below0 := rfl
set_option maxRecDepth 65536 in
theorem w_args : argsFit about1.vm theMethod args0 = true := by decide +kernel
set_option maxRecDepth 65536 in
theorem w_heap : heapFits about1 = true := by decide +kernel
set_option maxRecDepth 65536 in
theorem w_runnable : about1.curStatus? = some .runnable := by decide +kernel
set_option maxRecDepth 65536 in
theorem w_alone : about1.alone = true := by decide +kernel
set_option maxRecDepth 65536 in
theorem w_named : about1.methodNamed? x = some theMethod := by decide +kernel
set_option maxRecDepth 65536 in
theorem w_hears : about1.hears theMethod below0 = true := by decide +kernel
set_option maxRecDepth 65536 in
theorem w_ripe : about1.ripe theMethod args0 below0 = true := by decide +kernel
theorem w_running : about1.status = .running := rfl
set_option maxRecDepth 65536 in
theorem w_room : about1.hasRoom e0.platform room_1 = true :=
  launch0.hasRoom_least _ room_1 (by decide +kernel) (by decide +kernel) (by decide +kernel) (by decide +kernel) (by decide +kernel) (by decide +kernel)
theorem allAtoms_all (ts : List Jvm.Cond) (a : Array Jvm.Value) (st : Jvm.State) : (allAtoms ts).before a st = ts.all (fun c => c.before a st) := by
  induction ts with
  | nil => rfl
  | cons c t ih =>
    show (Jvm.Cond.and c (allAtoms t)).before a st = _
    rw [Jvm.Cond.before_and, ih, List.all_cons]
def words1 : List Jvm.Cond := Jvm.Cond.code x code maxLocals ret :: tables_1
/-- a 'code' word, met by the world's own term for the bytes: nothing is compared byte by byte -/
theorem code_word {y : MethodName} {bytes : ByteArray} {mx : Nat} {rt : Option FieldType} {a : Array Value} {s : State} {m : MethodId} {meth : Method} {c : Code} (h1 : s.methodNamed? y = some m) (h2 : s.vm.method? m = some meth) (h3 : meth.code = some c) (h4 : c.code = bytes)
    (h5 : (c.maxLocals == mx && c.exceptionTable.isEmpty && decide (c.maxStack ≤ mostOperands) && decide (meth.sig.returnType = rt) && !meth.locks && decide (parseMethodDescriptor y.desc = some meth.sig)) = true) : (Jvm.Cond.code y bytes mx rt).before a s = true := by
  simp only [Bool.and_eq_true, beq_iff_eq, Bool.not_eq_true', decide_eq_true_eq] at h5
  obtain ⟨⟨⟨⟨⟨g1, g2⟩, g3⟩, g4⟩, g5⟩, g6⟩ := h5
  simp [Cond.before, Cond.holds, Cond.value, h1, h2, h3, h4, g1, g2, g3, g4, g5, g6]
def isCode : Jvm.Cond → Bool
  | .code _ _ _ _ => true
  | _ => false
theorem all_split {L : List Jvm.Cond} {P : Jvm.Cond → Bool} (h1 : L.all (fun c => isCode c || P c) = true) (h2 : ∀ c ∈ L.filter isCode, P c = true) : L.all P = true := by
  refine List.all_eq_true.mpr fun c hc => ?_
  have h := List.all_eq_true.mp h1 c hc
  rcases Bool.eq_false_or_eq_true (isCode c) with hi | hi
  · exact h2 c (List.mem_filter.mpr ⟨hc, hi⟩)
  · simpa [hi] using h
set_option maxRecDepth 65536 in
theorem w_c0 : (Jvm.Cond.code x code maxLocals ret).before args0 about1 = true := code_word (m := ⟨1, 2⟩) (meth := k1m2) (c := k1c2) (by decide +kernel) rfl rfl rfl (by decide +kernel)
set_option maxRecDepth 65536 in
theorem w_c1 : (Jvm.Cond.code ({ cls := "com/example/bytefold/bytefold/Ecma335CompressedUnsignedInt", name := "lengthOfEncoding", desc := "(B)I" } : Jvm.MethodName) prog_2_method_7_code (1 : Nat) (Option.some Jvm.ClassFile.FieldType.int)).before args0 about1 = true := code_word (m := ⟨2, 1⟩) (meth := k2m1) (c := k2c1) (by decide +kernel) rfl rfl rfl (by decide +kernel)
set_option maxRecDepth 65536 in
theorem w_c2 : (Jvm.Cond.code ({ cls := "com/example/bytefold/bytefold/LeadByteForm", name := "lengthOfEncoding", desc := "(II)I" } : Jvm.MethodName) prog_5_method_12_code (4 : Nat) (Option.some Jvm.ClassFile.FieldType.int)).before args0 about1 = true := code_word (m := ⟨3, 1⟩) (meth := k3m1) (c := k3c1) (by decide +kernel) rfl rfl rfl (by decide +kernel)
set_option maxRecDepth 65536 in
theorem w_c3 : (Jvm.Cond.code ({ cls := "com/example/bytefold/bytefold/LengthPrefixForm", name := "lengthOf", desc := "(I)I" } : Jvm.MethodName) prog_10_method_5_code (2 : Nat) (Option.some Jvm.ClassFile.FieldType.int)).before args0 about1 = true := code_word (m := ⟨4, 0⟩) (meth := k4m0) (c := k4c0) (by decide +kernel) rfl rfl rfl (by decide +kernel)
set_option maxRecDepth 65536 in
theorem w_c4 : (Jvm.Cond.code ({ cls := "com/example/bytefold/bytefold/Ecma335CompressedUnsignedIntLengthOfEncodingPinLaw", name := "expected", desc := "(I)I" } : Jvm.MethodName) method_2_code (1 : Nat) (Option.some Jvm.ClassFile.FieldType.int)).before args0 about1 = true := code_word (m := ⟨1, 1⟩) (meth := k1m1) (c := k1c1) (by decide +kernel) rfl rfl rfl (by decide +kernel)
def codes1 : List Jvm.Cond := [Jvm.Cond.code x code maxLocals ret, Jvm.Cond.code ({ cls := "com/example/bytefold/bytefold/Ecma335CompressedUnsignedInt", name := "lengthOfEncoding", desc := "(B)I" } : Jvm.MethodName) prog_2_method_7_code (1 : Nat) (Option.some Jvm.ClassFile.FieldType.int), Jvm.Cond.code ({ cls := "com/example/bytefold/bytefold/LeadByteForm", name := "lengthOfEncoding", desc := "(II)I" } : Jvm.MethodName) prog_5_method_12_code (4 : Nat) (Option.some Jvm.ClassFile.FieldType.int), Jvm.Cond.code ({ cls := "com/example/bytefold/bytefold/LengthPrefixForm", name := "lengthOf", desc := "(I)I" } : Jvm.MethodName) prog_10_method_5_code (2 : Nat) (Option.some Jvm.ClassFile.FieldType.int), Jvm.Cond.code ({ cls := "com/example/bytefold/bytefold/Ecma335CompressedUnsignedIntLengthOfEncodingPinLaw", name := "expected", desc := "(I)I" } : Jvm.MethodName) method_2_code (1 : Nat) (Option.some Jvm.ClassFile.FieldType.int)]
set_option maxRecDepth 65536 in
theorem codes_eq : words1.filter isCode = codes1 := rfl
theorem w_codes : ∀ c ∈ words1.filter isCode, c.before args0 about1 = true := by
  rw [codes_eq]
  intro c hc
  simp only [codes1, List.mem_cons, List.not_mem_nil, or_false] at hc
  rcases hc with rfl | rfl | rfl | rfl | rfl
  · exact w_c0
  · exact w_c1
  · exact w_c2
  · exact w_c3
  · exact w_c4
set_option maxRecDepth 65536 in
theorem w_t1 : (words1.take 24).all (fun c => isCode c || c.before args0 about1) = true := by decide +kernel
set_option maxRecDepth 65536 in
theorem w_t2 : (words1.drop 24).all (fun c => isCode c || c.before args0 about1) = true := by decide +kernel
theorem w_tables : (allAtoms (Jvm.Cond.code x code maxLocals ret :: tables_1)).before args0 about1 = true := by
  rw [allAtoms_all]
  show words1.all (fun c => c.before args0 about1) = true
  refine all_split ?_ w_codes
  rw [← List.take_append_drop 24 words1, List.all_append, w_t1, w_t2]
  rfl
set_option maxRecDepth 65536 in
theorem w_case : (Jvm.Cond.and given_1 narrow_1).before args0 about1 = true := by decide +kernel
theorem w_applies : (headSpec (Jvm.Cond.code x code maxLocals ret :: tables_1) room_1).applies x e0.platform about1 = true :=
  (Spec.applies_iff w_frames).mpr ⟨w_running, w_runnable, w_alone, w_named, w_hears, w_ripe, w_room, w_tables⟩
theorem atStart : AtStart classFile x code maxLocals ret World_1 tables_1 room_1 Calls_1 rest_1 Pre_1 launch0 p0 e0 about1 theMethod args0 below0 :=
  ⟨lists_1, trivial, launch0.admits_env _ _ _, launch0.least_env, fairChoices_fair.cas, fairChoices_fair.clock, w_frames, w_args, w_heap, w_applies, trivial, trivial, w_case⟩
end start1
theorem witness_1 : WitnessClaimed_1 := ⟨start1.p0, start1.e0, start1.about1, start1.theMethod, start1.args0, start1.below0, start1.atStart⟩
end Jvm.Pilot.@@N@@
