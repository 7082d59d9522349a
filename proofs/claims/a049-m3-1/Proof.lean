import JvmDerived
import JvmDerived.Pilot.@@N@@Statement
import JvmDerived.Pilot.@@N@@Code
set_option linter.unusedVariables false
set_option linter.unusedSimpArgs false
@@BLOCK:NumsL.lean.txt@@
namespace Jvm.Pilot.@@N@@
open Jvm Jvm.ClassFile Sem Op Lib Jvm.Free Jvm.Stand Jvm.LawKit Jvm.RoadKit Bundle Jvm.Pilot.@@N@@.Jvm.D
section Own
variable {p : Program} {l : Launch} {e : Env} {R : Room} {s : State} {m : MethodId} {args : Array Value} {below : List Frame} {meth : Method} {c : Code} {T : State} {locs : List Loc} {cells slots : Nat} {Z : State} {a0 : Array Value} {h : Heap}
/-- from the state A the run comes to the method's end, and Q says what it leaves -/
def OwnFin (p : Program) (e : Env) (below : List Frame) (s : State) (Q : Option Value → Heap → List Loc → Prop) (C S : Nat) (A : State) : Prop :=
  ∃ s₂ o, Steps p.tables e below A s₂ ∧ s₂.status = .running ∧ Ended s₂ below o ∧ ∃ v L, o = .returned v ∧ Q v s₂.heap L ∧ FrameEnd s o s₂ L C S
variable {Q : Option Value → Heap → List Loc → Prop} {C S : Nat}
theorem own_go {A B : State} (h : ∀ t, Steps p.tables e below B t → Steps p.tables e below A t) (k : OwnFin p e below s Q C S B) : OwnFin p e below s Q C S A := by
  obtain ⟨s₂, o, h1, r⟩ := k
  exact ⟨s₂, o, h _ h1, r⟩
theorem own_ret (X : Stand p l e R s m args below meth c T locs cells slots) {v : Option Value} (hlk : meth.locks = false) (hv : meth.sig.returnType = none → v = none) {g : JFrame}
    (hstep : ∀ fs, (∀ (f : JFrame) (acts : List Action), f.method = m → f.locked = none → f.entered = [] → (doReturn e (T.setTop f) acts v).1 = T.setFrames fs) → Steps p.tables e below (T.setTop g) (T.setFrames fs))
    (hc : cells ≤ C) (hs : slots ≤ S) (hQ : Q v T.heap locs) : OwnFin p e below s Q C S (T.setTop g) := by
  obtain ⟨fs, hr, hrun, hended, hW, hsame⟩ := X.leave hv hlk
  exact ⟨_, _, hstep fs hr, hrun, hended, _, _, rfl, hQ, ⟨_, rfl⟩, hW, hsame.mono hc hs⟩
/-- a method's contract, in the form that backOf takes -/
abbrev OwnCtr (l : Launch) (Z : State) (y : MethodName) (ws : List Jvm.Cond) (bytes : ByteArray) (maxL : Nat) (ret : Option FieldType) (rm : Room) (as' : Array Value) (h0 : Heap) (Q : Option Value → Heap → List Loc → Prop) : Prop :=
  MetFree l y (head1 (Jvm.Cond.code y bytes maxL ret :: ws) rm) (fun a U => a = as' ∧ Z.Warmed39 U.vm ∧ U.heap = h0) (fun _ _ _ _ _ => True) (fun _ U o U' => ∃ v L, o = .returned v ∧ Q v U'.heap L ∧ FrameEnd U o U' L rm.cells rm.slots)
theorem own_body {l : Launch} {Z : State} {y : MethodName} {ws : List Jvm.Cond} {bytes : ByteArray} {maxL : Nat} {ret : Option FieldType} {rm : Room} {as' : Array Value} {h0 : Heap} {g0 : MethodId → JFrame}
    (hpl : plainFor y = true) (hef : ∀ m, entryFrame m as' maxL = g0 m)
    (body : ∀ (p : Program) (e : Env) (s : State) (m : MethodId) (below : List Frame) (meth : Method) (c : Code) (s₁ : State), Stand p l e rm s m as' below meth c s₁ [] 0 0 → p.tables.exec = Jvm.exec → c.code = bytes → c.maxLocals = maxL →
      s.vm.findClass y.cls = some m.cls → meth.name = y.name → Z.Warmed39 s.vm → s₁.heap = h0 → meth.sig.returnType = ret → meth.locks = false → OwnFin p e below s Q rm.cells rm.slots (s₁.setTop (g0 m))) :
    OwnCtr l Z y ws bytes maxL ret rm as' h0 Q := by
  refine MetFree.of_bodySF hpl hisR ?_
  intro p e s m args below meth c s₁ Bd hml0 hP hK
  obtain ⟨rfl, hZ, hh⟩ := hP
  have e0 : s₁.heap = h0 := by rw [← hh, Bd.state]; rfl
  have k := body p e s m below meth c s₁ (Stand.of_body Bd) Bd.exec Bd.bytes hml0 (findClass_of_methodNamed Bd.named) (name_of_methodNamed Bd.named Bd.method).1 hZ e0 Bd.returns Bd.notSynchronized
  rw [← hef m] at k
  exact k
/-- a static call by its contract -/
theorem own_callS (X : Stand p l e R s m args below meth c T locs cells slots) (hx : p.tables.exec = Jvm.exec) (hZ : Z.Warmed39 s.vm) {own : String} {index : Nat} {y : MethodName} {bytes : ByteArray} {maxL : Nat} {ret : Option FieldType} {rm : Room} {as' : Array Value} {Q : Option Value → Heap → List Loc → Prop}
    (hown : s.vm.findClass own = some m.cls) (hlink : (Cond.methodLink own index y).before a0 Z = true) (hstat : (Cond.static y).before a0 Z = true) (hinit : (Cond.initialized y.cls).before a0 Z = true) (hcode : (Cond.code y bytes maxL ret).before a0 Z = true)
    (hy : y.cls ≠ "java/lang/invoke/MethodHandle" ∧ y.cls ≠ "java/lang/invoke/VarHandle") {W : Nat} (hM : OwnCtr l Z y [] bytes maxL ret rm as' h Q) (hf : rm.frames + 1 ≤ R.frames) (hl : W + (maxL + 11) + rm.locals ≤ R.locals)
    {g : JFrame} (hg : g.method = m) (hsize : g.locals.size = c.maxLocals) {argsL rest : List Value} (hlen : ∀ sig, parseMethodDescriptor y.desc = some sig → argsL.length = sig.parameters.length)
    (hstack : g.stack = argsL.reverse ++ rest) (hW : 2 * g.monitorRoom + (rest.map fun v => v.category).sum ≤ W) (hdg : decode c.code g.pc = .ok (.invokestatic index, 3)) (eT : T.heap = h) (ha : argsL.toArray = as') (hc : cells + rm.cells ≤ R.cells) (hs : slots + rm.slots ≤ R.slots) :
    ∃ (v : Option Value) (T' : State) (L : List Loc), Stand p l e R s m args below meth c T' (locs ++ L) (cells + rm.cells) (slots + rm.slots) ∧ Q v T'.heap L ∧ ∀ target, Steps p.tables e below (T'.setTop { g with pc := g.pc + 3, stack := v.toList ++ rest }) target → Steps p.tables e below (T.setTop g) target := by
  obtain ⟨v, _, ⟨T', L', k, n⟩, -, X', ⟨L, hQ, l1, y1, z1⟩, st⟩ := Jvm.LawKit.callS X hx (y := y) hown (mvT hZ hlink) (mvT hZ hstat) (mvT hZ hinit) (mvT hZ hcode) hy (backOf (W := W) hM hZ hcode hinit hf hl) hg hsize hlen hstack hW hdg (fun _ _ => ⟨ha, eT, hc, hs⟩)
  dsimp only [Pt.U, Pt.locs, Pt.cells, Pt.slots] at X' l1 y1 z1 st hQ
  subst l1 y1 z1
  exact ⟨v, T', L, X', hQ, st⟩
/-- a constructor by its contract -/
theorem own_callI (X : Stand p l e R s m args below meth c T locs cells slots) (hx : p.tables.exec = Jvm.exec) (hZ : Z.Warmed39 s.vm) {own : String} {index : Nat} {y : MethodName} {bytes : ByteArray} {maxL : Nat} {rm : Room} {as' : Array Value} {Q : Option Value → Heap → List Loc → Prop}
    (hy1 : y.name = "<init>") (hown : s.vm.findClass own = some m.cls) (hlink : (Cond.methodLink own index y).before a0 Z = true) (hinst : (Cond.instanceMethod y).before a0 Z = true) (hinit : (Cond.initialized y.cls).before a0 Z = true) (hcode : (Cond.code y bytes maxL none).before a0 Z = true)
    (hy : y.cls ≠ "java/lang/invoke/MethodHandle" ∧ y.cls ≠ "java/lang/invoke/VarHandle") {W : Nat} (hM : OwnCtr l Z y [] bytes maxL none rm as' h Q) (hf : rm.frames + 1 ≤ R.frames) (hl : W + (maxL + 11) + rm.locals ≤ R.locals)
    {g : JFrame} (hg : g.method = m) (hsize : g.locals.size = c.maxLocals) {a : Addr} {argsL rest : List Value} (hlen : ∀ sig, parseMethodDescriptor y.desc = some sig → argsL.length = sig.parameters.length)
    (hstack : g.stack = argsL.reverse ++ .ref a :: rest) (hW : 2 * g.monitorRoom + (rest.map fun v => v.category).sum ≤ W) (hdg : decode c.code g.pc = .ok (.invokespecial index, 3)) (eT : T.heap = h) (ha : (.ref a :: argsL).toArray = as') (hc : cells + rm.cells ≤ R.cells) (hs : slots + rm.slots ≤ R.slots) :
    ∃ (v : Option Value) (T' : State) (L : List Loc), Stand p l e R s m args below meth c T' (locs ++ L) (cells + rm.cells) (slots + rm.slots) ∧ Q v T'.heap L ∧ ∀ target, Steps p.tables e below (T'.setTop { g with pc := g.pc + 3, stack := v.toList ++ rest }) target → Steps p.tables e below (T.setTop g) target := by
  obtain ⟨v, _, ⟨T', L', k, n⟩, -, X', ⟨L, hQ, l1, y1, z1⟩, st⟩ := X.specialBack hx (y := y) hy1 hown (mvT hZ hlink) (mvT hZ hinst) (mvT hZ hcode) hy (backOf (W := W) hM hZ hcode hinit hf hl) hg hsize (Steps.refl _) hlen hstack hW hdg (fun _ _ => ⟨ha, eT, hc, hs⟩)
  dsimp only [Pt.U, Pt.locs, Pt.cells, Pt.slots] at X' l1 y1 z1 st hQ
  subst l1 y1 z1
  exact ⟨v, T', L, X', hQ, fun t k => st.trans k⟩
/-- an instance method by its contract -/
theorem own_callV (X : Stand p l e R s m args below meth c T locs cells slots) (hx : p.tables.exec = Jvm.exec) (hZ : Z.Warmed39 s.vm) {own K : String} {index : Nat} {y z : MethodName} {bytes : ByteArray} {maxL : Nat} {ret : Option FieldType} {rm : Room} {as' : Array Value} {Q : Option Value → Heap → List Loc → Prop}
    (hown : s.vm.findClass own = some m.cls) (hlink : (Cond.methodLink own index y).before a0 Z = true) (hdecl : (Cond.declares y).before a0 Z = true) (hnf : NotFace s y) (hsel : (Cond.selects K y z).before a0 Z = true) (hinst : (Cond.instanceMethod z).before a0 Z = true) (hinit : (Cond.initialized z.cls).before a0 Z = true) (hcode : (Cond.code z bytes maxL ret).before a0 Z = true)
    (hy : y.cls ≠ "java/lang/invoke/MethodHandle" ∧ y.cls ≠ "java/lang/invoke/VarHandle") {W : Nat} (hM : OwnCtr l Z z [] bytes maxL ret rm as' h Q) (hf : rm.frames + 1 ≤ R.frames) (hl : W + (maxL + 11) + rm.locals ≤ R.locals)
    {b : Addr} (E : Exa Z h b K) {g : JFrame} (hg : g.method = m) (hsize : g.locals.size = c.maxLocals) {argsL rest : List Value} (hlen : ∀ sig, parseMethodDescriptor y.desc = some sig → argsL.length = sig.parameters.length)
    (hstack : g.stack = argsL.reverse ++ .ref b :: rest) (hW : 2 * g.monitorRoom + (rest.map fun v => v.category).sum ≤ W) (hdg : decode c.code g.pc = .ok (.invokevirtual index, 3)) (eT : T.heap = h) (ha : (.ref b :: argsL).toArray = as') (hc : cells + rm.cells ≤ R.cells) (hs : slots + rm.slots ≤ R.slots) :
    ∃ (v : Option Value) (T' : State) (L : List Loc), Stand p l e R s m args below meth c T' (locs ++ L) (cells + rm.cells) (slots + rm.slots) ∧ Q v T'.heap L ∧ ∀ target, Steps p.tables e below (T'.setTop { g with pc := g.pc + 3, stack := v.toList ++ rest }) target → Steps p.tables e below (T.setTop g) target := by
  obtain ⟨cq, kq, qa, qb, qc⟩ := isOf hZ eT E
  obtain ⟨v, _, ⟨T', L', k, n⟩, -, X', ⟨L, hQ, l1, y1, z1⟩, st⟩ := X.virtualBack hx (y := y) (z := z) hown (mvT hZ hlink) (mvT hZ hdecl) hnf (mvT hZ hsel) (mvT hZ hinst) hy (backOf (W := W) hM hZ hcode hinit hf hl) qa qc hg hsize (Steps.refl _) hlen hstack hW hdg (fun _ _ => ⟨ha, eT, hc, hs⟩)
  dsimp only [Pt.U, Pt.locs, Pt.cells, Pt.slots] at X' l1 y1 z1 st hQ
  subst l1 y1 z1
  exact ⟨v, T', L, X', hQ, fun t k => st.trans k⟩
/-- a private instance method, called by invokevirtual, by its contract -/
theorem own_callP (X : Stand p l e R s m args below meth c T locs cells slots) (hx : p.tables.exec = Jvm.exec) (hZ : Z.Warmed39 s.vm) {own : String} {index : Nat} {y : MethodName} {bytes : ByteArray} {maxL : Nat} {ret : Option FieldType} {rm : Room} {as' : Array Value} {Q : Option Value → Heap → List Loc → Prop}
    (hown : s.vm.findClass own = some m.cls) (hlink : (Cond.methodLink own index y).before a0 Z = true) (hinst : (Cond.instanceMethod y).before a0 Z = true) (hsel : (Cond.selects y.cls y y).before a0 Z = true) (hpriv : (Cond.privateMethod y).before a0 Z = true) (hinit : (Cond.initialized y.cls).before a0 Z = true) (hcode : (Cond.code y bytes maxL ret).before a0 Z = true)
    (hy : y.cls ≠ "java/lang/invoke/MethodHandle" ∧ y.cls ≠ "java/lang/invoke/VarHandle") {W : Nat} (hM : OwnCtr l Z y [] bytes maxL ret rm as' h Q) (hf : rm.frames + 1 ≤ R.frames) (hl : W + (maxL + 11) + rm.locals ≤ R.locals)
    {b : Addr} {K : String} (E : Exa Z h b K) {g : JFrame} (hg : g.method = m) (hsize : g.locals.size = c.maxLocals) {argsL rest : List Value} (hlen : ∀ sig, parseMethodDescriptor y.desc = some sig → argsL.length = sig.parameters.length)
    (hstack : g.stack = argsL.reverse ++ .ref b :: rest) (hW : 2 * g.monitorRoom + (rest.map fun v => v.category).sum ≤ W) (hdg : decode c.code g.pc = .ok (.invokevirtual index, 3)) (eT : T.heap = h) (ha : (.ref b :: argsL).toArray = as') (hc : cells + rm.cells ≤ R.cells) (hs : slots + rm.slots ≤ R.slots) :
    ∃ (v : Option Value) (T' : State) (L : List Loc), Stand p l e R s m args below meth c T' (locs ++ L) (cells + rm.cells) (slots + rm.slots) ∧ Q v T'.heap L ∧ ∀ target, Steps p.tables e below (T'.setTop { g with pc := g.pc + 3, stack := v.toList ++ rest }) target → Steps p.tables e below (T.setTop g) target := by
  obtain ⟨cq, q1, q2⟩ := E.cell
  obtain ⟨v, _, ⟨T', L', k, n⟩, -, X', ⟨L, hQ, l1, y1, z1⟩, st⟩ := X.privateBack hx (y := y) hown (mvT hZ hlink) (mvT hZ hinst) (mvT hZ hsel) (Cond.privateMethod_at (mvP hZ hpriv (args := #[]))) (mvT hZ hcode) hy (backOf (W := W) hM hZ hcode hinit hf hl) hg hsize (Steps.refl _) (by rw [eT]; exact q1) q2 hlen hstack hW hdg (fun _ _ => ⟨ha, eT, hc, hs⟩)
  dsimp only [Pt.U, Pt.locs, Pt.cells, Pt.slots] at X' l1 y1 z1 st hQ
  subst l1 y1 z1
  exact ⟨v, T', L, X', hQ, fun t k => st.trans k⟩
theorem own_retI (X : Stand p l e R s m args below meth c T locs cells slots) (hx : p.tables.exec = Jvm.exec) {pc : Nat} {Ls : Array Slot} {z : Int32} {rest : List Value} (hret : meth.sig.returnType = some .int) (hd : decode c.code pc = .ok (.ireturn, 1)) {fs : List Frame}
    (hl : ∀ (f : JFrame) (acts : List Action), f.method = m → f.locked = none → f.entered = [] → (doReturn e (T.setTop f) acts (some (.int z))).1 = T.setFrames fs) : Steps p.tables e below (T.setTop (mkF m pc Ls (.int z :: rest))) (T.setFrames fs) :=
  retOut X hx hret rfl (Or.inl ⟨rfl, Or.inl rfl, _, rfl⟩) hd hl
theorem own_retJ (X : Stand p l e R s m args below meth c T locs cells slots) (hx : p.tables.exec = Jvm.exec) {pc : Nat} {Ls : Array Slot} {z : Int64} {rest : List Value} (hret : meth.sig.returnType = some .long) (hd : decode c.code pc = .ok (.lreturn, 1)) {fs : List Frame}
    (hl : ∀ (f : JFrame) (acts : List Action), f.method = m → f.locked = none → f.entered = [] → (doReturn e (T.setTop f) acts (some (.long z))).1 = T.setFrames fs) : Steps p.tables e below (T.setTop (mkF m pc Ls (.long z :: rest))) (T.setFrames fs) :=
  retOut X hx hret rfl (Or.inr (Or.inl ⟨rfl, rfl, _, rfl⟩)) hd hl
theorem own_retR (X : Stand p l e R s m args below meth c T locs cells slots) (hx : p.tables.exec = Jvm.exec) {pc : Nat} {Ls : Array Slot} {w : Value} {t : FieldType} {rest : List Value} (hret : meth.sig.returnType = some t) (ht : t.isReference = true) (hw : w.isRef = true) (hd : decode c.code pc = .ok (.areturn, 1)) {fs : List Frame}
    (hl : ∀ (f : JFrame) (acts : List Action), f.method = m → f.locked = none → f.entered = [] → (doReturn e (T.setTop f) acts (some w)).1 = T.setFrames fs) : Steps p.tables e below (T.setTop (mkF m pc Ls (w :: rest))) (T.setFrames fs) :=
  retOut X hx hret (by cases t <;> simp [FieldType.isReference] at ht <;> cases w <;> simp [Value.isRef] at hw <;> rfl) (Or.inr (Or.inr (Or.inr (Or.inr ⟨rfl, ht, hw⟩)))) hd hl
theorem own_nf {K : String} {y y' : MethodName} (hsel : (Cond.selects K y' y').before args s = true) (hc : y'.cls = y.cls) : NotFace s y := fun r0 h0 => by
  obtain ⟨c2, r2, m2, q1, q2, q3, q4, kP, hkP, hkPi⟩ := Cond.selects_spec hsel
  have e1 := findClass_of_methodNamed q3
  have e2 := findClass_of_methodNamed h0
  rw [hc, e2] at e1
  have e3 := Option.some.inj e1
  exact ⟨kP, by rw [e3]; exact hkP, hkPi⟩
theorem own_stakeep {h' : Heap} {O n d : String} {v : Value} (F : Sta Z h O n d v) (K : Keep h h' []) : Sta Z h' O n d v := by
  obtain ⟨cf, i, k, f, st, cell, h1, h2, h3, h4, h5, r⟩ := F
  exact ⟨cf, i, k, f, st, cell, h1, h2, h3, h4, K.2.1 _ _ h5 nin0, r⟩
end Own

section OwnArrays
variable {p : Program} {l : Launch} {e : Env} {R : Room} {s : State} {m : MethodId} {args : Array Value} {below : List Frame} {meth : Method} {c : Code} {T : State} {locs : List Loc} {cells slots : Nat} {Z : State} {a0 : Array Value} {h h' : Heap} {a b : Addr} {ty : FieldType} {n : Nat} {f : Nat → Value}
/-- at a lies an array of n places of the kind ty, and its i-th place holds f i -/
def OwnArr (Z : State) (h : Heap) (a : Addr) (ty : FieldType) (n : Nat) (f : Nat → Value) : Prop := ∃ c : Cell, Arr Z h a c ty ∧ c.slots.size = n ∧ n < 2 ^ 31 ∧ ∀ i, i < n → c.slots[i]? = some (f i)
theorem OwnArr.lt (F : OwnArr Z h a ty n f) : a < h.size := by obtain ⟨c, A, -⟩ := F; exact A.lt
theorem OwnArr.ext (F : OwnArr Z h a ty n f) (E : Ext h h') : OwnArr Z h' a ty n f := by obtain ⟨c, A, r⟩ := F; exact ⟨c, A.ext E, r⟩
theorem OwnArr.other {sl : Nat} {v : Value} (F : OwnArr Z h b ty n f) (W : Wr h h' a sl v) (q : b ≠ a) : OwnArr Z h' b ty n f := by obtain ⟨c, A, r⟩ := F; exact ⟨c, A.other W q, r⟩
theorem OwnArr.keep {ws : List Addr} (F : OwnArr Z h a ty n f) (K : Keep h h' ws) (q : a ∉ ws) : OwnArr Z h' a ty n f := by obtain ⟨c, A, r⟩ := F; exact ⟨c, ⟨K.2.1 a c A.1 q, A.2⟩, r⟩
theorem OwnArr.congr {f' : Nat → Value} (F : OwnArr Z h a ty n f) (q : ∀ i, i < n → f i = f' i) : OwnArr Z h a ty n f' := by obtain ⟨c, A, r1, r2, r3⟩ := F; exact ⟨c, A, r1, r2, fun i hi => by rw [← q i hi]; exact r3 i hi⟩
theorem OwnArr.set {i : Nat} {v : Value} (F : OwnArr Z h a ty n f) (W : Wr h h' a i v) : OwnArr Z h' a ty n (fun k => if k = i then v else f k) := by
  obtain ⟨c, A, r1, r2, r3⟩ := F
  refine ⟨_, A.same W, by rw [sz_set]; exact r1, r2, fun k hk => ?_⟩
  show (c.slots.setIfInBounds i v)[k]? = _
  by_cases e : k = i
  · subst e; simp [r1, hk]
  · rw [Array.getElem?_setIfInBounds_ne (Ne.symm e), r3 k hk]; simp [e]
theorem own_newarr (X : Stand p l e R s m args below meth c T locs cells slots) (hx : p.tables.exec = Jvm.exec) (hZ : Z.Warmed39 s.vm) {aty : ArrayType} (w : (Cond.arrayClass (newarray.typeOf aty)).before a0 Z = true) (eT : T.heap = h) {g : JFrame} (hg : g.method = m) (hd : decode c.code g.pc = .ok (.newarray aty, 2)) {z : Int32} {rest : List Value} (hs : g.stack = .int z :: rest)
    {n cap : Nat} (hz : z = Int32.ofNat n) (hcap : n ≤ cap) (hb : cap * 8 ≤ 536870912) (hc : cells + 1 ≤ R.cells) (hl : slots + cap ≤ R.slots) :
    ∃ T' h', Stand p l e R s m args below meth c T' locs (cells + 1) (slots + cap) ∧ T'.heap = h' ∧ Ext h h' ∧ OwnArr Z h' h.size (newarray.typeOf aty) n (fun _ => defaultValue (newarray.typeOf aty)) ∧
      ∀ target, Steps p.tables e below (T'.setTop { g with pc := g.pc + 2, stack := .ref h.size :: rest }) target → Steps p.tables e below (T.setTop g) target := by
  have hn31 : n < 2 ^ 31 := by omega
  have hcl : z.toNatClampNeg = n := clamp_of hz hn31
  have hnn : ¬ z < 0 := by
    have q := toInt_of hz hn31
    rw [Int32.lt_iff_toInt_lt, q, Int32.toInt_zero]; omega
  obtain ⟨T', h', cA, X', e', E', A', st⟩ := newP X hx hZ w eT hg hd hs hnn (cap := cap) (by rw [hcl]; exact hcap) hb hc hl
  refine ⟨T', h', X', e', E', ⟨_, A', by rw [sz_new, hcl], hn31, fun i hi => ?_⟩, st⟩
  show (Array.replicate z.toNatClampNeg _)[i]? = _
  rw [hcl]; simp [hi]
theorem own_laload (X : Stand p l e R s m args below meth c T locs cells slots) (hx : p.tables.exec = Jvm.exec) (hZ : Z.Warmed39 s.vm) (eT : T.heap = h) (A : OwnArr Z h a .long n f) {j : Int32} {i : Nat} (hj : j = Int32.ofNat i) (hi : i < n) {g : JFrame} (hg : g.method = m) {rest : List Value} (hs : g.stack = .int j :: .ref a :: rest) (hd : decode c.code g.pc = .ok (.laload, 1)) :
    ∀ target, Steps p.tables e below (T.setTop { g with pc := g.pc + 1, stack := f i :: rest }) target → Steps p.tables e below (T.setTop g) target := by
  obtain ⟨cl, A, r1, r2, r3⟩ := A
  exact fun t k => X.laload hx (j := j) (v := f i) (by rw [eT]; exact A.1) (State.isArrayOf_alike hZ.alike A.2.1) A.2.2 (by rw [r1]; exact within hj hi r2) (by rw [clamp_of hj (by omega)]; exact r3 i hi) hg hs hd t k
theorem own_iaload (X : Stand p l e R s m args below meth c T locs cells slots) (hx : p.tables.exec = Jvm.exec) (hZ : Z.Warmed39 s.vm) (eT : T.heap = h) (A : OwnArr Z h a .int n f) {j : Int32} {i : Nat} (hj : j = Int32.ofNat i) (hi : i < n) {g : JFrame} (hg : g.method = m) {rest : List Value} (hs : g.stack = .int j :: .ref a :: rest) (hd : decode c.code g.pc = .ok (.iaload, 1)) :
    ∀ target, Steps p.tables e below (T.setTop { g with pc := g.pc + 1, stack := f i :: rest }) target → Steps p.tables e below (T.setTop g) target := by
  obtain ⟨cl, A, r1, r2, r3⟩ := A
  exact fun t k => X.iaload hx (j := j) (v := f i) (by rw [eT]; exact A.1) (State.isArrayOf_alike hZ.alike A.2.1) A.2.2 (by rw [r1]; exact within hj hi r2) (by rw [clamp_of hj (by omega)]; exact r3 i hi) hg hs hd t k
theorem own_zaload (X : Stand p l e R s m args below meth c T locs cells slots) (hx : p.tables.exec = Jvm.exec) (hZ : Z.Warmed39 s.vm) (eT : T.heap = h) (A : OwnArr Z h a .boolean n f) {j : Int32} {i : Nat} (hj : j = Int32.ofNat i) (hi : i < n) {g : JFrame} (hg : g.method = m) {rest : List Value} (hs : g.stack = .int j :: .ref a :: rest) (hd : decode c.code g.pc = .ok (.baload, 1)) :
    ∀ target, Steps p.tables e below (T.setTop { g with pc := g.pc + 1, stack := f i :: rest }) target → Steps p.tables e below (T.setTop g) target := by
  obtain ⟨cl, A, r1, r2, r3⟩ := A
  exact fun t k => X.baloadBooleans hx (j := j) (v := f i) (by rw [eT]; exact A.1) (State.isArrayOf_alike hZ.alike A.2.1) A.2.2 (by rw [r1]; exact within hj hi r2) (by rw [clamp_of hj (by omega)]; exact r3 i hi) hg hs hd t k
theorem own_baload (X : Stand p l e R s m args below meth c T locs cells slots) (hx : p.tables.exec = Jvm.exec) (hZ : Z.Warmed39 s.vm) (eT : T.heap = h) (A : OwnArr Z h a .byte n f) {j : Int32} {i : Nat} (hj : j = Int32.ofNat i) (hi : i < n) {g : JFrame} (hg : g.method = m) {rest : List Value} (hs : g.stack = .int j :: .ref a :: rest) (hd : decode c.code g.pc = .ok (.baload, 1)) :
    ∀ target, Steps p.tables e below (T.setTop { g with pc := g.pc + 1, stack := f i :: rest }) target → Steps p.tables e below (T.setTop g) target := by
  obtain ⟨cl, A, r1, r2, r3⟩ := A
  exact fun t k => X.baloadBytes hx (j := j) (v := f i) (by rw [eT]; exact A.1) (State.isArrayOf_alike hZ.alike A.2.1) A.2.2 (by rw [r1]; exact within hj hi r2) (by rw [clamp_of hj (by omega)]; exact r3 i hi) hg hs hd t k
theorem own_caload (X : Stand p l e R s m args below meth c T locs cells slots) (hx : p.tables.exec = Jvm.exec) (hZ : Z.Warmed39 s.vm) (eT : T.heap = h) (A : OwnArr Z h a .char n f) {j : Int32} {i : Nat} (hj : j = Int32.ofNat i) (hi : i < n) {g : JFrame} (hg : g.method = m) {rest : List Value} (hs : g.stack = .int j :: .ref a :: rest) (hd : decode c.code g.pc = .ok (.caload, 1)) :
    ∀ target, Steps p.tables e below (T.setTop { g with pc := g.pc + 1, stack := f i :: rest }) target → Steps p.tables e below (T.setTop g) target := by
  obtain ⟨cl, A, r1, r2, r3⟩ := A
  exact fun t k => X.caload hx (j := j) (v := f i) (by rw [eT]; exact A.1) (State.isArrayOf_alike hZ.alike A.2.1) A.2.2 (by rw [r1]; exact within hj hi r2) (by rw [clamp_of hj (by omega)]; exact r3 i hi) hg hs hd t k
theorem own_alength (X : Stand p l e R s m args below meth c T locs cells slots) (hx : p.tables.exec = Jvm.exec) (hZ : Z.Warmed39 s.vm) (eT : T.heap = h) (A : OwnArr Z h a ty n f) {g : JFrame} (hg : g.method = m) {rest : List Value} (hs : g.stack = .ref a :: rest) (hd : decode c.code g.pc = .ok (.arraylength, 1)) :
    ∀ target, Steps p.tables e below (T.setTop { g with pc := g.pc + 1, stack := .int (Int32.ofNat n) :: rest }) target → Steps p.tables e below (T.setTop g) target := by
  obtain ⟨cl, A, r1, r2, r3⟩ := A
  subst r1
  exact fun t k => X.arraylength hx (by rw [eT]; exact A.1) (State.isArrayOf_alike hZ.alike A.2.1) hg hs hd t k
theorem own_lastore (X : Stand p l e R s m args below meth c T locs cells slots) (hx : p.tables.exec = Jvm.exec) (hZ : Z.Warmed39 s.vm) (eT : T.heap = h) (A : OwnArr Z h a .long n f) {j : Int32} {i : Nat} {x : Int64} (hj : j = Int32.ofNat i) (hi : i < n) {g : JFrame} (hg : g.method = m) {rest : List Value} (hs : g.stack = .long x :: .int j :: .ref a :: rest) (hd : decode c.code g.pc = .ok (.lastore, 1)) :
    ∃ T' h', Stand p l e R s m args below meth c T' (locs ++ [⟨a, i⟩]) cells slots ∧ T'.heap = h' ∧ Wr h h' a i (.long x) ∧ OwnArr Z h' a .long n (fun k => if k = i then .long x else f k) ∧ ∀ target, Steps p.tables e below (T'.setTop { g with pc := g.pc + 1, stack := rest }) target → Steps p.tables e below (T.setTop g) target := by
  have A0 := A
  obtain ⟨cl, A, r1, r2, r3⟩ := A
  obtain ⟨T', h', X', e', W, st⟩ := stJ X hx hZ eT A (j := j) (x := x) (by rw [r1]; exact within hj hi r2) hg hs hd
  rw [clamp_of hj (by omega)] at X' W
  exact ⟨T', h', X', e', W, A0.set W, st⟩
theorem own_iastore (X : Stand p l e R s m args below meth c T locs cells slots) (hx : p.tables.exec = Jvm.exec) (hZ : Z.Warmed39 s.vm) (eT : T.heap = h) (A : OwnArr Z h a .int n f) {j : Int32} {i : Nat} {x : Int32} (hj : j = Int32.ofNat i) (hi : i < n) {g : JFrame} (hg : g.method = m) {rest : List Value} (hs : g.stack = .int x :: .int j :: .ref a :: rest) (hd : decode c.code g.pc = .ok (.iastore, 1)) :
    ∃ T' h', Stand p l e R s m args below meth c T' (locs ++ [⟨a, i⟩]) cells slots ∧ T'.heap = h' ∧ Wr h h' a i (.int x) ∧ OwnArr Z h' a .int n (fun k => if k = i then .int x else f k) ∧ ∀ target, Steps p.tables e below (T'.setTop { g with pc := g.pc + 1, stack := rest }) target → Steps p.tables e below (T.setTop g) target := by
  have A0 := A
  obtain ⟨cl, A, r1, r2, r3⟩ := A
  obtain ⟨T', h', X', e', W, st⟩ := stI X hx hZ eT A (j := j) (x := x) (by rw [r1]; exact within hj hi r2) hg hs hd
  rw [clamp_of hj (by omega)] at X' W
  exact ⟨T', h', X', e', W, A0.set W, st⟩
theorem own_zastore (X : Stand p l e R s m args below meth c T locs cells slots) (hx : p.tables.exec = Jvm.exec) (hZ : Z.Warmed39 s.vm) (eT : T.heap = h) (A : OwnArr Z h a .boolean n f) {j : Int32} {i : Nat} {x : Int32} (hj : j = Int32.ofNat i) (hi : i < n) {g : JFrame} (hg : g.method = m) {rest : List Value} (hs : g.stack = .int x :: .int j :: .ref a :: rest) (hd : decode c.code g.pc = .ok (.bastore, 1)) :
    ∃ T' h', Stand p l e R s m args below meth c T' (locs ++ [⟨a, i⟩]) cells slots ∧ T'.heap = h' ∧ Wr h h' a i (.int (nar .boolean x)) ∧ OwnArr Z h' a .boolean n (fun k => if k = i then .int (nar .boolean x) else f k) ∧ ∀ target, Steps p.tables e below (T'.setTop { g with pc := g.pc + 1, stack := rest }) target → Steps p.tables e below (T.setTop g) target := by
  have A0 := A
  obtain ⟨cl, A, r1, r2, r3⟩ := A
  obtain ⟨T', h', X', e', W, st⟩ := stZ X hx hZ eT A (j := j) (x := x) (by rw [r1]; exact within hj hi r2) hg hs hd
  rw [clamp_of hj (by omega)] at X' W
  exact ⟨T', h', X', e', W, A0.set W, st⟩
theorem own_bastore (X : Stand p l e R s m args below meth c T locs cells slots) (hx : p.tables.exec = Jvm.exec) (hZ : Z.Warmed39 s.vm) (eT : T.heap = h) (A : OwnArr Z h a .byte n f) {j : Int32} {i : Nat} {x : Int32} (hj : j = Int32.ofNat i) (hi : i < n) {g : JFrame} (hg : g.method = m) {rest : List Value} (hs : g.stack = .int x :: .int j :: .ref a :: rest) (hd : decode c.code g.pc = .ok (.bastore, 1)) :
    ∃ T' h', Stand p l e R s m args below meth c T' (locs ++ [⟨a, i⟩]) cells slots ∧ T'.heap = h' ∧ Wr h h' a i (.int (nar .byte x)) ∧ OwnArr Z h' a .byte n (fun k => if k = i then .int (nar .byte x) else f k) ∧ ∀ target, Steps p.tables e below (T'.setTop { g with pc := g.pc + 1, stack := rest }) target → Steps p.tables e below (T.setTop g) target := by
  have A0 := A
  obtain ⟨cl, A, r1, r2, r3⟩ := A
  obtain ⟨T', h', X', e', W, st⟩ := stB X hx hZ eT A (j := j) (x := x) (by rw [r1]; exact within hj hi r2) hg hs hd
  rw [clamp_of hj (by omega)] at X' W
  exact ⟨T', h', X', e', W, A0.set W, st⟩
theorem own_castore (X : Stand p l e R s m args below meth c T locs cells slots) (hx : p.tables.exec = Jvm.exec) (hZ : Z.Warmed39 s.vm) (eT : T.heap = h) (A : OwnArr Z h a .char n f) {j : Int32} {i : Nat} {x : Int32} (hj : j = Int32.ofNat i) (hi : i < n) {g : JFrame} (hg : g.method = m) {rest : List Value} (hs : g.stack = .int x :: .int j :: .ref a :: rest) (hd : decode c.code g.pc = .ok (.castore, 1)) :
    ∃ T' h', Stand p l e R s m args below meth c T' (locs ++ [⟨a, i⟩]) cells slots ∧ T'.heap = h' ∧ Wr h h' a i (.int (nar .char x)) ∧ OwnArr Z h' a .char n (fun k => if k = i then .int (nar .char x) else f k) ∧ ∀ target, Steps p.tables e below (T'.setTop { g with pc := g.pc + 1, stack := rest }) target → Steps p.tables e below (T.setTop g) target := by
  have A0 := A
  obtain ⟨cl, A, r1, r2, r3⟩ := A
  obtain ⟨T', h', X', e', W, st⟩ := stC X hx hZ eT A (j := j) (x := x) (by rw [r1]; exact within hj hi r2) hg hs hd
  rw [clamp_of hj (by omega)] at X' W
  exact ⟨T', h', X', e', W, A0.set W, st⟩
theorem own_arv2 {x y : Int32} (F : OwnArr Z h a .char 2 f) (h0 : f 0 = .int x) (h1 : f 1 = .int y) (q0 : fits .char (.int x) = true) (q1 : fits .char (.int y) = true) : ∃ k, Arv Z h a k .char 2 ([x, y].map Value.int) (.int 0) := by
  obtain ⟨c, A, r1, r2, r3⟩ := F
  refine ⟨c.cls, c, A, rfl, by rw [r1]; rfl, by decide, fun i hi => ?_, fun i hi => ?_⟩
  · rw [r1] at hi
    rw [r3 i hi]
    have hc : i = 0 ∨ i = 1 := by omega
    rcases hc with rfl | rfl
    · rw [h0]; rfl
    · rw [h1]; rfl
  · rw [r1] at hi
    have hc : i = 0 ∨ i = 1 := by omega
    rcases hc with rfl | rfl
    · exact q0
    · exact q1
theorem own_longs (F : OwnArr Z h a .long n f) (q : ∀ i, i < n → ∃ x : Int64, f i = .long x) : ∃ g : Nat → Int64, OwnArr Z h a .long n (fun i => .long (g i)) := by
  have q' : ∀ i, ∃ x : Int64, i < n → f i = .long x := fun i => by
    by_cases hi : i < n
    · obtain ⟨x, hx⟩ := q i hi; exact ⟨x, fun _ => hx⟩
    · exact ⟨0, fun z => absurd z hi⟩
  exact ⟨fun i => Classical.choose (q' i), F.congr fun i hi => Classical.choose_spec (q' i) hi⟩
end OwnArrays

theorem own_u64 (x : Int64) : x.toInt % 18446744073709551616 = (x.toBitVec.toNat : Int) := by
  have h : x.toInt = x.toBitVec.toInt := rfl
  have hb := x.toBitVec.isLt
  rw [h, BitVec.toInt_eq_toNat_cond]
  split <;> omega
theorem own_u32 (x : Int32) : x.toInt % 4294967296 = (x.toBitVec.toNat : Int) := by
  have h : x.toInt = x.toBitVec.toInt := rfl
  have hb := x.toBitVec.isLt
  rw [h, BitVec.toInt_eq_toNat_cond]
  split <;> omega
theorem own_lushr_nat (x : Int64) {n : UInt64} {k : Nat} (hn : n.toNat = k) (hk : k < 64) : ((x.toUInt64 >>> n).toInt64).toBitVec.toNat = x.toBitVec.toNat / 2 ^ k := by
  simp only [UInt64.toBitVec_toInt64, UInt64.toBitVec_shiftRight, Int64.toBitVec_toUInt64]
  simp [BitVec.toNat_ushiftRight, Nat.shiftRight_eq_div_pow, hn, Nat.mod_eq_of_lt hk]
theorem own_lushr (x : Int64) {n : UInt64} {k : Nat} (hn : n.toNat = k) (hk : k < 64) (h0 : 0 < k) : ((x.toUInt64 >>> n).toInt64).toInt = ((x.toBitVec.toNat / 2 ^ k : Nat) : Int) := by
  have e2 := own_lushr_nat x hn hk
  have hb := x.toBitVec.isLt
  have h2 : 2 ^ 1 ≤ 2 ^ k := Nat.pow_le_pow_right (by decide) h0
  have h3 : x.toBitVec.toNat / 2 ^ k ≤ x.toBitVec.toNat / 2 ^ 1 := Nat.div_le_div_left h2 (by decide)
  have h : ((x.toUInt64 >>> n).toInt64).toInt = ((x.toUInt64 >>> n).toInt64).toBitVec.toInt := rfl
  rw [h, BitVec.toInt_eq_toNat_cond, e2, if_pos (by omega)]

/-- a char's value -/
def own_ch (x : Int32) : Prop := 0 ≤ x.toInt ∧ x.toInt ≤ 65535
def own_two (x y : Int32) (k : Nat) : Int32 := if k = 0 then x else y
def own_four (a b c d : Int32) (k : Nat) : Int32 := if k = 0 then a else if k = 1 then b else if k = 2 then c else d
/-- the low byte and the high byte, as the JDK's putChar leaves them -/
def own_b0 (x : Int32) : Int32 := nar .byte ((x >>> ((0 : Int32) &&& 31)).toInt8.toInt32)
def own_b1 (x : Int32) : Int32 := nar .byte ((x >>> ((8 : Int32) &&& 31)).toInt8.toInt32)
/-- the byte that compress keeps -/
def own_lb (x : Int32) : Int32 := nar .byte (x.toInt8.toInt32)
def own_gc (a b : Int32) : Int32 := nar .char (((((a &&& (255 : Int32)) <<< ((0 : Int32) &&& 31)) ||| ((b &&& (255 : Int32)) <<< ((8 : Int32) &&& 31))).toUInt32.toUInt16.toUInt32.toInt32))
def own_step (c z x y : Int32) : Int32 := if ¬ c = x ∧ ¬ c = y then 0 else if c = 10 ∧ ¬ z = 0 then 0 else 1
def own_idx (c x y : Int32) : Int32 := if x = c then 0 else if y = c then 1 else -1
theorem own_c255 : (255 : Int32).toInt = 255 := by decide
theorem own_nlt {x : Int32} (h : own_ch x) : ¬ x < (0 : Int32) := by rw [Int32.lt_iff_toInt_lt, Int32.toInt_zero]; have := h.1; omega
theorem own_i2c (u : UInt16) : (u.toUInt32.toInt32).toInt = u.toNat := by
  have hu := u.toNat_lt
  have e : (u.toUInt32.toInt32).toBitVec.toNat = u.toNat := by simp
  have h : (u.toUInt32.toInt32).toInt = (u.toUInt32.toInt32).toBitVec.toInt := rfl
  rw [h, BitVec.toInt_eq_toNat_cond, e, if_pos (by omega)]
theorem own_char (x : Int32) : own_ch (nar .char x) := by
  have h := own_i2c x.toUInt32.toUInt16
  have hu := x.toUInt32.toUInt16.toNat_lt
  show 0 ≤ (x.toUInt32.toUInt16.toUInt32.toInt32).toInt ∧ (x.toUInt32.toUInt16.toUInt32.toInt32).toInt ≤ 65535
  rw [h]; omega
theorem own_u16 (x : Int32) (h : own_ch x) : (x.toUInt32.toUInt16.toUInt32.toInt32) = x := by
  apply Int32.toInt_inj.mp
  rw [own_i2c]
  have h1 := own_u32 x
  have e : x.toUInt32.toUInt16.toNat = x.toBitVec.toNat % 65536 := by
    rw [UInt32.toNat_toUInt16]; rfl
  rw [e]
  have := h.1
  have := h.2
  omega
theorem own_nc {x : Int32} (h : own_ch x) : nar .char x = x := own_u16 x h
theorem own_lb_toInt (x : Int32) : ((own_lb x).toInt - x.toInt) % 256 = 0 ∧ -128 ≤ (own_lb x).toInt ∧ (own_lb x).toInt < 128 := by
  have h1 := c_i2b x
  have h2 := c_i2b x.toInt8.toInt32
  show ((x.toInt8.toInt32.toInt8.toInt32).toInt - x.toInt) % 256 = 0 ∧ -128 ≤ (x.toInt8.toInt32.toInt8.toInt32).toInt ∧ (x.toInt8.toInt32.toInt8.toInt32).toInt < 128
  omega
theorem own_lat {c x : Int32} (hc : own_ch c) (h1 : ¬ (255 : Int32) < c) (hx : own_ch x) (h2 : ¬ (255 : Int32) < x) : (own_lb x = c.toInt8.toInt32) ↔ x = c := by
  have a := own_lb_toInt x
  have b := c_i2b c
  rw [Int32.lt_iff_toInt_lt, own_c255] at h1 h2
  have := hc.1
  have := hx.1
  constructor
  · intro h
    apply Int32.toInt_inj.mp
    rw [h] at a
    omega
  · intro h
    subst h
    apply Int32.toInt_inj.mp
    omega
theorem own_b0_toInt (x : Int32) : ((own_b0 x).toInt - x.toInt) % 256 = 0 := by
  have h0 : (x >>> ((0 : Int32) &&& 31)).toInt = x.toInt := by
    have h := c_ishr x 0 0 (by decide)
    rw [h]; simp
  have h1 := c_i2b (x >>> ((0 : Int32) &&& 31))
  have h2 := c_i2b ((x >>> ((0 : Int32) &&& 31)).toInt8.toInt32)
  show (((x >>> ((0 : Int32) &&& 31)).toInt8.toInt32.toInt8.toInt32).toInt - x.toInt) % 256 = 0
  omega
theorem own_b1_toInt (x : Int32) : ((own_b1 x).toInt - x.toInt / 256) % 256 = 0 := by
  have h0 : (x >>> ((8 : Int32) &&& 31)).toInt = x.toInt / 256 := c_ishr x 8 8 (by decide)
  have h1 := c_i2b (x >>> ((8 : Int32) &&& 31))
  have h2 := c_i2b ((x >>> ((8 : Int32) &&& 31)).toInt8.toInt32)
  show (((x >>> ((8 : Int32) &&& 31)).toInt8.toInt32.toInt8.toInt32).toInt - x.toInt / 256) % 256 = 0
  omega
/-- two bytes, put together -/
theorem own_join (a b : Int32) : (((a &&& (255 : Int32)) <<< ((0 : Int32) &&& 31)) ||| ((b &&& (255 : Int32)) <<< ((8 : Int32) &&& 31))).toInt = a.toInt % 256 + 256 * (b.toInt % 256) := by
  have ha := c_mask a 255 8 (by decide) (by decide)
  have hb := c_mask b 255 8 (by decide) (by decide)
  have e8 : ((2 ^ 8 : Nat) : Int) = 256 := by decide
  rw [e8] at ha hb
  have na : (a &&& (255 : Int32)).toBitVec.toNat < 256 := by have := own_u32 (a &&& (255 : Int32)); omega
  have nb : (b &&& (255 : Int32)).toBitVec.toNat < 256 := by have := own_u32 (b &&& (255 : Int32)); omega
  have qa := own_u32 (a &&& (255 : Int32))
  have qb := own_u32 (b &&& (255 : Int32))
  generalize (a &&& (255 : Int32)) = u at *
  generalize (b &&& (255 : Int32)) = w at *
  have e0 : (u <<< ((0 : Int32) &&& 31)).toBitVec = u.toBitVec := by
    rw [Int32.toBitVec_shiftLeft]
    have h : (((0 : Int32) &&& 31)).toBitVec.smod 32 = 0#32 := by decide
    rw [h]; simp
  have e1 : (w <<< ((8 : Int32) &&& 31)).toBitVec = w.toBitVec <<< 8 := by
    rw [Int32.toBitVec_shiftLeft]
    have h : (((8 : Int32) &&& 31)).toBitVec.smod 32 = 8#32 := by decide
    rw [h, BitVec.shiftLeft_eq']; rfl
  have en : ((u <<< ((0 : Int32) &&& 31)) ||| (w <<< ((8 : Int32) &&& 31))).toBitVec.toNat = u.toBitVec.toNat + 256 * w.toBitVec.toNat := by
    rw [Int32.toBitVec_or, e0, e1, BitVec.toNat_or, BitVec.toNat_shiftLeft, Nat.shiftLeft_eq, Nat.mod_eq_of_lt (by omega), Nat.or_comm]
    have h := Nat.shiftLeft_add_eq_or_of_lt (i := 8) (b := u.toBitVec.toNat) (by omega) w.toBitVec.toNat
    rw [Nat.shiftLeft_eq] at h
    rw [← h]; omega
  have hr := own_u32 ((u <<< ((0 : Int32) &&& 31)) ||| (w <<< ((8 : Int32) &&& 31)))
  have rg := rng32 ((u <<< ((0 : Int32) &&& 31)) ||| (w <<< ((8 : Int32) &&& 31)))
  rw [en] at hr
  omega
theorem own_gc_eq {x : Int32} (h : own_ch x) : own_gc (own_b0 x) (own_b1 x) = x := by
  have h1 := own_join (own_b0 x) (own_b1 x)
  have h2 := own_b0_toInt x
  have h3 := own_b1_toInt x
  have hj : (((own_b0 x &&& (255 : Int32)) <<< ((0 : Int32) &&& 31)) ||| ((own_b1 x &&& (255 : Int32)) <<< ((8 : Int32) &&& 31))) = x := by
    apply Int32.toInt_inj.mp
    rw [h1]
    have := h.1
    have := h.2
    omega
  show nar .char ((_ : Int32).toUInt32.toUInt16.toUInt32.toInt32) = x
  rw [hj, own_u16 x h, own_nc h]
theorem own_step0 {c z x y : Int32} (h1 : ¬ x = c) (h2 : ¬ y = c) : own_step c z x y = 0 := by
  have h1' : ¬ c = x := fun q => h1 q.symm
  have h2' : ¬ c = y := fun q => h2 q.symm
  simp [own_step, h1', h2']
theorem own_nb (P : Prop) [Decidable P] : nar .boolean (if P then (1 : Int32) else (0 : Int32)) = (if P then (1 : Int32) else (0 : Int32)) := by
  split <;> decide

theorem d1_0 : decode method_3_code 0 = .ok (.iload_n 0, 1) := by decide +kernel
theorem d1_1 : decode method_3_code 1 = .ok (.iconst 3, 1) := by decide +kernel
theorem d1_2 : decode method_3_code 2 = .ok (.iand, 1) := by decide +kernel
theorem d1_3 : decode method_3_code 3 = .ok (.istore_n 1, 1) := by decide +kernel
theorem d1_4 : decode method_3_code 4 = .ok (.iload_n 1, 1) := by decide +kernel
theorem d1_5 : decode method_3_code 5 = .ok (.ifCond .ne 6, 3) := by decide +kernel
theorem d1_8 : decode method_3_code 8 = .ok (.bipush 10, 2) := by decide +kernel
theorem d1_10 : decode method_3_code 10 = .ok (.ireturn, 1) := by decide +kernel
theorem d1_11 : decode method_3_code 11 = .ok (.iload_n 1, 1) := by decide +kernel
theorem d1_12 : decode method_3_code 12 = .ok (.iconst 1, 1) := by decide +kernel
theorem d1_13 : decode method_3_code 13 = .ok (.if_icmp .ne 6, 3) := by decide +kernel
theorem d1_16 : decode method_3_code 16 = .ok (.bipush 13, 2) := by decide +kernel
theorem d1_18 : decode method_3_code 18 = .ok (.ireturn, 1) := by decide +kernel
theorem d1_19 : decode method_3_code 19 = .ok (.iload_n 0, 1) := by decide +kernel
theorem d1_20 : decode method_3_code 20 = .ok (.iconst 2, 1) := by decide +kernel
theorem d1_21 : decode method_3_code 21 = .ok (.iushr, 1) := by decide +kernel
theorem d1_22 : decode method_3_code 22 = .ok (.i2c, 1) := by decide +kernel
theorem d1_23 : decode method_3_code 23 = .ok (.ireturn, 1) := by decide +kernel
theorem pn_1 : plainFor (⟨"com/example/argweave/argweave/LineCounterPassPinLaw", "pick", "(I)C"⟩ : MethodName) = true := plainFor_of_name (by first | (simp [plainName, overriddenIn]; done) | decide +kernel)
theorem ef_1 (m : MethodId) (pv : Int32) : entryFrame m #[(.int pv)] 2 = mkF m 0 #[iv pv, .unset] [] := by first | (simp [entryFrame, mkF, argsToLocals, Value.category]; done) | rfl
set_option maxRecDepth 65536 in
set_option maxHeartbeats 40000000 in
theorem rm1 (l : Launch) (Z : State) (a0 : Array Value) (hw : ∀ d ∈ tables_1, d.before a0 Z = true) (ws : List Jvm.Cond) (pv : Int32) (h0 : Heap) (n0 : Nat) (Z0 : n0 ≤ h0.size) :
    OwnCtr l Z (⟨"com/example/argweave/argweave/LineCounterPassPinLaw", "pick", "(I)C"⟩ : MethodName) ws method_3_code 2 (some .char) ({ frames := 0, cells := 0, slots := 0, locals := 0 } : Room) #[(.int pv)] h0 (fun v h L => (∃ z : Int32, v = some (.int z) ∧ own_ch z) ∧ Fr n0 L ∧ h = h0) := by
  refine own_body (g0 := fun m => mkF m 0 #[iv pv, .unset] []) pn_1 (fun m => ef_1 m pv) ?_
  intro p e s m below meth c s₁ X0 hx hby hml hown hnm hZ e0 hret hlk
  have hml : c.maxLocals = 2 := hml
  have hown : s.vm.findClass "com/example/argweave/argweave/LineCounterPassPinLaw" = some m.cls := hown
  have hnm : meth.name = "pick" := hnm
  have hret : meth.sig.returnType = (some .char) := hret
  have N0 := Fr.nil n0
  show OwnFin p e below s _ _ _ (s₁.setTop (mkF m 0 #[iv pv, .unset] []))
  refine own_go (fun t_ k_ => XS.iloadN X0.here hx rfl (hb hby d1_0) rfl k_) ?_
  show OwnFin p e below s _ _ _ (s₁.setTop (mkF m 1 #[iv pv, .unset] [(.int pv)]))
  refine own_go (fun t_ k_ => XS.iconst X0.here hx rfl (hb hby d1_1) k_) ?_
  show OwnFin p e below s _ _ _ (s₁.setTop (mkF m 2 #[iv pv, .unset] [(.int (3 : Int32)), (.int pv)]))
  refine own_go (fun t_ k_ => XS.iand X0.here hx rfl (hb hby d1_2) rfl k_) ?_
  show OwnFin p e below s _ _ _ (s₁.setTop (mkF m 3 #[iv pv, .unset] [(.int (pv &&& (3 : Int32)))]))
  refine own_go (fun t_ k_ => XS.istoreN X0.here hx rfl (hb hby d1_3) rfl (l' := #[iv pv, iv (pv &&& (3 : Int32))]) rfl k_) ?_
  show OwnFin p e below s _ _ _ (s₁.setTop (mkF m 4 #[iv pv, iv (pv &&& (3 : Int32))] []))
  refine own_go (fun t_ k_ => XS.iloadN X0.here hx rfl (hb hby d1_4) rfl k_) ?_
  show OwnFin p e below s _ _ _ (s₁.setTop (mkF m 5 #[iv pv, iv (pv &&& (3 : Int32))] [(.int (pv &&& (3 : Int32)))]))
  by_cases hc5 : (pv &&& (3 : Int32)) = (0 : Int32)
  · refine own_go (fun t_ k_ => XS.ifNo X0.here hx rfl (hb hby d1_5) rfl ((if0 _ _).trans (teq hc5).2) k_) ?_
    show OwnFin p e below s _ _ _ (s₁.setTop (mkF m 8 #[iv pv, iv (pv &&& (3 : Int32))] []))
    refine own_go (fun t_ k_ => XS.bipush X0.here hx rfl (hb hby d1_8) k_) ?_
    show OwnFin p e below s _ _ _ (s₁.setTop (mkF m 10 #[iv pv, iv (pv &&& (3 : Int32))] [(.int (10 : Int32))]))
    refine own_ret X0 (v := some (.int (nar .char (10 : Int32)))) hlk (fun hh => by rw [hret] at hh; cases hh) (fun fs hr => retN X0 hx (t := .char) hret (by simp) (hb hby d1_10) hr) (by decide) (by decide) ?_
    rw [e0]
    exact ⟨⟨_, rfl, own_char _⟩, N0, rfl⟩
  · refine own_go (fun t_ k_ => XS.ifYes X0.here hx rfl (pc0 := 5) (pc' := 11) rfl (hb hby d1_5) rfl ((if0 _ _).trans (feq hc5).2) (by decide) (by decide) k_) ?_
    show OwnFin p e below s _ _ _ (s₁.setTop (mkF m 11 #[iv pv, iv (pv &&& (3 : Int32))] []))
    refine own_go (fun t_ k_ => XS.iloadN X0.here hx rfl (hb hby d1_11) rfl k_) ?_
    show OwnFin p e below s _ _ _ (s₁.setTop (mkF m 12 #[iv pv, iv (pv &&& (3 : Int32))] [(.int (pv &&& (3 : Int32)))]))
    refine own_go (fun t_ k_ => XS.iconst X0.here hx rfl (hb hby d1_12) k_) ?_
    show OwnFin p e below s _ _ _ (s₁.setTop (mkF m 13 #[iv pv, iv (pv &&& (3 : Int32))] [(.int (1 : Int32)), (.int (pv &&& (3 : Int32)))]))
    by_cases hc13 : (pv &&& (3 : Int32)) = (1 : Int32)
    · refine own_go (fun t_ k_ => XS.icmpNo X0.here hx rfl (hb hby d1_13) rfl (teq hc13).2 k_) ?_
      show OwnFin p e below s _ _ _ (s₁.setTop (mkF m 16 #[iv pv, iv (pv &&& (3 : Int32))] []))
      refine own_go (fun t_ k_ => XS.bipush X0.here hx rfl (hb hby d1_16) k_) ?_
      show OwnFin p e below s _ _ _ (s₁.setTop (mkF m 18 #[iv pv, iv (pv &&& (3 : Int32))] [(.int (13 : Int32))]))
      refine own_ret X0 (v := some (.int (nar .char (13 : Int32)))) hlk (fun hh => by rw [hret] at hh; cases hh) (fun fs hr => retN X0 hx (t := .char) hret (by simp) (hb hby d1_18) hr) (by decide) (by decide) ?_
      rw [e0]
      exact ⟨⟨_, rfl, own_char _⟩, N0, rfl⟩
    · refine own_go (fun t_ k_ => XS.icmpYes X0.here hx rfl (pc0 := 13) (pc' := 19) rfl (hb hby d1_13) rfl (feq hc13).2 (by decide) (by decide) k_) ?_
      show OwnFin p e below s _ _ _ (s₁.setTop (mkF m 19 #[iv pv, iv (pv &&& (3 : Int32))] []))
      refine own_go (fun t_ k_ => XS.iloadN X0.here hx rfl (hb hby d1_19) rfl k_) ?_
      show OwnFin p e below s _ _ _ (s₁.setTop (mkF m 20 #[iv pv, iv (pv &&& (3 : Int32))] [(.int pv)]))
      refine own_go (fun t_ k_ => XS.iconst X0.here hx rfl (hb hby d1_20) k_) ?_
      show OwnFin p e below s _ _ _ (s₁.setTop (mkF m 21 #[iv pv, iv (pv &&& (3 : Int32))] [(.int (2 : Int32)), (.int pv)]))
      refine own_go (fun t_ k_ => XS.iushr X0.here hx rfl (hb hby d1_21) rfl k_) ?_
      show OwnFin p e below s _ _ _ (s₁.setTop (mkF m 22 #[iv pv, iv (pv &&& (3 : Int32))] [(.int ((pv.toUInt32 >>> ((2 : Int32) &&& 31).toUInt32).toInt32))]))
      refine own_go (fun t_ k_ => XS.i2c X0.here hx rfl (hb hby d1_22) rfl k_) ?_
      show OwnFin p e below s _ _ _ (s₁.setTop (mkF m 23 #[iv pv, iv (pv &&& (3 : Int32))] [(.int (((pv.toUInt32 >>> ((2 : Int32) &&& 31).toUInt32).toInt32).toUInt32.toUInt16.toUInt32.toInt32))]))
      refine own_ret X0 (v := some (.int (nar .char (((pv.toUInt32 >>> ((2 : Int32) &&& 31).toUInt32).toInt32).toUInt32.toUInt16.toUInt32.toInt32)))) hlk (fun hh => by rw [hret] at hh; cases hh) (fun fs hr => retN X0 hx (t := .char) hret (by simp) (hb hby d1_23) hr) (by decide) (by decide) ?_
      rw [e0]
      exact ⟨⟨_, rfl, own_char _⟩, N0, rfl⟩
theorem d9_0 : decode method_4_code 0 = .ok (.iload_n 0, 1) := by decide +kernel
theorem d9_1 : decode method_4_code 1 = .ok (.iload_n 2, 1) := by decide +kernel
theorem d9_2 : decode method_4_code 2 = .ok (.if_icmp .eq 10, 3) := by decide +kernel
theorem d9_5 : decode method_4_code 5 = .ok (.iload_n 0, 1) := by decide +kernel
theorem d9_6 : decode method_4_code 6 = .ok (.iload_n 3, 1) := by decide +kernel
theorem d9_7 : decode method_4_code 7 = .ok (.if_icmp .eq 5, 3) := by decide +kernel
theorem d9_10 : decode method_4_code 10 = .ok (.iconst 0, 1) := by decide +kernel
theorem d9_11 : decode method_4_code 11 = .ok (.ireturn, 1) := by decide +kernel
theorem d9_12 : decode method_4_code 12 = .ok (.iload_n 0, 1) := by decide +kernel
theorem d9_13 : decode method_4_code 13 = .ok (.bipush 10, 2) := by decide +kernel
theorem d9_15 : decode method_4_code 15 = .ok (.if_icmp .ne 9, 3) := by decide +kernel
theorem d9_18 : decode method_4_code 18 = .ok (.iload_n 1, 1) := by decide +kernel
theorem d9_19 : decode method_4_code 19 = .ok (.ifCond .eq 5, 3) := by decide +kernel
theorem d9_22 : decode method_4_code 22 = .ok (.iconst 0, 1) := by decide +kernel
theorem d9_23 : decode method_4_code 23 = .ok (.ireturn, 1) := by decide +kernel
theorem d9_24 : decode method_4_code 24 = .ok (.iconst 1, 1) := by decide +kernel
theorem d9_25 : decode method_4_code 25 = .ok (.ireturn, 1) := by decide +kernel
theorem pn_9 : plainFor (⟨"com/example/argweave/argweave/LineCounterPassPinLaw", "step", "(CZCC)I"⟩ : MethodName) = true := plainFor_of_name (by first | (simp [plainName, overriddenIn]; done) | decide +kernel)
theorem ef_9 (m : MethodId) (pc : Int32) (pz : Int32) (px : Int32) (py : Int32) : entryFrame m #[(.int pc), (.int pz), (.int px), (.int py)] 4 = mkF m 0 #[iv pc, iv pz, iv px, iv py] [] := by first | (simp [entryFrame, mkF, argsToLocals, Value.category]; done) | rfl
set_option maxRecDepth 65536 in
set_option maxHeartbeats 40000000 in
theorem rm9 (l : Launch) (Z : State) (a0 : Array Value) (hw : ∀ d ∈ tables_1, d.before a0 Z = true) (ws : List Jvm.Cond) (pc : Int32) (pz : Int32) (px : Int32) (py : Int32) (h0 : Heap) (n0 : Nat) (Z0 : n0 ≤ h0.size) :
    OwnCtr l Z (⟨"com/example/argweave/argweave/LineCounterPassPinLaw", "step", "(CZCC)I"⟩ : MethodName) ws method_4_code 4 (some .int) ({ frames := 0, cells := 0, slots := 0, locals := 0 } : Room) #[(.int pc), (.int pz), (.int px), (.int py)] h0 (fun v h L => v = some (.int (own_step pc pz px py)) ∧ Fr n0 L ∧ h = h0) := by
  refine own_body (g0 := fun m => mkF m 0 #[iv pc, iv pz, iv px, iv py] []) pn_9 (fun m => ef_9 m pc pz px py) ?_
  intro p e s m below meth c s₁ X0 hx hby hml hown hnm hZ e0 hret hlk
  have hml : c.maxLocals = 4 := hml
  have hown : s.vm.findClass "com/example/argweave/argweave/LineCounterPassPinLaw" = some m.cls := hown
  have hnm : meth.name = "step" := hnm
  have hret : meth.sig.returnType = (some .int) := hret
  have N0 := Fr.nil n0
  show OwnFin p e below s _ _ _ (s₁.setTop (mkF m 0 #[iv pc, iv pz, iv px, iv py] []))
  refine own_go (fun t_ k_ => XS.iloadN X0.here hx rfl (hb hby d9_0) rfl k_) ?_
  show OwnFin p e below s _ _ _ (s₁.setTop (mkF m 1 #[iv pc, iv pz, iv px, iv py] [(.int pc)]))
  refine own_go (fun t_ k_ => XS.iloadN X0.here hx rfl (hb hby d9_1) rfl k_) ?_
  show OwnFin p e below s _ _ _ (s₁.setTop (mkF m 2 #[iv pc, iv pz, iv px, iv py] [(.int px), (.int pc)]))
  by_cases hc2 : pc = px
  · refine own_go (fun t_ k_ => XS.icmpYes X0.here hx rfl (pc0 := 2) (pc' := 12) rfl (hb hby d9_2) rfl (teq hc2).1 (by decide) (by decide) k_) ?_
    show OwnFin p e below s _ _ _ (s₁.setTop (mkF m 12 #[iv pc, iv pz, iv px, iv py] []))
    refine own_go (fun t_ k_ => XS.iloadN X0.here hx rfl (hb hby d9_12) rfl k_) ?_
    show OwnFin p e below s _ _ _ (s₁.setTop (mkF m 13 #[iv pc, iv pz, iv px, iv py] [(.int pc)]))
    refine own_go (fun t_ k_ => XS.bipush X0.here hx rfl (hb hby d9_13) k_) ?_
    show OwnFin p e below s _ _ _ (s₁.setTop (mkF m 15 #[iv pc, iv pz, iv px, iv py] [(.int (10 : Int32)), (.int pc)]))
    by_cases hc15 : pc = (10 : Int32)
    · refine own_go (fun t_ k_ => XS.icmpNo X0.here hx rfl (hb hby d9_15) rfl (teq hc15).2 k_) ?_
      show OwnFin p e below s _ _ _ (s₁.setTop (mkF m 18 #[iv pc, iv pz, iv px, iv py] []))
      refine own_go (fun t_ k_ => XS.iloadN X0.here hx rfl (hb hby d9_18) rfl k_) ?_
      show OwnFin p e below s _ _ _ (s₁.setTop (mkF m 19 #[iv pc, iv pz, iv px, iv py] [(.int pz)]))
      by_cases hc19 : pz = (0 : Int32)
      · refine own_go (fun t_ k_ => XS.ifYes X0.here hx rfl (pc0 := 19) (pc' := 24) rfl (hb hby d9_19) rfl ((if0 _ _).trans (teq hc19).1) (by decide) (by decide) k_) ?_
        show OwnFin p e below s _ _ _ (s₁.setTop (mkF m 24 #[iv pc, iv pz, iv px, iv py] []))
        refine own_go (fun t_ k_ => XS.iconst X0.here hx rfl (hb hby d9_24) k_) ?_
        show OwnFin p e below s _ _ _ (s₁.setTop (mkF m 25 #[iv pc, iv pz, iv px, iv py] [(.int (1 : Int32))]))
        refine own_ret X0 (v := some (.int (1 : Int32))) hlk (fun hh => by rw [hret] at hh; cases hh) (fun fs hr => own_retI X0 hx hret (hb hby d9_25) hr) (by decide) (by decide) ?_
        rw [e0]
        exact ⟨by unfold own_step; rw [if_neg (fun z => z.1 hc2), if_neg (fun z => z.2 hc19)], N0, rfl⟩
      · refine own_go (fun t_ k_ => XS.ifNo X0.here hx rfl (hb hby d9_19) rfl ((if0 _ _).trans (feq hc19).1) k_) ?_
        show OwnFin p e below s _ _ _ (s₁.setTop (mkF m 22 #[iv pc, iv pz, iv px, iv py] []))
        refine own_go (fun t_ k_ => XS.iconst X0.here hx rfl (hb hby d9_22) k_) ?_
        show OwnFin p e below s _ _ _ (s₁.setTop (mkF m 23 #[iv pc, iv pz, iv px, iv py] [(.int (0 : Int32))]))
        refine own_ret X0 (v := some (.int (0 : Int32))) hlk (fun hh => by rw [hret] at hh; cases hh) (fun fs hr => own_retI X0 hx hret (hb hby d9_23) hr) (by decide) (by decide) ?_
        rw [e0]
        exact ⟨by unfold own_step; rw [if_neg (fun z => z.1 hc2), if_pos ⟨hc15, hc19⟩], N0, rfl⟩
    · refine own_go (fun t_ k_ => XS.icmpYes X0.here hx rfl (pc0 := 15) (pc' := 24) rfl (hb hby d9_15) rfl (feq hc15).2 (by decide) (by decide) k_) ?_
      show OwnFin p e below s _ _ _ (s₁.setTop (mkF m 24 #[iv pc, iv pz, iv px, iv py] []))
      refine own_go (fun t_ k_ => XS.iconst X0.here hx rfl (hb hby d9_24) k_) ?_
      show OwnFin p e below s _ _ _ (s₁.setTop (mkF m 25 #[iv pc, iv pz, iv px, iv py] [(.int (1 : Int32))]))
      refine own_ret X0 (v := some (.int (1 : Int32))) hlk (fun hh => by rw [hret] at hh; cases hh) (fun fs hr => own_retI X0 hx hret (hb hby d9_25) hr) (by decide) (by decide) ?_
      rw [e0]
      exact ⟨by unfold own_step; rw [if_neg (fun z => z.1 hc2), if_neg (fun z => hc15 z.1)], N0, rfl⟩
  · refine own_go (fun t_ k_ => XS.icmpNo X0.here hx rfl (hb hby d9_2) rfl (feq hc2).1 k_) ?_
    show OwnFin p e below s _ _ _ (s₁.setTop (mkF m 5 #[iv pc, iv pz, iv px, iv py] []))
    refine own_go (fun t_ k_ => XS.iloadN X0.here hx rfl (hb hby d9_5) rfl k_) ?_
    show OwnFin p e below s _ _ _ (s₁.setTop (mkF m 6 #[iv pc, iv pz, iv px, iv py] [(.int pc)]))
    refine own_go (fun t_ k_ => XS.iloadN X0.here hx rfl (hb hby d9_6) rfl k_) ?_
    show OwnFin p e below s _ _ _ (s₁.setTop (mkF m 7 #[iv pc, iv pz, iv px, iv py] [(.int py), (.int pc)]))
    by_cases hc7 : pc = py
    · refine own_go (fun t_ k_ => XS.icmpYes X0.here hx rfl (pc0 := 7) (pc' := 12) rfl (hb hby d9_7) rfl (teq hc7).1 (by decide) (by decide) k_) ?_
      show OwnFin p e below s _ _ _ (s₁.setTop (mkF m 12 #[iv pc, iv pz, iv px, iv py] []))
      refine own_go (fun t_ k_ => XS.iloadN X0.here hx rfl (hb hby d9_12) rfl k_) ?_
      show OwnFin p e below s _ _ _ (s₁.setTop (mkF m 13 #[iv pc, iv pz, iv px, iv py] [(.int pc)]))
      refine own_go (fun t_ k_ => XS.bipush X0.here hx rfl (hb hby d9_13) k_) ?_
      show OwnFin p e below s _ _ _ (s₁.setTop (mkF m 15 #[iv pc, iv pz, iv px, iv py] [(.int (10 : Int32)), (.int pc)]))
      by_cases hc15 : pc = (10 : Int32)
      · refine own_go (fun t_ k_ => XS.icmpNo X0.here hx rfl (hb hby d9_15) rfl (teq hc15).2 k_) ?_
        show OwnFin p e below s _ _ _ (s₁.setTop (mkF m 18 #[iv pc, iv pz, iv px, iv py] []))
        refine own_go (fun t_ k_ => XS.iloadN X0.here hx rfl (hb hby d9_18) rfl k_) ?_
        show OwnFin p e below s _ _ _ (s₁.setTop (mkF m 19 #[iv pc, iv pz, iv px, iv py] [(.int pz)]))
        by_cases hc19 : pz = (0 : Int32)
        · refine own_go (fun t_ k_ => XS.ifYes X0.here hx rfl (pc0 := 19) (pc' := 24) rfl (hb hby d9_19) rfl ((if0 _ _).trans (teq hc19).1) (by decide) (by decide) k_) ?_
          show OwnFin p e below s _ _ _ (s₁.setTop (mkF m 24 #[iv pc, iv pz, iv px, iv py] []))
          refine own_go (fun t_ k_ => XS.iconst X0.here hx rfl (hb hby d9_24) k_) ?_
          show OwnFin p e below s _ _ _ (s₁.setTop (mkF m 25 #[iv pc, iv pz, iv px, iv py] [(.int (1 : Int32))]))
          refine own_ret X0 (v := some (.int (1 : Int32))) hlk (fun hh => by rw [hret] at hh; cases hh) (fun fs hr => own_retI X0 hx hret (hb hby d9_25) hr) (by decide) (by decide) ?_
          rw [e0]
          exact ⟨by unfold own_step; rw [if_neg (fun z => z.2 hc7), if_neg (fun z => z.2 hc19)], N0, rfl⟩
        · refine own_go (fun t_ k_ => XS.ifNo X0.here hx rfl (hb hby d9_19) rfl ((if0 _ _).trans (feq hc19).1) k_) ?_
          show OwnFin p e below s _ _ _ (s₁.setTop (mkF m 22 #[iv pc, iv pz, iv px, iv py] []))
          refine own_go (fun t_ k_ => XS.iconst X0.here hx rfl (hb hby d9_22) k_) ?_
          show OwnFin p e below s _ _ _ (s₁.setTop (mkF m 23 #[iv pc, iv pz, iv px, iv py] [(.int (0 : Int32))]))
          refine own_ret X0 (v := some (.int (0 : Int32))) hlk (fun hh => by rw [hret] at hh; cases hh) (fun fs hr => own_retI X0 hx hret (hb hby d9_23) hr) (by decide) (by decide) ?_
          rw [e0]
          exact ⟨by unfold own_step; rw [if_neg (fun z => z.2 hc7), if_pos ⟨hc15, hc19⟩], N0, rfl⟩
      · refine own_go (fun t_ k_ => XS.icmpYes X0.here hx rfl (pc0 := 15) (pc' := 24) rfl (hb hby d9_15) rfl (feq hc15).2 (by decide) (by decide) k_) ?_
        show OwnFin p e below s _ _ _ (s₁.setTop (mkF m 24 #[iv pc, iv pz, iv px, iv py] []))
        refine own_go (fun t_ k_ => XS.iconst X0.here hx rfl (hb hby d9_24) k_) ?_
        show OwnFin p e below s _ _ _ (s₁.setTop (mkF m 25 #[iv pc, iv pz, iv px, iv py] [(.int (1 : Int32))]))
        refine own_ret X0 (v := some (.int (1 : Int32))) hlk (fun hh => by rw [hret] at hh; cases hh) (fun fs hr => own_retI X0 hx hret (hb hby d9_25) hr) (by decide) (by decide) ?_
        rw [e0]
        exact ⟨by unfold own_step; rw [if_neg (fun z => z.2 hc7), if_neg (fun z => hc15 z.1)], N0, rfl⟩
    · refine own_go (fun t_ k_ => XS.icmpNo X0.here hx rfl (hb hby d9_7) rfl (feq hc7).1 k_) ?_
      show OwnFin p e below s _ _ _ (s₁.setTop (mkF m 10 #[iv pc, iv pz, iv px, iv py] []))
      refine own_go (fun t_ k_ => XS.iconst X0.here hx rfl (hb hby d9_10) k_) ?_
      show OwnFin p e below s _ _ _ (s₁.setTop (mkF m 11 #[iv pc, iv pz, iv px, iv py] [(.int (0 : Int32))]))
      refine own_ret X0 (v := some (.int (0 : Int32))) hlk (fun hh => by rw [hret] at hh; cases hh) (fun fs hr => own_retI X0 hx hret (hb hby d9_11) hr) (by decide) (by decide) ?_
      rw [e0]
      exact ⟨by unfold own_step; rw [if_pos ⟨hc2, hc7⟩], N0, rfl⟩
def own_max (x y : Int32) : Int32 := if x < y then y else x
theorem d18_0 : decode jdk_29_method_65_code 0 = .ok (.iload_n 0, 1) := by decide +kernel
theorem d18_1 : decode jdk_29_method_65_code 1 = .ok (.iload_n 1, 1) := by decide +kernel
theorem d18_2 : decode jdk_29_method_65_code 2 = .ok (.if_icmp .lt 7, 3) := by decide +kernel
theorem d18_5 : decode jdk_29_method_65_code 5 = .ok (.iload_n 0, 1) := by decide +kernel
theorem d18_6 : decode jdk_29_method_65_code 6 = .ok (.goto 4, 3) := by decide +kernel
theorem d18_9 : decode jdk_29_method_65_code 9 = .ok (.iload_n 1, 1) := by decide +kernel
theorem d18_10 : decode jdk_29_method_65_code 10 = .ok (.ireturn, 1) := by decide +kernel
theorem pn_18 : plainFor (⟨"java/lang/Math", "max", "(II)I"⟩ : MethodName) = true := Jvm.Free.JP.mathPlain rfl (by decide +kernel)
theorem ef_18 (m : MethodId) (p1 : Int32) (p2 : Int32) : entryFrame m #[(.int p1), (.int p2)] 2 = mkF m 0 #[iv p1, iv p2] [] := by first | (simp [entryFrame, mkF, argsToLocals, Value.category]; done) | rfl
set_option maxRecDepth 65536 in
set_option maxHeartbeats 40000000 in
theorem rm18 (l : Launch) (Z : State) (a0 : Array Value) (hw : ∀ d ∈ tables_1, d.before a0 Z = true) (ws : List Jvm.Cond) (p1 : Int32) (p2 : Int32) (h0 : Heap) (n0 : Nat) (Z0 : n0 ≤ h0.size) :
    OwnCtr l Z (⟨"java/lang/Math", "max", "(II)I"⟩ : MethodName) ws jdk_29_method_65_code 2 (some .int) ({ frames := 0, cells := 0, slots := 0, locals := 0 } : Room) #[(.int p1), (.int p2)] h0 (fun v h L => v = some (.int (own_max p1 p2)) ∧ Fr n0 L ∧ h = h0) := by
  refine own_body (g0 := fun m => mkF m 0 #[iv p1, iv p2] []) pn_18 (fun m => ef_18 m p1 p2) ?_
  intro p e s m below meth c s₁ X0 hx hby hml hown hnm hZ e0 hret hlk
  have hml : c.maxLocals = 2 := hml
  have hown : s.vm.findClass "java/lang/Math" = some m.cls := hown
  have hnm : meth.name = "max" := hnm
  have hret : meth.sig.returnType = (some .int) := hret
  have N0 := Fr.nil n0
  show OwnFin p e below s _ _ _ (s₁.setTop (mkF m 0 #[iv p1, iv p2] []))
  refine own_go (fun t_ k_ => XS.iloadN X0.here hx rfl (hb hby d18_0) rfl k_) ?_
  show OwnFin p e below s _ _ _ (s₁.setTop (mkF m 1 #[iv p1, iv p2] [(.int p1)]))
  refine own_go (fun t_ k_ => XS.iloadN X0.here hx rfl (hb hby d18_1) rfl k_) ?_
  show OwnFin p e below s _ _ _ (s₁.setTop (mkF m 2 #[iv p1, iv p2] [(.int p2), (.int p1)]))
  by_cases hc2 : p1 < p2
  · refine own_go (fun t_ k_ => XS.icmpYes X0.here hx rfl (pc0 := 2) (pc' := 9) rfl (hb hby d18_2) rfl (tlt hc2).1 (by decide) (by decide) k_) ?_
    show OwnFin p e below s _ _ _ (s₁.setTop (mkF m 9 #[iv p1, iv p2] []))
    refine own_go (fun t_ k_ => XS.iloadN X0.here hx rfl (hb hby d18_9) rfl k_) ?_
    show OwnFin p e below s _ _ _ (s₁.setTop (mkF m 10 #[iv p1, iv p2] [(.int p2)]))
    refine own_ret X0 (v := some (.int p2)) hlk (fun hh => by rw [hret] at hh; cases hh) (fun fs hr => own_retI X0 hx hret (hb hby d18_10) hr) (by decide) (by decide) ?_
    rw [e0]
    exact ⟨by simp [own_max, hc2], N0, rfl⟩
  · refine own_go (fun t_ k_ => XS.icmpNo X0.here hx rfl (hb hby d18_2) rfl (flt hc2).1 k_) ?_
    show OwnFin p e below s _ _ _ (s₁.setTop (mkF m 5 #[iv p1, iv p2] []))
    refine own_go (fun t_ k_ => XS.iloadN X0.here hx rfl (hb hby d18_5) rfl k_) ?_
    show OwnFin p e below s _ _ _ (s₁.setTop (mkF m 6 #[iv p1, iv p2] [(.int p1)]))
    refine own_go (fun t_ k_ => XS.goto X0.here hx rfl (pc0 := 6) (pc' := 10) rfl (hb hby d18_6) (by decide) (by decide) k_) ?_
    show OwnFin p e below s _ _ _ (s₁.setTop (mkF m 10 #[iv p1, iv p2] [(.int p1)]))
    refine own_ret X0 (v := some (.int p1)) hlk (fun hh => by rw [hret] at hh; cases hh) (fun fs hr => own_retI X0 hx hret (hb hby d18_10) hr) (by decide) (by decide) ?_
    rw [e0]
    exact ⟨by simp [own_max, hc2], N0, rfl⟩
def own_min (x y : Int32) : Int32 := if y < x then y else x
theorem d19_0 : decode jdk_29_method_69_code 0 = .ok (.iload_n 0, 1) := by decide +kernel
theorem d19_1 : decode jdk_29_method_69_code 1 = .ok (.iload_n 1, 1) := by decide +kernel
theorem d19_2 : decode jdk_29_method_69_code 2 = .ok (.if_icmp .gt 7, 3) := by decide +kernel
theorem d19_5 : decode jdk_29_method_69_code 5 = .ok (.iload_n 0, 1) := by decide +kernel
theorem d19_6 : decode jdk_29_method_69_code 6 = .ok (.goto 4, 3) := by decide +kernel
theorem d19_9 : decode jdk_29_method_69_code 9 = .ok (.iload_n 1, 1) := by decide +kernel
theorem d19_10 : decode jdk_29_method_69_code 10 = .ok (.ireturn, 1) := by decide +kernel
theorem pn_19 : plainFor (⟨"java/lang/Math", "min", "(II)I"⟩ : MethodName) = true := Jvm.Free.JP.mathPlain rfl (by decide +kernel)
theorem ef_19 (m : MethodId) (p1 : Int32) (p2 : Int32) : entryFrame m #[(.int p1), (.int p2)] 2 = mkF m 0 #[iv p1, iv p2] [] := by first | (simp [entryFrame, mkF, argsToLocals, Value.category]; done) | rfl
set_option maxRecDepth 65536 in
set_option maxHeartbeats 40000000 in
theorem rm19 (l : Launch) (Z : State) (a0 : Array Value) (hw : ∀ d ∈ tables_1, d.before a0 Z = true) (ws : List Jvm.Cond) (p1 : Int32) (p2 : Int32) (h0 : Heap) (n0 : Nat) (Z0 : n0 ≤ h0.size) :
    OwnCtr l Z (⟨"java/lang/Math", "min", "(II)I"⟩ : MethodName) ws jdk_29_method_69_code 2 (some .int) ({ frames := 0, cells := 0, slots := 0, locals := 0 } : Room) #[(.int p1), (.int p2)] h0 (fun v h L => v = some (.int (own_min p1 p2)) ∧ Fr n0 L ∧ h = h0) := by
  refine own_body (g0 := fun m => mkF m 0 #[iv p1, iv p2] []) pn_19 (fun m => ef_19 m p1 p2) ?_
  intro p e s m below meth c s₁ X0 hx hby hml hown hnm hZ e0 hret hlk
  have hml : c.maxLocals = 2 := hml
  have hown : s.vm.findClass "java/lang/Math" = some m.cls := hown
  have hnm : meth.name = "min" := hnm
  have hret : meth.sig.returnType = (some .int) := hret
  have N0 := Fr.nil n0
  show OwnFin p e below s _ _ _ (s₁.setTop (mkF m 0 #[iv p1, iv p2] []))
  refine own_go (fun t_ k_ => XS.iloadN X0.here hx rfl (hb hby d19_0) rfl k_) ?_
  show OwnFin p e below s _ _ _ (s₁.setTop (mkF m 1 #[iv p1, iv p2] [(.int p1)]))
  refine own_go (fun t_ k_ => XS.iloadN X0.here hx rfl (hb hby d19_1) rfl k_) ?_
  show OwnFin p e below s _ _ _ (s₁.setTop (mkF m 2 #[iv p1, iv p2] [(.int p2), (.int p1)]))
  by_cases hc2 : p2 < p1
  · refine own_go (fun t_ k_ => XS.icmpYes X0.here hx rfl (pc0 := 2) (pc' := 9) rfl (hb hby d19_2) rfl (tlt hc2).2.2.1 (by decide) (by decide) k_) ?_
    show OwnFin p e below s _ _ _ (s₁.setTop (mkF m 9 #[iv p1, iv p2] []))
    refine own_go (fun t_ k_ => XS.iloadN X0.here hx rfl (hb hby d19_9) rfl k_) ?_
    show OwnFin p e below s _ _ _ (s₁.setTop (mkF m 10 #[iv p1, iv p2] [(.int p2)]))
    refine own_ret X0 (v := some (.int p2)) hlk (fun hh => by rw [hret] at hh; cases hh) (fun fs hr => own_retI X0 hx hret (hb hby d19_10) hr) (by decide) (by decide) ?_
    rw [e0]
    exact ⟨by simp [own_min, hc2], N0, rfl⟩
  · refine own_go (fun t_ k_ => XS.icmpNo X0.here hx rfl (hb hby d19_2) rfl (flt hc2).2.2.1 k_) ?_
    show OwnFin p e below s _ _ _ (s₁.setTop (mkF m 5 #[iv p1, iv p2] []))
    refine own_go (fun t_ k_ => XS.iloadN X0.here hx rfl (hb hby d19_5) rfl k_) ?_
    show OwnFin p e below s _ _ _ (s₁.setTop (mkF m 6 #[iv p1, iv p2] [(.int p1)]))
    refine own_go (fun t_ k_ => XS.goto X0.here hx rfl (pc0 := 6) (pc' := 10) rfl (hb hby d19_6) (by decide) (by decide) k_) ?_
    show OwnFin p e below s _ _ _ (s₁.setTop (mkF m 10 #[iv p1, iv p2] [(.int p1)]))
    refine own_ret X0 (v := some (.int p1)) hlk (fun hh => by rw [hret] at hh; cases hh) (fun fs hr => own_retI X0 hx hret (hb hby d19_10) hr) (by decide) (by decide) ?_
    rw [e0]
    exact ⟨by simp [own_min, hc2], N0, rfl⟩
theorem d26_0 : decode jdk_52_method_4_code 0 = .ok (.getstatic 44, 3) := by decide +kernel
theorem d26_3 : decode jdk_52_method_4_code 3 = .ok (.ifCond .ne 25, 3) := by decide +kernel
theorem d26_6 : decode jdk_52_method_4_code 6 = .ok (.iload_n 1, 1) := by decide +kernel
theorem d26_7 : decode jdk_52_method_4_code 7 = .ok (.ifCond .lt 11, 3) := by decide +kernel
theorem d26_10 : decode jdk_52_method_4_code 10 = .ok (.iload_n 1, 1) := by decide +kernel
theorem d26_11 : decode jdk_52_method_4_code 11 = .ok (.aload_n 0, 1) := by decide +kernel
theorem d26_12 : decode jdk_52_method_4_code 12 = .ok (.invokestatic 48, 3) := by decide +kernel
theorem d26_15 : decode jdk_52_method_4_code 15 = .ok (.if_icmp .lt 13, 3) := by decide +kernel
theorem d26_18 : decode jdk_52_method_4_code 18 = .ok (.new 52, 3) := by decide +kernel
theorem d26_21 : decode jdk_52_method_4_code 21 = .ok (.dup, 1) := by decide +kernel
theorem d26_22 : decode jdk_52_method_4_code 22 = .ok (.ldc 54, 2) := by decide +kernel
theorem d26_24 : decode jdk_52_method_4_code 24 = .ok (.invokespecial 56, 3) := by decide +kernel
theorem d26_27 : decode jdk_52_method_4_code 27 = .ok (.athrow, 1) := by decide +kernel
theorem d26_28 : decode jdk_52_method_4_code 28 = .ok (.iload_n 1, 1) := by decide +kernel
theorem d26_29 : decode jdk_52_method_4_code 29 = .ok (.iconst 1, 1) := by decide +kernel
theorem d26_30 : decode jdk_52_method_4_code 30 = .ok (.ishl, 1) := by decide +kernel
theorem d26_31 : decode jdk_52_method_4_code 31 = .ok (.istore_n 1, 1) := by decide +kernel
theorem d26_32 : decode jdk_52_method_4_code 32 = .ok (.aload_n 0, 1) := by decide +kernel
theorem d26_33 : decode jdk_52_method_4_code 33 = .ok (.iload_n 1, 1) := by decide +kernel
theorem d26_34 : decode jdk_52_method_4_code 34 = .ok (.iinc 1 1, 3) := by decide +kernel
theorem d26_37 : decode jdk_52_method_4_code 37 = .ok (.iload_n 2, 1) := by decide +kernel
theorem d26_38 : decode jdk_52_method_4_code 38 = .ok (.getstatic 59, 3) := by decide +kernel
theorem d26_41 : decode jdk_52_method_4_code 41 = .ok (.ishr, 1) := by decide +kernel
theorem d26_42 : decode jdk_52_method_4_code 42 = .ok (.i2b, 1) := by decide +kernel
theorem d26_43 : decode jdk_52_method_4_code 43 = .ok (.bastore, 1) := by decide +kernel
theorem d26_44 : decode jdk_52_method_4_code 44 = .ok (.aload_n 0, 1) := by decide +kernel
theorem d26_45 : decode jdk_52_method_4_code 45 = .ok (.iload_n 1, 1) := by decide +kernel
theorem d26_46 : decode jdk_52_method_4_code 46 = .ok (.iload_n 2, 1) := by decide +kernel
theorem d26_47 : decode jdk_52_method_4_code 47 = .ok (.getstatic 63, 3) := by decide +kernel
theorem d26_50 : decode jdk_52_method_4_code 50 = .ok (.ishr, 1) := by decide +kernel
theorem d26_51 : decode jdk_52_method_4_code 51 = .ok (.i2b, 1) := by decide +kernel
theorem d26_52 : decode jdk_52_method_4_code 52 = .ok (.bastore, 1) := by decide +kernel
theorem d26_53 : decode jdk_52_method_4_code 53 = .ok (.return_, 1) := by decide +kernel
theorem pn_26 : plainFor (⟨"java/lang/StringUTF16", "putChar", "([BII)V"⟩ : MethodName) = true := plainFor_of_name (by first | (simp [plainName, overriddenIn]; done) | decide +kernel)
theorem pd_26_21 : parseMethodDescriptor "([B)I" = some ⟨[(.array .byte)], some .int⟩ := by decide +kernel
theorem ef_26 (m : MethodId) (a1 : Addr) (p2 : Int32) (p3 : Int32) : entryFrame m #[(.ref a1), (.int p2), (.int p3)] 3 = mkF m 0 #[rv a1, iv p2, iv p3] [] := by first | (simp [entryFrame, mkF, argsToLocals, Value.category]; done) | rfl
theorem ef_26_0 (m : MethodId) (ba : Addr) (pc : Int32) : entryFrame m #[(.ref ba), (.int (0 : Int32)), (.int pc)] 3 = mkF m 0 #[rv ba, iv (0 : Int32), iv pc] [] := by first | (simp [entryFrame, mkF, argsToLocals, Value.category]; done) | rfl
set_option maxRecDepth 65536 in
set_option maxHeartbeats 40000000 in
theorem rm26_0 (l : Launch) (Z : State) (a0 : Array Value) (hw : ∀ d ∈ tables_1, d.before a0 Z = true) (ws : List Jvm.Cond) (ba : Addr) (pc : Int32) (f : Nat → Int32) (h0 : Heap) (n0 : Nat) (Z0 : n0 ≤ h0.size) (V_ba : OwnArr Z h0 ba .byte 4 (fun k => .int (f k))) (g_ba : n0 ≤ ba) (S_as : Sta Z Z.heap "java/lang/StringUTF16" "$assertionsDisabled" "Z" (.int (1 : Int32))) (S_hi : Sta Z Z.heap "java/lang/StringUTF16" "HI_BYTE_SHIFT" "I" (.int (0 : Int32))) (S_lo : Sta Z Z.heap "java/lang/StringUTF16" "LO_BYTE_SHIFT" "I" (.int (8 : Int32))) (OL : Old Z n0 h0) :
    OwnCtr l Z (⟨"java/lang/StringUTF16", "putChar", "([BII)V"⟩ : MethodName) ws jdk_52_method_4_code 3 none ({ frames := 0, cells := 0, slots := 0, locals := 0 } : Room) #[(.ref ba), (.int (0 : Int32)), (.int pc)] h0 (fun v h L => v = none ∧ Fr n0 L ∧ Keep h0 h [ba] ∧ OwnArr Z h ba .byte 4 (fun k => .int (if k = 1 then own_b1 pc else if k = 0 then own_b0 pc else f k))) := by
  refine own_body (g0 := fun m => mkF m 0 #[rv ba, iv (0 : Int32), iv pc] []) pn_26 (fun m => ef_26_0 m ba pc) ?_
  intro p e s m below meth c s₁ X0 hx hby hml hown hnm hZ e0 hret hlk
  have hml : c.maxLocals = 3 := hml
  have hown : s.vm.findClass "java/lang/StringUTF16" = some m.cls := hown
  have hnm : meth.name = "putChar" := hnm
  have hret : meth.sig.returnType = none := hret
  have N0 := Fr.nil n0
  have K0 := Keep.refl h0 [ba]
  show OwnFin p e below s _ _ _ (s₁.setTop (mkF m 0 #[rv ba, iv (0 : Int32), iv pc] []))
  obtain ⟨T1, X1, e1, st1⟩ := getS2 X0 hx hZ hown (host := "") (Or.inl (hw _ (List.mem_of_getElem? (i := 122) rfl))) Via.refl e0 (S_as.ext OL.2) (g := (mkF m 0 #[rv ba, iv (0 : Int32), iv pc] [])) rfl (hb hby d26_0)
  refine own_go st1 ?_
  show OwnFin p e below s _ _ _ (T1.setTop (mkF m 3 #[rv ba, iv (0 : Int32), iv pc] [(.int (1 : Int32))]))
  refine own_go (fun t_ k_ => XS.ifYes X1.here hx rfl (pc0 := 3) (pc' := 28) rfl (hb hby d26_3) rfl ((if0 _ _).trans (feq (by decide)).2) (by decide) (by decide) k_) ?_
  show OwnFin p e below s _ _ _ (T1.setTop (mkF m 28 #[rv ba, iv (0 : Int32), iv pc] []))
  refine own_go (fun t_ k_ => XS.iloadN X1.here hx rfl (hb hby d26_28) rfl k_) ?_
  show OwnFin p e below s _ _ _ (T1.setTop (mkF m 29 #[rv ba, iv (0 : Int32), iv pc] [(.int (0 : Int32))]))
  refine own_go (fun t_ k_ => XS.iconst X1.here hx rfl (hb hby d26_29) k_) ?_
  show OwnFin p e below s _ _ _ (T1.setTop (mkF m 30 #[rv ba, iv (0 : Int32), iv pc] [(.int (1 : Int32)), (.int (0 : Int32))]))
  refine own_go (fun t_ k_ => XS.ishl X1.here hx rfl (hb hby d26_30) rfl k_) ?_
  show OwnFin p e below s _ _ _ (T1.setTop (mkF m 31 #[rv ba, iv (0 : Int32), iv pc] [(.int (0 : Int32))]))
  refine own_go (fun t_ k_ => XS.istoreN X1.here hx rfl (hb hby d26_31) rfl (l' := #[rv ba, iv (0 : Int32), iv pc]) rfl k_) ?_
  show OwnFin p e below s _ _ _ (T1.setTop (mkF m 32 #[rv ba, iv (0 : Int32), iv pc] []))
  refine own_go (fun t_ k_ => XS.aloadN X1.here hx rfl (hb hby d26_32) rfl rfl k_) ?_
  show OwnFin p e below s _ _ _ (T1.setTop (mkF m 33 #[rv ba, iv (0 : Int32), iv pc] [(.ref ba)]))
  refine own_go (fun t_ k_ => XS.iloadN X1.here hx rfl (hb hby d26_33) rfl k_) ?_
  show OwnFin p e below s _ _ _ (T1.setTop (mkF m 34 #[rv ba, iv (0 : Int32), iv pc] [(.int (0 : Int32)), (.ref ba)]))
  refine own_go (fun t_ k_ => XS.iinc X1.here hx rfl (hb hby d26_34) rfl (l' := #[rv ba, iv (1 : Int32), iv pc]) rfl k_) ?_
  show OwnFin p e below s _ _ _ (T1.setTop (mkF m 37 #[rv ba, iv (1 : Int32), iv pc] [(.int (0 : Int32)), (.ref ba)]))
  refine own_go (fun t_ k_ => XS.iloadN X1.here hx rfl (hb hby d26_37) rfl k_) ?_
  show OwnFin p e below s _ _ _ (T1.setTop (mkF m 38 #[rv ba, iv (1 : Int32), iv pc] [(.int pc), (.int (0 : Int32)), (.ref ba)]))
  obtain ⟨T2, X2, e2, st2⟩ := getS2 X1 hx hZ hown (host := "") (Or.inl (hw _ (List.mem_of_getElem? (i := 123) rfl))) Via.refl e1 (S_hi.ext OL.2) (g := (mkF m 38 #[rv ba, iv (1 : Int32), iv pc] [(.int pc), (.int (0 : Int32)), (.ref ba)])) rfl (hb hby d26_38)
  refine own_go st2 ?_
  show OwnFin p e below s _ _ _ (T2.setTop (mkF m 41 #[rv ba, iv (1 : Int32), iv pc] [(.int (0 : Int32)), (.int pc), (.int (0 : Int32)), (.ref ba)]))
  refine own_go (fun t_ k_ => XS.ishr X2.here hx rfl (hb hby d26_41) rfl k_) ?_
  show OwnFin p e below s _ _ _ (T2.setTop (mkF m 42 #[rv ba, iv (1 : Int32), iv pc] [(.int (pc >>> ((0 : Int32) &&& 31))), (.int (0 : Int32)), (.ref ba)]))
  refine own_go (fun t_ k_ => XS.i2b X2.here hx rfl (hb hby d26_42) rfl k_) ?_
  show OwnFin p e below s _ _ _ (T2.setTop (mkF m 43 #[rv ba, iv (1 : Int32), iv pc] [(.int ((pc >>> ((0 : Int32) &&& 31)).toInt8.toInt32)), (.int (0 : Int32)), (.ref ba)]))
  obtain ⟨T3, h3, X3, e3, W3, A3, st3⟩ := own_bastore X2 hx hZ e2 V_ba (i := 0) (by decide) (by decide) (g := (mkF m 43 #[rv ba, iv (1 : Int32), iv pc] [(.int ((pc >>> ((0 : Int32) &&& 31)).toInt8.toInt32)), (.int (0 : Int32)), (.ref ba)])) rfl rfl (hb hby d26_43)
  have OL_3 := OL.wr W3 g_ba
  have Z3 : n0 ≤ h3.size := Nat.le_trans Z0 (Keep.of_wr W3).1
  have K3 : Keep h0 h3 [ba] := K0.wr W3 (Or.inl (List.mem_of_getElem? (i := 0) rfl))
  have N3 := Fr.snoc X3 N0 g_ba
  refine own_go st3 ?_
  show OwnFin p e below s _ _ _ (T3.setTop (mkF m 44 #[rv ba, iv (1 : Int32), iv pc] []))
  refine own_go (fun t_ k_ => XS.aloadN X3.here hx rfl (hb hby d26_44) rfl rfl k_) ?_
  show OwnFin p e below s _ _ _ (T3.setTop (mkF m 45 #[rv ba, iv (1 : Int32), iv pc] [(.ref ba)]))
  refine own_go (fun t_ k_ => XS.iloadN X3.here hx rfl (hb hby d26_45) rfl k_) ?_
  show OwnFin p e below s _ _ _ (T3.setTop (mkF m 46 #[rv ba, iv (1 : Int32), iv pc] [(.int (1 : Int32)), (.ref ba)]))
  refine own_go (fun t_ k_ => XS.iloadN X3.here hx rfl (hb hby d26_46) rfl k_) ?_
  show OwnFin p e below s _ _ _ (T3.setTop (mkF m 47 #[rv ba, iv (1 : Int32), iv pc] [(.int pc), (.int (1 : Int32)), (.ref ba)]))
  obtain ⟨T4, X4, e4, st4⟩ := getS2 X3 hx hZ hown (host := "") (Or.inl (hw _ (List.mem_of_getElem? (i := 124) rfl))) Via.refl e3 (S_lo.ext OL_3.2) (g := (mkF m 47 #[rv ba, iv (1 : Int32), iv pc] [(.int pc), (.int (1 : Int32)), (.ref ba)])) rfl (hb hby d26_47)
  refine own_go st4 ?_
  show OwnFin p e below s _ _ _ (T4.setTop (mkF m 50 #[rv ba, iv (1 : Int32), iv pc] [(.int (8 : Int32)), (.int pc), (.int (1 : Int32)), (.ref ba)]))
  refine own_go (fun t_ k_ => XS.ishr X4.here hx rfl (hb hby d26_50) rfl k_) ?_
  show OwnFin p e below s _ _ _ (T4.setTop (mkF m 51 #[rv ba, iv (1 : Int32), iv pc] [(.int (pc >>> ((8 : Int32) &&& 31))), (.int (1 : Int32)), (.ref ba)]))
  refine own_go (fun t_ k_ => XS.i2b X4.here hx rfl (hb hby d26_51) rfl k_) ?_
  show OwnFin p e below s _ _ _ (T4.setTop (mkF m 52 #[rv ba, iv (1 : Int32), iv pc] [(.int ((pc >>> ((8 : Int32) &&& 31)).toInt8.toInt32)), (.int (1 : Int32)), (.ref ba)]))
  obtain ⟨T5, h5, X5, e5, W5, A5, st5⟩ := own_bastore X4 hx hZ e4 A3 (i := 1) (by decide) (by decide) (g := (mkF m 52 #[rv ba, iv (1 : Int32), iv pc] [(.int ((pc >>> ((8 : Int32) &&& 31)).toInt8.toInt32)), (.int (1 : Int32)), (.ref ba)])) rfl rfl (hb hby d26_52)
  have OL_5 := OL_3.wr W5 g_ba
  have Z5 : n0 ≤ h5.size := Nat.le_trans Z3 (Keep.of_wr W5).1
  have K5 : Keep h0 h5 [ba] := K3.wr W5 (Or.inl (List.mem_of_getElem? (i := 0) rfl))
  have N5 := Fr.snoc X5 N3 g_ba
  refine own_go st5 ?_
  show OwnFin p e below s _ _ _ (T5.setTop (mkF m 53 #[rv ba, iv (1 : Int32), iv pc] []))
  refine own_ret X5 (v := none) hlk (fun _ => rfl) (fun fs hr => X5.returnOut hx hret (hb hby d26_53) hr) (by decide) (by decide) ?_
  rw [e5]
  exact ⟨rfl, N5, K5, A5.congr (fun z _ => by (try dsimp only); repeat (first | rfl | split))⟩
theorem ef_26_1 (m : MethodId) (ba : Addr) (pc : Int32) : entryFrame m #[(.ref ba), (.int (1 : Int32)), (.int pc)] 3 = mkF m 0 #[rv ba, iv (1 : Int32), iv pc] [] := by first | (simp [entryFrame, mkF, argsToLocals, Value.category]; done) | rfl
set_option maxRecDepth 65536 in
set_option maxHeartbeats 40000000 in
theorem rm26_1 (l : Launch) (Z : State) (a0 : Array Value) (hw : ∀ d ∈ tables_1, d.before a0 Z = true) (ws : List Jvm.Cond) (ba : Addr) (pc : Int32) (f : Nat → Int32) (h0 : Heap) (n0 : Nat) (Z0 : n0 ≤ h0.size) (V_ba : OwnArr Z h0 ba .byte 4 (fun k => .int (f k))) (g_ba : n0 ≤ ba) (S_as : Sta Z Z.heap "java/lang/StringUTF16" "$assertionsDisabled" "Z" (.int (1 : Int32))) (S_hi : Sta Z Z.heap "java/lang/StringUTF16" "HI_BYTE_SHIFT" "I" (.int (0 : Int32))) (S_lo : Sta Z Z.heap "java/lang/StringUTF16" "LO_BYTE_SHIFT" "I" (.int (8 : Int32))) (OL : Old Z n0 h0) :
    OwnCtr l Z (⟨"java/lang/StringUTF16", "putChar", "([BII)V"⟩ : MethodName) ws jdk_52_method_4_code 3 none ({ frames := 0, cells := 0, slots := 0, locals := 0 } : Room) #[(.ref ba), (.int (1 : Int32)), (.int pc)] h0 (fun v h L => v = none ∧ Fr n0 L ∧ Keep h0 h [ba] ∧ OwnArr Z h ba .byte 4 (fun k => .int (if k = 3 then own_b1 pc else if k = 2 then own_b0 pc else f k))) := by
  refine own_body (g0 := fun m => mkF m 0 #[rv ba, iv (1 : Int32), iv pc] []) pn_26 (fun m => ef_26_1 m ba pc) ?_
  intro p e s m below meth c s₁ X0 hx hby hml hown hnm hZ e0 hret hlk
  have hml : c.maxLocals = 3 := hml
  have hown : s.vm.findClass "java/lang/StringUTF16" = some m.cls := hown
  have hnm : meth.name = "putChar" := hnm
  have hret : meth.sig.returnType = none := hret
  have N0 := Fr.nil n0
  have K0 := Keep.refl h0 [ba]
  show OwnFin p e below s _ _ _ (s₁.setTop (mkF m 0 #[rv ba, iv (1 : Int32), iv pc] []))
  obtain ⟨T1, X1, e1, st1⟩ := getS2 X0 hx hZ hown (host := "") (Or.inl (hw _ (List.mem_of_getElem? (i := 122) rfl))) Via.refl e0 (S_as.ext OL.2) (g := (mkF m 0 #[rv ba, iv (1 : Int32), iv pc] [])) rfl (hb hby d26_0)
  refine own_go st1 ?_
  show OwnFin p e below s _ _ _ (T1.setTop (mkF m 3 #[rv ba, iv (1 : Int32), iv pc] [(.int (1 : Int32))]))
  refine own_go (fun t_ k_ => XS.ifYes X1.here hx rfl (pc0 := 3) (pc' := 28) rfl (hb hby d26_3) rfl ((if0 _ _).trans (feq (by decide)).2) (by decide) (by decide) k_) ?_
  show OwnFin p e below s _ _ _ (T1.setTop (mkF m 28 #[rv ba, iv (1 : Int32), iv pc] []))
  refine own_go (fun t_ k_ => XS.iloadN X1.here hx rfl (hb hby d26_28) rfl k_) ?_
  show OwnFin p e below s _ _ _ (T1.setTop (mkF m 29 #[rv ba, iv (1 : Int32), iv pc] [(.int (1 : Int32))]))
  refine own_go (fun t_ k_ => XS.iconst X1.here hx rfl (hb hby d26_29) k_) ?_
  show OwnFin p e below s _ _ _ (T1.setTop (mkF m 30 #[rv ba, iv (1 : Int32), iv pc] [(.int (1 : Int32)), (.int (1 : Int32))]))
  refine own_go (fun t_ k_ => XS.ishl X1.here hx rfl (hb hby d26_30) rfl k_) ?_
  show OwnFin p e below s _ _ _ (T1.setTop (mkF m 31 #[rv ba, iv (1 : Int32), iv pc] [(.int (2 : Int32))]))
  refine own_go (fun t_ k_ => XS.istoreN X1.here hx rfl (hb hby d26_31) rfl (l' := #[rv ba, iv (2 : Int32), iv pc]) rfl k_) ?_
  show OwnFin p e below s _ _ _ (T1.setTop (mkF m 32 #[rv ba, iv (2 : Int32), iv pc] []))
  refine own_go (fun t_ k_ => XS.aloadN X1.here hx rfl (hb hby d26_32) rfl rfl k_) ?_
  show OwnFin p e below s _ _ _ (T1.setTop (mkF m 33 #[rv ba, iv (2 : Int32), iv pc] [(.ref ba)]))
  refine own_go (fun t_ k_ => XS.iloadN X1.here hx rfl (hb hby d26_33) rfl k_) ?_
  show OwnFin p e below s _ _ _ (T1.setTop (mkF m 34 #[rv ba, iv (2 : Int32), iv pc] [(.int (2 : Int32)), (.ref ba)]))
  refine own_go (fun t_ k_ => XS.iinc X1.here hx rfl (hb hby d26_34) rfl (l' := #[rv ba, iv (3 : Int32), iv pc]) rfl k_) ?_
  show OwnFin p e below s _ _ _ (T1.setTop (mkF m 37 #[rv ba, iv (3 : Int32), iv pc] [(.int (2 : Int32)), (.ref ba)]))
  refine own_go (fun t_ k_ => XS.iloadN X1.here hx rfl (hb hby d26_37) rfl k_) ?_
  show OwnFin p e below s _ _ _ (T1.setTop (mkF m 38 #[rv ba, iv (3 : Int32), iv pc] [(.int pc), (.int (2 : Int32)), (.ref ba)]))
  obtain ⟨T2, X2, e2, st2⟩ := getS2 X1 hx hZ hown (host := "") (Or.inl (hw _ (List.mem_of_getElem? (i := 123) rfl))) Via.refl e1 (S_hi.ext OL.2) (g := (mkF m 38 #[rv ba, iv (3 : Int32), iv pc] [(.int pc), (.int (2 : Int32)), (.ref ba)])) rfl (hb hby d26_38)
  refine own_go st2 ?_
  show OwnFin p e below s _ _ _ (T2.setTop (mkF m 41 #[rv ba, iv (3 : Int32), iv pc] [(.int (0 : Int32)), (.int pc), (.int (2 : Int32)), (.ref ba)]))
  refine own_go (fun t_ k_ => XS.ishr X2.here hx rfl (hb hby d26_41) rfl k_) ?_
  show OwnFin p e below s _ _ _ (T2.setTop (mkF m 42 #[rv ba, iv (3 : Int32), iv pc] [(.int (pc >>> ((0 : Int32) &&& 31))), (.int (2 : Int32)), (.ref ba)]))
  refine own_go (fun t_ k_ => XS.i2b X2.here hx rfl (hb hby d26_42) rfl k_) ?_
  show OwnFin p e below s _ _ _ (T2.setTop (mkF m 43 #[rv ba, iv (3 : Int32), iv pc] [(.int ((pc >>> ((0 : Int32) &&& 31)).toInt8.toInt32)), (.int (2 : Int32)), (.ref ba)]))
  obtain ⟨T3, h3, X3, e3, W3, A3, st3⟩ := own_bastore X2 hx hZ e2 V_ba (i := 2) (by decide) (by decide) (g := (mkF m 43 #[rv ba, iv (3 : Int32), iv pc] [(.int ((pc >>> ((0 : Int32) &&& 31)).toInt8.toInt32)), (.int (2 : Int32)), (.ref ba)])) rfl rfl (hb hby d26_43)
  have OL_3 := OL.wr W3 g_ba
  have Z3 : n0 ≤ h3.size := Nat.le_trans Z0 (Keep.of_wr W3).1
  have K3 : Keep h0 h3 [ba] := K0.wr W3 (Or.inl (List.mem_of_getElem? (i := 0) rfl))
  have N3 := Fr.snoc X3 N0 g_ba
  refine own_go st3 ?_
  show OwnFin p e below s _ _ _ (T3.setTop (mkF m 44 #[rv ba, iv (3 : Int32), iv pc] []))
  refine own_go (fun t_ k_ => XS.aloadN X3.here hx rfl (hb hby d26_44) rfl rfl k_) ?_
  show OwnFin p e below s _ _ _ (T3.setTop (mkF m 45 #[rv ba, iv (3 : Int32), iv pc] [(.ref ba)]))
  refine own_go (fun t_ k_ => XS.iloadN X3.here hx rfl (hb hby d26_45) rfl k_) ?_
  show OwnFin p e below s _ _ _ (T3.setTop (mkF m 46 #[rv ba, iv (3 : Int32), iv pc] [(.int (3 : Int32)), (.ref ba)]))
  refine own_go (fun t_ k_ => XS.iloadN X3.here hx rfl (hb hby d26_46) rfl k_) ?_
  show OwnFin p e below s _ _ _ (T3.setTop (mkF m 47 #[rv ba, iv (3 : Int32), iv pc] [(.int pc), (.int (3 : Int32)), (.ref ba)]))
  obtain ⟨T4, X4, e4, st4⟩ := getS2 X3 hx hZ hown (host := "") (Or.inl (hw _ (List.mem_of_getElem? (i := 124) rfl))) Via.refl e3 (S_lo.ext OL_3.2) (g := (mkF m 47 #[rv ba, iv (3 : Int32), iv pc] [(.int pc), (.int (3 : Int32)), (.ref ba)])) rfl (hb hby d26_47)
  refine own_go st4 ?_
  show OwnFin p e below s _ _ _ (T4.setTop (mkF m 50 #[rv ba, iv (3 : Int32), iv pc] [(.int (8 : Int32)), (.int pc), (.int (3 : Int32)), (.ref ba)]))
  refine own_go (fun t_ k_ => XS.ishr X4.here hx rfl (hb hby d26_50) rfl k_) ?_
  show OwnFin p e below s _ _ _ (T4.setTop (mkF m 51 #[rv ba, iv (3 : Int32), iv pc] [(.int (pc >>> ((8 : Int32) &&& 31))), (.int (3 : Int32)), (.ref ba)]))
  refine own_go (fun t_ k_ => XS.i2b X4.here hx rfl (hb hby d26_51) rfl k_) ?_
  show OwnFin p e below s _ _ _ (T4.setTop (mkF m 52 #[rv ba, iv (3 : Int32), iv pc] [(.int ((pc >>> ((8 : Int32) &&& 31)).toInt8.toInt32)), (.int (3 : Int32)), (.ref ba)]))
  obtain ⟨T5, h5, X5, e5, W5, A5, st5⟩ := own_bastore X4 hx hZ e4 A3 (i := 3) (by decide) (by decide) (g := (mkF m 52 #[rv ba, iv (3 : Int32), iv pc] [(.int ((pc >>> ((8 : Int32) &&& 31)).toInt8.toInt32)), (.int (3 : Int32)), (.ref ba)])) rfl rfl (hb hby d26_52)
  have OL_5 := OL_3.wr W5 g_ba
  have Z5 : n0 ≤ h5.size := Nat.le_trans Z3 (Keep.of_wr W5).1
  have K5 : Keep h0 h5 [ba] := K3.wr W5 (Or.inl (List.mem_of_getElem? (i := 0) rfl))
  have N5 := Fr.snoc X5 N3 g_ba
  refine own_go st5 ?_
  show OwnFin p e below s _ _ _ (T5.setTop (mkF m 53 #[rv ba, iv (3 : Int32), iv pc] []))
  refine own_ret X5 (v := none) hlk (fun _ => rfl) (fun fs hr => X5.returnOut hx hret (hb hby d26_53) hr) (by decide) (by decide) ?_
  rw [e5]
  exact ⟨rfl, N5, K5, A5.congr (fun z _ => by (try dsimp only); repeat (first | rfl | split))⟩
theorem d27_0 : decode jdk_52_method_5_code 0 = .ok (.getstatic 44, 3) := by decide +kernel
theorem d27_3 : decode jdk_52_method_5_code 3 = .ok (.ifCond .ne 25, 3) := by decide +kernel
theorem d27_6 : decode jdk_52_method_5_code 6 = .ok (.iload_n 1, 1) := by decide +kernel
theorem d27_7 : decode jdk_52_method_5_code 7 = .ok (.ifCond .lt 11, 3) := by decide +kernel
theorem d27_10 : decode jdk_52_method_5_code 10 = .ok (.iload_n 1, 1) := by decide +kernel
theorem d27_11 : decode jdk_52_method_5_code 11 = .ok (.aload_n 0, 1) := by decide +kernel
theorem d27_12 : decode jdk_52_method_5_code 12 = .ok (.invokestatic 48, 3) := by decide +kernel
theorem d27_15 : decode jdk_52_method_5_code 15 = .ok (.if_icmp .lt 13, 3) := by decide +kernel
theorem d27_18 : decode jdk_52_method_5_code 18 = .ok (.new 52, 3) := by decide +kernel
theorem d27_21 : decode jdk_52_method_5_code 21 = .ok (.dup, 1) := by decide +kernel
theorem d27_22 : decode jdk_52_method_5_code 22 = .ok (.ldc 54, 2) := by decide +kernel
theorem d27_24 : decode jdk_52_method_5_code 24 = .ok (.invokespecial 56, 3) := by decide +kernel
theorem d27_27 : decode jdk_52_method_5_code 27 = .ok (.athrow, 1) := by decide +kernel
theorem d27_28 : decode jdk_52_method_5_code 28 = .ok (.iload_n 1, 1) := by decide +kernel
theorem d27_29 : decode jdk_52_method_5_code 29 = .ok (.iconst 1, 1) := by decide +kernel
theorem d27_30 : decode jdk_52_method_5_code 30 = .ok (.ishl, 1) := by decide +kernel
theorem d27_31 : decode jdk_52_method_5_code 31 = .ok (.istore_n 1, 1) := by decide +kernel
theorem d27_32 : decode jdk_52_method_5_code 32 = .ok (.aload_n 0, 1) := by decide +kernel
theorem d27_33 : decode jdk_52_method_5_code 33 = .ok (.iload_n 1, 1) := by decide +kernel
theorem d27_34 : decode jdk_52_method_5_code 34 = .ok (.iinc 1 1, 3) := by decide +kernel
theorem d27_37 : decode jdk_52_method_5_code 37 = .ok (.baload, 1) := by decide +kernel
theorem d27_38 : decode jdk_52_method_5_code 38 = .ok (.sipush 255, 3) := by decide +kernel
theorem d27_41 : decode jdk_52_method_5_code 41 = .ok (.iand, 1) := by decide +kernel
theorem d27_42 : decode jdk_52_method_5_code 42 = .ok (.getstatic 59, 3) := by decide +kernel
theorem d27_45 : decode jdk_52_method_5_code 45 = .ok (.ishl, 1) := by decide +kernel
theorem d27_46 : decode jdk_52_method_5_code 46 = .ok (.aload_n 0, 1) := by decide +kernel
theorem d27_47 : decode jdk_52_method_5_code 47 = .ok (.iload_n 1, 1) := by decide +kernel
theorem d27_48 : decode jdk_52_method_5_code 48 = .ok (.baload, 1) := by decide +kernel
theorem d27_49 : decode jdk_52_method_5_code 49 = .ok (.sipush 255, 3) := by decide +kernel
theorem d27_52 : decode jdk_52_method_5_code 52 = .ok (.iand, 1) := by decide +kernel
theorem d27_53 : decode jdk_52_method_5_code 53 = .ok (.getstatic 63, 3) := by decide +kernel
theorem d27_56 : decode jdk_52_method_5_code 56 = .ok (.ishl, 1) := by decide +kernel
theorem d27_57 : decode jdk_52_method_5_code 57 = .ok (.ior, 1) := by decide +kernel
theorem d27_58 : decode jdk_52_method_5_code 58 = .ok (.i2c, 1) := by decide +kernel
theorem d27_59 : decode jdk_52_method_5_code 59 = .ok (.ireturn, 1) := by decide +kernel
theorem pn_27 : plainFor (⟨"java/lang/StringUTF16", "getChar", "([BI)C"⟩ : MethodName) = true := plainFor_of_name (by first | (simp [plainName, overriddenIn]; done) | decide +kernel)
theorem pd_27_21 : parseMethodDescriptor "([B)I" = some ⟨[(.array .byte)], some .int⟩ := by decide +kernel
theorem ef_27 (m : MethodId) (a1 : Addr) (p2 : Int32) : entryFrame m #[(.ref a1), (.int p2)] 2 = mkF m 0 #[rv a1, iv p2] [] := by first | (simp [entryFrame, mkF, argsToLocals, Value.category]; done) | rfl
theorem ef_27_0 (m : MethodId) (ba : Addr) : entryFrame m #[(.ref ba), (.int (0 : Int32))] 2 = mkF m 0 #[rv ba, iv (0 : Int32)] [] := by first | (simp [entryFrame, mkF, argsToLocals, Value.category]; done) | rfl
set_option maxRecDepth 65536 in
set_option maxHeartbeats 40000000 in
theorem rm27_0 (l : Launch) (Z : State) (a0 : Array Value) (hw : ∀ d ∈ tables_1, d.before a0 Z = true) (ws : List Jvm.Cond) (ba : Addr) (x0 : Int32) (x1 : Int32) (x2 : Int32) (x3 : Int32) (h0 : Heap) (n0 : Nat) (Z0 : n0 ≤ h0.size) (V_ba : OwnArr Z h0 ba .byte 4 (fun k => .int (own_four x0 x1 x2 x3 k))) (S_as : Sta Z Z.heap "java/lang/StringUTF16" "$assertionsDisabled" "Z" (.int (1 : Int32))) (S_hi : Sta Z Z.heap "java/lang/StringUTF16" "HI_BYTE_SHIFT" "I" (.int (0 : Int32))) (S_lo : Sta Z Z.heap "java/lang/StringUTF16" "LO_BYTE_SHIFT" "I" (.int (8 : Int32))) (OL : Old Z n0 h0) :
    OwnCtr l Z (⟨"java/lang/StringUTF16", "getChar", "([BI)C"⟩ : MethodName) ws jdk_52_method_5_code 2 (some .char) ({ frames := 0, cells := 0, slots := 0, locals := 0 } : Room) #[(.ref ba), (.int (0 : Int32))] h0 (fun v h L => v = some (.int (own_gc x0 x1)) ∧ Fr n0 L ∧ h = h0) := by
  refine own_body (g0 := fun m => mkF m 0 #[rv ba, iv (0 : Int32)] []) pn_27 (fun m => ef_27_0 m ba) ?_
  intro p e s m below meth c s₁ X0 hx hby hml hown hnm hZ e0 hret hlk
  have hml : c.maxLocals = 2 := hml
  have hown : s.vm.findClass "java/lang/StringUTF16" = some m.cls := hown
  have hnm : meth.name = "getChar" := hnm
  have hret : meth.sig.returnType = (some .char) := hret
  have N0 := Fr.nil n0
  show OwnFin p e below s _ _ _ (s₁.setTop (mkF m 0 #[rv ba, iv (0 : Int32)] []))
  obtain ⟨T1, X1, e1, st1⟩ := getS2 X0 hx hZ hown (host := "") (Or.inl (hw _ (List.mem_of_getElem? (i := 122) rfl))) Via.refl e0 (S_as.ext OL.2) (g := (mkF m 0 #[rv ba, iv (0 : Int32)] [])) rfl (hb hby d27_0)
  refine own_go st1 ?_
  show OwnFin p e below s _ _ _ (T1.setTop (mkF m 3 #[rv ba, iv (0 : Int32)] [(.int (1 : Int32))]))
  refine own_go (fun t_ k_ => XS.ifYes X1.here hx rfl (pc0 := 3) (pc' := 28) rfl (hb hby d27_3) rfl ((if0 _ _).trans (feq (by decide)).2) (by decide) (by decide) k_) ?_
  show OwnFin p e below s _ _ _ (T1.setTop (mkF m 28 #[rv ba, iv (0 : Int32)] []))
  refine own_go (fun t_ k_ => XS.iloadN X1.here hx rfl (hb hby d27_28) rfl k_) ?_
  show OwnFin p e below s _ _ _ (T1.setTop (mkF m 29 #[rv ba, iv (0 : Int32)] [(.int (0 : Int32))]))
  refine own_go (fun t_ k_ => XS.iconst X1.here hx rfl (hb hby d27_29) k_) ?_
  show OwnFin p e below s _ _ _ (T1.setTop (mkF m 30 #[rv ba, iv (0 : Int32)] [(.int (1 : Int32)), (.int (0 : Int32))]))
  refine own_go (fun t_ k_ => XS.ishl X1.here hx rfl (hb hby d27_30) rfl k_) ?_
  show OwnFin p e below s _ _ _ (T1.setTop (mkF m 31 #[rv ba, iv (0 : Int32)] [(.int (0 : Int32))]))
  refine own_go (fun t_ k_ => XS.istoreN X1.here hx rfl (hb hby d27_31) rfl (l' := #[rv ba, iv (0 : Int32)]) rfl k_) ?_
  show OwnFin p e below s _ _ _ (T1.setTop (mkF m 32 #[rv ba, iv (0 : Int32)] []))
  refine own_go (fun t_ k_ => XS.aloadN X1.here hx rfl (hb hby d27_32) rfl rfl k_) ?_
  show OwnFin p e below s _ _ _ (T1.setTop (mkF m 33 #[rv ba, iv (0 : Int32)] [(.ref ba)]))
  refine own_go (fun t_ k_ => XS.iloadN X1.here hx rfl (hb hby d27_33) rfl k_) ?_
  show OwnFin p e below s _ _ _ (T1.setTop (mkF m 34 #[rv ba, iv (0 : Int32)] [(.int (0 : Int32)), (.ref ba)]))
  refine own_go (fun t_ k_ => XS.iinc X1.here hx rfl (hb hby d27_34) rfl (l' := #[rv ba, iv (1 : Int32)]) rfl k_) ?_
  show OwnFin p e below s _ _ _ (T1.setTop (mkF m 37 #[rv ba, iv (1 : Int32)] [(.int (0 : Int32)), (.ref ba)]))
  refine own_go (own_baload X1 hx hZ e1 V_ba (i := 0) (by decide) (by decide) (g := (mkF m 37 #[rv ba, iv (1 : Int32)] [(.int (0 : Int32)), (.ref ba)])) rfl rfl (hb hby d27_37)) ?_
  show OwnFin p e below s _ _ _ (T1.setTop (mkF m 38 #[rv ba, iv (1 : Int32)] [(.int x0)]))
  refine own_go (fun t_ k_ => XS.sipush X1.here hx rfl (hb hby d27_38) k_) ?_
  show OwnFin p e below s _ _ _ (T1.setTop (mkF m 41 #[rv ba, iv (1 : Int32)] [(.int (255 : Int32)), (.int x0)]))
  refine own_go (fun t_ k_ => XS.iand X1.here hx rfl (hb hby d27_41) rfl k_) ?_
  show OwnFin p e below s _ _ _ (T1.setTop (mkF m 42 #[rv ba, iv (1 : Int32)] [(.int (x0 &&& (255 : Int32)))]))
  obtain ⟨T2, X2, e2, st2⟩ := getS2 X1 hx hZ hown (host := "") (Or.inl (hw _ (List.mem_of_getElem? (i := 123) rfl))) Via.refl e1 (S_hi.ext OL.2) (g := (mkF m 42 #[rv ba, iv (1 : Int32)] [(.int (x0 &&& (255 : Int32)))])) rfl (hb hby d27_42)
  refine own_go st2 ?_
  show OwnFin p e below s _ _ _ (T2.setTop (mkF m 45 #[rv ba, iv (1 : Int32)] [(.int (0 : Int32)), (.int (x0 &&& (255 : Int32)))]))
  refine own_go (fun t_ k_ => XS.ishl X2.here hx rfl (hb hby d27_45) rfl k_) ?_
  show OwnFin p e below s _ _ _ (T2.setTop (mkF m 46 #[rv ba, iv (1 : Int32)] [(.int ((x0 &&& (255 : Int32)) <<< ((0 : Int32) &&& 31)))]))
  refine own_go (fun t_ k_ => XS.aloadN X2.here hx rfl (hb hby d27_46) rfl rfl k_) ?_
  show OwnFin p e below s _ _ _ (T2.setTop (mkF m 47 #[rv ba, iv (1 : Int32)] [(.ref ba), (.int ((x0 &&& (255 : Int32)) <<< ((0 : Int32) &&& 31)))]))
  refine own_go (fun t_ k_ => XS.iloadN X2.here hx rfl (hb hby d27_47) rfl k_) ?_
  show OwnFin p e below s _ _ _ (T2.setTop (mkF m 48 #[rv ba, iv (1 : Int32)] [(.int (1 : Int32)), (.ref ba), (.int ((x0 &&& (255 : Int32)) <<< ((0 : Int32) &&& 31)))]))
  refine own_go (own_baload X2 hx hZ e2 V_ba (i := 1) (by decide) (by decide) (g := (mkF m 48 #[rv ba, iv (1 : Int32)] [(.int (1 : Int32)), (.ref ba), (.int ((x0 &&& (255 : Int32)) <<< ((0 : Int32) &&& 31)))])) rfl rfl (hb hby d27_48)) ?_
  show OwnFin p e below s _ _ _ (T2.setTop (mkF m 49 #[rv ba, iv (1 : Int32)] [(.int x1), (.int ((x0 &&& (255 : Int32)) <<< ((0 : Int32) &&& 31)))]))
  refine own_go (fun t_ k_ => XS.sipush X2.here hx rfl (hb hby d27_49) k_) ?_
  show OwnFin p e below s _ _ _ (T2.setTop (mkF m 52 #[rv ba, iv (1 : Int32)] [(.int (255 : Int32)), (.int x1), (.int ((x0 &&& (255 : Int32)) <<< ((0 : Int32) &&& 31)))]))
  refine own_go (fun t_ k_ => XS.iand X2.here hx rfl (hb hby d27_52) rfl k_) ?_
  show OwnFin p e below s _ _ _ (T2.setTop (mkF m 53 #[rv ba, iv (1 : Int32)] [(.int (x1 &&& (255 : Int32))), (.int ((x0 &&& (255 : Int32)) <<< ((0 : Int32) &&& 31)))]))
  obtain ⟨T3, X3, e3, st3⟩ := getS2 X2 hx hZ hown (host := "") (Or.inl (hw _ (List.mem_of_getElem? (i := 124) rfl))) Via.refl e2 (S_lo.ext OL.2) (g := (mkF m 53 #[rv ba, iv (1 : Int32)] [(.int (x1 &&& (255 : Int32))), (.int ((x0 &&& (255 : Int32)) <<< ((0 : Int32) &&& 31)))])) rfl (hb hby d27_53)
  refine own_go st3 ?_
  show OwnFin p e below s _ _ _ (T3.setTop (mkF m 56 #[rv ba, iv (1 : Int32)] [(.int (8 : Int32)), (.int (x1 &&& (255 : Int32))), (.int ((x0 &&& (255 : Int32)) <<< ((0 : Int32) &&& 31)))]))
  refine own_go (fun t_ k_ => XS.ishl X3.here hx rfl (hb hby d27_56) rfl k_) ?_
  show OwnFin p e below s _ _ _ (T3.setTop (mkF m 57 #[rv ba, iv (1 : Int32)] [(.int ((x1 &&& (255 : Int32)) <<< ((8 : Int32) &&& 31))), (.int ((x0 &&& (255 : Int32)) <<< ((0 : Int32) &&& 31)))]))
  refine own_go (fun t_ k_ => XS.ior X3.here hx rfl (hb hby d27_57) rfl k_) ?_
  show OwnFin p e below s _ _ _ (T3.setTop (mkF m 58 #[rv ba, iv (1 : Int32)] [(.int (((x0 &&& (255 : Int32)) <<< ((0 : Int32) &&& 31)) ||| ((x1 &&& (255 : Int32)) <<< ((8 : Int32) &&& 31))))]))
  refine own_go (fun t_ k_ => XS.i2c X3.here hx rfl (hb hby d27_58) rfl k_) ?_
  show OwnFin p e below s _ _ _ (T3.setTop (mkF m 59 #[rv ba, iv (1 : Int32)] [(.int ((((x0 &&& (255 : Int32)) <<< ((0 : Int32) &&& 31)) ||| ((x1 &&& (255 : Int32)) <<< ((8 : Int32) &&& 31))).toUInt32.toUInt16.toUInt32.toInt32))]))
  refine own_ret X3 (v := some (.int (nar .char ((((x0 &&& (255 : Int32)) <<< ((0 : Int32) &&& 31)) ||| ((x1 &&& (255 : Int32)) <<< ((8 : Int32) &&& 31))).toUInt32.toUInt16.toUInt32.toInt32)))) hlk (fun hh => by rw [hret] at hh; cases hh) (fun fs hr => retN X3 hx (t := .char) hret (by simp) (hb hby d27_59) hr) (by decide) (by decide) ?_
  rw [e3]
  exact ⟨rfl, N0, rfl⟩
theorem ef_27_1 (m : MethodId) (ba : Addr) : entryFrame m #[(.ref ba), (.int (1 : Int32))] 2 = mkF m 0 #[rv ba, iv (1 : Int32)] [] := by first | (simp [entryFrame, mkF, argsToLocals, Value.category]; done) | rfl
set_option maxRecDepth 65536 in
set_option maxHeartbeats 40000000 in
theorem rm27_1 (l : Launch) (Z : State) (a0 : Array Value) (hw : ∀ d ∈ tables_1, d.before a0 Z = true) (ws : List Jvm.Cond) (ba : Addr) (x0 : Int32) (x1 : Int32) (x2 : Int32) (x3 : Int32) (h0 : Heap) (n0 : Nat) (Z0 : n0 ≤ h0.size) (V_ba : OwnArr Z h0 ba .byte 4 (fun k => .int (own_four x0 x1 x2 x3 k))) (S_as : Sta Z Z.heap "java/lang/StringUTF16" "$assertionsDisabled" "Z" (.int (1 : Int32))) (S_hi : Sta Z Z.heap "java/lang/StringUTF16" "HI_BYTE_SHIFT" "I" (.int (0 : Int32))) (S_lo : Sta Z Z.heap "java/lang/StringUTF16" "LO_BYTE_SHIFT" "I" (.int (8 : Int32))) (OL : Old Z n0 h0) :
    OwnCtr l Z (⟨"java/lang/StringUTF16", "getChar", "([BI)C"⟩ : MethodName) ws jdk_52_method_5_code 2 (some .char) ({ frames := 0, cells := 0, slots := 0, locals := 0 } : Room) #[(.ref ba), (.int (1 : Int32))] h0 (fun v h L => v = some (.int (own_gc x2 x3)) ∧ Fr n0 L ∧ h = h0) := by
  refine own_body (g0 := fun m => mkF m 0 #[rv ba, iv (1 : Int32)] []) pn_27 (fun m => ef_27_1 m ba) ?_
  intro p e s m below meth c s₁ X0 hx hby hml hown hnm hZ e0 hret hlk
  have hml : c.maxLocals = 2 := hml
  have hown : s.vm.findClass "java/lang/StringUTF16" = some m.cls := hown
  have hnm : meth.name = "getChar" := hnm
  have hret : meth.sig.returnType = (some .char) := hret
  have N0 := Fr.nil n0
  show OwnFin p e below s _ _ _ (s₁.setTop (mkF m 0 #[rv ba, iv (1 : Int32)] []))
  obtain ⟨T1, X1, e1, st1⟩ := getS2 X0 hx hZ hown (host := "") (Or.inl (hw _ (List.mem_of_getElem? (i := 122) rfl))) Via.refl e0 (S_as.ext OL.2) (g := (mkF m 0 #[rv ba, iv (1 : Int32)] [])) rfl (hb hby d27_0)
  refine own_go st1 ?_
  show OwnFin p e below s _ _ _ (T1.setTop (mkF m 3 #[rv ba, iv (1 : Int32)] [(.int (1 : Int32))]))
  refine own_go (fun t_ k_ => XS.ifYes X1.here hx rfl (pc0 := 3) (pc' := 28) rfl (hb hby d27_3) rfl ((if0 _ _).trans (feq (by decide)).2) (by decide) (by decide) k_) ?_
  show OwnFin p e below s _ _ _ (T1.setTop (mkF m 28 #[rv ba, iv (1 : Int32)] []))
  refine own_go (fun t_ k_ => XS.iloadN X1.here hx rfl (hb hby d27_28) rfl k_) ?_
  show OwnFin p e below s _ _ _ (T1.setTop (mkF m 29 #[rv ba, iv (1 : Int32)] [(.int (1 : Int32))]))
  refine own_go (fun t_ k_ => XS.iconst X1.here hx rfl (hb hby d27_29) k_) ?_
  show OwnFin p e below s _ _ _ (T1.setTop (mkF m 30 #[rv ba, iv (1 : Int32)] [(.int (1 : Int32)), (.int (1 : Int32))]))
  refine own_go (fun t_ k_ => XS.ishl X1.here hx rfl (hb hby d27_30) rfl k_) ?_
  show OwnFin p e below s _ _ _ (T1.setTop (mkF m 31 #[rv ba, iv (1 : Int32)] [(.int (2 : Int32))]))
  refine own_go (fun t_ k_ => XS.istoreN X1.here hx rfl (hb hby d27_31) rfl (l' := #[rv ba, iv (2 : Int32)]) rfl k_) ?_
  show OwnFin p e below s _ _ _ (T1.setTop (mkF m 32 #[rv ba, iv (2 : Int32)] []))
  refine own_go (fun t_ k_ => XS.aloadN X1.here hx rfl (hb hby d27_32) rfl rfl k_) ?_
  show OwnFin p e below s _ _ _ (T1.setTop (mkF m 33 #[rv ba, iv (2 : Int32)] [(.ref ba)]))
  refine own_go (fun t_ k_ => XS.iloadN X1.here hx rfl (hb hby d27_33) rfl k_) ?_
  show OwnFin p e below s _ _ _ (T1.setTop (mkF m 34 #[rv ba, iv (2 : Int32)] [(.int (2 : Int32)), (.ref ba)]))
  refine own_go (fun t_ k_ => XS.iinc X1.here hx rfl (hb hby d27_34) rfl (l' := #[rv ba, iv (3 : Int32)]) rfl k_) ?_
  show OwnFin p e below s _ _ _ (T1.setTop (mkF m 37 #[rv ba, iv (3 : Int32)] [(.int (2 : Int32)), (.ref ba)]))
  refine own_go (own_baload X1 hx hZ e1 V_ba (i := 2) (by decide) (by decide) (g := (mkF m 37 #[rv ba, iv (3 : Int32)] [(.int (2 : Int32)), (.ref ba)])) rfl rfl (hb hby d27_37)) ?_
  show OwnFin p e below s _ _ _ (T1.setTop (mkF m 38 #[rv ba, iv (3 : Int32)] [(.int x2)]))
  refine own_go (fun t_ k_ => XS.sipush X1.here hx rfl (hb hby d27_38) k_) ?_
  show OwnFin p e below s _ _ _ (T1.setTop (mkF m 41 #[rv ba, iv (3 : Int32)] [(.int (255 : Int32)), (.int x2)]))
  refine own_go (fun t_ k_ => XS.iand X1.here hx rfl (hb hby d27_41) rfl k_) ?_
  show OwnFin p e below s _ _ _ (T1.setTop (mkF m 42 #[rv ba, iv (3 : Int32)] [(.int (x2 &&& (255 : Int32)))]))
  obtain ⟨T2, X2, e2, st2⟩ := getS2 X1 hx hZ hown (host := "") (Or.inl (hw _ (List.mem_of_getElem? (i := 123) rfl))) Via.refl e1 (S_hi.ext OL.2) (g := (mkF m 42 #[rv ba, iv (3 : Int32)] [(.int (x2 &&& (255 : Int32)))])) rfl (hb hby d27_42)
  refine own_go st2 ?_
  show OwnFin p e below s _ _ _ (T2.setTop (mkF m 45 #[rv ba, iv (3 : Int32)] [(.int (0 : Int32)), (.int (x2 &&& (255 : Int32)))]))
  refine own_go (fun t_ k_ => XS.ishl X2.here hx rfl (hb hby d27_45) rfl k_) ?_
  show OwnFin p e below s _ _ _ (T2.setTop (mkF m 46 #[rv ba, iv (3 : Int32)] [(.int ((x2 &&& (255 : Int32)) <<< ((0 : Int32) &&& 31)))]))
  refine own_go (fun t_ k_ => XS.aloadN X2.here hx rfl (hb hby d27_46) rfl rfl k_) ?_
  show OwnFin p e below s _ _ _ (T2.setTop (mkF m 47 #[rv ba, iv (3 : Int32)] [(.ref ba), (.int ((x2 &&& (255 : Int32)) <<< ((0 : Int32) &&& 31)))]))
  refine own_go (fun t_ k_ => XS.iloadN X2.here hx rfl (hb hby d27_47) rfl k_) ?_
  show OwnFin p e below s _ _ _ (T2.setTop (mkF m 48 #[rv ba, iv (3 : Int32)] [(.int (3 : Int32)), (.ref ba), (.int ((x2 &&& (255 : Int32)) <<< ((0 : Int32) &&& 31)))]))
  refine own_go (own_baload X2 hx hZ e2 V_ba (i := 3) (by decide) (by decide) (g := (mkF m 48 #[rv ba, iv (3 : Int32)] [(.int (3 : Int32)), (.ref ba), (.int ((x2 &&& (255 : Int32)) <<< ((0 : Int32) &&& 31)))])) rfl rfl (hb hby d27_48)) ?_
  show OwnFin p e below s _ _ _ (T2.setTop (mkF m 49 #[rv ba, iv (3 : Int32)] [(.int x3), (.int ((x2 &&& (255 : Int32)) <<< ((0 : Int32) &&& 31)))]))
  refine own_go (fun t_ k_ => XS.sipush X2.here hx rfl (hb hby d27_49) k_) ?_
  show OwnFin p e below s _ _ _ (T2.setTop (mkF m 52 #[rv ba, iv (3 : Int32)] [(.int (255 : Int32)), (.int x3), (.int ((x2 &&& (255 : Int32)) <<< ((0 : Int32) &&& 31)))]))
  refine own_go (fun t_ k_ => XS.iand X2.here hx rfl (hb hby d27_52) rfl k_) ?_
  show OwnFin p e below s _ _ _ (T2.setTop (mkF m 53 #[rv ba, iv (3 : Int32)] [(.int (x3 &&& (255 : Int32))), (.int ((x2 &&& (255 : Int32)) <<< ((0 : Int32) &&& 31)))]))
  obtain ⟨T3, X3, e3, st3⟩ := getS2 X2 hx hZ hown (host := "") (Or.inl (hw _ (List.mem_of_getElem? (i := 124) rfl))) Via.refl e2 (S_lo.ext OL.2) (g := (mkF m 53 #[rv ba, iv (3 : Int32)] [(.int (x3 &&& (255 : Int32))), (.int ((x2 &&& (255 : Int32)) <<< ((0 : Int32) &&& 31)))])) rfl (hb hby d27_53)
  refine own_go st3 ?_
  show OwnFin p e below s _ _ _ (T3.setTop (mkF m 56 #[rv ba, iv (3 : Int32)] [(.int (8 : Int32)), (.int (x3 &&& (255 : Int32))), (.int ((x2 &&& (255 : Int32)) <<< ((0 : Int32) &&& 31)))]))
  refine own_go (fun t_ k_ => XS.ishl X3.here hx rfl (hb hby d27_56) rfl k_) ?_
  show OwnFin p e below s _ _ _ (T3.setTop (mkF m 57 #[rv ba, iv (3 : Int32)] [(.int ((x3 &&& (255 : Int32)) <<< ((8 : Int32) &&& 31))), (.int ((x2 &&& (255 : Int32)) <<< ((0 : Int32) &&& 31)))]))
  refine own_go (fun t_ k_ => XS.ior X3.here hx rfl (hb hby d27_57) rfl k_) ?_
  show OwnFin p e below s _ _ _ (T3.setTop (mkF m 58 #[rv ba, iv (3 : Int32)] [(.int (((x2 &&& (255 : Int32)) <<< ((0 : Int32) &&& 31)) ||| ((x3 &&& (255 : Int32)) <<< ((8 : Int32) &&& 31))))]))
  refine own_go (fun t_ k_ => XS.i2c X3.here hx rfl (hb hby d27_58) rfl k_) ?_
  show OwnFin p e below s _ _ _ (T3.setTop (mkF m 59 #[rv ba, iv (3 : Int32)] [(.int ((((x2 &&& (255 : Int32)) <<< ((0 : Int32) &&& 31)) ||| ((x3 &&& (255 : Int32)) <<< ((8 : Int32) &&& 31))).toUInt32.toUInt16.toUInt32.toInt32))]))
  refine own_ret X3 (v := some (.int (nar .char ((((x2 &&& (255 : Int32)) <<< ((0 : Int32) &&& 31)) ||| ((x3 &&& (255 : Int32)) <<< ((8 : Int32) &&& 31))).toUInt32.toUInt16.toUInt32.toInt32)))) hlk (fun hh => by rw [hret] at hh; cases hh) (fun fs hr => retN X3 hx (t := .char) hret (by simp) (hb hby d27_59) hr) (by decide) (by decide) ?_
  rw [e3]
  exact ⟨rfl, N0, rfl⟩
theorem d25_0 : decode jdk_52_method_3_code 0 = .ok (.iload_n 0, 1) := by decide +kernel
theorem d25_1 : decode jdk_52_method_3_code 1 = .ok (.ifCond .ge 11, 3) := by decide +kernel
theorem d25_12 : decode jdk_52_method_3_code 12 = .ok (.iload_n 0, 1) := by decide +kernel
theorem d25_13 : decode jdk_52_method_3_code 13 = .ok (.ldc 20, 2) := by decide +kernel
theorem d25_15 : decode jdk_52_method_3_code 15 = .ok (.if_icmp .lt 40, 3) := by decide +kernel
theorem d25_55 : decode jdk_52_method_3_code 55 = .ok (.iload_n 0, 1) := by decide +kernel
theorem d25_56 : decode jdk_52_method_3_code 56 = .ok (.iconst 1, 1) := by decide +kernel
theorem d25_57 : decode jdk_52_method_3_code 57 = .ok (.ishl, 1) := by decide +kernel
theorem d25_58 : decode jdk_52_method_3_code 58 = .ok (.ireturn, 1) := by decide +kernel
theorem pn_25 : plainFor (⟨"java/lang/StringUTF16", "newBytesLength", "(I)I"⟩ : MethodName) = true := plainFor_of_name (by first | (simp [plainName, overriddenIn]; done) | decide +kernel)
theorem ef_25 (m : MethodId)  : entryFrame m #[(.int (2 : Int32))] 1 = mkF m 0 #[iv (2 : Int32)] [] := by first | (simp [entryFrame, mkF, argsToLocals, Value.category]; done) | rfl
set_option maxRecDepth 65536 in
set_option maxHeartbeats 40000000 in
theorem rm25 (l : Launch) (Z : State) (a0 : Array Value) (hw : ∀ d ∈ tables_1, d.before a0 Z = true) (ws : List Jvm.Cond)  (h0 : Heap) (n0 : Nat) (Z0 : n0 ≤ h0.size) :
    OwnCtr l Z (⟨"java/lang/StringUTF16", "newBytesLength", "(I)I"⟩ : MethodName) ws jdk_52_method_3_code 1 (some .int) ({ frames := 0, cells := 0, slots := 0, locals := 0 } : Room) #[(.int (2 : Int32))] h0 (fun v h L => v = some (.int (4 : Int32)) ∧ Fr n0 L ∧ h = h0) := by
  refine own_body (g0 := fun m => mkF m 0 #[iv (2 : Int32)] []) pn_25 (fun m => ef_25 m ) ?_
  intro p e s m below meth c s₁ X0 hx hby hml hown hnm hZ e0 hret hlk
  have hml : c.maxLocals = 1 := hml
  have hown : s.vm.findClass "java/lang/StringUTF16" = some m.cls := hown
  have hnm : meth.name = "newBytesLength" := hnm
  have hret : meth.sig.returnType = (some .int) := hret
  have N0 := Fr.nil n0
  show OwnFin p e below s _ _ _ (s₁.setTop (mkF m 0 #[iv (2 : Int32)] []))
  refine own_go (fun t_ k_ => XS.iloadN X0.here hx rfl (hb hby d25_0) rfl k_) ?_
  show OwnFin p e below s _ _ _ (s₁.setTop (mkF m 1 #[iv (2 : Int32)] [(.int (2 : Int32))]))
  refine own_go (fun t_ k_ => XS.ifYes X0.here hx rfl (pc0 := 1) (pc' := 12) rfl (hb hby d25_1) rfl ((if0 _ _).trans (flt (by decide)).2.1) (by decide) (by decide) k_) ?_
  show OwnFin p e below s _ _ _ (s₁.setTop (mkF m 12 #[iv (2 : Int32)] []))
  refine own_go (fun t_ k_ => XS.iloadN X0.here hx rfl (hb hby d25_12) rfl k_) ?_
  show OwnFin p e below s _ _ _ (s₁.setTop (mkF m 13 #[iv (2 : Int32)] [(.int (2 : Int32))]))
  refine own_go (X0.ldcInt hx hown (mvT hZ (hw _ (List.mem_of_getElem? (i := 118) rfl))) (g := (mkF m 13 #[iv (2 : Int32)] [(.int (2 : Int32))])) rfl (hb hby d25_13)) ?_
  show OwnFin p e below s _ _ _ (s₁.setTop (mkF m 15 #[iv (2 : Int32)] [(.int (1073741823 : Int32)), (.int (2 : Int32))]))
  refine own_go (fun t_ k_ => XS.icmpYes X0.here hx rfl (pc0 := 15) (pc' := 55) rfl (hb hby d25_15) rfl (tlt (by decide)).1 (by decide) (by decide) k_) ?_
  show OwnFin p e below s _ _ _ (s₁.setTop (mkF m 55 #[iv (2 : Int32)] []))
  refine own_go (fun t_ k_ => XS.iloadN X0.here hx rfl (hb hby d25_55) rfl k_) ?_
  show OwnFin p e below s _ _ _ (s₁.setTop (mkF m 56 #[iv (2 : Int32)] [(.int (2 : Int32))]))
  refine own_go (fun t_ k_ => XS.iconst X0.here hx rfl (hb hby d25_56) k_) ?_
  show OwnFin p e below s _ _ _ (s₁.setTop (mkF m 57 #[iv (2 : Int32)] [(.int (1 : Int32)), (.int (2 : Int32))]))
  refine own_go (fun t_ k_ => XS.ishl X0.here hx rfl (hb hby d25_57) rfl k_) ?_
  show OwnFin p e below s _ _ _ (s₁.setTop (mkF m 58 #[iv (2 : Int32)] [(.int (4 : Int32))]))
  refine own_ret X0 (v := some (.int (4 : Int32))) hlk (fun hh => by rw [hret] at hh; cases hh) (fun fs hr => own_retI X0 hx hret (hb hby d25_58) hr) (by decide) (by decide) ?_
  rw [e0]
  exact ⟨rfl, N0, rfl⟩
theorem d24_0 : decode jdk_52_method_2_code 0 = .ok (.iload_n 0, 1) := by decide +kernel
theorem d24_1 : decode jdk_52_method_2_code 1 = .ok (.invokestatic 11, 3) := by decide +kernel
theorem d24_4 : decode jdk_52_method_2_code 4 = .ok (.newarray .byte, 2) := by decide +kernel
theorem d24_6 : decode jdk_52_method_2_code 6 = .ok (.areturn, 1) := by decide +kernel
theorem pn_24 : plainFor (⟨"java/lang/StringUTF16", "newBytesFor", "(I)[B"⟩ : MethodName) = true := plainFor_of_name (by first | (simp [plainName, overriddenIn]; done) | decide +kernel)
theorem pd_24_10 : parseMethodDescriptor "(I)I" = some ⟨[.int], some .int⟩ := by decide +kernel
theorem ef_24 (m : MethodId)  : entryFrame m #[(.int (2 : Int32))] 1 = mkF m 0 #[iv (2 : Int32)] [] := by first | (simp [entryFrame, mkF, argsToLocals, Value.category]; done) | rfl
set_option maxRecDepth 65536 in
set_option maxHeartbeats 40000000 in
theorem rm24 (l : Launch) (Z : State) (a0 : Array Value) (hw : ∀ d ∈ tables_1, d.before a0 Z = true) (ws : List Jvm.Cond)  (h0 : Heap) (n0 : Nat) (Z0 : n0 ≤ h0.size) :
    OwnCtr l Z (⟨"java/lang/StringUTF16", "newBytesFor", "(I)[B"⟩ : MethodName) ws jdk_52_method_2_code 1 (some (.array .byte)) ({ frames := 1, cells := 1, slots := 4, locals := 12 } : Room) #[(.int (2 : Int32))] h0 (fun v h L => ∃ b : Addr, v = some (.ref b) ∧ Fr n0 L ∧ Keep h0 h [] ∧ h0.size ≤ b ∧ OwnArr Z h b .byte 4 (fun k => .int ((fun _ => 0) k))) := by
  refine own_body (g0 := fun m => mkF m 0 #[iv (2 : Int32)] []) pn_24 (fun m => ef_24 m ) ?_
  intro p e s m below meth c s₁ X0 hx hby hml hown hnm hZ e0 hret hlk
  have hml : c.maxLocals = 1 := hml
  have hown : s.vm.findClass "java/lang/StringUTF16" = some m.cls := hown
  have hnm : meth.name = "newBytesFor" := hnm
  have hret : meth.sig.returnType = (some (.array .byte)) := hret
  have N0 := Fr.nil n0
  have K0 := Keep.refl h0 []
  show OwnFin p e below s _ _ _ (s₁.setTop (mkF m 0 #[iv (2 : Int32)] []))
  refine own_go (fun t_ k_ => XS.iloadN X0.here hx rfl (hb hby d24_0) rfl k_) ?_
  show OwnFin p e below s _ _ _ (s₁.setTop (mkF m 1 #[iv (2 : Int32)] [(.int (2 : Int32))]))
  obtain ⟨v1, T1, L1, X1, hQ1, st1⟩ := own_callS X0 hx hZ (y := (⟨"java/lang/StringUTF16", "newBytesLength", "(I)I"⟩ : MethodName)) hown (hw _ (List.mem_of_getElem? (i := 115) rfl)) (hw _ (List.mem_of_getElem? (i := 116) rfl)) (hw _ (List.mem_of_getElem? (i := 24) rfl)) (hw _ (List.mem_of_getElem? (i := 117) rfl)) (by decide) (W := 0) (rm25 l Z a0 hw []  h0 n0 Z0) (by decide) (by decide) (g := (mkF m 1 #[iv (2 : Int32)] [(.int (2 : Int32))])) rfl (by rw [hml]; rfl) (argsL := [(.int (2 : Int32))]) (rest := []) (lenOf pd_24_10 rfl) rfl (by show 2 * 0 + _ ≤ _; exact Nat.le_of_eq rfl) (hb hby d24_1) e0 rfl (by decide) (by decide)
  obtain ⟨rfl, Nq1, e1⟩ := hQ1
  have N1 := Fr.app N0 Nq1
  refine own_go st1 ?_
  show OwnFin p e below s _ _ _ (T1.setTop (mkF m 4 #[iv (2 : Int32)] [(.int (4 : Int32))]))
  obtain ⟨T2, h2, X2, e2, E2, A2, st2⟩ := own_newarr X1 hx hZ (hw _ (List.mem_of_getElem? (i := 26) rfl)) e1 (g := (mkF m 4 #[iv (2 : Int32)] [(.int (4 : Int32))])) rfl (hb hby d24_4) rfl (n := 4) (cap := 4) (by decide) (by decide) (by decide) (by decide) (by decide)
  obtain ⟨b2, g2⟩ : ∃ z, z = h0.size := ⟨_, rfl⟩
  rw [← g2] at A2 st2
  have g_b2 : n0 ≤ b2 := Nat.le_trans Z0 (Nat.le_of_eq g2.symm)
  have sz_b2 : h0.size ≤ b2 := Nat.le_trans K0.1 (Nat.le_of_eq g2.symm)
  have Z2 : n0 ≤ h2.size := Nat.le_trans Z0 E2.1
  have K2 : Keep h0 h2 [] := K0.ext E2
  have V_b2 : OwnArr Z h2 b2 .byte 4 (fun _ => (.int (0 : Int32))) := A2
  refine own_go st2 ?_
  show OwnFin p e below s _ _ _ (T2.setTop (mkF m 6 #[iv (2 : Int32)] [(.ref b2)]))
  refine own_ret X2 (v := some (.ref b2)) hlk (fun hh => by rw [hret] at hh; cases hh) (fun fs hr => own_retR X2 hx hret rfl rfl (hb hby d24_6) hr) (by decide) (by decide) ?_
  rw [e2]
  exact ⟨b2, rfl, N1, K2, sz_b2, V_b2⟩
theorem d23_0 : decode jdk_52_method_14_code 0 = .ok (.iload_n 2, 1) := by decide +kernel
theorem d23_1 : decode jdk_52_method_14_code 1 = .ok (.invokestatic 107, 3) := by decide +kernel
theorem d23_4 : decode jdk_52_method_14_code 4 = .ok (.astore_n 3, 1) := by decide +kernel
theorem d23_5 : decode jdk_52_method_14_code 5 = .ok (.iconst 0, 1) := by decide +kernel
theorem d23_6 : decode jdk_52_method_14_code 6 = .ok (.istore 4, 2) := by decide +kernel
theorem d23_8 : decode jdk_52_method_14_code 8 = .ok (.iload 4, 2) := by decide +kernel
theorem d23_10 : decode jdk_52_method_14_code 10 = .ok (.iload_n 2, 1) := by decide +kernel
theorem d23_11 : decode jdk_52_method_14_code 11 = .ok (.if_icmp .ge 21, 3) := by decide +kernel
theorem d23_14 : decode jdk_52_method_14_code 14 = .ok (.aload_n 3, 1) := by decide +kernel
theorem d23_15 : decode jdk_52_method_14_code 15 = .ok (.iload 4, 2) := by decide +kernel
theorem d23_17 : decode jdk_52_method_14_code 17 = .ok (.aload_n 0, 1) := by decide +kernel
theorem d23_18 : decode jdk_52_method_14_code 18 = .ok (.iload_n 1, 1) := by decide +kernel
theorem d23_19 : decode jdk_52_method_14_code 19 = .ok (.caload, 1) := by decide +kernel
theorem d23_20 : decode jdk_52_method_14_code 20 = .ok (.invokestatic 111, 3) := by decide +kernel
theorem d23_23 : decode jdk_52_method_14_code 23 = .ok (.iinc 1 1, 3) := by decide +kernel
theorem d23_26 : decode jdk_52_method_14_code 26 = .ok (.iinc 4 1, 3) := by decide +kernel
theorem d23_29 : decode jdk_52_method_14_code 29 = .ok (.goto (-21), 3) := by decide +kernel
theorem d23_32 : decode jdk_52_method_14_code 32 = .ok (.aload_n 3, 1) := by decide +kernel
theorem d23_33 : decode jdk_52_method_14_code 33 = .ok (.areturn, 1) := by decide +kernel
theorem pn_23 : plainFor (⟨"java/lang/StringUTF16", "toBytes", "([CII)[B"⟩ : MethodName) = true := plainFor_of_name (by first | (simp [plainName, overriddenIn]; done) | decide +kernel)
theorem pd_23_17 : parseMethodDescriptor "(I)[B" = some ⟨[.int], some (.array .byte)⟩ := by decide +kernel
theorem pd_23_18 : parseMethodDescriptor "([BII)V" = some ⟨[(.array .byte), .int, .int], none⟩ := by decide +kernel
theorem ef_23 (m : MethodId) (ca : Addr) : entryFrame m #[(.ref ca), (.int (0 : Int32)), (.int (2 : Int32))] 5 = mkF m 0 #[rv ca, iv (0 : Int32), iv (2 : Int32), .unset, .unset] [] := by first | (simp [entryFrame, mkF, argsToLocals, Value.category]; done) | rfl
set_option maxRecDepth 65536 in
set_option maxHeartbeats 40000000 in
theorem rm23 (l : Launch) (Z : State) (a0 : Array Value) (hw : ∀ d ∈ tables_1, d.before a0 Z = true) (ws : List Jvm.Cond) (ca : Addr) (px : Int32) (py : Int32) (h0 : Heap) (n0 : Nat) (Z0 : n0 ≤ h0.size) (V_ca : OwnArr Z h0 ca .char 2 (fun k => .int (own_two px py k))) (S_as : Sta Z Z.heap "java/lang/StringUTF16" "$assertionsDisabled" "Z" (.int (1 : Int32))) (S_hi : Sta Z Z.heap "java/lang/StringUTF16" "HI_BYTE_SHIFT" "I" (.int (0 : Int32))) (S_lo : Sta Z Z.heap "java/lang/StringUTF16" "LO_BYTE_SHIFT" "I" (.int (8 : Int32))) (OL : Old Z n0 h0) :
    OwnCtr l Z (⟨"java/lang/StringUTF16", "toBytes", "([CII)[B"⟩ : MethodName) ws jdk_52_method_14_code 5 (some (.array .byte)) ({ frames := 2, cells := 1, slots := 4, locals := 24 } : Room) #[(.ref ca), (.int (0 : Int32)), (.int (2 : Int32))] h0 (fun v h L => ∃ b : Addr, v = some (.ref b) ∧ Fr n0 L ∧ Keep h0 h [] ∧ h0.size ≤ b ∧ OwnArr Z h b .byte 4 (fun k => .int (own_four (own_b0 px) (own_b1 px) (own_b0 py) (own_b1 py) k))) := by
  refine own_body (g0 := fun m => mkF m 0 #[rv ca, iv (0 : Int32), iv (2 : Int32), .unset, .unset] []) pn_23 (fun m => ef_23 m ca) ?_
  intro p e s m below meth c s₁ X0 hx hby hml hown hnm hZ e0 hret hlk
  have hml : c.maxLocals = 5 := hml
  have hown : s.vm.findClass "java/lang/StringUTF16" = some m.cls := hown
  have hnm : meth.name = "toBytes" := hnm
  have hret : meth.sig.returnType = (some (.array .byte)) := hret
  have N0 := Fr.nil n0
  have K0 := Keep.refl h0 []
  show OwnFin p e below s _ _ _ (s₁.setTop (mkF m 0 #[rv ca, iv (0 : Int32), iv (2 : Int32), .unset, .unset] []))
  refine own_go (fun t_ k_ => XS.iloadN X0.here hx rfl (hb hby d23_0) rfl k_) ?_
  show OwnFin p e below s _ _ _ (s₁.setTop (mkF m 1 #[rv ca, iv (0 : Int32), iv (2 : Int32), .unset, .unset] [(.int (2 : Int32))]))
  obtain ⟨v1, T1, L1, X1, hQ1, st1⟩ := own_callS X0 hx hZ (y := (⟨"java/lang/StringUTF16", "newBytesFor", "(I)[B"⟩ : MethodName)) hown (hw _ (List.mem_of_getElem? (i := 112) rfl)) (hw _ (List.mem_of_getElem? (i := 113) rfl)) (hw _ (List.mem_of_getElem? (i := 24) rfl)) (hw _ (List.mem_of_getElem? (i := 114) rfl)) (by decide) (W := 0) (rm24 l Z a0 hw [] h0 n0 Z0) (by decide) (by decide) (g := (mkF m 1 #[rv ca, iv (0 : Int32), iv (2 : Int32), .unset, .unset] [(.int (2 : Int32))])) rfl (by rw [hml]; rfl) (argsL := [(.int (2 : Int32))]) (rest := []) (lenOf pd_23_17 rfl) rfl (by show 2 * 0 + _ ≤ _; exact Nat.le_of_eq rfl) (hb hby d23_1) e0 rfl (by decide) (by decide)
  obtain ⟨r1, rfl, Nq1, Kq1, sq1, Vq1⟩ := hQ1
  have N1 := Fr.app N0 Nq1
  have g_r1 : n0 ≤ r1 := Nat.le_trans Z0 sq1
  have ne_ca_r1 : ca ≠ r1 := Nat.ne_of_lt (Nat.lt_of_lt_of_le V_ca.lt sq1)
  have V_ca_1 := V_ca.keep Kq1 nin0
  have OL_1 := OL.keep Kq1 all0
  have Z1 : n0 ≤ T1.heap.size := Nat.le_trans Z0 Kq1.1
  have sz_r1 : h0.size ≤ r1 := Nat.le_trans K0.1 sq1
  have K1 : Keep h0 T1.heap [] := K0.trans Kq1 all0
  refine own_go st1 ?_
  show OwnFin p e below s _ _ _ (T1.setTop (mkF m 4 #[rv ca, iv (0 : Int32), iv (2 : Int32), .unset, .unset] [(.ref r1)]))
  refine own_go (fun t_ k_ => XS.astoreN X1.here hx rfl (hb hby d23_4) rfl rfl (l' := #[rv ca, iv (0 : Int32), iv (2 : Int32), rv r1, .unset]) rfl k_) ?_
  show OwnFin p e below s _ _ _ (T1.setTop (mkF m 5 #[rv ca, iv (0 : Int32), iv (2 : Int32), rv r1, .unset] []))
  refine own_go (fun t_ k_ => XS.iconst X1.here hx rfl (hb hby d23_5) k_) ?_
  show OwnFin p e below s _ _ _ (T1.setTop (mkF m 6 #[rv ca, iv (0 : Int32), iv (2 : Int32), rv r1, .unset] [(.int (0 : Int32))]))
  refine own_go (fun t_ k_ => XS.istore X1.here hx rfl (hb hby d23_6) rfl (l' := #[rv ca, iv (0 : Int32), iv (2 : Int32), rv r1, iv (0 : Int32)]) rfl k_) ?_
  show OwnFin p e below s _ _ _ (T1.setTop (mkF m 8 #[rv ca, iv (0 : Int32), iv (2 : Int32), rv r1, iv (0 : Int32)] []))
  refine own_go (fun t_ k_ => XS.iload X1.here hx rfl (hb hby d23_8) rfl k_) ?_
  show OwnFin p e below s _ _ _ (T1.setTop (mkF m 10 #[rv ca, iv (0 : Int32), iv (2 : Int32), rv r1, iv (0 : Int32)] [(.int (0 : Int32))]))
  refine own_go (fun t_ k_ => XS.iloadN X1.here hx rfl (hb hby d23_10) rfl k_) ?_
  show OwnFin p e below s _ _ _ (T1.setTop (mkF m 11 #[rv ca, iv (0 : Int32), iv (2 : Int32), rv r1, iv (0 : Int32)] [(.int (2 : Int32)), (.int (0 : Int32))]))
  refine own_go (fun t_ k_ => XS.icmpNo X1.here hx rfl (hb hby d23_11) rfl (tlt (by decide)).2.1 k_) ?_
  show OwnFin p e below s _ _ _ (T1.setTop (mkF m 14 #[rv ca, iv (0 : Int32), iv (2 : Int32), rv r1, iv (0 : Int32)] []))
  refine own_go (fun t_ k_ => XS.aloadN X1.here hx rfl (hb hby d23_14) rfl rfl k_) ?_
  show OwnFin p e below s _ _ _ (T1.setTop (mkF m 15 #[rv ca, iv (0 : Int32), iv (2 : Int32), rv r1, iv (0 : Int32)] [(.ref r1)]))
  refine own_go (fun t_ k_ => XS.iload X1.here hx rfl (hb hby d23_15) rfl k_) ?_
  show OwnFin p e below s _ _ _ (T1.setTop (mkF m 17 #[rv ca, iv (0 : Int32), iv (2 : Int32), rv r1, iv (0 : Int32)] [(.int (0 : Int32)), (.ref r1)]))
  refine own_go (fun t_ k_ => XS.aloadN X1.here hx rfl (hb hby d23_17) rfl rfl k_) ?_
  show OwnFin p e below s _ _ _ (T1.setTop (mkF m 18 #[rv ca, iv (0 : Int32), iv (2 : Int32), rv r1, iv (0 : Int32)] [(.ref ca), (.int (0 : Int32)), (.ref r1)]))
  refine own_go (fun t_ k_ => XS.iloadN X1.here hx rfl (hb hby d23_18) rfl k_) ?_
  show OwnFin p e below s _ _ _ (T1.setTop (mkF m 19 #[rv ca, iv (0 : Int32), iv (2 : Int32), rv r1, iv (0 : Int32)] [(.int (0 : Int32)), (.ref ca), (.int (0 : Int32)), (.ref r1)]))
  refine own_go (own_caload X1 hx hZ rfl V_ca_1 (i := 0) (by decide) (by decide) (g := (mkF m 19 #[rv ca, iv (0 : Int32), iv (2 : Int32), rv r1, iv (0 : Int32)] [(.int (0 : Int32)), (.ref ca), (.int (0 : Int32)), (.ref r1)])) rfl rfl (hb hby d23_19)) ?_
  show OwnFin p e below s _ _ _ (T1.setTop (mkF m 20 #[rv ca, iv (0 : Int32), iv (2 : Int32), rv r1, iv (0 : Int32)] [(.int px), (.int (0 : Int32)), (.ref r1)]))
  obtain ⟨v2, T2, L2, X2, hQ2, st2⟩ := own_callS X1 hx hZ (y := (⟨"java/lang/StringUTF16", "putChar", "([BII)V"⟩ : MethodName)) hown (hw _ (List.mem_of_getElem? (i := 119) rfl)) (hw _ (List.mem_of_getElem? (i := 120) rfl)) (hw _ (List.mem_of_getElem? (i := 24) rfl)) (hw _ (List.mem_of_getElem? (i := 121) rfl)) (by decide) (W := 0) (rm26_0 l Z a0 hw [] r1 px (fun _ => (0 : Int32)) T1.heap n0 Z1 Vq1 g_r1 S_as S_hi S_lo OL_1) (by decide) (by decide) (g := (mkF m 20 #[rv ca, iv (0 : Int32), iv (2 : Int32), rv r1, iv (0 : Int32)] [(.int px), (.int (0 : Int32)), (.ref r1)])) rfl (by rw [hml]; rfl) (argsL := [(.ref r1), (.int (0 : Int32)), (.int px)]) (rest := []) (lenOf pd_23_18 rfl) rfl (by show 2 * 0 + _ ≤ _; exact Nat.le_of_eq rfl) (hb hby d23_20) rfl rfl (by decide) (by decide)
  obtain ⟨rfl, Nq2, Kq2, Vq2⟩ := hQ2
  have N2 := Fr.app N1 Nq2
  have V_ca_2 := V_ca_1.keep Kq2 (ninS ne_ca_r1 nin0)
  have OL_2 := OL_1.keep Kq2 (allS g_r1 all0)
  have Z2 : n0 ≤ T2.heap.size := Nat.le_trans Z1 Kq2.1
  have K2 : Keep h0 T2.heap [] := K1.trans Kq2 (allS (Or.inr sz_r1) all0)
  refine own_go st2 ?_
  show OwnFin p e below s _ _ _ (T2.setTop (mkF m 23 #[rv ca, iv (0 : Int32), iv (2 : Int32), rv r1, iv (0 : Int32)] []))
  refine own_go (fun t_ k_ => XS.iinc X2.here hx rfl (hb hby d23_23) rfl (l' := #[rv ca, iv (1 : Int32), iv (2 : Int32), rv r1, iv (0 : Int32)]) rfl k_) ?_
  show OwnFin p e below s _ _ _ (T2.setTop (mkF m 26 #[rv ca, iv (1 : Int32), iv (2 : Int32), rv r1, iv (0 : Int32)] []))
  refine own_go (fun t_ k_ => XS.iinc X2.here hx rfl (hb hby d23_26) rfl (l' := #[rv ca, iv (1 : Int32), iv (2 : Int32), rv r1, iv (1 : Int32)]) rfl k_) ?_
  show OwnFin p e below s _ _ _ (T2.setTop (mkF m 29 #[rv ca, iv (1 : Int32), iv (2 : Int32), rv r1, iv (1 : Int32)] []))
  refine own_go (fun t_ k_ => XS.goto X2.here hx rfl (pc0 := 29) (pc' := 8) rfl (hb hby d23_29) (by decide) (by decide) k_) ?_
  show OwnFin p e below s _ _ _ (T2.setTop (mkF m 8 #[rv ca, iv (1 : Int32), iv (2 : Int32), rv r1, iv (1 : Int32)] []))
  refine own_go (fun t_ k_ => XS.iload X2.here hx rfl (hb hby d23_8) rfl k_) ?_
  show OwnFin p e below s _ _ _ (T2.setTop (mkF m 10 #[rv ca, iv (1 : Int32), iv (2 : Int32), rv r1, iv (1 : Int32)] [(.int (1 : Int32))]))
  refine own_go (fun t_ k_ => XS.iloadN X2.here hx rfl (hb hby d23_10) rfl k_) ?_
  show OwnFin p e below s _ _ _ (T2.setTop (mkF m 11 #[rv ca, iv (1 : Int32), iv (2 : Int32), rv r1, iv (1 : Int32)] [(.int (2 : Int32)), (.int (1 : Int32))]))
  refine own_go (fun t_ k_ => XS.icmpNo X2.here hx rfl (hb hby d23_11) rfl (tlt (by decide)).2.1 k_) ?_
  show OwnFin p e below s _ _ _ (T2.setTop (mkF m 14 #[rv ca, iv (1 : Int32), iv (2 : Int32), rv r1, iv (1 : Int32)] []))
  refine own_go (fun t_ k_ => XS.aloadN X2.here hx rfl (hb hby d23_14) rfl rfl k_) ?_
  show OwnFin p e below s _ _ _ (T2.setTop (mkF m 15 #[rv ca, iv (1 : Int32), iv (2 : Int32), rv r1, iv (1 : Int32)] [(.ref r1)]))
  refine own_go (fun t_ k_ => XS.iload X2.here hx rfl (hb hby d23_15) rfl k_) ?_
  show OwnFin p e below s _ _ _ (T2.setTop (mkF m 17 #[rv ca, iv (1 : Int32), iv (2 : Int32), rv r1, iv (1 : Int32)] [(.int (1 : Int32)), (.ref r1)]))
  refine own_go (fun t_ k_ => XS.aloadN X2.here hx rfl (hb hby d23_17) rfl rfl k_) ?_
  show OwnFin p e below s _ _ _ (T2.setTop (mkF m 18 #[rv ca, iv (1 : Int32), iv (2 : Int32), rv r1, iv (1 : Int32)] [(.ref ca), (.int (1 : Int32)), (.ref r1)]))
  refine own_go (fun t_ k_ => XS.iloadN X2.here hx rfl (hb hby d23_18) rfl k_) ?_
  show OwnFin p e below s _ _ _ (T2.setTop (mkF m 19 #[rv ca, iv (1 : Int32), iv (2 : Int32), rv r1, iv (1 : Int32)] [(.int (1 : Int32)), (.ref ca), (.int (1 : Int32)), (.ref r1)]))
  refine own_go (own_caload X2 hx hZ rfl V_ca_2 (i := 1) (by decide) (by decide) (g := (mkF m 19 #[rv ca, iv (1 : Int32), iv (2 : Int32), rv r1, iv (1 : Int32)] [(.int (1 : Int32)), (.ref ca), (.int (1 : Int32)), (.ref r1)])) rfl rfl (hb hby d23_19)) ?_
  show OwnFin p e below s _ _ _ (T2.setTop (mkF m 20 #[rv ca, iv (1 : Int32), iv (2 : Int32), rv r1, iv (1 : Int32)] [(.int py), (.int (1 : Int32)), (.ref r1)]))
  obtain ⟨v3, T3, L3, X3, hQ3, st3⟩ := own_callS X2 hx hZ (y := (⟨"java/lang/StringUTF16", "putChar", "([BII)V"⟩ : MethodName)) hown (hw _ (List.mem_of_getElem? (i := 119) rfl)) (hw _ (List.mem_of_getElem? (i := 120) rfl)) (hw _ (List.mem_of_getElem? (i := 24) rfl)) (hw _ (List.mem_of_getElem? (i := 121) rfl)) (by decide) (W := 0) (rm26_1 l Z a0 hw [] r1 py (fun k => if k = 1 then own_b1 px else if k = 0 then own_b0 px else (fun _ => (0 : Int32)) k) T2.heap n0 Z2 Vq2 g_r1 S_as S_hi S_lo OL_2) (by decide) (by decide) (g := (mkF m 20 #[rv ca, iv (1 : Int32), iv (2 : Int32), rv r1, iv (1 : Int32)] [(.int py), (.int (1 : Int32)), (.ref r1)])) rfl (by rw [hml]; rfl) (argsL := [(.ref r1), (.int (1 : Int32)), (.int py)]) (rest := []) (lenOf pd_23_18 rfl) rfl (by show 2 * 0 + _ ≤ _; exact Nat.le_of_eq rfl) (hb hby d23_20) rfl rfl (by decide) (by decide)
  obtain ⟨rfl, Nq3, Kq3, Vq3⟩ := hQ3
  have N3 := Fr.app N2 Nq3
  have V_ca_3 := V_ca_2.keep Kq3 (ninS ne_ca_r1 nin0)
  have OL_3 := OL_2.keep Kq3 (allS g_r1 all0)
  have Z3 : n0 ≤ T3.heap.size := Nat.le_trans Z2 Kq3.1
  have K3 : Keep h0 T3.heap [] := K2.trans Kq3 (allS (Or.inr sz_r1) all0)
  refine own_go st3 ?_
  show OwnFin p e below s _ _ _ (T3.setTop (mkF m 23 #[rv ca, iv (1 : Int32), iv (2 : Int32), rv r1, iv (1 : Int32)] []))
  refine own_go (fun t_ k_ => XS.iinc X3.here hx rfl (hb hby d23_23) rfl (l' := #[rv ca, iv (2 : Int32), iv (2 : Int32), rv r1, iv (1 : Int32)]) rfl k_) ?_
  show OwnFin p e below s _ _ _ (T3.setTop (mkF m 26 #[rv ca, iv (2 : Int32), iv (2 : Int32), rv r1, iv (1 : Int32)] []))
  refine own_go (fun t_ k_ => XS.iinc X3.here hx rfl (hb hby d23_26) rfl (l' := #[rv ca, iv (2 : Int32), iv (2 : Int32), rv r1, iv (2 : Int32)]) rfl k_) ?_
  show OwnFin p e below s _ _ _ (T3.setTop (mkF m 29 #[rv ca, iv (2 : Int32), iv (2 : Int32), rv r1, iv (2 : Int32)] []))
  refine own_go (fun t_ k_ => XS.goto X3.here hx rfl (pc0 := 29) (pc' := 8) rfl (hb hby d23_29) (by decide) (by decide) k_) ?_
  show OwnFin p e below s _ _ _ (T3.setTop (mkF m 8 #[rv ca, iv (2 : Int32), iv (2 : Int32), rv r1, iv (2 : Int32)] []))
  refine own_go (fun t_ k_ => XS.iload X3.here hx rfl (hb hby d23_8) rfl k_) ?_
  show OwnFin p e below s _ _ _ (T3.setTop (mkF m 10 #[rv ca, iv (2 : Int32), iv (2 : Int32), rv r1, iv (2 : Int32)] [(.int (2 : Int32))]))
  refine own_go (fun t_ k_ => XS.iloadN X3.here hx rfl (hb hby d23_10) rfl k_) ?_
  show OwnFin p e below s _ _ _ (T3.setTop (mkF m 11 #[rv ca, iv (2 : Int32), iv (2 : Int32), rv r1, iv (2 : Int32)] [(.int (2 : Int32)), (.int (2 : Int32))]))
  refine own_go (fun t_ k_ => XS.icmpYes X3.here hx rfl (pc0 := 11) (pc' := 32) rfl (hb hby d23_11) rfl (flt (by decide)).2.1 (by decide) (by decide) k_) ?_
  show OwnFin p e below s _ _ _ (T3.setTop (mkF m 32 #[rv ca, iv (2 : Int32), iv (2 : Int32), rv r1, iv (2 : Int32)] []))
  refine own_go (fun t_ k_ => XS.aloadN X3.here hx rfl (hb hby d23_32) rfl rfl k_) ?_
  show OwnFin p e below s _ _ _ (T3.setTop (mkF m 33 #[rv ca, iv (2 : Int32), iv (2 : Int32), rv r1, iv (2 : Int32)] [(.ref r1)]))
  refine own_ret X3 (v := some (.ref r1)) hlk (fun hh => by rw [hret] at hh; cases hh) (fun fs hr => own_retR X3 hx hret rfl rfl (hb hby d23_33) hr) (by decide) (by decide) ?_
  refine ⟨r1, rfl, N3, K3, sz_r1, Vq3.congr (fun z hz => ?_)⟩
  have hz' : z = 0 ∨ z = 1 ∨ z = 2 ∨ z = 3 := by omega
  rcases hz' with rfl | rfl | rfl | rfl <;> simp [own_four]
theorem d6_0 : decode jdk_52_method_21_code 0 = .ok (.iconst 0, 1) := by decide +kernel
theorem d6_1 : decode jdk_52_method_21_code 1 = .ok (.istore 5, 2) := by decide +kernel
theorem d6_3 : decode jdk_52_method_21_code 3 = .ok (.iload 5, 2) := by decide +kernel
theorem d6_5 : decode jdk_52_method_21_code 5 = .ok (.iload 4, 2) := by decide +kernel
theorem d6_7 : decode jdk_52_method_21_code 7 = .ok (.if_icmp .ge 37, 3) := by decide +kernel
theorem d6_10 : decode jdk_52_method_21_code 10 = .ok (.aload_n 0, 1) := by decide +kernel
theorem d6_11 : decode jdk_52_method_21_code 11 = .ok (.iload_n 1, 1) := by decide +kernel
theorem d6_12 : decode jdk_52_method_21_code 12 = .ok (.caload, 1) := by decide +kernel
theorem d6_13 : decode jdk_52_method_21_code 13 = .ok (.istore 6, 2) := by decide +kernel
theorem d6_15 : decode jdk_52_method_21_code 15 = .ok (.iload 6, 2) := by decide +kernel
theorem d6_17 : decode jdk_52_method_21_code 17 = .ok (.sipush 255, 3) := by decide +kernel
theorem d6_20 : decode jdk_52_method_21_code 20 = .ok (.if_icmp .le 6, 3) := by decide +kernel
theorem d6_23 : decode jdk_52_method_21_code 23 = .ok (.iload 5, 2) := by decide +kernel
theorem d6_25 : decode jdk_52_method_21_code 25 = .ok (.ireturn, 1) := by decide +kernel
theorem d6_26 : decode jdk_52_method_21_code 26 = .ok (.aload_n 2, 1) := by decide +kernel
theorem d6_27 : decode jdk_52_method_21_code 27 = .ok (.iload_n 3, 1) := by decide +kernel
theorem d6_28 : decode jdk_52_method_21_code 28 = .ok (.iload 6, 2) := by decide +kernel
theorem d6_30 : decode jdk_52_method_21_code 30 = .ok (.i2b, 1) := by decide +kernel
theorem d6_31 : decode jdk_52_method_21_code 31 = .ok (.bastore, 1) := by decide +kernel
theorem d6_32 : decode jdk_52_method_21_code 32 = .ok (.iinc 1 1, 3) := by decide +kernel
theorem d6_35 : decode jdk_52_method_21_code 35 = .ok (.iinc 3 1, 3) := by decide +kernel
theorem d6_38 : decode jdk_52_method_21_code 38 = .ok (.iinc 5 1, 3) := by decide +kernel
theorem d6_41 : decode jdk_52_method_21_code 41 = .ok (.goto (-38), 3) := by decide +kernel
theorem d6_44 : decode jdk_52_method_21_code 44 = .ok (.iload 4, 2) := by decide +kernel
theorem d6_46 : decode jdk_52_method_21_code 46 = .ok (.ireturn, 1) := by decide +kernel
theorem pn_6 : plainFor (⟨"java/lang/StringUTF16", "compress", "([CI[BII)I"⟩ : MethodName) = true := plainFor_of_name (by first | (simp [plainName, overriddenIn]; done) | decide +kernel)
theorem ef_6 (m : MethodId) (a1 : Addr) (p2 : Int32) (a3 : Addr) (p4 : Int32) (p5 : Int32) : entryFrame m #[(.ref a1), (.int p2), (.ref a3), (.int p4), (.int p5)] 7 = mkF m 0 #[rv a1, iv p2, rv a3, iv p4, iv p5, .unset, .unset] [] := by first | (simp [entryFrame, mkF, argsToLocals, Value.category]; done) | rfl
theorem ef_6_L (m : MethodId) (ca : Addr) (ba : Addr) : entryFrame m #[(.ref ca), (.int (0 : Int32)), (.ref ba), (.int (0 : Int32)), (.int (2 : Int32))] 7 = mkF m 0 #[rv ca, iv (0 : Int32), rv ba, iv (0 : Int32), iv (2 : Int32), .unset, .unset] [] := by first | (simp [entryFrame, mkF, argsToLocals, Value.category]; done) | rfl
set_option maxRecDepth 65536 in
set_option maxHeartbeats 40000000 in
theorem rm6_L (l : Launch) (Z : State) (a0 : Array Value) (hw : ∀ d ∈ tables_1, d.before a0 Z = true) (ws : List Jvm.Cond) (ca : Addr) (ba : Addr) (px : Int32) (py : Int32) (h0 : Heap) (n0 : Nat) (Z0 : n0 ≤ h0.size) (V_ca : OwnArr Z h0 ca .char 2 (fun k => .int (own_two px py k))) (V_ba : OwnArr Z h0 ba .byte 2 (fun k => .int ((fun _ => (0 : Int32)) k))) (g_ba : n0 ≤ ba) (ne : ca ≠ ba) (hl1 : ¬ (255 : Int32) < px) (hl2 : ¬ (255 : Int32) < py) :
    OwnCtr l Z (⟨"java/lang/StringUTF16", "compress", "([CI[BII)I"⟩ : MethodName) ws jdk_52_method_21_code 7 (some .int) ({ frames := 0, cells := 0, slots := 0, locals := 0 } : Room) #[(.ref ca), (.int (0 : Int32)), (.ref ba), (.int (0 : Int32)), (.int (2 : Int32))] h0 (fun v h L => v = some (.int (2 : Int32)) ∧ Fr n0 L ∧ Keep h0 h [ba] ∧ OwnArr Z h ba .byte 2 (fun k => .int (own_two (own_lb px) (own_lb py) k))) := by
  refine own_body (g0 := fun m => mkF m 0 #[rv ca, iv (0 : Int32), rv ba, iv (0 : Int32), iv (2 : Int32), .unset, .unset] []) pn_6 (fun m => ef_6_L m ca ba) ?_
  intro p e s m below meth c s₁ X0 hx hby hml hown hnm hZ e0 hret hlk
  have hml : c.maxLocals = 7 := hml
  have hown : s.vm.findClass "java/lang/StringUTF16" = some m.cls := hown
  have hnm : meth.name = "compress" := hnm
  have hret : meth.sig.returnType = (some .int) := hret
  have N0 := Fr.nil n0
  have K0 := Keep.refl h0 [ba]
  show OwnFin p e below s _ _ _ (s₁.setTop (mkF m 0 #[rv ca, iv (0 : Int32), rv ba, iv (0 : Int32), iv (2 : Int32), .unset, .unset] []))
  refine own_go (fun t_ k_ => XS.iconst X0.here hx rfl (hb hby d6_0) k_) ?_
  show OwnFin p e below s _ _ _ (s₁.setTop (mkF m 1 #[rv ca, iv (0 : Int32), rv ba, iv (0 : Int32), iv (2 : Int32), .unset, .unset] [(.int (0 : Int32))]))
  refine own_go (fun t_ k_ => XS.istore X0.here hx rfl (hb hby d6_1) rfl (l' := #[rv ca, iv (0 : Int32), rv ba, iv (0 : Int32), iv (2 : Int32), iv (0 : Int32), .unset]) rfl k_) ?_
  show OwnFin p e below s _ _ _ (s₁.setTop (mkF m 3 #[rv ca, iv (0 : Int32), rv ba, iv (0 : Int32), iv (2 : Int32), iv (0 : Int32), .unset] []))
  refine own_go (fun t_ k_ => XS.iload X0.here hx rfl (hb hby d6_3) rfl k_) ?_
  show OwnFin p e below s _ _ _ (s₁.setTop (mkF m 5 #[rv ca, iv (0 : Int32), rv ba, iv (0 : Int32), iv (2 : Int32), iv (0 : Int32), .unset] [(.int (0 : Int32))]))
  refine own_go (fun t_ k_ => XS.iload X0.here hx rfl (hb hby d6_5) rfl k_) ?_
  show OwnFin p e below s _ _ _ (s₁.setTop (mkF m 7 #[rv ca, iv (0 : Int32), rv ba, iv (0 : Int32), iv (2 : Int32), iv (0 : Int32), .unset] [(.int (2 : Int32)), (.int (0 : Int32))]))
  refine own_go (fun t_ k_ => XS.icmpNo X0.here hx rfl (hb hby d6_7) rfl (tlt (by decide)).2.1 k_) ?_
  show OwnFin p e below s _ _ _ (s₁.setTop (mkF m 10 #[rv ca, iv (0 : Int32), rv ba, iv (0 : Int32), iv (2 : Int32), iv (0 : Int32), .unset] []))
  refine own_go (fun t_ k_ => XS.aloadN X0.here hx rfl (hb hby d6_10) rfl rfl k_) ?_
  show OwnFin p e below s _ _ _ (s₁.setTop (mkF m 11 #[rv ca, iv (0 : Int32), rv ba, iv (0 : Int32), iv (2 : Int32), iv (0 : Int32), .unset] [(.ref ca)]))
  refine own_go (fun t_ k_ => XS.iloadN X0.here hx rfl (hb hby d6_11) rfl k_) ?_
  show OwnFin p e below s _ _ _ (s₁.setTop (mkF m 12 #[rv ca, iv (0 : Int32), rv ba, iv (0 : Int32), iv (2 : Int32), iv (0 : Int32), .unset] [(.int (0 : Int32)), (.ref ca)]))
  refine own_go (own_caload X0 hx hZ e0 V_ca (i := 0) (by decide) (by decide) (g := (mkF m 12 #[rv ca, iv (0 : Int32), rv ba, iv (0 : Int32), iv (2 : Int32), iv (0 : Int32), .unset] [(.int (0 : Int32)), (.ref ca)])) rfl rfl (hb hby d6_12)) ?_
  show OwnFin p e below s _ _ _ (s₁.setTop (mkF m 13 #[rv ca, iv (0 : Int32), rv ba, iv (0 : Int32), iv (2 : Int32), iv (0 : Int32), .unset] [(.int px)]))
  refine own_go (fun t_ k_ => XS.istore X0.here hx rfl (hb hby d6_13) rfl (l' := #[rv ca, iv (0 : Int32), rv ba, iv (0 : Int32), iv (2 : Int32), iv (0 : Int32), iv px]) rfl k_) ?_
  show OwnFin p e below s _ _ _ (s₁.setTop (mkF m 15 #[rv ca, iv (0 : Int32), rv ba, iv (0 : Int32), iv (2 : Int32), iv (0 : Int32), iv px] []))
  refine own_go (fun t_ k_ => XS.iload X0.here hx rfl (hb hby d6_15) rfl k_) ?_
  show OwnFin p e below s _ _ _ (s₁.setTop (mkF m 17 #[rv ca, iv (0 : Int32), rv ba, iv (0 : Int32), iv (2 : Int32), iv (0 : Int32), iv px] [(.int px)]))
  refine own_go (fun t_ k_ => XS.sipush X0.here hx rfl (hb hby d6_17) k_) ?_
  show OwnFin p e below s _ _ _ (s₁.setTop (mkF m 20 #[rv ca, iv (0 : Int32), rv ba, iv (0 : Int32), iv (2 : Int32), iv (0 : Int32), iv px] [(.int (255 : Int32)), (.int px)]))
  have hc20 : ¬ ((255 : Int32) < px) := hl1
  refine own_go (fun t_ k_ => XS.icmpYes X0.here hx rfl (pc0 := 20) (pc' := 26) rfl (hb hby d6_20) rfl (flt hc20).2.2.2 (by decide) (by decide) k_) ?_
  show OwnFin p e below s _ _ _ (s₁.setTop (mkF m 26 #[rv ca, iv (0 : Int32), rv ba, iv (0 : Int32), iv (2 : Int32), iv (0 : Int32), iv px] []))
  refine own_go (fun t_ k_ => XS.aloadN X0.here hx rfl (hb hby d6_26) rfl rfl k_) ?_
  show OwnFin p e below s _ _ _ (s₁.setTop (mkF m 27 #[rv ca, iv (0 : Int32), rv ba, iv (0 : Int32), iv (2 : Int32), iv (0 : Int32), iv px] [(.ref ba)]))
  refine own_go (fun t_ k_ => XS.iloadN X0.here hx rfl (hb hby d6_27) rfl k_) ?_
  show OwnFin p e below s _ _ _ (s₁.setTop (mkF m 28 #[rv ca, iv (0 : Int32), rv ba, iv (0 : Int32), iv (2 : Int32), iv (0 : Int32), iv px] [(.int (0 : Int32)), (.ref ba)]))
  refine own_go (fun t_ k_ => XS.iload X0.here hx rfl (hb hby d6_28) rfl k_) ?_
  show OwnFin p e below s _ _ _ (s₁.setTop (mkF m 30 #[rv ca, iv (0 : Int32), rv ba, iv (0 : Int32), iv (2 : Int32), iv (0 : Int32), iv px] [(.int px), (.int (0 : Int32)), (.ref ba)]))
  refine own_go (fun t_ k_ => XS.i2b X0.here hx rfl (hb hby d6_30) rfl k_) ?_
  show OwnFin p e below s _ _ _ (s₁.setTop (mkF m 31 #[rv ca, iv (0 : Int32), rv ba, iv (0 : Int32), iv (2 : Int32), iv (0 : Int32), iv px] [(.int (px.toInt8.toInt32)), (.int (0 : Int32)), (.ref ba)]))
  obtain ⟨T1, h1, X1, e1, W1, A1, st1⟩ := own_bastore X0 hx hZ e0 V_ba (i := 0) (by decide) (by decide) (g := (mkF m 31 #[rv ca, iv (0 : Int32), rv ba, iv (0 : Int32), iv (2 : Int32), iv (0 : Int32), iv px] [(.int (px.toInt8.toInt32)), (.int (0 : Int32)), (.ref ba)])) rfl rfl (hb hby d6_31)
  have V_ca_1 := V_ca.other W1 ne
  have Z1 : n0 ≤ h1.size := Nat.le_trans Z0 (Keep.of_wr W1).1
  have K1 : Keep h0 h1 [ba] := K0.wr W1 (Or.inl (List.mem_of_getElem? (i := 0) rfl))
  have N1 := Fr.snoc X1 N0 g_ba
  refine own_go st1 ?_
  show OwnFin p e below s _ _ _ (T1.setTop (mkF m 32 #[rv ca, iv (0 : Int32), rv ba, iv (0 : Int32), iv (2 : Int32), iv (0 : Int32), iv px] []))
  refine own_go (fun t_ k_ => XS.iinc X1.here hx rfl (hb hby d6_32) rfl (l' := #[rv ca, iv (1 : Int32), rv ba, iv (0 : Int32), iv (2 : Int32), iv (0 : Int32), iv px]) rfl k_) ?_
  show OwnFin p e below s _ _ _ (T1.setTop (mkF m 35 #[rv ca, iv (1 : Int32), rv ba, iv (0 : Int32), iv (2 : Int32), iv (0 : Int32), iv px] []))
  refine own_go (fun t_ k_ => XS.iinc X1.here hx rfl (hb hby d6_35) rfl (l' := #[rv ca, iv (1 : Int32), rv ba, iv (1 : Int32), iv (2 : Int32), iv (0 : Int32), iv px]) rfl k_) ?_
  show OwnFin p e below s _ _ _ (T1.setTop (mkF m 38 #[rv ca, iv (1 : Int32), rv ba, iv (1 : Int32), iv (2 : Int32), iv (0 : Int32), iv px] []))
  refine own_go (fun t_ k_ => XS.iinc X1.here hx rfl (hb hby d6_38) rfl (l' := #[rv ca, iv (1 : Int32), rv ba, iv (1 : Int32), iv (2 : Int32), iv (1 : Int32), iv px]) rfl k_) ?_
  show OwnFin p e below s _ _ _ (T1.setTop (mkF m 41 #[rv ca, iv (1 : Int32), rv ba, iv (1 : Int32), iv (2 : Int32), iv (1 : Int32), iv px] []))
  refine own_go (fun t_ k_ => XS.goto X1.here hx rfl (pc0 := 41) (pc' := 3) rfl (hb hby d6_41) (by decide) (by decide) k_) ?_
  show OwnFin p e below s _ _ _ (T1.setTop (mkF m 3 #[rv ca, iv (1 : Int32), rv ba, iv (1 : Int32), iv (2 : Int32), iv (1 : Int32), iv px] []))
  refine own_go (fun t_ k_ => XS.iload X1.here hx rfl (hb hby d6_3) rfl k_) ?_
  show OwnFin p e below s _ _ _ (T1.setTop (mkF m 5 #[rv ca, iv (1 : Int32), rv ba, iv (1 : Int32), iv (2 : Int32), iv (1 : Int32), iv px] [(.int (1 : Int32))]))
  refine own_go (fun t_ k_ => XS.iload X1.here hx rfl (hb hby d6_5) rfl k_) ?_
  show OwnFin p e below s _ _ _ (T1.setTop (mkF m 7 #[rv ca, iv (1 : Int32), rv ba, iv (1 : Int32), iv (2 : Int32), iv (1 : Int32), iv px] [(.int (2 : Int32)), (.int (1 : Int32))]))
  refine own_go (fun t_ k_ => XS.icmpNo X1.here hx rfl (hb hby d6_7) rfl (tlt (by decide)).2.1 k_) ?_
  show OwnFin p e below s _ _ _ (T1.setTop (mkF m 10 #[rv ca, iv (1 : Int32), rv ba, iv (1 : Int32), iv (2 : Int32), iv (1 : Int32), iv px] []))
  refine own_go (fun t_ k_ => XS.aloadN X1.here hx rfl (hb hby d6_10) rfl rfl k_) ?_
  show OwnFin p e below s _ _ _ (T1.setTop (mkF m 11 #[rv ca, iv (1 : Int32), rv ba, iv (1 : Int32), iv (2 : Int32), iv (1 : Int32), iv px] [(.ref ca)]))
  refine own_go (fun t_ k_ => XS.iloadN X1.here hx rfl (hb hby d6_11) rfl k_) ?_
  show OwnFin p e below s _ _ _ (T1.setTop (mkF m 12 #[rv ca, iv (1 : Int32), rv ba, iv (1 : Int32), iv (2 : Int32), iv (1 : Int32), iv px] [(.int (1 : Int32)), (.ref ca)]))
  refine own_go (own_caload X1 hx hZ e1 V_ca_1 (i := 1) (by decide) (by decide) (g := (mkF m 12 #[rv ca, iv (1 : Int32), rv ba, iv (1 : Int32), iv (2 : Int32), iv (1 : Int32), iv px] [(.int (1 : Int32)), (.ref ca)])) rfl rfl (hb hby d6_12)) ?_
  show OwnFin p e below s _ _ _ (T1.setTop (mkF m 13 #[rv ca, iv (1 : Int32), rv ba, iv (1 : Int32), iv (2 : Int32), iv (1 : Int32), iv px] [(.int py)]))
  refine own_go (fun t_ k_ => XS.istore X1.here hx rfl (hb hby d6_13) rfl (l' := #[rv ca, iv (1 : Int32), rv ba, iv (1 : Int32), iv (2 : Int32), iv (1 : Int32), iv py]) rfl k_) ?_
  show OwnFin p e below s _ _ _ (T1.setTop (mkF m 15 #[rv ca, iv (1 : Int32), rv ba, iv (1 : Int32), iv (2 : Int32), iv (1 : Int32), iv py] []))
  refine own_go (fun t_ k_ => XS.iload X1.here hx rfl (hb hby d6_15) rfl k_) ?_
  show OwnFin p e below s _ _ _ (T1.setTop (mkF m 17 #[rv ca, iv (1 : Int32), rv ba, iv (1 : Int32), iv (2 : Int32), iv (1 : Int32), iv py] [(.int py)]))
  refine own_go (fun t_ k_ => XS.sipush X1.here hx rfl (hb hby d6_17) k_) ?_
  show OwnFin p e below s _ _ _ (T1.setTop (mkF m 20 #[rv ca, iv (1 : Int32), rv ba, iv (1 : Int32), iv (2 : Int32), iv (1 : Int32), iv py] [(.int (255 : Int32)), (.int py)]))
  have hc20_1 : ¬ ((255 : Int32) < py) := hl2
  refine own_go (fun t_ k_ => XS.icmpYes X1.here hx rfl (pc0 := 20) (pc' := 26) rfl (hb hby d6_20) rfl (flt hc20_1).2.2.2 (by decide) (by decide) k_) ?_
  show OwnFin p e below s _ _ _ (T1.setTop (mkF m 26 #[rv ca, iv (1 : Int32), rv ba, iv (1 : Int32), iv (2 : Int32), iv (1 : Int32), iv py] []))
  refine own_go (fun t_ k_ => XS.aloadN X1.here hx rfl (hb hby d6_26) rfl rfl k_) ?_
  show OwnFin p e below s _ _ _ (T1.setTop (mkF m 27 #[rv ca, iv (1 : Int32), rv ba, iv (1 : Int32), iv (2 : Int32), iv (1 : Int32), iv py] [(.ref ba)]))
  refine own_go (fun t_ k_ => XS.iloadN X1.here hx rfl (hb hby d6_27) rfl k_) ?_
  show OwnFin p e below s _ _ _ (T1.setTop (mkF m 28 #[rv ca, iv (1 : Int32), rv ba, iv (1 : Int32), iv (2 : Int32), iv (1 : Int32), iv py] [(.int (1 : Int32)), (.ref ba)]))
  refine own_go (fun t_ k_ => XS.iload X1.here hx rfl (hb hby d6_28) rfl k_) ?_
  show OwnFin p e below s _ _ _ (T1.setTop (mkF m 30 #[rv ca, iv (1 : Int32), rv ba, iv (1 : Int32), iv (2 : Int32), iv (1 : Int32), iv py] [(.int py), (.int (1 : Int32)), (.ref ba)]))
  refine own_go (fun t_ k_ => XS.i2b X1.here hx rfl (hb hby d6_30) rfl k_) ?_
  show OwnFin p e below s _ _ _ (T1.setTop (mkF m 31 #[rv ca, iv (1 : Int32), rv ba, iv (1 : Int32), iv (2 : Int32), iv (1 : Int32), iv py] [(.int (py.toInt8.toInt32)), (.int (1 : Int32)), (.ref ba)]))
  obtain ⟨T2, h2, X2, e2, W2, A2, st2⟩ := own_bastore X1 hx hZ e1 A1 (i := 1) (by decide) (by decide) (g := (mkF m 31 #[rv ca, iv (1 : Int32), rv ba, iv (1 : Int32), iv (2 : Int32), iv (1 : Int32), iv py] [(.int (py.toInt8.toInt32)), (.int (1 : Int32)), (.ref ba)])) rfl rfl (hb hby d6_31)
  have V_ca_2 := V_ca_1.other W2 ne
  have Z2 : n0 ≤ h2.size := Nat.le_trans Z1 (Keep.of_wr W2).1
  have K2 : Keep h0 h2 [ba] := K1.wr W2 (Or.inl (List.mem_of_getElem? (i := 0) rfl))
  have N2 := Fr.snoc X2 N1 g_ba
  refine own_go st2 ?_
  show OwnFin p e below s _ _ _ (T2.setTop (mkF m 32 #[rv ca, iv (1 : Int32), rv ba, iv (1 : Int32), iv (2 : Int32), iv (1 : Int32), iv py] []))
  refine own_go (fun t_ k_ => XS.iinc X2.here hx rfl (hb hby d6_32) rfl (l' := #[rv ca, iv (2 : Int32), rv ba, iv (1 : Int32), iv (2 : Int32), iv (1 : Int32), iv py]) rfl k_) ?_
  show OwnFin p e below s _ _ _ (T2.setTop (mkF m 35 #[rv ca, iv (2 : Int32), rv ba, iv (1 : Int32), iv (2 : Int32), iv (1 : Int32), iv py] []))
  refine own_go (fun t_ k_ => XS.iinc X2.here hx rfl (hb hby d6_35) rfl (l' := #[rv ca, iv (2 : Int32), rv ba, iv (2 : Int32), iv (2 : Int32), iv (1 : Int32), iv py]) rfl k_) ?_
  show OwnFin p e below s _ _ _ (T2.setTop (mkF m 38 #[rv ca, iv (2 : Int32), rv ba, iv (2 : Int32), iv (2 : Int32), iv (1 : Int32), iv py] []))
  refine own_go (fun t_ k_ => XS.iinc X2.here hx rfl (hb hby d6_38) rfl (l' := #[rv ca, iv (2 : Int32), rv ba, iv (2 : Int32), iv (2 : Int32), iv (2 : Int32), iv py]) rfl k_) ?_
  show OwnFin p e below s _ _ _ (T2.setTop (mkF m 41 #[rv ca, iv (2 : Int32), rv ba, iv (2 : Int32), iv (2 : Int32), iv (2 : Int32), iv py] []))
  refine own_go (fun t_ k_ => XS.goto X2.here hx rfl (pc0 := 41) (pc' := 3) rfl (hb hby d6_41) (by decide) (by decide) k_) ?_
  show OwnFin p e below s _ _ _ (T2.setTop (mkF m 3 #[rv ca, iv (2 : Int32), rv ba, iv (2 : Int32), iv (2 : Int32), iv (2 : Int32), iv py] []))
  refine own_go (fun t_ k_ => XS.iload X2.here hx rfl (hb hby d6_3) rfl k_) ?_
  show OwnFin p e below s _ _ _ (T2.setTop (mkF m 5 #[rv ca, iv (2 : Int32), rv ba, iv (2 : Int32), iv (2 : Int32), iv (2 : Int32), iv py] [(.int (2 : Int32))]))
  refine own_go (fun t_ k_ => XS.iload X2.here hx rfl (hb hby d6_5) rfl k_) ?_
  show OwnFin p e below s _ _ _ (T2.setTop (mkF m 7 #[rv ca, iv (2 : Int32), rv ba, iv (2 : Int32), iv (2 : Int32), iv (2 : Int32), iv py] [(.int (2 : Int32)), (.int (2 : Int32))]))
  refine own_go (fun t_ k_ => XS.icmpYes X2.here hx rfl (pc0 := 7) (pc' := 44) rfl (hb hby d6_7) rfl (flt (by decide)).2.1 (by decide) (by decide) k_) ?_
  show OwnFin p e below s _ _ _ (T2.setTop (mkF m 44 #[rv ca, iv (2 : Int32), rv ba, iv (2 : Int32), iv (2 : Int32), iv (2 : Int32), iv py] []))
  refine own_go (fun t_ k_ => XS.iload X2.here hx rfl (hb hby d6_44) rfl k_) ?_
  show OwnFin p e below s _ _ _ (T2.setTop (mkF m 46 #[rv ca, iv (2 : Int32), rv ba, iv (2 : Int32), iv (2 : Int32), iv (2 : Int32), iv py] [(.int (2 : Int32))]))
  refine own_ret X2 (v := some (.int (2 : Int32))) hlk (fun hh => by rw [hret] at hh; cases hh) (fun fs hr => own_retI X2 hx hret (hb hby d6_46) hr) (by decide) (by decide) ?_
  rw [e2]
  refine ⟨rfl, N2, K2, A2.congr (fun z hz => ?_)⟩
  have hz' : z = 0 ∨ z = 1 := by omega
  rcases hz' with rfl | rfl <;> rfl
theorem ef_6_A (m : MethodId) (ca : Addr) (ba : Addr) : entryFrame m #[(.ref ca), (.int (0 : Int32)), (.ref ba), (.int (0 : Int32)), (.int (2 : Int32))] 7 = mkF m 0 #[rv ca, iv (0 : Int32), rv ba, iv (0 : Int32), iv (2 : Int32), .unset, .unset] [] := by first | (simp [entryFrame, mkF, argsToLocals, Value.category]; done) | rfl
set_option maxRecDepth 65536 in
set_option maxHeartbeats 40000000 in
theorem rm6_A (l : Launch) (Z : State) (a0 : Array Value) (hw : ∀ d ∈ tables_1, d.before a0 Z = true) (ws : List Jvm.Cond) (ca : Addr) (ba : Addr) (px : Int32) (py : Int32) (h0 : Heap) (n0 : Nat) (Z0 : n0 ≤ h0.size) (V_ca : OwnArr Z h0 ca .char 2 (fun k => .int (own_two px py k))) (V_ba : OwnArr Z h0 ba .byte 2 (fun k => .int ((fun _ => (0 : Int32)) k))) (g_ba : n0 ≤ ba) (ne : ca ≠ ba) (hl1 : (255 : Int32) < px) :
    OwnCtr l Z (⟨"java/lang/StringUTF16", "compress", "([CI[BII)I"⟩ : MethodName) ws jdk_52_method_21_code 7 (some .int) ({ frames := 0, cells := 0, slots := 0, locals := 0 } : Room) #[(.ref ca), (.int (0 : Int32)), (.ref ba), (.int (0 : Int32)), (.int (2 : Int32))] h0 (fun v h L => v = some (.int (0 : Int32)) ∧ Fr n0 L ∧ Keep h0 h [ba]) := by
  refine own_body (g0 := fun m => mkF m 0 #[rv ca, iv (0 : Int32), rv ba, iv (0 : Int32), iv (2 : Int32), .unset, .unset] []) pn_6 (fun m => ef_6_A m ca ba) ?_
  intro p e s m below meth c s₁ X0 hx hby hml hown hnm hZ e0 hret hlk
  have hml : c.maxLocals = 7 := hml
  have hown : s.vm.findClass "java/lang/StringUTF16" = some m.cls := hown
  have hnm : meth.name = "compress" := hnm
  have hret : meth.sig.returnType = (some .int) := hret
  have N0 := Fr.nil n0
  have K0 := Keep.refl h0 [ba]
  show OwnFin p e below s _ _ _ (s₁.setTop (mkF m 0 #[rv ca, iv (0 : Int32), rv ba, iv (0 : Int32), iv (2 : Int32), .unset, .unset] []))
  refine own_go (fun t_ k_ => XS.iconst X0.here hx rfl (hb hby d6_0) k_) ?_
  show OwnFin p e below s _ _ _ (s₁.setTop (mkF m 1 #[rv ca, iv (0 : Int32), rv ba, iv (0 : Int32), iv (2 : Int32), .unset, .unset] [(.int (0 : Int32))]))
  refine own_go (fun t_ k_ => XS.istore X0.here hx rfl (hb hby d6_1) rfl (l' := #[rv ca, iv (0 : Int32), rv ba, iv (0 : Int32), iv (2 : Int32), iv (0 : Int32), .unset]) rfl k_) ?_
  show OwnFin p e below s _ _ _ (s₁.setTop (mkF m 3 #[rv ca, iv (0 : Int32), rv ba, iv (0 : Int32), iv (2 : Int32), iv (0 : Int32), .unset] []))
  refine own_go (fun t_ k_ => XS.iload X0.here hx rfl (hb hby d6_3) rfl k_) ?_
  show OwnFin p e below s _ _ _ (s₁.setTop (mkF m 5 #[rv ca, iv (0 : Int32), rv ba, iv (0 : Int32), iv (2 : Int32), iv (0 : Int32), .unset] [(.int (0 : Int32))]))
  refine own_go (fun t_ k_ => XS.iload X0.here hx rfl (hb hby d6_5) rfl k_) ?_
  show OwnFin p e below s _ _ _ (s₁.setTop (mkF m 7 #[rv ca, iv (0 : Int32), rv ba, iv (0 : Int32), iv (2 : Int32), iv (0 : Int32), .unset] [(.int (2 : Int32)), (.int (0 : Int32))]))
  refine own_go (fun t_ k_ => XS.icmpNo X0.here hx rfl (hb hby d6_7) rfl (tlt (by decide)).2.1 k_) ?_
  show OwnFin p e below s _ _ _ (s₁.setTop (mkF m 10 #[rv ca, iv (0 : Int32), rv ba, iv (0 : Int32), iv (2 : Int32), iv (0 : Int32), .unset] []))
  refine own_go (fun t_ k_ => XS.aloadN X0.here hx rfl (hb hby d6_10) rfl rfl k_) ?_
  show OwnFin p e below s _ _ _ (s₁.setTop (mkF m 11 #[rv ca, iv (0 : Int32), rv ba, iv (0 : Int32), iv (2 : Int32), iv (0 : Int32), .unset] [(.ref ca)]))
  refine own_go (fun t_ k_ => XS.iloadN X0.here hx rfl (hb hby d6_11) rfl k_) ?_
  show OwnFin p e below s _ _ _ (s₁.setTop (mkF m 12 #[rv ca, iv (0 : Int32), rv ba, iv (0 : Int32), iv (2 : Int32), iv (0 : Int32), .unset] [(.int (0 : Int32)), (.ref ca)]))
  refine own_go (own_caload X0 hx hZ e0 V_ca (i := 0) (by decide) (by decide) (g := (mkF m 12 #[rv ca, iv (0 : Int32), rv ba, iv (0 : Int32), iv (2 : Int32), iv (0 : Int32), .unset] [(.int (0 : Int32)), (.ref ca)])) rfl rfl (hb hby d6_12)) ?_
  show OwnFin p e below s _ _ _ (s₁.setTop (mkF m 13 #[rv ca, iv (0 : Int32), rv ba, iv (0 : Int32), iv (2 : Int32), iv (0 : Int32), .unset] [(.int px)]))
  refine own_go (fun t_ k_ => XS.istore X0.here hx rfl (hb hby d6_13) rfl (l' := #[rv ca, iv (0 : Int32), rv ba, iv (0 : Int32), iv (2 : Int32), iv (0 : Int32), iv px]) rfl k_) ?_
  show OwnFin p e below s _ _ _ (s₁.setTop (mkF m 15 #[rv ca, iv (0 : Int32), rv ba, iv (0 : Int32), iv (2 : Int32), iv (0 : Int32), iv px] []))
  refine own_go (fun t_ k_ => XS.iload X0.here hx rfl (hb hby d6_15) rfl k_) ?_
  show OwnFin p e below s _ _ _ (s₁.setTop (mkF m 17 #[rv ca, iv (0 : Int32), rv ba, iv (0 : Int32), iv (2 : Int32), iv (0 : Int32), iv px] [(.int px)]))
  refine own_go (fun t_ k_ => XS.sipush X0.here hx rfl (hb hby d6_17) k_) ?_
  show OwnFin p e below s _ _ _ (s₁.setTop (mkF m 20 #[rv ca, iv (0 : Int32), rv ba, iv (0 : Int32), iv (2 : Int32), iv (0 : Int32), iv px] [(.int (255 : Int32)), (.int px)]))
  have hc20 : (255 : Int32) < px := hl1
  refine own_go (fun t_ k_ => XS.icmpNo X0.here hx rfl (hb hby d6_20) rfl (tlt hc20).2.2.2 k_) ?_
  show OwnFin p e below s _ _ _ (s₁.setTop (mkF m 23 #[rv ca, iv (0 : Int32), rv ba, iv (0 : Int32), iv (2 : Int32), iv (0 : Int32), iv px] []))
  refine own_go (fun t_ k_ => XS.iload X0.here hx rfl (hb hby d6_23) rfl k_) ?_
  show OwnFin p e below s _ _ _ (s₁.setTop (mkF m 25 #[rv ca, iv (0 : Int32), rv ba, iv (0 : Int32), iv (2 : Int32), iv (0 : Int32), iv px] [(.int (0 : Int32))]))
  refine own_ret X0 (v := some (.int (0 : Int32))) hlk (fun hh => by rw [hret] at hh; cases hh) (fun fs hr => own_retI X0 hx hret (hb hby d6_25) hr) (by decide) (by decide) ?_
  rw [e0]
  exact ⟨rfl, N0, K0⟩
theorem ef_6_B (m : MethodId) (ca : Addr) (ba : Addr) : entryFrame m #[(.ref ca), (.int (0 : Int32)), (.ref ba), (.int (0 : Int32)), (.int (2 : Int32))] 7 = mkF m 0 #[rv ca, iv (0 : Int32), rv ba, iv (0 : Int32), iv (2 : Int32), .unset, .unset] [] := by first | (simp [entryFrame, mkF, argsToLocals, Value.category]; done) | rfl
set_option maxRecDepth 65536 in
set_option maxHeartbeats 40000000 in
theorem rm6_B (l : Launch) (Z : State) (a0 : Array Value) (hw : ∀ d ∈ tables_1, d.before a0 Z = true) (ws : List Jvm.Cond) (ca : Addr) (ba : Addr) (px : Int32) (py : Int32) (h0 : Heap) (n0 : Nat) (Z0 : n0 ≤ h0.size) (V_ca : OwnArr Z h0 ca .char 2 (fun k => .int (own_two px py k))) (V_ba : OwnArr Z h0 ba .byte 2 (fun k => .int ((fun _ => (0 : Int32)) k))) (g_ba : n0 ≤ ba) (ne : ca ≠ ba) (hl1 : ¬ (255 : Int32) < px) (hl2 : (255 : Int32) < py) :
    OwnCtr l Z (⟨"java/lang/StringUTF16", "compress", "([CI[BII)I"⟩ : MethodName) ws jdk_52_method_21_code 7 (some .int) ({ frames := 0, cells := 0, slots := 0, locals := 0 } : Room) #[(.ref ca), (.int (0 : Int32)), (.ref ba), (.int (0 : Int32)), (.int (2 : Int32))] h0 (fun v h L => v = some (.int (1 : Int32)) ∧ Fr n0 L ∧ Keep h0 h [ba]) := by
  refine own_body (g0 := fun m => mkF m 0 #[rv ca, iv (0 : Int32), rv ba, iv (0 : Int32), iv (2 : Int32), .unset, .unset] []) pn_6 (fun m => ef_6_B m ca ba) ?_
  intro p e s m below meth c s₁ X0 hx hby hml hown hnm hZ e0 hret hlk
  have hml : c.maxLocals = 7 := hml
  have hown : s.vm.findClass "java/lang/StringUTF16" = some m.cls := hown
  have hnm : meth.name = "compress" := hnm
  have hret : meth.sig.returnType = (some .int) := hret
  have N0 := Fr.nil n0
  have K0 := Keep.refl h0 [ba]
  show OwnFin p e below s _ _ _ (s₁.setTop (mkF m 0 #[rv ca, iv (0 : Int32), rv ba, iv (0 : Int32), iv (2 : Int32), .unset, .unset] []))
  refine own_go (fun t_ k_ => XS.iconst X0.here hx rfl (hb hby d6_0) k_) ?_
  show OwnFin p e below s _ _ _ (s₁.setTop (mkF m 1 #[rv ca, iv (0 : Int32), rv ba, iv (0 : Int32), iv (2 : Int32), .unset, .unset] [(.int (0 : Int32))]))
  refine own_go (fun t_ k_ => XS.istore X0.here hx rfl (hb hby d6_1) rfl (l' := #[rv ca, iv (0 : Int32), rv ba, iv (0 : Int32), iv (2 : Int32), iv (0 : Int32), .unset]) rfl k_) ?_
  show OwnFin p e below s _ _ _ (s₁.setTop (mkF m 3 #[rv ca, iv (0 : Int32), rv ba, iv (0 : Int32), iv (2 : Int32), iv (0 : Int32), .unset] []))
  refine own_go (fun t_ k_ => XS.iload X0.here hx rfl (hb hby d6_3) rfl k_) ?_
  show OwnFin p e below s _ _ _ (s₁.setTop (mkF m 5 #[rv ca, iv (0 : Int32), rv ba, iv (0 : Int32), iv (2 : Int32), iv (0 : Int32), .unset] [(.int (0 : Int32))]))
  refine own_go (fun t_ k_ => XS.iload X0.here hx rfl (hb hby d6_5) rfl k_) ?_
  show OwnFin p e below s _ _ _ (s₁.setTop (mkF m 7 #[rv ca, iv (0 : Int32), rv ba, iv (0 : Int32), iv (2 : Int32), iv (0 : Int32), .unset] [(.int (2 : Int32)), (.int (0 : Int32))]))
  refine own_go (fun t_ k_ => XS.icmpNo X0.here hx rfl (hb hby d6_7) rfl (tlt (by decide)).2.1 k_) ?_
  show OwnFin p e below s _ _ _ (s₁.setTop (mkF m 10 #[rv ca, iv (0 : Int32), rv ba, iv (0 : Int32), iv (2 : Int32), iv (0 : Int32), .unset] []))
  refine own_go (fun t_ k_ => XS.aloadN X0.here hx rfl (hb hby d6_10) rfl rfl k_) ?_
  show OwnFin p e below s _ _ _ (s₁.setTop (mkF m 11 #[rv ca, iv (0 : Int32), rv ba, iv (0 : Int32), iv (2 : Int32), iv (0 : Int32), .unset] [(.ref ca)]))
  refine own_go (fun t_ k_ => XS.iloadN X0.here hx rfl (hb hby d6_11) rfl k_) ?_
  show OwnFin p e below s _ _ _ (s₁.setTop (mkF m 12 #[rv ca, iv (0 : Int32), rv ba, iv (0 : Int32), iv (2 : Int32), iv (0 : Int32), .unset] [(.int (0 : Int32)), (.ref ca)]))
  refine own_go (own_caload X0 hx hZ e0 V_ca (i := 0) (by decide) (by decide) (g := (mkF m 12 #[rv ca, iv (0 : Int32), rv ba, iv (0 : Int32), iv (2 : Int32), iv (0 : Int32), .unset] [(.int (0 : Int32)), (.ref ca)])) rfl rfl (hb hby d6_12)) ?_
  show OwnFin p e below s _ _ _ (s₁.setTop (mkF m 13 #[rv ca, iv (0 : Int32), rv ba, iv (0 : Int32), iv (2 : Int32), iv (0 : Int32), .unset] [(.int px)]))
  refine own_go (fun t_ k_ => XS.istore X0.here hx rfl (hb hby d6_13) rfl (l' := #[rv ca, iv (0 : Int32), rv ba, iv (0 : Int32), iv (2 : Int32), iv (0 : Int32), iv px]) rfl k_) ?_
  show OwnFin p e below s _ _ _ (s₁.setTop (mkF m 15 #[rv ca, iv (0 : Int32), rv ba, iv (0 : Int32), iv (2 : Int32), iv (0 : Int32), iv px] []))
  refine own_go (fun t_ k_ => XS.iload X0.here hx rfl (hb hby d6_15) rfl k_) ?_
  show OwnFin p e below s _ _ _ (s₁.setTop (mkF m 17 #[rv ca, iv (0 : Int32), rv ba, iv (0 : Int32), iv (2 : Int32), iv (0 : Int32), iv px] [(.int px)]))
  refine own_go (fun t_ k_ => XS.sipush X0.here hx rfl (hb hby d6_17) k_) ?_
  show OwnFin p e below s _ _ _ (s₁.setTop (mkF m 20 #[rv ca, iv (0 : Int32), rv ba, iv (0 : Int32), iv (2 : Int32), iv (0 : Int32), iv px] [(.int (255 : Int32)), (.int px)]))
  have hc20 : ¬ ((255 : Int32) < px) := hl1
  refine own_go (fun t_ k_ => XS.icmpYes X0.here hx rfl (pc0 := 20) (pc' := 26) rfl (hb hby d6_20) rfl (flt hc20).2.2.2 (by decide) (by decide) k_) ?_
  show OwnFin p e below s _ _ _ (s₁.setTop (mkF m 26 #[rv ca, iv (0 : Int32), rv ba, iv (0 : Int32), iv (2 : Int32), iv (0 : Int32), iv px] []))
  refine own_go (fun t_ k_ => XS.aloadN X0.here hx rfl (hb hby d6_26) rfl rfl k_) ?_
  show OwnFin p e below s _ _ _ (s₁.setTop (mkF m 27 #[rv ca, iv (0 : Int32), rv ba, iv (0 : Int32), iv (2 : Int32), iv (0 : Int32), iv px] [(.ref ba)]))
  refine own_go (fun t_ k_ => XS.iloadN X0.here hx rfl (hb hby d6_27) rfl k_) ?_
  show OwnFin p e below s _ _ _ (s₁.setTop (mkF m 28 #[rv ca, iv (0 : Int32), rv ba, iv (0 : Int32), iv (2 : Int32), iv (0 : Int32), iv px] [(.int (0 : Int32)), (.ref ba)]))
  refine own_go (fun t_ k_ => XS.iload X0.here hx rfl (hb hby d6_28) rfl k_) ?_
  show OwnFin p e below s _ _ _ (s₁.setTop (mkF m 30 #[rv ca, iv (0 : Int32), rv ba, iv (0 : Int32), iv (2 : Int32), iv (0 : Int32), iv px] [(.int px), (.int (0 : Int32)), (.ref ba)]))
  refine own_go (fun t_ k_ => XS.i2b X0.here hx rfl (hb hby d6_30) rfl k_) ?_
  show OwnFin p e below s _ _ _ (s₁.setTop (mkF m 31 #[rv ca, iv (0 : Int32), rv ba, iv (0 : Int32), iv (2 : Int32), iv (0 : Int32), iv px] [(.int (px.toInt8.toInt32)), (.int (0 : Int32)), (.ref ba)]))
  obtain ⟨T1, h1, X1, e1, W1, A1, st1⟩ := own_bastore X0 hx hZ e0 V_ba (i := 0) (by decide) (by decide) (g := (mkF m 31 #[rv ca, iv (0 : Int32), rv ba, iv (0 : Int32), iv (2 : Int32), iv (0 : Int32), iv px] [(.int (px.toInt8.toInt32)), (.int (0 : Int32)), (.ref ba)])) rfl rfl (hb hby d6_31)
  have V_ca_1 := V_ca.other W1 ne
  have Z1 : n0 ≤ h1.size := Nat.le_trans Z0 (Keep.of_wr W1).1
  have K1 : Keep h0 h1 [ba] := K0.wr W1 (Or.inl (List.mem_of_getElem? (i := 0) rfl))
  have N1 := Fr.snoc X1 N0 g_ba
  refine own_go st1 ?_
  show OwnFin p e below s _ _ _ (T1.setTop (mkF m 32 #[rv ca, iv (0 : Int32), rv ba, iv (0 : Int32), iv (2 : Int32), iv (0 : Int32), iv px] []))
  refine own_go (fun t_ k_ => XS.iinc X1.here hx rfl (hb hby d6_32) rfl (l' := #[rv ca, iv (1 : Int32), rv ba, iv (0 : Int32), iv (2 : Int32), iv (0 : Int32), iv px]) rfl k_) ?_
  show OwnFin p e below s _ _ _ (T1.setTop (mkF m 35 #[rv ca, iv (1 : Int32), rv ba, iv (0 : Int32), iv (2 : Int32), iv (0 : Int32), iv px] []))
  refine own_go (fun t_ k_ => XS.iinc X1.here hx rfl (hb hby d6_35) rfl (l' := #[rv ca, iv (1 : Int32), rv ba, iv (1 : Int32), iv (2 : Int32), iv (0 : Int32), iv px]) rfl k_) ?_
  show OwnFin p e below s _ _ _ (T1.setTop (mkF m 38 #[rv ca, iv (1 : Int32), rv ba, iv (1 : Int32), iv (2 : Int32), iv (0 : Int32), iv px] []))
  refine own_go (fun t_ k_ => XS.iinc X1.here hx rfl (hb hby d6_38) rfl (l' := #[rv ca, iv (1 : Int32), rv ba, iv (1 : Int32), iv (2 : Int32), iv (1 : Int32), iv px]) rfl k_) ?_
  show OwnFin p e below s _ _ _ (T1.setTop (mkF m 41 #[rv ca, iv (1 : Int32), rv ba, iv (1 : Int32), iv (2 : Int32), iv (1 : Int32), iv px] []))
  refine own_go (fun t_ k_ => XS.goto X1.here hx rfl (pc0 := 41) (pc' := 3) rfl (hb hby d6_41) (by decide) (by decide) k_) ?_
  show OwnFin p e below s _ _ _ (T1.setTop (mkF m 3 #[rv ca, iv (1 : Int32), rv ba, iv (1 : Int32), iv (2 : Int32), iv (1 : Int32), iv px] []))
  refine own_go (fun t_ k_ => XS.iload X1.here hx rfl (hb hby d6_3) rfl k_) ?_
  show OwnFin p e below s _ _ _ (T1.setTop (mkF m 5 #[rv ca, iv (1 : Int32), rv ba, iv (1 : Int32), iv (2 : Int32), iv (1 : Int32), iv px] [(.int (1 : Int32))]))
  refine own_go (fun t_ k_ => XS.iload X1.here hx rfl (hb hby d6_5) rfl k_) ?_
  show OwnFin p e below s _ _ _ (T1.setTop (mkF m 7 #[rv ca, iv (1 : Int32), rv ba, iv (1 : Int32), iv (2 : Int32), iv (1 : Int32), iv px] [(.int (2 : Int32)), (.int (1 : Int32))]))
  refine own_go (fun t_ k_ => XS.icmpNo X1.here hx rfl (hb hby d6_7) rfl (tlt (by decide)).2.1 k_) ?_
  show OwnFin p e below s _ _ _ (T1.setTop (mkF m 10 #[rv ca, iv (1 : Int32), rv ba, iv (1 : Int32), iv (2 : Int32), iv (1 : Int32), iv px] []))
  refine own_go (fun t_ k_ => XS.aloadN X1.here hx rfl (hb hby d6_10) rfl rfl k_) ?_
  show OwnFin p e below s _ _ _ (T1.setTop (mkF m 11 #[rv ca, iv (1 : Int32), rv ba, iv (1 : Int32), iv (2 : Int32), iv (1 : Int32), iv px] [(.ref ca)]))
  refine own_go (fun t_ k_ => XS.iloadN X1.here hx rfl (hb hby d6_11) rfl k_) ?_
  show OwnFin p e below s _ _ _ (T1.setTop (mkF m 12 #[rv ca, iv (1 : Int32), rv ba, iv (1 : Int32), iv (2 : Int32), iv (1 : Int32), iv px] [(.int (1 : Int32)), (.ref ca)]))
  refine own_go (own_caload X1 hx hZ e1 V_ca_1 (i := 1) (by decide) (by decide) (g := (mkF m 12 #[rv ca, iv (1 : Int32), rv ba, iv (1 : Int32), iv (2 : Int32), iv (1 : Int32), iv px] [(.int (1 : Int32)), (.ref ca)])) rfl rfl (hb hby d6_12)) ?_
  show OwnFin p e below s _ _ _ (T1.setTop (mkF m 13 #[rv ca, iv (1 : Int32), rv ba, iv (1 : Int32), iv (2 : Int32), iv (1 : Int32), iv px] [(.int py)]))
  refine own_go (fun t_ k_ => XS.istore X1.here hx rfl (hb hby d6_13) rfl (l' := #[rv ca, iv (1 : Int32), rv ba, iv (1 : Int32), iv (2 : Int32), iv (1 : Int32), iv py]) rfl k_) ?_
  show OwnFin p e below s _ _ _ (T1.setTop (mkF m 15 #[rv ca, iv (1 : Int32), rv ba, iv (1 : Int32), iv (2 : Int32), iv (1 : Int32), iv py] []))
  refine own_go (fun t_ k_ => XS.iload X1.here hx rfl (hb hby d6_15) rfl k_) ?_
  show OwnFin p e below s _ _ _ (T1.setTop (mkF m 17 #[rv ca, iv (1 : Int32), rv ba, iv (1 : Int32), iv (2 : Int32), iv (1 : Int32), iv py] [(.int py)]))
  refine own_go (fun t_ k_ => XS.sipush X1.here hx rfl (hb hby d6_17) k_) ?_
  show OwnFin p e below s _ _ _ (T1.setTop (mkF m 20 #[rv ca, iv (1 : Int32), rv ba, iv (1 : Int32), iv (2 : Int32), iv (1 : Int32), iv py] [(.int (255 : Int32)), (.int py)]))
  have hc20_1 : (255 : Int32) < py := hl2
  refine own_go (fun t_ k_ => XS.icmpNo X1.here hx rfl (hb hby d6_20) rfl (tlt hc20_1).2.2.2 k_) ?_
  show OwnFin p e below s _ _ _ (T1.setTop (mkF m 23 #[rv ca, iv (1 : Int32), rv ba, iv (1 : Int32), iv (2 : Int32), iv (1 : Int32), iv py] []))
  refine own_go (fun t_ k_ => XS.iload X1.here hx rfl (hb hby d6_23) rfl k_) ?_
  show OwnFin p e below s _ _ _ (T1.setTop (mkF m 25 #[rv ca, iv (1 : Int32), rv ba, iv (1 : Int32), iv (2 : Int32), iv (1 : Int32), iv py] [(.int (1 : Int32))]))
  refine own_ret X1 (v := some (.int (1 : Int32))) hlk (fun hh => by rw [hret] at hh; cases hh) (fun fs hr => own_retI X1 hx hret (hb hby d6_25) hr) (by decide) (by decide) ?_
  rw [e1]
  exact ⟨rfl, N1, K1⟩
theorem d5_0 : decode jdk_52_method_16_code 0 = .ok (.iload_n 2, 1) := by decide +kernel
theorem d5_1 : decode jdk_52_method_16_code 1 = .ok (.newarray .byte, 2) := by decide +kernel
theorem d5_3 : decode jdk_52_method_16_code 3 = .ok (.astore_n 3, 1) := by decide +kernel
theorem d5_4 : decode jdk_52_method_16_code 4 = .ok (.aload_n 0, 1) := by decide +kernel
theorem d5_5 : decode jdk_52_method_16_code 5 = .ok (.iload_n 1, 1) := by decide +kernel
theorem d5_6 : decode jdk_52_method_16_code 6 = .ok (.aload_n 3, 1) := by decide +kernel
theorem d5_7 : decode jdk_52_method_16_code 7 = .ok (.iconst 0, 1) := by decide +kernel
theorem d5_8 : decode jdk_52_method_16_code 8 = .ok (.iload_n 2, 1) := by decide +kernel
theorem d5_9 : decode jdk_52_method_16_code 9 = .ok (.invokestatic 115, 3) := by decide +kernel
theorem d5_12 : decode jdk_52_method_16_code 12 = .ok (.istore 4, 2) := by decide +kernel
theorem d5_14 : decode jdk_52_method_16_code 14 = .ok (.iload 4, 2) := by decide +kernel
theorem d5_16 : decode jdk_52_method_16_code 16 = .ok (.iload_n 2, 1) := by decide +kernel
theorem d5_17 : decode jdk_52_method_16_code 17 = .ok (.if_icmp .eq 40, 3) := by decide +kernel
theorem d5_20 : decode jdk_52_method_16_code 20 = .ok (.aload_n 0, 1) := by decide +kernel
theorem d5_21 : decode jdk_52_method_16_code 21 = .ok (.iload_n 1, 1) := by decide +kernel
theorem d5_22 : decode jdk_52_method_16_code 22 = .ok (.iload_n 2, 1) := by decide +kernel
theorem d5_23 : decode jdk_52_method_16_code 23 = .ok (.invokestatic 119, 3) := by decide +kernel
theorem d5_26 : decode jdk_52_method_16_code 26 = .ok (.astore 5, 2) := by decide +kernel
theorem d5_28 : decode jdk_52_method_16_code 28 = .ok (.aload 5, 2) := by decide +kernel
theorem d5_30 : decode jdk_52_method_16_code 30 = .ok (.iload 4, 2) := by decide +kernel
theorem d5_32 : decode jdk_52_method_16_code 32 = .ok (.invokestatic 71, 3) := by decide +kernel
theorem d5_35 : decode jdk_52_method_16_code 35 = .ok (.sipush 255, 3) := by decide +kernel
theorem d5_38 : decode jdk_52_method_16_code 38 = .ok (.if_icmp .gt 16, 3) := by decide +kernel
theorem d5_41 : decode jdk_52_method_16_code 41 = .ok (.aload 5, 2) := by decide +kernel
theorem d5_43 : decode jdk_52_method_16_code 43 = .ok (.iconst 0, 1) := by decide +kernel
theorem d5_44 : decode jdk_52_method_16_code 44 = .ok (.aload_n 3, 1) := by decide +kernel
theorem d5_45 : decode jdk_52_method_16_code 45 = .ok (.iconst 0, 1) := by decide +kernel
theorem d5_46 : decode jdk_52_method_16_code 46 = .ok (.iload_n 2, 1) := by decide +kernel
theorem d5_47 : decode jdk_52_method_16_code 47 = .ok (.invokestatic 123, 3) := by decide +kernel
theorem d5_50 : decode jdk_52_method_16_code 50 = .ok (.iload_n 2, 1) := by decide +kernel
theorem d5_51 : decode jdk_52_method_16_code 51 = .ok (.if_icmp .eq 6, 3) := by decide +kernel
theorem d5_54 : decode jdk_52_method_16_code 54 = .ok (.aload 5, 2) := by decide +kernel
theorem d5_56 : decode jdk_52_method_16_code 56 = .ok (.areturn, 1) := by decide +kernel
theorem d5_57 : decode jdk_52_method_16_code 57 = .ok (.aload_n 3, 1) := by decide +kernel
theorem d5_58 : decode jdk_52_method_16_code 58 = .ok (.areturn, 1) := by decide +kernel
theorem pn_5 : plainFor (⟨"java/lang/StringUTF16", "compress", "([CII)[B"⟩ : MethodName) = true := plainFor_of_name (by first | (simp [plainName, overriddenIn]; done) | decide +kernel)
theorem pd_5_5 : parseMethodDescriptor "([CI[BII)I" = some ⟨[(.array .char), .int, (.array .byte), .int, .int], some .int⟩ := by decide +kernel
theorem pd_5_4 : parseMethodDescriptor "([CII)[B" = some ⟨[(.array .char), .int, .int], some (.array .byte)⟩ := by decide +kernel
theorem pd_5_19 : parseMethodDescriptor "([BI)C" = some ⟨[(.array .byte), .int], some .char⟩ := by decide +kernel
theorem ef_5 (m : MethodId) (a1 : Addr) (p2 : Int32) (p3 : Int32) : entryFrame m #[(.ref a1), (.int p2), (.int p3)] 6 = mkF m 0 #[rv a1, iv p2, iv p3, .unset, .unset, .unset] [] := by first | (simp [entryFrame, mkF, argsToLocals, Value.category]; done) | rfl
theorem ef_5_L (m : MethodId) (ca : Addr) : entryFrame m #[(.ref ca), (.int (0 : Int32)), (.int (2 : Int32))] 6 = mkF m 0 #[rv ca, iv (0 : Int32), iv (2 : Int32), .unset, .unset, .unset] [] := by first | (simp [entryFrame, mkF, argsToLocals, Value.category]; done) | rfl
set_option maxRecDepth 65536 in
set_option maxHeartbeats 40000000 in
theorem rm5_L (l : Launch) (Z : State) (a0 : Array Value) (hw : ∀ d ∈ tables_1, d.before a0 Z = true) (ws : List Jvm.Cond) (ca : Addr) (px : Int32) (py : Int32) (h0 : Heap) (n0 : Nat) (Z0 : n0 ≤ h0.size) (V_ca : OwnArr Z h0 ca .char 2 (fun k => .int (own_two px py k))) (S_as : Sta Z Z.heap "java/lang/StringUTF16" "$assertionsDisabled" "Z" (.int (1 : Int32))) (S_hi : Sta Z Z.heap "java/lang/StringUTF16" "HI_BYTE_SHIFT" "I" (.int (0 : Int32))) (S_lo : Sta Z Z.heap "java/lang/StringUTF16" "LO_BYTE_SHIFT" "I" (.int (8 : Int32))) (OL : Old Z n0 h0) (hpx : own_ch px) (hpy : own_ch py) (hl1 : ¬ (255 : Int32) < px) (hl2 : ¬ (255 : Int32) < py) :
    OwnCtr l Z (⟨"java/lang/StringUTF16", "compress", "([CII)[B"⟩ : MethodName) ws jdk_52_method_16_code 6 (some (.array .byte)) ({ frames := 1, cells := 1, slots := 2, locals := 18 } : Room) #[(.ref ca), (.int (0 : Int32)), (.int (2 : Int32))] h0 (fun v h L => ∃ b : Addr, v = some (.ref b) ∧ Fr n0 L ∧ Keep h0 h [] ∧ h0.size ≤ b ∧ OwnArr Z h b .byte 2 (fun k => .int (own_two (own_lb px) (own_lb py) k))) := by
  refine own_body (g0 := fun m => mkF m 0 #[rv ca, iv (0 : Int32), iv (2 : Int32), .unset, .unset, .unset] []) pn_5 (fun m => ef_5_L m ca) ?_
  intro p e s m below meth c s₁ X0 hx hby hml hown hnm hZ e0 hret hlk
  have hml : c.maxLocals = 6 := hml
  have hown : s.vm.findClass "java/lang/StringUTF16" = some m.cls := hown
  have hnm : meth.name = "compress" := hnm
  have hret : meth.sig.returnType = (some (.array .byte)) := hret
  have N0 := Fr.nil n0
  have K0 := Keep.refl h0 []
  show OwnFin p e below s _ _ _ (s₁.setTop (mkF m 0 #[rv ca, iv (0 : Int32), iv (2 : Int32), .unset, .unset, .unset] []))
  refine own_go (fun t_ k_ => XS.iloadN X0.here hx rfl (hb hby d5_0) rfl k_) ?_
  show OwnFin p e below s _ _ _ (s₁.setTop (mkF m 1 #[rv ca, iv (0 : Int32), iv (2 : Int32), .unset, .unset, .unset] [(.int (2 : Int32))]))
  obtain ⟨T1, h1, X1, e1, E1, A1, st1⟩ := own_newarr X0 hx hZ (hw _ (List.mem_of_getElem? (i := 26) rfl)) e0 (g := (mkF m 1 #[rv ca, iv (0 : Int32), iv (2 : Int32), .unset, .unset, .unset] [(.int (2 : Int32))])) rfl (hb hby d5_1) rfl (n := 2) (cap := 2) (by decide) (by decide) (by decide) (by decide) (by decide)
  obtain ⟨b1, g1⟩ : ∃ z, z = h0.size := ⟨_, rfl⟩
  rw [← g1] at A1 st1
  have g_b1 : n0 ≤ b1 := Nat.le_trans Z0 (Nat.le_of_eq g1.symm)
  have sz_b1 : h0.size ≤ b1 := Nat.le_trans K0.1 (Nat.le_of_eq g1.symm)
  have ne_ca_b1 : ca ≠ b1 := Nat.ne_of_lt (Nat.lt_of_lt_of_le V_ca.lt (Nat.le_of_eq g1.symm))
  have V_ca_1 := V_ca.ext E1
  have OL_1 := OL.ext E1
  have Z1 : n0 ≤ h1.size := Nat.le_trans Z0 E1.1
  have K1 : Keep h0 h1 [] := K0.ext E1
  have V_b1 : OwnArr Z h1 b1 .byte 2 (fun _ => (.int (0 : Int32))) := A1
  refine own_go st1 ?_
  show OwnFin p e below s _ _ _ (T1.setTop (mkF m 3 #[rv ca, iv (0 : Int32), iv (2 : Int32), .unset, .unset, .unset] [(.ref b1)]))
  refine own_go (fun t_ k_ => XS.astoreN X1.here hx rfl (hb hby d5_3) rfl rfl (l' := #[rv ca, iv (0 : Int32), iv (2 : Int32), rv b1, .unset, .unset]) rfl k_) ?_
  show OwnFin p e below s _ _ _ (T1.setTop (mkF m 4 #[rv ca, iv (0 : Int32), iv (2 : Int32), rv b1, .unset, .unset] []))
  refine own_go (fun t_ k_ => XS.aloadN X1.here hx rfl (hb hby d5_4) rfl rfl k_) ?_
  show OwnFin p e below s _ _ _ (T1.setTop (mkF m 5 #[rv ca, iv (0 : Int32), iv (2 : Int32), rv b1, .unset, .unset] [(.ref ca)]))
  refine own_go (fun t_ k_ => XS.iloadN X1.here hx rfl (hb hby d5_5) rfl k_) ?_
  show OwnFin p e below s _ _ _ (T1.setTop (mkF m 6 #[rv ca, iv (0 : Int32), iv (2 : Int32), rv b1, .unset, .unset] [(.int (0 : Int32)), (.ref ca)]))
  refine own_go (fun t_ k_ => XS.aloadN X1.here hx rfl (hb hby d5_6) rfl rfl k_) ?_
  show OwnFin p e below s _ _ _ (T1.setTop (mkF m 7 #[rv ca, iv (0 : Int32), iv (2 : Int32), rv b1, .unset, .unset] [(.ref b1), (.int (0 : Int32)), (.ref ca)]))
  refine own_go (fun t_ k_ => XS.iconst X1.here hx rfl (hb hby d5_7) k_) ?_
  show OwnFin p e below s _ _ _ (T1.setTop (mkF m 8 #[rv ca, iv (0 : Int32), iv (2 : Int32), rv b1, .unset, .unset] [(.int (0 : Int32)), (.ref b1), (.int (0 : Int32)), (.ref ca)]))
  refine own_go (fun t_ k_ => XS.iloadN X1.here hx rfl (hb hby d5_8) rfl k_) ?_
  show OwnFin p e below s _ _ _ (T1.setTop (mkF m 9 #[rv ca, iv (0 : Int32), iv (2 : Int32), rv b1, .unset, .unset] [(.int (2 : Int32)), (.int (0 : Int32)), (.ref b1), (.int (0 : Int32)), (.ref ca)]))
  obtain ⟨v2, T2, L2, X2, hQ2, st2⟩ := own_callS X1 hx hZ (y := (⟨"java/lang/StringUTF16", "compress", "([CI[BII)I"⟩ : MethodName)) hown (hw _ (List.mem_of_getElem? (i := 27) rfl)) (hw _ (List.mem_of_getElem? (i := 28) rfl)) (hw _ (List.mem_of_getElem? (i := 24) rfl)) (hw _ (List.mem_of_getElem? (i := 29) rfl)) (by decide) (W := 0) (rm6_L l Z a0 hw [] ca b1 px py h1 n0 Z1 V_ca_1 V_b1 g_b1 ne_ca_b1 hl1 hl2) (by decide) (by decide) (g := (mkF m 9 #[rv ca, iv (0 : Int32), iv (2 : Int32), rv b1, .unset, .unset] [(.int (2 : Int32)), (.int (0 : Int32)), (.ref b1), (.int (0 : Int32)), (.ref ca)])) rfl (by rw [hml]; rfl) (argsL := [(.ref ca), (.int (0 : Int32)), (.ref b1), (.int (0 : Int32)), (.int (2 : Int32))]) (rest := []) (lenOf pd_5_5 rfl) rfl (by show 2 * 0 + _ ≤ _; exact Nat.le_of_eq rfl) (hb hby d5_9) e1 rfl (by decide) (by decide)
  obtain ⟨rfl, Nq2, Kq2, Vq2⟩ := hQ2
  have N2 := Fr.app N0 Nq2
  have V_ca_2 := V_ca_1.keep Kq2 (ninS ne_ca_b1 nin0)
  have OL_2 := OL_1.keep Kq2 (allS g_b1 all0)
  have Z2 : n0 ≤ T2.heap.size := Nat.le_trans Z1 Kq2.1
  have K2 : Keep h0 T2.heap [] := K1.trans Kq2 (allS (Or.inr sz_b1) all0)
  refine own_go st2 ?_
  show OwnFin p e below s _ _ _ (T2.setTop (mkF m 12 #[rv ca, iv (0 : Int32), iv (2 : Int32), rv b1, .unset, .unset] [(.int (2 : Int32))]))
  refine own_go (fun t_ k_ => XS.istore X2.here hx rfl (hb hby d5_12) rfl (l' := #[rv ca, iv (0 : Int32), iv (2 : Int32), rv b1, iv (2 : Int32), .unset]) rfl k_) ?_
  show OwnFin p e below s _ _ _ (T2.setTop (mkF m 14 #[rv ca, iv (0 : Int32), iv (2 : Int32), rv b1, iv (2 : Int32), .unset] []))
  refine own_go (fun t_ k_ => XS.iload X2.here hx rfl (hb hby d5_14) rfl k_) ?_
  show OwnFin p e below s _ _ _ (T2.setTop (mkF m 16 #[rv ca, iv (0 : Int32), iv (2 : Int32), rv b1, iv (2 : Int32), .unset] [(.int (2 : Int32))]))
  refine own_go (fun t_ k_ => XS.iloadN X2.here hx rfl (hb hby d5_16) rfl k_) ?_
  show OwnFin p e below s _ _ _ (T2.setTop (mkF m 17 #[rv ca, iv (0 : Int32), iv (2 : Int32), rv b1, iv (2 : Int32), .unset] [(.int (2 : Int32)), (.int (2 : Int32))]))
  refine own_go (fun t_ k_ => XS.icmpYes X2.here hx rfl (pc0 := 17) (pc' := 57) rfl (hb hby d5_17) rfl (teq (by decide)).1 (by decide) (by decide) k_) ?_
  show OwnFin p e below s _ _ _ (T2.setTop (mkF m 57 #[rv ca, iv (0 : Int32), iv (2 : Int32), rv b1, iv (2 : Int32), .unset] []))
  refine own_go (fun t_ k_ => XS.aloadN X2.here hx rfl (hb hby d5_57) rfl rfl k_) ?_
  show OwnFin p e below s _ _ _ (T2.setTop (mkF m 58 #[rv ca, iv (0 : Int32), iv (2 : Int32), rv b1, iv (2 : Int32), .unset] [(.ref b1)]))
  refine own_ret X2 (v := some (.ref b1)) hlk (fun hh => by rw [hret] at hh; cases hh) (fun fs hr => own_retR X2 hx hret rfl rfl (hb hby d5_58) hr) (by decide) (by decide) ?_
  exact ⟨b1, rfl, N2, K2, sz_b1, Vq2⟩
theorem ef_5_U (m : MethodId) (ca : Addr) : entryFrame m #[(.ref ca), (.int (0 : Int32)), (.int (2 : Int32))] 6 = mkF m 0 #[rv ca, iv (0 : Int32), iv (2 : Int32), .unset, .unset, .unset] [] := by first | (simp [entryFrame, mkF, argsToLocals, Value.category]; done) | rfl
set_option maxRecDepth 65536 in
set_option maxHeartbeats 40000000 in
theorem rm5_U (l : Launch) (Z : State) (a0 : Array Value) (hw : ∀ d ∈ tables_1, d.before a0 Z = true) (ws : List Jvm.Cond) (ca : Addr) (px : Int32) (py : Int32) (h0 : Heap) (n0 : Nat) (Z0 : n0 ≤ h0.size) (V_ca : OwnArr Z h0 ca .char 2 (fun k => .int (own_two px py k))) (S_as : Sta Z Z.heap "java/lang/StringUTF16" "$assertionsDisabled" "Z" (.int (1 : Int32))) (S_hi : Sta Z Z.heap "java/lang/StringUTF16" "HI_BYTE_SHIFT" "I" (.int (0 : Int32))) (S_lo : Sta Z Z.heap "java/lang/StringUTF16" "LO_BYTE_SHIFT" "I" (.int (8 : Int32))) (OL : Old Z n0 h0) (hpx : own_ch px) (hpy : own_ch py) (hl3 : (255 : Int32) < px ∨ (255 : Int32) < py) :
    OwnCtr l Z (⟨"java/lang/StringUTF16", "compress", "([CII)[B"⟩ : MethodName) ws jdk_52_method_16_code 6 (some (.array .byte)) ({ frames := 3, cells := 2, slots := 6, locals := 40 } : Room) #[(.ref ca), (.int (0 : Int32)), (.int (2 : Int32))] h0 (fun v h L => ∃ b : Addr, v = some (.ref b) ∧ Fr n0 L ∧ Keep h0 h [] ∧ h0.size ≤ b ∧ OwnArr Z h b .byte 4 (fun k => .int (own_four (own_b0 px) (own_b1 px) (own_b0 py) (own_b1 py) k))) := by
  refine own_body (g0 := fun m => mkF m 0 #[rv ca, iv (0 : Int32), iv (2 : Int32), .unset, .unset, .unset] []) pn_5 (fun m => ef_5_U m ca) ?_
  intro p e s m below meth c s₁ X0 hx hby hml hown hnm hZ e0 hret hlk
  have hml : c.maxLocals = 6 := hml
  have hown : s.vm.findClass "java/lang/StringUTF16" = some m.cls := hown
  have hnm : meth.name = "compress" := hnm
  have hret : meth.sig.returnType = (some (.array .byte)) := hret
  have N0 := Fr.nil n0
  have K0 := Keep.refl h0 []
  show OwnFin p e below s _ _ _ (s₁.setTop (mkF m 0 #[rv ca, iv (0 : Int32), iv (2 : Int32), .unset, .unset, .unset] []))
  refine own_go (fun t_ k_ => XS.iloadN X0.here hx rfl (hb hby d5_0) rfl k_) ?_
  show OwnFin p e below s _ _ _ (s₁.setTop (mkF m 1 #[rv ca, iv (0 : Int32), iv (2 : Int32), .unset, .unset, .unset] [(.int (2 : Int32))]))
  obtain ⟨T1, h1, X1, e1, E1, A1, st1⟩ := own_newarr X0 hx hZ (hw _ (List.mem_of_getElem? (i := 26) rfl)) e0 (g := (mkF m 1 #[rv ca, iv (0 : Int32), iv (2 : Int32), .unset, .unset, .unset] [(.int (2 : Int32))])) rfl (hb hby d5_1) rfl (n := 2) (cap := 2) (by decide) (by decide) (by decide) (by decide) (by decide)
  obtain ⟨b1, g1⟩ : ∃ z, z = h0.size := ⟨_, rfl⟩
  rw [← g1] at A1 st1
  have g_b1 : n0 ≤ b1 := Nat.le_trans Z0 (Nat.le_of_eq g1.symm)
  have sz_b1 : h0.size ≤ b1 := Nat.le_trans K0.1 (Nat.le_of_eq g1.symm)
  have ne_ca_b1 : ca ≠ b1 := Nat.ne_of_lt (Nat.lt_of_lt_of_le V_ca.lt (Nat.le_of_eq g1.symm))
  have V_ca_1 := V_ca.ext E1
  have OL_1 := OL.ext E1
  have Z1 : n0 ≤ h1.size := Nat.le_trans Z0 E1.1
  have K1 : Keep h0 h1 [] := K0.ext E1
  have V_b1 : OwnArr Z h1 b1 .byte 2 (fun _ => (.int (0 : Int32))) := A1
  refine own_go st1 ?_
  show OwnFin p e below s _ _ _ (T1.setTop (mkF m 3 #[rv ca, iv (0 : Int32), iv (2 : Int32), .unset, .unset, .unset] [(.ref b1)]))
  refine own_go (fun t_ k_ => XS.astoreN X1.here hx rfl (hb hby d5_3) rfl rfl (l' := #[rv ca, iv (0 : Int32), iv (2 : Int32), rv b1, .unset, .unset]) rfl k_) ?_
  show OwnFin p e below s _ _ _ (T1.setTop (mkF m 4 #[rv ca, iv (0 : Int32), iv (2 : Int32), rv b1, .unset, .unset] []))
  refine own_go (fun t_ k_ => XS.aloadN X1.here hx rfl (hb hby d5_4) rfl rfl k_) ?_
  show OwnFin p e below s _ _ _ (T1.setTop (mkF m 5 #[rv ca, iv (0 : Int32), iv (2 : Int32), rv b1, .unset, .unset] [(.ref ca)]))
  refine own_go (fun t_ k_ => XS.iloadN X1.here hx rfl (hb hby d5_5) rfl k_) ?_
  show OwnFin p e below s _ _ _ (T1.setTop (mkF m 6 #[rv ca, iv (0 : Int32), iv (2 : Int32), rv b1, .unset, .unset] [(.int (0 : Int32)), (.ref ca)]))
  refine own_go (fun t_ k_ => XS.aloadN X1.here hx rfl (hb hby d5_6) rfl rfl k_) ?_
  show OwnFin p e below s _ _ _ (T1.setTop (mkF m 7 #[rv ca, iv (0 : Int32), iv (2 : Int32), rv b1, .unset, .unset] [(.ref b1), (.int (0 : Int32)), (.ref ca)]))
  refine own_go (fun t_ k_ => XS.iconst X1.here hx rfl (hb hby d5_7) k_) ?_
  show OwnFin p e below s _ _ _ (T1.setTop (mkF m 8 #[rv ca, iv (0 : Int32), iv (2 : Int32), rv b1, .unset, .unset] [(.int (0 : Int32)), (.ref b1), (.int (0 : Int32)), (.ref ca)]))
  refine own_go (fun t_ k_ => XS.iloadN X1.here hx rfl (hb hby d5_8) rfl k_) ?_
  show OwnFin p e below s _ _ _ (T1.setTop (mkF m 9 #[rv ca, iv (0 : Int32), iv (2 : Int32), rv b1, .unset, .unset] [(.int (2 : Int32)), (.int (0 : Int32)), (.ref b1), (.int (0 : Int32)), (.ref ca)]))
  by_cases hl1 : (255 : Int32) < px
  · obtain ⟨v2, T2, L2, X2, hQ2, st2⟩ := own_callS X1 hx hZ (y := (⟨"java/lang/StringUTF16", "compress", "([CI[BII)I"⟩ : MethodName)) hown (hw _ (List.mem_of_getElem? (i := 27) rfl)) (hw _ (List.mem_of_getElem? (i := 28) rfl)) (hw _ (List.mem_of_getElem? (i := 24) rfl)) (hw _ (List.mem_of_getElem? (i := 29) rfl)) (by decide) (W := 0) (rm6_A l Z a0 hw [] ca b1 px py h1 n0 Z1 V_ca_1 V_b1 g_b1 ne_ca_b1 hl1) (by decide) (by decide) (g := (mkF m 9 #[rv ca, iv (0 : Int32), iv (2 : Int32), rv b1, .unset, .unset] [(.int (2 : Int32)), (.int (0 : Int32)), (.ref b1), (.int (0 : Int32)), (.ref ca)])) rfl (by rw [hml]; rfl) (argsL := [(.ref ca), (.int (0 : Int32)), (.ref b1), (.int (0 : Int32)), (.int (2 : Int32))]) (rest := []) (lenOf pd_5_5 rfl) rfl (by show 2 * 0 + _ ≤ _; exact Nat.le_of_eq rfl) (hb hby d5_9) e1 rfl (by decide) (by decide)
    obtain ⟨rfl, Nq2, Kq2⟩ := hQ2
    have N2 := Fr.app N0 Nq2
    have V_ca_2 := V_ca_1.keep Kq2 (ninS ne_ca_b1 nin0)
    have OL_2 := OL_1.keep Kq2 (allS g_b1 all0)
    have Z2 : n0 ≤ T2.heap.size := Nat.le_trans Z1 Kq2.1
    have K2 : Keep h0 T2.heap [] := K1.trans Kq2 (allS (Or.inr sz_b1) all0)
    refine own_go st2 ?_
    show OwnFin p e below s _ _ _ (T2.setTop (mkF m 12 #[rv ca, iv (0 : Int32), iv (2 : Int32), rv b1, .unset, .unset] [(.int (0 : Int32))]))
    refine own_go (fun t_ k_ => XS.istore X2.here hx rfl (hb hby d5_12) rfl (l' := #[rv ca, iv (0 : Int32), iv (2 : Int32), rv b1, iv (0 : Int32), .unset]) rfl k_) ?_
    show OwnFin p e below s _ _ _ (T2.setTop (mkF m 14 #[rv ca, iv (0 : Int32), iv (2 : Int32), rv b1, iv (0 : Int32), .unset] []))
    refine own_go (fun t_ k_ => XS.iload X2.here hx rfl (hb hby d5_14) rfl k_) ?_
    show OwnFin p e below s _ _ _ (T2.setTop (mkF m 16 #[rv ca, iv (0 : Int32), iv (2 : Int32), rv b1, iv (0 : Int32), .unset] [(.int (0 : Int32))]))
    refine own_go (fun t_ k_ => XS.iloadN X2.here hx rfl (hb hby d5_16) rfl k_) ?_
    show OwnFin p e below s _ _ _ (T2.setTop (mkF m 17 #[rv ca, iv (0 : Int32), iv (2 : Int32), rv b1, iv (0 : Int32), .unset] [(.int (2 : Int32)), (.int (0 : Int32))]))
    refine own_go (fun t_ k_ => XS.icmpNo X2.here hx rfl (hb hby d5_17) rfl (feq (by decide)).1 k_) ?_
    show OwnFin p e below s _ _ _ (T2.setTop (mkF m 20 #[rv ca, iv (0 : Int32), iv (2 : Int32), rv b1, iv (0 : Int32), .unset] []))
    refine own_go (fun t_ k_ => XS.aloadN X2.here hx rfl (hb hby d5_20) rfl rfl k_) ?_
    show OwnFin p e below s _ _ _ (T2.setTop (mkF m 21 #[rv ca, iv (0 : Int32), iv (2 : Int32), rv b1, iv (0 : Int32), .unset] [(.ref ca)]))
    refine own_go (fun t_ k_ => XS.iloadN X2.here hx rfl (hb hby d5_21) rfl k_) ?_
    show OwnFin p e below s _ _ _ (T2.setTop (mkF m 22 #[rv ca, iv (0 : Int32), iv (2 : Int32), rv b1, iv (0 : Int32), .unset] [(.int (0 : Int32)), (.ref ca)]))
    refine own_go (fun t_ k_ => XS.iloadN X2.here hx rfl (hb hby d5_22) rfl k_) ?_
    show OwnFin p e below s _ _ _ (T2.setTop (mkF m 23 #[rv ca, iv (0 : Int32), iv (2 : Int32), rv b1, iv (0 : Int32), .unset] [(.int (2 : Int32)), (.int (0 : Int32)), (.ref ca)]))
    obtain ⟨v3, T3, L3, X3, hQ3, st3⟩ := own_callS X2 hx hZ (y := (⟨"java/lang/StringUTF16", "toBytes", "([CII)[B"⟩ : MethodName)) hown (hw _ (List.mem_of_getElem? (i := 109) rfl)) (hw _ (List.mem_of_getElem? (i := 110) rfl)) (hw _ (List.mem_of_getElem? (i := 24) rfl)) (hw _ (List.mem_of_getElem? (i := 111) rfl)) (by decide) (W := 0) (rm23 l Z a0 hw [] ca px py T2.heap n0 Z2 V_ca_2 S_as S_hi S_lo OL_2) (by decide) (by decide) (g := (mkF m 23 #[rv ca, iv (0 : Int32), iv (2 : Int32), rv b1, iv (0 : Int32), .unset] [(.int (2 : Int32)), (.int (0 : Int32)), (.ref ca)])) rfl (by rw [hml]; rfl) (argsL := [(.ref ca), (.int (0 : Int32)), (.int (2 : Int32))]) (rest := []) (lenOf pd_5_4 rfl) rfl (by show 2 * 0 + _ ≤ _; exact Nat.le_of_eq rfl) (hb hby d5_23) rfl rfl (by decide) (by decide)
    obtain ⟨r3, rfl, Nq3, Kq3, sq3, Vq3⟩ := hQ3
    have N3 := Fr.app N2 Nq3
    have g_r3 : n0 ≤ r3 := Nat.le_trans Z2 sq3
    have ne_ca_r3 : ca ≠ r3 := Nat.ne_of_lt (Nat.lt_of_lt_of_le V_ca_2.lt sq3)
    have V_ca_3 := V_ca_2.keep Kq3 nin0
    have OL_3 := OL_2.keep Kq3 all0
    have Z3 : n0 ≤ T3.heap.size := Nat.le_trans Z2 Kq3.1
    have sz_r3 : h0.size ≤ r3 := Nat.le_trans K2.1 sq3
    have K3 : Keep h0 T3.heap [] := K2.trans Kq3 all0
    refine own_go st3 ?_
    show OwnFin p e below s _ _ _ (T3.setTop (mkF m 26 #[rv ca, iv (0 : Int32), iv (2 : Int32), rv b1, iv (0 : Int32), .unset] [(.ref r3)]))
    refine own_go (fun t_ k_ => XS.astore X3.here hx rfl (hb hby d5_26) rfl rfl (l' := #[rv ca, iv (0 : Int32), iv (2 : Int32), rv b1, iv (0 : Int32), rv r3]) rfl k_) ?_
    show OwnFin p e below s _ _ _ (T3.setTop (mkF m 28 #[rv ca, iv (0 : Int32), iv (2 : Int32), rv b1, iv (0 : Int32), rv r3] []))
    refine own_go (fun t_ k_ => XS.aload X3.here hx rfl (hb hby d5_28) rfl rfl k_) ?_
    show OwnFin p e below s _ _ _ (T3.setTop (mkF m 30 #[rv ca, iv (0 : Int32), iv (2 : Int32), rv b1, iv (0 : Int32), rv r3] [(.ref r3)]))
    refine own_go (fun t_ k_ => XS.iload X3.here hx rfl (hb hby d5_30) rfl k_) ?_
    show OwnFin p e below s _ _ _ (T3.setTop (mkF m 32 #[rv ca, iv (0 : Int32), iv (2 : Int32), rv b1, iv (0 : Int32), rv r3] [(.int (0 : Int32)), (.ref r3)]))
    obtain ⟨v4, T4, L4, X4, hQ4, st4⟩ := own_callS X3 hx hZ (y := (⟨"java/lang/StringUTF16", "getChar", "([BI)C"⟩ : MethodName)) hown (hw _ (List.mem_of_getElem? (i := 125) rfl)) (hw _ (List.mem_of_getElem? (i := 126) rfl)) (hw _ (List.mem_of_getElem? (i := 24) rfl)) (hw _ (List.mem_of_getElem? (i := 127) rfl)) (by decide) (W := 0) (rm27_0 l Z a0 hw [] r3 (own_b0 px) (own_b1 px) (own_b0 py) (own_b1 py) T3.heap n0 Z3 Vq3 S_as S_hi S_lo OL_3) (by decide) (by decide) (g := (mkF m 32 #[rv ca, iv (0 : Int32), iv (2 : Int32), rv b1, iv (0 : Int32), rv r3] [(.int (0 : Int32)), (.ref r3)])) rfl (by rw [hml]; rfl) (argsL := [(.ref r3), (.int (0 : Int32))]) (rest := []) (lenOf pd_5_19 rfl) rfl (by show 2 * 0 + _ ≤ _; exact Nat.le_of_eq rfl) (hb hby d5_32) rfl rfl (by decide) (by decide)
    obtain ⟨rfl, Nq4, e4⟩ := hQ4
    have N4 := Fr.app N3 Nq4
    refine own_go st4 ?_
    show OwnFin p e below s _ _ _ (T4.setTop (mkF m 35 #[rv ca, iv (0 : Int32), iv (2 : Int32), rv b1, iv (0 : Int32), rv r3] [(.int (own_gc (own_b0 px) (own_b1 px)))]))
    refine own_go (fun t_ k_ => XS.sipush X4.here hx rfl (hb hby d5_35) k_) ?_
    show OwnFin p e below s _ _ _ (T4.setTop (mkF m 38 #[rv ca, iv (0 : Int32), iv (2 : Int32), rv b1, iv (0 : Int32), rv r3] [(.int (255 : Int32)), (.int (own_gc (own_b0 px) (own_b1 px)))]))
    have hc38 : (255 : Int32) < (own_gc (own_b0 px) (own_b1 px)) := by rw [own_gc_eq hpx]; exact hl1
    refine own_go (fun t_ k_ => XS.icmpYes X4.here hx rfl (pc0 := 38) (pc' := 54) rfl (hb hby d5_38) rfl (tlt hc38).2.2.1 (by decide) (by decide) k_) ?_
    show OwnFin p e below s _ _ _ (T4.setTop (mkF m 54 #[rv ca, iv (0 : Int32), iv (2 : Int32), rv b1, iv (0 : Int32), rv r3] []))
    refine own_go (fun t_ k_ => XS.aload X4.here hx rfl (hb hby d5_54) rfl rfl k_) ?_
    show OwnFin p e below s _ _ _ (T4.setTop (mkF m 56 #[rv ca, iv (0 : Int32), iv (2 : Int32), rv b1, iv (0 : Int32), rv r3] [(.ref r3)]))
    refine own_ret X4 (v := some (.ref r3)) hlk (fun hh => by rw [hret] at hh; cases hh) (fun fs hr => own_retR X4 hx hret rfl rfl (hb hby d5_56) hr) (by decide) (by decide) ?_
    rw [e4]
    exact ⟨r3, rfl, N4, K3, sz_r3, Vq3⟩
  have hl2 : (255 : Int32) < py := hl3.resolve_left hl1
  obtain ⟨v5, T5, L5, X5, hQ5, st5⟩ := own_callS X1 hx hZ (y := (⟨"java/lang/StringUTF16", "compress", "([CI[BII)I"⟩ : MethodName)) hown (hw _ (List.mem_of_getElem? (i := 27) rfl)) (hw _ (List.mem_of_getElem? (i := 28) rfl)) (hw _ (List.mem_of_getElem? (i := 24) rfl)) (hw _ (List.mem_of_getElem? (i := 29) rfl)) (by decide) (W := 0) (rm6_B l Z a0 hw [] ca b1 px py h1 n0 Z1 V_ca_1 V_b1 g_b1 ne_ca_b1 hl1 hl2) (by decide) (by decide) (g := (mkF m 9 #[rv ca, iv (0 : Int32), iv (2 : Int32), rv b1, .unset, .unset] [(.int (2 : Int32)), (.int (0 : Int32)), (.ref b1), (.int (0 : Int32)), (.ref ca)])) rfl (by rw [hml]; rfl) (argsL := [(.ref ca), (.int (0 : Int32)), (.ref b1), (.int (0 : Int32)), (.int (2 : Int32))]) (rest := []) (lenOf pd_5_5 rfl) rfl (by show 2 * 0 + _ ≤ _; exact Nat.le_of_eq rfl) (hb hby d5_9) e1 rfl (by decide) (by decide)
  obtain ⟨rfl, Nq5, Kq5⟩ := hQ5
  have N5 := Fr.app N0 Nq5
  have V_ca_5 := V_ca_1.keep Kq5 (ninS ne_ca_b1 nin0)
  have OL_5 := OL_1.keep Kq5 (allS g_b1 all0)
  have Z5 : n0 ≤ T5.heap.size := Nat.le_trans Z1 Kq5.1
  have K5 : Keep h0 T5.heap [] := K1.trans Kq5 (allS (Or.inr sz_b1) all0)
  refine own_go st5 ?_
  show OwnFin p e below s _ _ _ (T5.setTop (mkF m 12 #[rv ca, iv (0 : Int32), iv (2 : Int32), rv b1, .unset, .unset] [(.int (1 : Int32))]))
  refine own_go (fun t_ k_ => XS.istore X5.here hx rfl (hb hby d5_12) rfl (l' := #[rv ca, iv (0 : Int32), iv (2 : Int32), rv b1, iv (1 : Int32), .unset]) rfl k_) ?_
  show OwnFin p e below s _ _ _ (T5.setTop (mkF m 14 #[rv ca, iv (0 : Int32), iv (2 : Int32), rv b1, iv (1 : Int32), .unset] []))
  refine own_go (fun t_ k_ => XS.iload X5.here hx rfl (hb hby d5_14) rfl k_) ?_
  show OwnFin p e below s _ _ _ (T5.setTop (mkF m 16 #[rv ca, iv (0 : Int32), iv (2 : Int32), rv b1, iv (1 : Int32), .unset] [(.int (1 : Int32))]))
  refine own_go (fun t_ k_ => XS.iloadN X5.here hx rfl (hb hby d5_16) rfl k_) ?_
  show OwnFin p e below s _ _ _ (T5.setTop (mkF m 17 #[rv ca, iv (0 : Int32), iv (2 : Int32), rv b1, iv (1 : Int32), .unset] [(.int (2 : Int32)), (.int (1 : Int32))]))
  refine own_go (fun t_ k_ => XS.icmpNo X5.here hx rfl (hb hby d5_17) rfl (feq (by decide)).1 k_) ?_
  show OwnFin p e below s _ _ _ (T5.setTop (mkF m 20 #[rv ca, iv (0 : Int32), iv (2 : Int32), rv b1, iv (1 : Int32), .unset] []))
  refine own_go (fun t_ k_ => XS.aloadN X5.here hx rfl (hb hby d5_20) rfl rfl k_) ?_
  show OwnFin p e below s _ _ _ (T5.setTop (mkF m 21 #[rv ca, iv (0 : Int32), iv (2 : Int32), rv b1, iv (1 : Int32), .unset] [(.ref ca)]))
  refine own_go (fun t_ k_ => XS.iloadN X5.here hx rfl (hb hby d5_21) rfl k_) ?_
  show OwnFin p e below s _ _ _ (T5.setTop (mkF m 22 #[rv ca, iv (0 : Int32), iv (2 : Int32), rv b1, iv (1 : Int32), .unset] [(.int (0 : Int32)), (.ref ca)]))
  refine own_go (fun t_ k_ => XS.iloadN X5.here hx rfl (hb hby d5_22) rfl k_) ?_
  show OwnFin p e below s _ _ _ (T5.setTop (mkF m 23 #[rv ca, iv (0 : Int32), iv (2 : Int32), rv b1, iv (1 : Int32), .unset] [(.int (2 : Int32)), (.int (0 : Int32)), (.ref ca)]))
  obtain ⟨v6, T6, L6, X6, hQ6, st6⟩ := own_callS X5 hx hZ (y := (⟨"java/lang/StringUTF16", "toBytes", "([CII)[B"⟩ : MethodName)) hown (hw _ (List.mem_of_getElem? (i := 109) rfl)) (hw _ (List.mem_of_getElem? (i := 110) rfl)) (hw _ (List.mem_of_getElem? (i := 24) rfl)) (hw _ (List.mem_of_getElem? (i := 111) rfl)) (by decide) (W := 0) (rm23 l Z a0 hw [] ca px py T5.heap n0 Z5 V_ca_5 S_as S_hi S_lo OL_5) (by decide) (by decide) (g := (mkF m 23 #[rv ca, iv (0 : Int32), iv (2 : Int32), rv b1, iv (1 : Int32), .unset] [(.int (2 : Int32)), (.int (0 : Int32)), (.ref ca)])) rfl (by rw [hml]; rfl) (argsL := [(.ref ca), (.int (0 : Int32)), (.int (2 : Int32))]) (rest := []) (lenOf pd_5_4 rfl) rfl (by show 2 * 0 + _ ≤ _; exact Nat.le_of_eq rfl) (hb hby d5_23) rfl rfl (by decide) (by decide)
  obtain ⟨r6, rfl, Nq6, Kq6, sq6, Vq6⟩ := hQ6
  have N6 := Fr.app N5 Nq6
  have g_r6 : n0 ≤ r6 := Nat.le_trans Z5 sq6
  have ne_ca_r6 : ca ≠ r6 := Nat.ne_of_lt (Nat.lt_of_lt_of_le V_ca_5.lt sq6)
  have V_ca_6 := V_ca_5.keep Kq6 nin0
  have OL_6 := OL_5.keep Kq6 all0
  have Z6 : n0 ≤ T6.heap.size := Nat.le_trans Z5 Kq6.1
  have sz_r6 : h0.size ≤ r6 := Nat.le_trans K5.1 sq6
  have K6 : Keep h0 T6.heap [] := K5.trans Kq6 all0
  refine own_go st6 ?_
  show OwnFin p e below s _ _ _ (T6.setTop (mkF m 26 #[rv ca, iv (0 : Int32), iv (2 : Int32), rv b1, iv (1 : Int32), .unset] [(.ref r6)]))
  refine own_go (fun t_ k_ => XS.astore X6.here hx rfl (hb hby d5_26) rfl rfl (l' := #[rv ca, iv (0 : Int32), iv (2 : Int32), rv b1, iv (1 : Int32), rv r6]) rfl k_) ?_
  show OwnFin p e below s _ _ _ (T6.setTop (mkF m 28 #[rv ca, iv (0 : Int32), iv (2 : Int32), rv b1, iv (1 : Int32), rv r6] []))
  refine own_go (fun t_ k_ => XS.aload X6.here hx rfl (hb hby d5_28) rfl rfl k_) ?_
  show OwnFin p e below s _ _ _ (T6.setTop (mkF m 30 #[rv ca, iv (0 : Int32), iv (2 : Int32), rv b1, iv (1 : Int32), rv r6] [(.ref r6)]))
  refine own_go (fun t_ k_ => XS.iload X6.here hx rfl (hb hby d5_30) rfl k_) ?_
  show OwnFin p e below s _ _ _ (T6.setTop (mkF m 32 #[rv ca, iv (0 : Int32), iv (2 : Int32), rv b1, iv (1 : Int32), rv r6] [(.int (1 : Int32)), (.ref r6)]))
  obtain ⟨v7, T7, L7, X7, hQ7, st7⟩ := own_callS X6 hx hZ (y := (⟨"java/lang/StringUTF16", "getChar", "([BI)C"⟩ : MethodName)) hown (hw _ (List.mem_of_getElem? (i := 125) rfl)) (hw _ (List.mem_of_getElem? (i := 126) rfl)) (hw _ (List.mem_of_getElem? (i := 24) rfl)) (hw _ (List.mem_of_getElem? (i := 127) rfl)) (by decide) (W := 0) (rm27_1 l Z a0 hw [] r6 (own_b0 px) (own_b1 px) (own_b0 py) (own_b1 py) T6.heap n0 Z6 Vq6 S_as S_hi S_lo OL_6) (by decide) (by decide) (g := (mkF m 32 #[rv ca, iv (0 : Int32), iv (2 : Int32), rv b1, iv (1 : Int32), rv r6] [(.int (1 : Int32)), (.ref r6)])) rfl (by rw [hml]; rfl) (argsL := [(.ref r6), (.int (1 : Int32))]) (rest := []) (lenOf pd_5_19 rfl) rfl (by show 2 * 0 + _ ≤ _; exact Nat.le_of_eq rfl) (hb hby d5_32) rfl rfl (by decide) (by decide)
  obtain ⟨rfl, Nq7, e7⟩ := hQ7
  have N7 := Fr.app N6 Nq7
  refine own_go st7 ?_
  show OwnFin p e below s _ _ _ (T7.setTop (mkF m 35 #[rv ca, iv (0 : Int32), iv (2 : Int32), rv b1, iv (1 : Int32), rv r6] [(.int (own_gc (own_b0 py) (own_b1 py)))]))
  refine own_go (fun t_ k_ => XS.sipush X7.here hx rfl (hb hby d5_35) k_) ?_
  show OwnFin p e below s _ _ _ (T7.setTop (mkF m 38 #[rv ca, iv (0 : Int32), iv (2 : Int32), rv b1, iv (1 : Int32), rv r6] [(.int (255 : Int32)), (.int (own_gc (own_b0 py) (own_b1 py)))]))
  have hc38 : (255 : Int32) < (own_gc (own_b0 py) (own_b1 py)) := by rw [own_gc_eq hpy]; exact hl2
  refine own_go (fun t_ k_ => XS.icmpYes X7.here hx rfl (pc0 := 38) (pc' := 54) rfl (hb hby d5_38) rfl (tlt hc38).2.2.1 (by decide) (by decide) k_) ?_
  show OwnFin p e below s _ _ _ (T7.setTop (mkF m 54 #[rv ca, iv (0 : Int32), iv (2 : Int32), rv b1, iv (1 : Int32), rv r6] []))
  refine own_go (fun t_ k_ => XS.aload X7.here hx rfl (hb hby d5_54) rfl rfl k_) ?_
  show OwnFin p e below s _ _ _ (T7.setTop (mkF m 56 #[rv ca, iv (0 : Int32), iv (2 : Int32), rv b1, iv (1 : Int32), rv r6] [(.ref r6)]))
  refine own_ret X7 (v := some (.ref r6)) hlk (fun hh => by rw [hret] at hh; cases hh) (fun fs hr => own_retR X7 hx hret rfl rfl (hb hby d5_56) hr) (by decide) (by decide) ?_
  rw [e7]
  exact ⟨r6, rfl, N7, K6, sz_r6, Vq6⟩
theorem d7_0 : decode jdk_52_method_15_code 0 = .ok (.iload_n 1, 1) := by decide +kernel
theorem d7_1 : decode jdk_52_method_15_code 1 = .ok (.aload_n 0, 1) := by decide +kernel
theorem d7_2 : decode jdk_52_method_15_code 2 = .ok (.arraylength, 1) := by decide +kernel
theorem d7_3 : decode jdk_52_method_15_code 3 = .ok (.isub, 1) := by decide +kernel
theorem d7_4 : decode jdk_52_method_15_code 4 = .ok (.bipush 31, 2) := by decide +kernel
theorem d7_6 : decode jdk_52_method_15_code 6 = .ok (.iushr, 1) := by decide +kernel
theorem d7_7 : decode jdk_52_method_15_code 7 = .ok (.i2b, 1) := by decide +kernel
theorem d7_8 : decode jdk_52_method_15_code 8 = .ok (.ireturn, 1) := by decide +kernel
theorem pn_7 : plainFor (⟨"java/lang/StringUTF16", "coderFromArrayLen", "([BI)B"⟩ : MethodName) = true := plainFor_of_name (by first | (simp [plainName, overriddenIn]; done) | decide +kernel)
theorem ef_7 (m : MethodId) (a1 : Addr) (p2 : Int32) : entryFrame m #[(.ref a1), (.int p2)] 2 = mkF m 0 #[rv a1, iv p2] [] := by first | (simp [entryFrame, mkF, argsToLocals, Value.category]; done) | rfl
theorem ef_7_L (m : MethodId) (ba : Addr) : entryFrame m #[(.ref ba), (.int (2 : Int32))] 2 = mkF m 0 #[rv ba, iv (2 : Int32)] [] := by first | (simp [entryFrame, mkF, argsToLocals, Value.category]; done) | rfl
set_option maxRecDepth 65536 in
set_option maxHeartbeats 40000000 in
theorem rm7_L (l : Launch) (Z : State) (a0 : Array Value) (hw : ∀ d ∈ tables_1, d.before a0 Z = true) (ws : List Jvm.Cond) (ba : Addr) (f : Nat → Int32) (h0 : Heap) (n0 : Nat) (Z0 : n0 ≤ h0.size) (V_ba : OwnArr Z h0 ba .byte 2 (fun k => .int (f k))) :
    OwnCtr l Z (⟨"java/lang/StringUTF16", "coderFromArrayLen", "([BI)B"⟩ : MethodName) ws jdk_52_method_15_code 2 (some .byte) ({ frames := 0, cells := 0, slots := 0, locals := 0 } : Room) #[(.ref ba), (.int (2 : Int32))] h0 (fun v h L => v = some (.int (0 : Int32)) ∧ Fr n0 L ∧ h = h0) := by
  refine own_body (g0 := fun m => mkF m 0 #[rv ba, iv (2 : Int32)] []) pn_7 (fun m => ef_7_L m ba) ?_
  intro p e s m below meth c s₁ X0 hx hby hml hown hnm hZ e0 hret hlk
  have hml : c.maxLocals = 2 := hml
  have hown : s.vm.findClass "java/lang/StringUTF16" = some m.cls := hown
  have hnm : meth.name = "coderFromArrayLen" := hnm
  have hret : meth.sig.returnType = (some .byte) := hret
  have N0 := Fr.nil n0
  show OwnFin p e below s _ _ _ (s₁.setTop (mkF m 0 #[rv ba, iv (2 : Int32)] []))
  refine own_go (fun t_ k_ => XS.iloadN X0.here hx rfl (hb hby d7_0) rfl k_) ?_
  show OwnFin p e below s _ _ _ (s₁.setTop (mkF m 1 #[rv ba, iv (2 : Int32)] [(.int (2 : Int32))]))
  refine own_go (fun t_ k_ => XS.aloadN X0.here hx rfl (hb hby d7_1) rfl rfl k_) ?_
  show OwnFin p e below s _ _ _ (s₁.setTop (mkF m 2 #[rv ba, iv (2 : Int32)] [(.ref ba), (.int (2 : Int32))]))
  refine own_go (own_alength X0 hx hZ e0 V_ba (g := (mkF m 2 #[rv ba, iv (2 : Int32)] [(.ref ba), (.int (2 : Int32))])) rfl rfl (hb hby d7_2)) ?_
  show OwnFin p e below s _ _ _ (s₁.setTop (mkF m 3 #[rv ba, iv (2 : Int32)] [(.int (2 : Int32)), (.int (2 : Int32))]))
  refine own_go (fun t_ k_ => XS.isub X0.here hx rfl (hb hby d7_3) rfl k_) ?_
  show OwnFin p e below s _ _ _ (s₁.setTop (mkF m 4 #[rv ba, iv (2 : Int32)] [(.int (0 : Int32))]))
  refine own_go (fun t_ k_ => XS.bipush X0.here hx rfl (hb hby d7_4) k_) ?_
  show OwnFin p e below s _ _ _ (s₁.setTop (mkF m 6 #[rv ba, iv (2 : Int32)] [(.int (31 : Int32)), (.int (0 : Int32))]))
  refine own_go (fun t_ k_ => XS.iushr X0.here hx rfl (hb hby d7_6) rfl k_) ?_
  show OwnFin p e below s _ _ _ (s₁.setTop (mkF m 7 #[rv ba, iv (2 : Int32)] [(.int (0 : Int32))]))
  refine own_go (fun t_ k_ => XS.i2b X0.here hx rfl (hb hby d7_7) rfl k_) ?_
  show OwnFin p e below s _ _ _ (s₁.setTop (mkF m 8 #[rv ba, iv (2 : Int32)] [(.int (0 : Int32))]))
  refine own_ret X0 (v := some (.int (nar .byte (0 : Int32)))) hlk (fun hh => by rw [hret] at hh; cases hh) (fun fs hr => retN X0 hx (t := .byte) hret (by simp) (hb hby d7_8) hr) (by decide) (by decide) ?_
  rw [e0]
  exact ⟨rfl, N0, rfl⟩
theorem ef_7_U (m : MethodId) (ba : Addr) : entryFrame m #[(.ref ba), (.int (2 : Int32))] 2 = mkF m 0 #[rv ba, iv (2 : Int32)] [] := by first | (simp [entryFrame, mkF, argsToLocals, Value.category]; done) | rfl
set_option maxRecDepth 65536 in
set_option maxHeartbeats 40000000 in
theorem rm7_U (l : Launch) (Z : State) (a0 : Array Value) (hw : ∀ d ∈ tables_1, d.before a0 Z = true) (ws : List Jvm.Cond) (ba : Addr) (f : Nat → Int32) (h0 : Heap) (n0 : Nat) (Z0 : n0 ≤ h0.size) (V_ba : OwnArr Z h0 ba .byte 4 (fun k => .int (f k))) :
    OwnCtr l Z (⟨"java/lang/StringUTF16", "coderFromArrayLen", "([BI)B"⟩ : MethodName) ws jdk_52_method_15_code 2 (some .byte) ({ frames := 0, cells := 0, slots := 0, locals := 0 } : Room) #[(.ref ba), (.int (2 : Int32))] h0 (fun v h L => v = some (.int (1 : Int32)) ∧ Fr n0 L ∧ h = h0) := by
  refine own_body (g0 := fun m => mkF m 0 #[rv ba, iv (2 : Int32)] []) pn_7 (fun m => ef_7_U m ba) ?_
  intro p e s m below meth c s₁ X0 hx hby hml hown hnm hZ e0 hret hlk
  have hml : c.maxLocals = 2 := hml
  have hown : s.vm.findClass "java/lang/StringUTF16" = some m.cls := hown
  have hnm : meth.name = "coderFromArrayLen" := hnm
  have hret : meth.sig.returnType = (some .byte) := hret
  have N0 := Fr.nil n0
  show OwnFin p e below s _ _ _ (s₁.setTop (mkF m 0 #[rv ba, iv (2 : Int32)] []))
  refine own_go (fun t_ k_ => XS.iloadN X0.here hx rfl (hb hby d7_0) rfl k_) ?_
  show OwnFin p e below s _ _ _ (s₁.setTop (mkF m 1 #[rv ba, iv (2 : Int32)] [(.int (2 : Int32))]))
  refine own_go (fun t_ k_ => XS.aloadN X0.here hx rfl (hb hby d7_1) rfl rfl k_) ?_
  show OwnFin p e below s _ _ _ (s₁.setTop (mkF m 2 #[rv ba, iv (2 : Int32)] [(.ref ba), (.int (2 : Int32))]))
  refine own_go (own_alength X0 hx hZ e0 V_ba (g := (mkF m 2 #[rv ba, iv (2 : Int32)] [(.ref ba), (.int (2 : Int32))])) rfl rfl (hb hby d7_2)) ?_
  show OwnFin p e below s _ _ _ (s₁.setTop (mkF m 3 #[rv ba, iv (2 : Int32)] [(.int (4 : Int32)), (.int (2 : Int32))]))
  refine own_go (fun t_ k_ => XS.isub X0.here hx rfl (hb hby d7_3) rfl k_) ?_
  show OwnFin p e below s _ _ _ (s₁.setTop (mkF m 4 #[rv ba, iv (2 : Int32)] [(.int (-2 : Int32))]))
  refine own_go (fun t_ k_ => XS.bipush X0.here hx rfl (hb hby d7_4) k_) ?_
  show OwnFin p e below s _ _ _ (s₁.setTop (mkF m 6 #[rv ba, iv (2 : Int32)] [(.int (31 : Int32)), (.int (-2 : Int32))]))
  refine own_go (fun t_ k_ => XS.iushr X0.here hx rfl (hb hby d7_6) rfl k_) ?_
  show OwnFin p e below s _ _ _ (s₁.setTop (mkF m 7 #[rv ba, iv (2 : Int32)] [(.int (1 : Int32))]))
  refine own_go (fun t_ k_ => XS.i2b X0.here hx rfl (hb hby d7_7) rfl k_) ?_
  show OwnFin p e below s _ _ _ (s₁.setTop (mkF m 8 #[rv ba, iv (2 : Int32)] [(.int (1 : Int32))]))
  refine own_ret X0 (v := some (.int (nar .byte (1 : Int32)))) hlk (fun hh => by rw [hret] at hh; cases hh) (fun fs hr => retN X0 hx (t := .byte) hret (by simp) (hb hby d7_8) hr) (by decide) (by decide) ?_
  rw [e0]
  exact ⟨rfl, N0, rfl⟩
theorem d3_0 : decode jdk_42_method_149_code 0 = .ok (.aload_n 0, 1) := by decide +kernel
theorem d3_1 : decode jdk_42_method_149_code 1 = .ok (.invokespecial 1, 3) := by decide +kernel
theorem d3_4 : decode jdk_42_method_149_code 4 = .ok (.iload_n 3, 1) := by decide +kernel
theorem d3_5 : decode jdk_42_method_149_code 5 = .ok (.ifCond .ne 22, 3) := by decide +kernel
theorem d3_8 : decode jdk_42_method_149_code 8 = .ok (.aload_n 0, 1) := by decide +kernel
theorem d3_9 : decode jdk_42_method_149_code 9 = .ok (.ldc 7, 2) := by decide +kernel
theorem d3_11 : decode jdk_42_method_149_code 11 = .ok (.getfield 9, 3) := by decide +kernel
theorem d3_14 : decode jdk_42_method_149_code 14 = .ok (.putfield 9, 3) := by decide +kernel
theorem d3_17 : decode jdk_42_method_149_code 17 = .ok (.aload_n 0, 1) := by decide +kernel
theorem d3_18 : decode jdk_42_method_149_code 18 = .ok (.ldc 7, 2) := by decide +kernel
theorem d3_20 : decode jdk_42_method_149_code 20 = .ok (.getfield 15, 3) := by decide +kernel
theorem d3_23 : decode jdk_42_method_149_code 23 = .ok (.putfield 15, 3) := by decide +kernel
theorem d3_26 : decode jdk_42_method_149_code 26 = .ok (.return_, 1) := by decide +kernel
theorem d3_27 : decode jdk_42_method_149_code 27 = .ok (.getstatic 38, 3) := by decide +kernel
theorem d3_30 : decode jdk_42_method_149_code 30 = .ok (.ifCond .eq 28, 3) := by decide +kernel
theorem d3_33 : decode jdk_42_method_149_code 33 = .ok (.aload_n 1, 1) := by decide +kernel
theorem d3_34 : decode jdk_42_method_149_code 34 = .ok (.iload_n 2, 1) := by decide +kernel
theorem d3_35 : decode jdk_42_method_149_code 35 = .ok (.iload_n 3, 1) := by decide +kernel
theorem d3_36 : decode jdk_42_method_149_code 36 = .ok (.invokestatic 177, 3) := by decide +kernel
theorem d3_39 : decode jdk_42_method_149_code 39 = .ok (.astore 5, 2) := by decide +kernel
theorem d3_41 : decode jdk_42_method_149_code 41 = .ok (.aload_n 0, 1) := by decide +kernel
theorem d3_42 : decode jdk_42_method_149_code 42 = .ok (.aload 5, 2) := by decide +kernel
theorem d3_44 : decode jdk_42_method_149_code 44 = .ok (.iload_n 3, 1) := by decide +kernel
theorem d3_45 : decode jdk_42_method_149_code 45 = .ok (.invokestatic 47, 3) := by decide +kernel
theorem d3_48 : decode jdk_42_method_149_code 48 = .ok (.putfield 15, 3) := by decide +kernel
theorem d3_51 : decode jdk_42_method_149_code 51 = .ok (.aload_n 0, 1) := by decide +kernel
theorem d3_52 : decode jdk_42_method_149_code 52 = .ok (.aload 5, 2) := by decide +kernel
theorem d3_54 : decode jdk_42_method_149_code 54 = .ok (.putfield 9, 3) := by decide +kernel
theorem d3_57 : decode jdk_42_method_149_code 57 = .ok (.return_, 1) := by decide +kernel
theorem d3_58 : decode jdk_42_method_149_code 58 = .ok (.aload_n 0, 1) := by decide +kernel
theorem d3_59 : decode jdk_42_method_149_code 59 = .ok (.iconst 1, 1) := by decide +kernel
theorem d3_60 : decode jdk_42_method_149_code 60 = .ok (.putfield 15, 3) := by decide +kernel
theorem d3_63 : decode jdk_42_method_149_code 63 = .ok (.aload_n 0, 1) := by decide +kernel
theorem d3_64 : decode jdk_42_method_149_code 64 = .ok (.aload_n 1, 1) := by decide +kernel
theorem d3_65 : decode jdk_42_method_149_code 65 = .ok (.iload_n 2, 1) := by decide +kernel
theorem d3_66 : decode jdk_42_method_149_code 66 = .ok (.iload_n 3, 1) := by decide +kernel
theorem d3_67 : decode jdk_42_method_149_code 67 = .ok (.invokestatic 180, 3) := by decide +kernel
theorem d3_70 : decode jdk_42_method_149_code 70 = .ok (.putfield 9, 3) := by decide +kernel
theorem d3_73 : decode jdk_42_method_149_code 73 = .ok (.return_, 1) := by decide +kernel
theorem pn_3 : plainFor (⟨"java/lang/String", "<init>", "([CIILjava/lang/Void;)V"⟩ : MethodName) = true := plainFor_of_name (by first | (simp [plainName, overriddenIn]; done) | decide +kernel)
theorem pd_3_3 : parseMethodDescriptor "()V" = some ⟨[], none⟩ := by decide +kernel
theorem pd_3_4 : parseMethodDescriptor "([CII)[B" = some ⟨[(.array .char), .int, .int], some (.array .byte)⟩ := by decide +kernel
theorem pd_3_6 : parseMethodDescriptor "([BI)B" = some ⟨[(.array .byte), .int], some .byte⟩ := by decide +kernel
theorem ef_3 (m : MethodId) (a1 : Addr) (a2 : Addr) (p3 : Int32) (p4 : Int32) (a5 : Addr) : entryFrame m #[(.ref a1), (.ref a2), (.int p3), (.int p4), (.ref a5)] 6 = mkF m 0 #[rv a1, rv a2, iv p3, iv p4, rv a5, .unset] [] := by first | (simp [entryFrame, mkF, argsToLocals, Value.category]; done) | rfl
theorem ef_3_L (m : MethodId) (so : Addr) (ca : Addr) : entryFrame m #[(.ref so), (.ref ca), (.int (0 : Int32)), (.int (2 : Int32)), .null] 6 = mkF m 0 #[rv so, rv ca, iv (0 : Int32), iv (2 : Int32), .val .null, .unset] [] := by first | (simp [entryFrame, mkF, argsToLocals, Value.category]; done) | rfl
set_option maxRecDepth 65536 in
set_option maxHeartbeats 40000000 in
theorem rm3_L (l : Launch) (Z : State) (a0 : Array Value) (hw : ∀ d ∈ tables_1, d.before a0 Z = true) (ws : List Jvm.Cond) (so : Addr) (ca : Addr) (px : Int32) (py : Int32) {u1 : Value} {u2 : Value} (zc : Int32) (h0 : Heap) (n0 : Nat) (Z0 : n0 ≤ h0.size) (E_so : Exa Z h0 so "java/lang/String") (F_value : Fld Z h0 so "java/lang/String" "value" "[B" u1) (F_coder : Fld Z h0 so "java/lang/String" "coder" "B" u2) (V_ca : OwnArr Z h0 ca .char 2 (fun k => .int (own_two px py k))) (g_so : n0 ≤ so) (ne : so ≠ ca) (hzc : ¬ zc = (0 : Int32)) (S_cs : Sta Z Z.heap "java/lang/String" "COMPACT_STRINGS" "Z" (.int zc)) (S_as : Sta Z Z.heap "java/lang/StringUTF16" "$assertionsDisabled" "Z" (.int (1 : Int32))) (S_hi : Sta Z Z.heap "java/lang/StringUTF16" "HI_BYTE_SHIFT" "I" (.int (0 : Int32))) (S_lo : Sta Z Z.heap "java/lang/StringUTF16" "LO_BYTE_SHIFT" "I" (.int (8 : Int32))) (OL : Old Z n0 h0) (hpx : own_ch px) (hpy : own_ch py) (hl1 : ¬ (255 : Int32) < px) (hl2 : ¬ (255 : Int32) < py) :
    OwnCtr l Z (⟨"java/lang/String", "<init>", "([CIILjava/lang/Void;)V"⟩ : MethodName) ws jdk_42_method_149_code 6 none ({ frames := 2, cells := 1, slots := 2, locals := 35 } : Room) #[(.ref so), (.ref ca), (.int (0 : Int32)), (.int (2 : Int32)), .null] h0 (fun v h L => v = none ∧ Fr n0 L ∧ Keep h0 h [so] ∧ Exa Z h so "java/lang/String" ∧ Fld Z h so "java/lang/String" "coder" "B" (.int (0 : Int32)) ∧ ∃ b : Addr, h0.size ≤ b ∧ Fld Z h so "java/lang/String" "value" "[B" (.ref b) ∧ OwnArr Z h b .byte 2 (fun k => .int (own_two (own_lb px) (own_lb py) k))) := by
  refine own_body (g0 := fun m => mkF m 0 #[rv so, rv ca, iv (0 : Int32), iv (2 : Int32), .val .null, .unset] []) pn_3 (fun m => ef_3_L m so ca) ?_
  intro p e s m below meth c s₁ X0 hx hby hml hown hnm hZ e0 hret hlk
  have hml : c.maxLocals = 6 := hml
  have hown : s.vm.findClass "java/lang/String" = some m.cls := hown
  have hnm : meth.name = "<init>" := hnm
  have hret : meth.sig.returnType = none := hret
  have N0 := Fr.nil n0
  have K0 := Keep.refl h0 [so]
  show OwnFin p e below s _ _ _ (s₁.setTop (mkF m 0 #[rv so, rv ca, iv (0 : Int32), iv (2 : Int32), .val .null, .unset] []))
  refine own_go (fun t_ k_ => XS.aloadN X0.here hx rfl (hb hby d3_0) rfl rfl k_) ?_
  show OwnFin p e below s _ _ _ (s₁.setTop (mkF m 1 #[rv so, rv ca, iv (0 : Int32), iv (2 : Int32), .val .null, .unset] [(.ref so)]))
  obtain ⟨T1, X1, e1, st1⟩ := initO X0 hx hZ hown (hw _ (List.mem_of_getElem? (i := 18) rfl)) (hw _ (List.mem_of_getElem? (i := 19) rfl)) (hw _ (List.mem_of_getElem? (i := 20) rfl)) e0 (g := (mkF m 1 #[rv so, rv ca, iv (0 : Int32), iv (2 : Int32), .val .null, .unset] [(.ref so)])) rfl (by rw [hml]; rfl) rfl (hb hby d3_1) (by decide) (W := 0) (by show 2 * 0 + _ ≤ _; exact Nat.le_of_eq rfl) (by decide)
  refine own_go st1 ?_
  show OwnFin p e below s _ _ _ (T1.setTop (mkF m 4 #[rv so, rv ca, iv (0 : Int32), iv (2 : Int32), .val .null, .unset] []))
  refine own_go (fun t_ k_ => XS.iloadN X1.here hx rfl (hb hby d3_4) rfl k_) ?_
  show OwnFin p e below s _ _ _ (T1.setTop (mkF m 5 #[rv so, rv ca, iv (0 : Int32), iv (2 : Int32), .val .null, .unset] [(.int (2 : Int32))]))
  refine own_go (fun t_ k_ => XS.ifYes X1.here hx rfl (pc0 := 5) (pc' := 27) rfl (hb hby d3_5) rfl ((if0 _ _).trans (feq (by decide)).2) (by decide) (by decide) k_) ?_
  show OwnFin p e below s _ _ _ (T1.setTop (mkF m 27 #[rv so, rv ca, iv (0 : Int32), iv (2 : Int32), .val .null, .unset] []))
  obtain ⟨T2, X2, e2, st2⟩ := getS2 X1 hx hZ hown (host := "") (Or.inl (hw _ (List.mem_of_getElem? (i := 21) rfl))) Via.refl e1 (S_cs.ext OL.2) (g := (mkF m 27 #[rv so, rv ca, iv (0 : Int32), iv (2 : Int32), .val .null, .unset] [])) rfl (hb hby d3_27)
  refine own_go st2 ?_
  show OwnFin p e below s _ _ _ (T2.setTop (mkF m 30 #[rv so, rv ca, iv (0 : Int32), iv (2 : Int32), .val .null, .unset] [(.int zc)]))
  have hc30 : ¬ (zc = (0 : Int32)) := hzc
  refine own_go (fun t_ k_ => XS.ifNo X2.here hx rfl (hb hby d3_30) rfl ((if0 _ _).trans (feq hc30).1) k_) ?_
  show OwnFin p e below s _ _ _ (T2.setTop (mkF m 33 #[rv so, rv ca, iv (0 : Int32), iv (2 : Int32), .val .null, .unset] []))
  refine own_go (fun t_ k_ => XS.aloadN X2.here hx rfl (hb hby d3_33) rfl rfl k_) ?_
  show OwnFin p e below s _ _ _ (T2.setTop (mkF m 34 #[rv so, rv ca, iv (0 : Int32), iv (2 : Int32), .val .null, .unset] [(.ref ca)]))
  refine own_go (fun t_ k_ => XS.iloadN X2.here hx rfl (hb hby d3_34) rfl k_) ?_
  show OwnFin p e below s _ _ _ (T2.setTop (mkF m 35 #[rv so, rv ca, iv (0 : Int32), iv (2 : Int32), .val .null, .unset] [(.int (0 : Int32)), (.ref ca)]))
  refine own_go (fun t_ k_ => XS.iloadN X2.here hx rfl (hb hby d3_35) rfl k_) ?_
  show OwnFin p e below s _ _ _ (T2.setTop (mkF m 36 #[rv so, rv ca, iv (0 : Int32), iv (2 : Int32), .val .null, .unset] [(.int (2 : Int32)), (.int (0 : Int32)), (.ref ca)]))
  obtain ⟨v3, T3, L3, X3, hQ3, st3⟩ := own_callS X2 hx hZ (y := (⟨"java/lang/StringUTF16", "compress", "([CII)[B"⟩ : MethodName)) hown (hw _ (List.mem_of_getElem? (i := 22) rfl)) (hw _ (List.mem_of_getElem? (i := 23) rfl)) (hw _ (List.mem_of_getElem? (i := 24) rfl)) (hw _ (List.mem_of_getElem? (i := 25) rfl)) (by decide) (W := 0) (rm5_L l Z a0 hw [] ca px py h0 n0 Z0 V_ca S_as S_hi S_lo OL hpx hpy hl1 hl2) (by decide) (by decide) (g := (mkF m 36 #[rv so, rv ca, iv (0 : Int32), iv (2 : Int32), .val .null, .unset] [(.int (2 : Int32)), (.int (0 : Int32)), (.ref ca)])) rfl (by rw [hml]; rfl) (argsL := [(.ref ca), (.int (0 : Int32)), (.int (2 : Int32))]) (rest := []) (lenOf pd_3_4 rfl) rfl (by show 2 * 0 + _ ≤ _; exact Nat.le_of_eq rfl) (hb hby d3_36) e2 rfl (by decide) (by decide)
  obtain ⟨r3, rfl, Nq3, Kq3, sq3, Vq3⟩ := hQ3
  have N3 := Fr.app N0 Nq3
  have g_r3 : n0 ≤ r3 := Nat.le_trans Z0 sq3
  have ne_so_r3 : so ≠ r3 := Nat.ne_of_lt (Nat.lt_of_lt_of_le E_so.lt sq3)
  have ne_ca_r3 : ca ≠ r3 := Nat.ne_of_lt (Nat.lt_of_lt_of_le V_ca.lt sq3)
  have E_so_3 := E_so.keep Kq3
  have F_value_3 := F_value.keep Kq3 nin0
  have F_coder_3 := F_coder.keep Kq3 nin0
  have V_ca_3 := V_ca.keep Kq3 nin0
  have OL_3 := OL.keep Kq3 all0
  have Z3 : n0 ≤ T3.heap.size := Nat.le_trans Z0 Kq3.1
  have sz_r3 : h0.size ≤ r3 := Nat.le_trans K0.1 sq3
  have K3 : Keep h0 T3.heap [so] := K0.trans Kq3 all0
  refine own_go st3 ?_
  show OwnFin p e below s _ _ _ (T3.setTop (mkF m 39 #[rv so, rv ca, iv (0 : Int32), iv (2 : Int32), .val .null, .unset] [(.ref r3)]))
  refine own_go (fun t_ k_ => XS.astore X3.here hx rfl (hb hby d3_39) rfl rfl (l' := #[rv so, rv ca, iv (0 : Int32), iv (2 : Int32), .val .null, rv r3]) rfl k_) ?_
  show OwnFin p e below s _ _ _ (T3.setTop (mkF m 41 #[rv so, rv ca, iv (0 : Int32), iv (2 : Int32), .val .null, rv r3] []))
  refine own_go (fun t_ k_ => XS.aloadN X3.here hx rfl (hb hby d3_41) rfl rfl k_) ?_
  show OwnFin p e below s _ _ _ (T3.setTop (mkF m 42 #[rv so, rv ca, iv (0 : Int32), iv (2 : Int32), .val .null, rv r3] [(.ref so)]))
  refine own_go (fun t_ k_ => XS.aload X3.here hx rfl (hb hby d3_42) rfl rfl k_) ?_
  show OwnFin p e below s _ _ _ (T3.setTop (mkF m 44 #[rv so, rv ca, iv (0 : Int32), iv (2 : Int32), .val .null, rv r3] [(.ref r3), (.ref so)]))
  refine own_go (fun t_ k_ => XS.iloadN X3.here hx rfl (hb hby d3_44) rfl k_) ?_
  show OwnFin p e below s _ _ _ (T3.setTop (mkF m 45 #[rv so, rv ca, iv (0 : Int32), iv (2 : Int32), .val .null, rv r3] [(.int (2 : Int32)), (.ref r3), (.ref so)]))
  obtain ⟨v4, T4, L4, X4, hQ4, st4⟩ := own_callS X3 hx hZ (y := (⟨"java/lang/StringUTF16", "coderFromArrayLen", "([BI)B"⟩ : MethodName)) hown (hw _ (List.mem_of_getElem? (i := 30) rfl)) (hw _ (List.mem_of_getElem? (i := 31) rfl)) (hw _ (List.mem_of_getElem? (i := 24) rfl)) (hw _ (List.mem_of_getElem? (i := 32) rfl)) (by decide) (W := 1) (rm7_L l Z a0 hw [] r3 _ T3.heap n0 Z3 Vq3) (by decide) (by decide) (g := (mkF m 45 #[rv so, rv ca, iv (0 : Int32), iv (2 : Int32), .val .null, rv r3] [(.int (2 : Int32)), (.ref r3), (.ref so)])) rfl (by rw [hml]; rfl) (argsL := [(.ref r3), (.int (2 : Int32))]) (rest := [(.ref so)]) (lenOf pd_3_6 rfl) rfl (by show 2 * 0 + _ ≤ _; exact Nat.le_of_eq rfl) (hb hby d3_45) rfl rfl (by decide) (by decide)
  obtain ⟨rfl, Nq4, e4⟩ := hQ4
  have N4 := Fr.app N3 Nq4
  refine own_go st4 ?_
  show OwnFin p e below s _ _ _ (T4.setTop (mkF m 48 #[rv so, rv ca, iv (0 : Int32), iv (2 : Int32), .val .null, rv r3] [(.int (0 : Int32)), (.ref so)]))
  obtain ⟨T5, h5, X5, e5, W5, st5⟩ := putFN X4 hx hZ hown (hw _ (List.mem_of_getElem? (i := 33) rfl)) Via.refl e4 F_coder_3 E_so_3 (Or.inr ⟨(hw _ (List.mem_of_getElem? (i := 34) rfl)), rfl, hnm⟩) (hw _ (List.mem_of_getElem? (i := 9) rfl)) (ty := .byte) (v' := (.int (nar .byte (0 : Int32)))) (by decide) rfl (by decide) (g := (mkF m 48 #[rv so, rv ca, iv (0 : Int32), iv (2 : Int32), .val .null, rv r3] [(.int (0 : Int32)), (.ref so)])) rfl rfl (hb hby d3_48)
  have E_so_5 := E_so_3.wr W5
  have F_value_5 := F_value_3.other W5 (Or.inr (slot_ne (Or.inr (hw _ (List.mem_of_getElem? (i := 36) rfl))) (Or.inr (hw _ (List.mem_of_getElem? (i := 34) rfl))) (by decide) (t := (.array .byte)) (t' := .byte) (by decide) (by decide)))
  have F_coder_5 := F_coder_3.same W5
  have V_ca_5 := V_ca_3.other W5 (Ne.symm ne)
  have OL_5 := OL_3.wr W5 g_so
  have Vq3_5 := Vq3.other W5 (Ne.symm ne_so_r3)
  have Z5 : n0 ≤ h5.size := Nat.le_trans Z3 (Keep.of_wr W5).1
  have K5 : Keep h0 h5 [so] := K3.wr W5 (Or.inl (List.mem_of_getElem? (i := 0) rfl))
  have N5 := Fr.snoc X5 N4 g_so
  refine own_go st5 ?_
  show OwnFin p e below s _ _ _ (T5.setTop (mkF m 51 #[rv so, rv ca, iv (0 : Int32), iv (2 : Int32), .val .null, rv r3] []))
  refine own_go (fun t_ k_ => XS.aloadN X5.here hx rfl (hb hby d3_51) rfl rfl k_) ?_
  show OwnFin p e below s _ _ _ (T5.setTop (mkF m 52 #[rv so, rv ca, iv (0 : Int32), iv (2 : Int32), .val .null, rv r3] [(.ref so)]))
  refine own_go (fun t_ k_ => XS.aload X5.here hx rfl (hb hby d3_52) rfl rfl k_) ?_
  show OwnFin p e below s _ _ _ (T5.setTop (mkF m 54 #[rv so, rv ca, iv (0 : Int32), iv (2 : Int32), .val .null, rv r3] [(.ref r3), (.ref so)]))
  obtain ⟨T6, h6, X6, e6, W6, st6⟩ := putF X5 hx hZ hown (host := "") (Or.inl (hw _ (List.mem_of_getElem? (i := 35) rfl))) Via.refl e5 F_value_5 E_so_5 (Or.inr ⟨(hw _ (List.mem_of_getElem? (i := 36) rfl)), rfl, hnm⟩) (hw _ (List.mem_of_getElem? (i := 9) rfl)) (ty := (.array .byte)) (by decide) rfl rfl (g := (mkF m 54 #[rv so, rv ca, iv (0 : Int32), iv (2 : Int32), .val .null, rv r3] [(.ref r3), (.ref so)])) rfl rfl (hb hby d3_54)
  have E_so_6 := E_so_5.wr W6
  have F_value_6 := F_value_5.same W6
  have F_coder_6 := F_coder_5.other W6 (Or.inr (slot_ne (Or.inr (hw _ (List.mem_of_getElem? (i := 34) rfl))) (Or.inr (hw _ (List.mem_of_getElem? (i := 36) rfl))) (by decide) (t := .byte) (t' := (.array .byte)) (by decide) (by decide)))
  have V_ca_6 := V_ca_5.other W6 (Ne.symm ne)
  have OL_6 := OL_5.wr W6 g_so
  have Vq3_6 := Vq3_5.other W6 (Ne.symm ne_so_r3)
  have Z6 : n0 ≤ h6.size := Nat.le_trans Z5 (Keep.of_wr W6).1
  have K6 : Keep h0 h6 [so] := K5.wr W6 (Or.inl (List.mem_of_getElem? (i := 0) rfl))
  have N6 := Fr.snoc X6 N5 g_so
  refine own_go st6 ?_
  show OwnFin p e below s _ _ _ (T6.setTop (mkF m 57 #[rv so, rv ca, iv (0 : Int32), iv (2 : Int32), .val .null, rv r3] []))
  refine own_ret X6 (v := none) hlk (fun _ => rfl) (fun fs hr => X6.returnOut hx hret (hb hby d3_57) hr) (by decide) (by decide) ?_
  rw [e6]
  exact ⟨rfl, N6, K6, E_so_6, F_coder_6, r3, sz_r3, F_value_6, Vq3_6⟩
theorem ef_3_U (m : MethodId) (so : Addr) (ca : Addr) : entryFrame m #[(.ref so), (.ref ca), (.int (0 : Int32)), (.int (2 : Int32)), .null] 6 = mkF m 0 #[rv so, rv ca, iv (0 : Int32), iv (2 : Int32), .val .null, .unset] [] := by first | (simp [entryFrame, mkF, argsToLocals, Value.category]; done) | rfl
set_option maxRecDepth 65536 in
set_option maxHeartbeats 40000000 in
theorem rm3_U (l : Launch) (Z : State) (a0 : Array Value) (hw : ∀ d ∈ tables_1, d.before a0 Z = true) (ws : List Jvm.Cond) (so : Addr) (ca : Addr) (px : Int32) (py : Int32) {u1 : Value} {u2 : Value} (zc : Int32) (h0 : Heap) (n0 : Nat) (Z0 : n0 ≤ h0.size) (E_so : Exa Z h0 so "java/lang/String") (F_value : Fld Z h0 so "java/lang/String" "value" "[B" u1) (F_coder : Fld Z h0 so "java/lang/String" "coder" "B" u2) (V_ca : OwnArr Z h0 ca .char 2 (fun k => .int (own_two px py k))) (g_so : n0 ≤ so) (ne : so ≠ ca) (hzc : ¬ zc = (0 : Int32)) (S_cs : Sta Z Z.heap "java/lang/String" "COMPACT_STRINGS" "Z" (.int zc)) (S_as : Sta Z Z.heap "java/lang/StringUTF16" "$assertionsDisabled" "Z" (.int (1 : Int32))) (S_hi : Sta Z Z.heap "java/lang/StringUTF16" "HI_BYTE_SHIFT" "I" (.int (0 : Int32))) (S_lo : Sta Z Z.heap "java/lang/StringUTF16" "LO_BYTE_SHIFT" "I" (.int (8 : Int32))) (OL : Old Z n0 h0) (hpx : own_ch px) (hpy : own_ch py) (hl3 : (255 : Int32) < px ∨ (255 : Int32) < py) :
    OwnCtr l Z (⟨"java/lang/String", "<init>", "([CIILjava/lang/Void;)V"⟩ : MethodName) ws jdk_42_method_149_code 6 none ({ frames := 4, cells := 2, slots := 6, locals := 57 } : Room) #[(.ref so), (.ref ca), (.int (0 : Int32)), (.int (2 : Int32)), .null] h0 (fun v h L => v = none ∧ Fr n0 L ∧ Keep h0 h [so] ∧ Exa Z h so "java/lang/String" ∧ Fld Z h so "java/lang/String" "coder" "B" (.int (1 : Int32)) ∧ ∃ b : Addr, h0.size ≤ b ∧ Fld Z h so "java/lang/String" "value" "[B" (.ref b) ∧ OwnArr Z h b .byte 4 (fun k => .int (own_four (own_b0 px) (own_b1 px) (own_b0 py) (own_b1 py) k))) := by
  refine own_body (g0 := fun m => mkF m 0 #[rv so, rv ca, iv (0 : Int32), iv (2 : Int32), .val .null, .unset] []) pn_3 (fun m => ef_3_U m so ca) ?_
  intro p e s m below meth c s₁ X0 hx hby hml hown hnm hZ e0 hret hlk
  have hml : c.maxLocals = 6 := hml
  have hown : s.vm.findClass "java/lang/String" = some m.cls := hown
  have hnm : meth.name = "<init>" := hnm
  have hret : meth.sig.returnType = none := hret
  have N0 := Fr.nil n0
  have K0 := Keep.refl h0 [so]
  show OwnFin p e below s _ _ _ (s₁.setTop (mkF m 0 #[rv so, rv ca, iv (0 : Int32), iv (2 : Int32), .val .null, .unset] []))
  refine own_go (fun t_ k_ => XS.aloadN X0.here hx rfl (hb hby d3_0) rfl rfl k_) ?_
  show OwnFin p e below s _ _ _ (s₁.setTop (mkF m 1 #[rv so, rv ca, iv (0 : Int32), iv (2 : Int32), .val .null, .unset] [(.ref so)]))
  obtain ⟨T1, X1, e1, st1⟩ := initO X0 hx hZ hown (hw _ (List.mem_of_getElem? (i := 18) rfl)) (hw _ (List.mem_of_getElem? (i := 19) rfl)) (hw _ (List.mem_of_getElem? (i := 20) rfl)) e0 (g := (mkF m 1 #[rv so, rv ca, iv (0 : Int32), iv (2 : Int32), .val .null, .unset] [(.ref so)])) rfl (by rw [hml]; rfl) rfl (hb hby d3_1) (by decide) (W := 0) (by show 2 * 0 + _ ≤ _; exact Nat.le_of_eq rfl) (by decide)
  refine own_go st1 ?_
  show OwnFin p e below s _ _ _ (T1.setTop (mkF m 4 #[rv so, rv ca, iv (0 : Int32), iv (2 : Int32), .val .null, .unset] []))
  refine own_go (fun t_ k_ => XS.iloadN X1.here hx rfl (hb hby d3_4) rfl k_) ?_
  show OwnFin p e below s _ _ _ (T1.setTop (mkF m 5 #[rv so, rv ca, iv (0 : Int32), iv (2 : Int32), .val .null, .unset] [(.int (2 : Int32))]))
  refine own_go (fun t_ k_ => XS.ifYes X1.here hx rfl (pc0 := 5) (pc' := 27) rfl (hb hby d3_5) rfl ((if0 _ _).trans (feq (by decide)).2) (by decide) (by decide) k_) ?_
  show OwnFin p e below s _ _ _ (T1.setTop (mkF m 27 #[rv so, rv ca, iv (0 : Int32), iv (2 : Int32), .val .null, .unset] []))
  obtain ⟨T2, X2, e2, st2⟩ := getS2 X1 hx hZ hown (host := "") (Or.inl (hw _ (List.mem_of_getElem? (i := 21) rfl))) Via.refl e1 (S_cs.ext OL.2) (g := (mkF m 27 #[rv so, rv ca, iv (0 : Int32), iv (2 : Int32), .val .null, .unset] [])) rfl (hb hby d3_27)
  refine own_go st2 ?_
  show OwnFin p e below s _ _ _ (T2.setTop (mkF m 30 #[rv so, rv ca, iv (0 : Int32), iv (2 : Int32), .val .null, .unset] [(.int zc)]))
  have hc30 : ¬ (zc = (0 : Int32)) := hzc
  refine own_go (fun t_ k_ => XS.ifNo X2.here hx rfl (hb hby d3_30) rfl ((if0 _ _).trans (feq hc30).1) k_) ?_
  show OwnFin p e below s _ _ _ (T2.setTop (mkF m 33 #[rv so, rv ca, iv (0 : Int32), iv (2 : Int32), .val .null, .unset] []))
  refine own_go (fun t_ k_ => XS.aloadN X2.here hx rfl (hb hby d3_33) rfl rfl k_) ?_
  show OwnFin p e below s _ _ _ (T2.setTop (mkF m 34 #[rv so, rv ca, iv (0 : Int32), iv (2 : Int32), .val .null, .unset] [(.ref ca)]))
  refine own_go (fun t_ k_ => XS.iloadN X2.here hx rfl (hb hby d3_34) rfl k_) ?_
  show OwnFin p e below s _ _ _ (T2.setTop (mkF m 35 #[rv so, rv ca, iv (0 : Int32), iv (2 : Int32), .val .null, .unset] [(.int (0 : Int32)), (.ref ca)]))
  refine own_go (fun t_ k_ => XS.iloadN X2.here hx rfl (hb hby d3_35) rfl k_) ?_
  show OwnFin p e below s _ _ _ (T2.setTop (mkF m 36 #[rv so, rv ca, iv (0 : Int32), iv (2 : Int32), .val .null, .unset] [(.int (2 : Int32)), (.int (0 : Int32)), (.ref ca)]))
  obtain ⟨v3, T3, L3, X3, hQ3, st3⟩ := own_callS X2 hx hZ (y := (⟨"java/lang/StringUTF16", "compress", "([CII)[B"⟩ : MethodName)) hown (hw _ (List.mem_of_getElem? (i := 22) rfl)) (hw _ (List.mem_of_getElem? (i := 23) rfl)) (hw _ (List.mem_of_getElem? (i := 24) rfl)) (hw _ (List.mem_of_getElem? (i := 25) rfl)) (by decide) (W := 0) (rm5_U l Z a0 hw [] ca px py h0 n0 Z0 V_ca S_as S_hi S_lo OL hpx hpy hl3) (by decide) (by decide) (g := (mkF m 36 #[rv so, rv ca, iv (0 : Int32), iv (2 : Int32), .val .null, .unset] [(.int (2 : Int32)), (.int (0 : Int32)), (.ref ca)])) rfl (by rw [hml]; rfl) (argsL := [(.ref ca), (.int (0 : Int32)), (.int (2 : Int32))]) (rest := []) (lenOf pd_3_4 rfl) rfl (by show 2 * 0 + _ ≤ _; exact Nat.le_of_eq rfl) (hb hby d3_36) e2 rfl (by decide) (by decide)
  obtain ⟨r3, rfl, Nq3, Kq3, sq3, Vq3⟩ := hQ3
  have N3 := Fr.app N0 Nq3
  have g_r3 : n0 ≤ r3 := Nat.le_trans Z0 sq3
  have ne_so_r3 : so ≠ r3 := Nat.ne_of_lt (Nat.lt_of_lt_of_le E_so.lt sq3)
  have ne_ca_r3 : ca ≠ r3 := Nat.ne_of_lt (Nat.lt_of_lt_of_le V_ca.lt sq3)
  have E_so_3 := E_so.keep Kq3
  have F_value_3 := F_value.keep Kq3 nin0
  have F_coder_3 := F_coder.keep Kq3 nin0
  have V_ca_3 := V_ca.keep Kq3 nin0
  have OL_3 := OL.keep Kq3 all0
  have Z3 : n0 ≤ T3.heap.size := Nat.le_trans Z0 Kq3.1
  have sz_r3 : h0.size ≤ r3 := Nat.le_trans K0.1 sq3
  have K3 : Keep h0 T3.heap [so] := K0.trans Kq3 all0
  refine own_go st3 ?_
  show OwnFin p e below s _ _ _ (T3.setTop (mkF m 39 #[rv so, rv ca, iv (0 : Int32), iv (2 : Int32), .val .null, .unset] [(.ref r3)]))
  refine own_go (fun t_ k_ => XS.astore X3.here hx rfl (hb hby d3_39) rfl rfl (l' := #[rv so, rv ca, iv (0 : Int32), iv (2 : Int32), .val .null, rv r3]) rfl k_) ?_
  show OwnFin p e below s _ _ _ (T3.setTop (mkF m 41 #[rv so, rv ca, iv (0 : Int32), iv (2 : Int32), .val .null, rv r3] []))
  refine own_go (fun t_ k_ => XS.aloadN X3.here hx rfl (hb hby d3_41) rfl rfl k_) ?_
  show OwnFin p e below s _ _ _ (T3.setTop (mkF m 42 #[rv so, rv ca, iv (0 : Int32), iv (2 : Int32), .val .null, rv r3] [(.ref so)]))
  refine own_go (fun t_ k_ => XS.aload X3.here hx rfl (hb hby d3_42) rfl rfl k_) ?_
  show OwnFin p e below s _ _ _ (T3.setTop (mkF m 44 #[rv so, rv ca, iv (0 : Int32), iv (2 : Int32), .val .null, rv r3] [(.ref r3), (.ref so)]))
  refine own_go (fun t_ k_ => XS.iloadN X3.here hx rfl (hb hby d3_44) rfl k_) ?_
  show OwnFin p e below s _ _ _ (T3.setTop (mkF m 45 #[rv so, rv ca, iv (0 : Int32), iv (2 : Int32), .val .null, rv r3] [(.int (2 : Int32)), (.ref r3), (.ref so)]))
  obtain ⟨v4, T4, L4, X4, hQ4, st4⟩ := own_callS X3 hx hZ (y := (⟨"java/lang/StringUTF16", "coderFromArrayLen", "([BI)B"⟩ : MethodName)) hown (hw _ (List.mem_of_getElem? (i := 30) rfl)) (hw _ (List.mem_of_getElem? (i := 31) rfl)) (hw _ (List.mem_of_getElem? (i := 24) rfl)) (hw _ (List.mem_of_getElem? (i := 32) rfl)) (by decide) (W := 1) (rm7_U l Z a0 hw [] r3 _ T3.heap n0 Z3 Vq3) (by decide) (by decide) (g := (mkF m 45 #[rv so, rv ca, iv (0 : Int32), iv (2 : Int32), .val .null, rv r3] [(.int (2 : Int32)), (.ref r3), (.ref so)])) rfl (by rw [hml]; rfl) (argsL := [(.ref r3), (.int (2 : Int32))]) (rest := [(.ref so)]) (lenOf pd_3_6 rfl) rfl (by show 2 * 0 + _ ≤ _; exact Nat.le_of_eq rfl) (hb hby d3_45) rfl rfl (by decide) (by decide)
  obtain ⟨rfl, Nq4, e4⟩ := hQ4
  have N4 := Fr.app N3 Nq4
  refine own_go st4 ?_
  show OwnFin p e below s _ _ _ (T4.setTop (mkF m 48 #[rv so, rv ca, iv (0 : Int32), iv (2 : Int32), .val .null, rv r3] [(.int (1 : Int32)), (.ref so)]))
  obtain ⟨T5, h5, X5, e5, W5, st5⟩ := putFN X4 hx hZ hown (hw _ (List.mem_of_getElem? (i := 33) rfl)) Via.refl e4 F_coder_3 E_so_3 (Or.inr ⟨(hw _ (List.mem_of_getElem? (i := 34) rfl)), rfl, hnm⟩) (hw _ (List.mem_of_getElem? (i := 9) rfl)) (ty := .byte) (v' := (.int (nar .byte (1 : Int32)))) (by decide) rfl (by decide) (g := (mkF m 48 #[rv so, rv ca, iv (0 : Int32), iv (2 : Int32), .val .null, rv r3] [(.int (1 : Int32)), (.ref so)])) rfl rfl (hb hby d3_48)
  have E_so_5 := E_so_3.wr W5
  have F_value_5 := F_value_3.other W5 (Or.inr (slot_ne (Or.inr (hw _ (List.mem_of_getElem? (i := 36) rfl))) (Or.inr (hw _ (List.mem_of_getElem? (i := 34) rfl))) (by decide) (t := (.array .byte)) (t' := .byte) (by decide) (by decide)))
  have F_coder_5 := F_coder_3.same W5
  have V_ca_5 := V_ca_3.other W5 (Ne.symm ne)
  have OL_5 := OL_3.wr W5 g_so
  have Vq3_5 := Vq3.other W5 (Ne.symm ne_so_r3)
  have Z5 : n0 ≤ h5.size := Nat.le_trans Z3 (Keep.of_wr W5).1
  have K5 : Keep h0 h5 [so] := K3.wr W5 (Or.inl (List.mem_of_getElem? (i := 0) rfl))
  have N5 := Fr.snoc X5 N4 g_so
  refine own_go st5 ?_
  show OwnFin p e below s _ _ _ (T5.setTop (mkF m 51 #[rv so, rv ca, iv (0 : Int32), iv (2 : Int32), .val .null, rv r3] []))
  refine own_go (fun t_ k_ => XS.aloadN X5.here hx rfl (hb hby d3_51) rfl rfl k_) ?_
  show OwnFin p e below s _ _ _ (T5.setTop (mkF m 52 #[rv so, rv ca, iv (0 : Int32), iv (2 : Int32), .val .null, rv r3] [(.ref so)]))
  refine own_go (fun t_ k_ => XS.aload X5.here hx rfl (hb hby d3_52) rfl rfl k_) ?_
  show OwnFin p e below s _ _ _ (T5.setTop (mkF m 54 #[rv so, rv ca, iv (0 : Int32), iv (2 : Int32), .val .null, rv r3] [(.ref r3), (.ref so)]))
  obtain ⟨T6, h6, X6, e6, W6, st6⟩ := putF X5 hx hZ hown (host := "") (Or.inl (hw _ (List.mem_of_getElem? (i := 35) rfl))) Via.refl e5 F_value_5 E_so_5 (Or.inr ⟨(hw _ (List.mem_of_getElem? (i := 36) rfl)), rfl, hnm⟩) (hw _ (List.mem_of_getElem? (i := 9) rfl)) (ty := (.array .byte)) (by decide) rfl rfl (g := (mkF m 54 #[rv so, rv ca, iv (0 : Int32), iv (2 : Int32), .val .null, rv r3] [(.ref r3), (.ref so)])) rfl rfl (hb hby d3_54)
  have E_so_6 := E_so_5.wr W6
  have F_value_6 := F_value_5.same W6
  have F_coder_6 := F_coder_5.other W6 (Or.inr (slot_ne (Or.inr (hw _ (List.mem_of_getElem? (i := 34) rfl))) (Or.inr (hw _ (List.mem_of_getElem? (i := 36) rfl))) (by decide) (t := .byte) (t' := (.array .byte)) (by decide) (by decide)))
  have V_ca_6 := V_ca_5.other W6 (Ne.symm ne)
  have OL_6 := OL_5.wr W6 g_so
  have Vq3_6 := Vq3_5.other W6 (Ne.symm ne_so_r3)
  have Z6 : n0 ≤ h6.size := Nat.le_trans Z5 (Keep.of_wr W6).1
  have K6 : Keep h0 h6 [so] := K5.wr W6 (Or.inl (List.mem_of_getElem? (i := 0) rfl))
  have N6 := Fr.snoc X6 N5 g_so
  refine own_go st6 ?_
  show OwnFin p e below s _ _ _ (T6.setTop (mkF m 57 #[rv so, rv ca, iv (0 : Int32), iv (2 : Int32), .val .null, rv r3] []))
  refine own_ret X6 (v := none) hlk (fun _ => rfl) (fun fs hr => X6.returnOut hx hret (hb hby d3_57) hr) (by decide) (by decide) ?_
  rw [e6]
  exact ⟨rfl, N6, K6, E_so_6, F_coder_6, r3, sz_r3, F_value_6, Vq3_6⟩
theorem d2_0 : decode jdk_42_method_3_code 0 = .ok (.aload_n 0, 1) := by decide +kernel
theorem d2_1 : decode jdk_42_method_3_code 1 = .ok (.aload_n 1, 1) := by decide +kernel
theorem d2_2 : decode jdk_42_method_3_code 2 = .ok (.iconst 0, 1) := by decide +kernel
theorem d2_3 : decode jdk_42_method_3_code 3 = .ok (.aload_n 1, 1) := by decide +kernel
theorem d2_4 : decode jdk_42_method_3_code 4 = .ok (.arraylength, 1) := by decide +kernel
theorem d2_5 : decode jdk_42_method_3_code 5 = .ok (.aconst_null, 1) := by decide +kernel
theorem d2_6 : decode jdk_42_method_3_code 6 = .ok (.invokespecial 27, 3) := by decide +kernel
theorem d2_9 : decode jdk_42_method_3_code 9 = .ok (.return_, 1) := by decide +kernel
theorem pn_2 : plainFor (⟨"java/lang/String", "<init>", "([C)V"⟩ : MethodName) = true := plainFor_of_name (by first | (simp [plainName, overriddenIn]; done) | decide +kernel)
theorem pd_2_2 : parseMethodDescriptor "([CIILjava/lang/Void;)V" = some ⟨[(.array .char), .int, .int, (.object "java/lang/Void")], none⟩ := by decide +kernel
theorem ef_2 (m : MethodId) (a1 : Addr) (a2 : Addr) : entryFrame m #[(.ref a1), (.ref a2)] 2 = mkF m 0 #[rv a1, rv a2] [] := by first | (simp [entryFrame, mkF, argsToLocals, Value.category]; done) | rfl
theorem ef_2_L (m : MethodId) (so : Addr) (ca : Addr) : entryFrame m #[(.ref so), (.ref ca)] 2 = mkF m 0 #[rv so, rv ca] [] := by first | (simp [entryFrame, mkF, argsToLocals, Value.category]; done) | rfl
set_option maxRecDepth 65536 in
set_option maxHeartbeats 40000000 in
theorem rm2_L (l : Launch) (Z : State) (a0 : Array Value) (hw : ∀ d ∈ tables_1, d.before a0 Z = true) (ws : List Jvm.Cond) (so : Addr) (ca : Addr) (px : Int32) (py : Int32) {u1 : Value} {u2 : Value} (zc : Int32) (h0 : Heap) (n0 : Nat) (Z0 : n0 ≤ h0.size) (E_so : Exa Z h0 so "java/lang/String") (F_value : Fld Z h0 so "java/lang/String" "value" "[B" u1) (F_coder : Fld Z h0 so "java/lang/String" "coder" "B" u2) (V_ca : OwnArr Z h0 ca .char 2 (fun k => .int (own_two px py k))) (g_so : n0 ≤ so) (ne : so ≠ ca) (hzc : ¬ zc = (0 : Int32)) (S_cs : Sta Z Z.heap "java/lang/String" "COMPACT_STRINGS" "Z" (.int zc)) (S_as : Sta Z Z.heap "java/lang/StringUTF16" "$assertionsDisabled" "Z" (.int (1 : Int32))) (S_hi : Sta Z Z.heap "java/lang/StringUTF16" "HI_BYTE_SHIFT" "I" (.int (0 : Int32))) (S_lo : Sta Z Z.heap "java/lang/StringUTF16" "LO_BYTE_SHIFT" "I" (.int (8 : Int32))) (OL : Old Z n0 h0) (hpx : own_ch px) (hpy : own_ch py) (hl1 : ¬ (255 : Int32) < px) (hl2 : ¬ (255 : Int32) < py) :
    OwnCtr l Z (⟨"java/lang/String", "<init>", "([C)V"⟩ : MethodName) ws jdk_42_method_3_code 2 none ({ frames := 3, cells := 1, slots := 2, locals := 52 } : Room) #[(.ref so), (.ref ca)] h0 (fun v h L => v = none ∧ Fr n0 L ∧ Keep h0 h [so] ∧ Exa Z h so "java/lang/String" ∧ Fld Z h so "java/lang/String" "coder" "B" (.int (0 : Int32)) ∧ ∃ b : Addr, h0.size ≤ b ∧ Fld Z h so "java/lang/String" "value" "[B" (.ref b) ∧ OwnArr Z h b .byte 2 (fun k => .int (own_two (own_lb px) (own_lb py) k))) := by
  refine own_body (g0 := fun m => mkF m 0 #[rv so, rv ca] []) pn_2 (fun m => ef_2_L m so ca) ?_
  intro p e s m below meth c s₁ X0 hx hby hml hown hnm hZ e0 hret hlk
  have hml : c.maxLocals = 2 := hml
  have hown : s.vm.findClass "java/lang/String" = some m.cls := hown
  have hnm : meth.name = "<init>" := hnm
  have hret : meth.sig.returnType = none := hret
  have N0 := Fr.nil n0
  have K0 := Keep.refl h0 [so]
  show OwnFin p e below s _ _ _ (s₁.setTop (mkF m 0 #[rv so, rv ca] []))
  refine own_go (fun t_ k_ => XS.aloadN X0.here hx rfl (hb hby d2_0) rfl rfl k_) ?_
  show OwnFin p e below s _ _ _ (s₁.setTop (mkF m 1 #[rv so, rv ca] [(.ref so)]))
  refine own_go (fun t_ k_ => XS.aloadN X0.here hx rfl (hb hby d2_1) rfl rfl k_) ?_
  show OwnFin p e below s _ _ _ (s₁.setTop (mkF m 2 #[rv so, rv ca] [(.ref ca), (.ref so)]))
  refine own_go (fun t_ k_ => XS.iconst X0.here hx rfl (hb hby d2_2) k_) ?_
  show OwnFin p e below s _ _ _ (s₁.setTop (mkF m 3 #[rv so, rv ca] [(.int (0 : Int32)), (.ref ca), (.ref so)]))
  refine own_go (fun t_ k_ => XS.aloadN X0.here hx rfl (hb hby d2_3) rfl rfl k_) ?_
  show OwnFin p e below s _ _ _ (s₁.setTop (mkF m 4 #[rv so, rv ca] [(.ref ca), (.int (0 : Int32)), (.ref ca), (.ref so)]))
  refine own_go (own_alength X0 hx hZ e0 V_ca (g := (mkF m 4 #[rv so, rv ca] [(.ref ca), (.int (0 : Int32)), (.ref ca), (.ref so)])) rfl rfl (hb hby d2_4)) ?_
  show OwnFin p e below s _ _ _ (s₁.setTop (mkF m 5 #[rv so, rv ca] [(.int (2 : Int32)), (.int (0 : Int32)), (.ref ca), (.ref so)]))
  refine own_go (fun t_ k_ => XS.aconstNull X0.here hx rfl (hb hby d2_5) k_) ?_
  show OwnFin p e below s _ _ _ (s₁.setTop (mkF m 6 #[rv so, rv ca] [.null, (.int (2 : Int32)), (.int (0 : Int32)), (.ref ca), (.ref so)]))
  obtain ⟨v1, T1, L1, X1, hQ1, st1⟩ := own_callI X0 hx hZ (y := (⟨"java/lang/String", "<init>", "([CIILjava/lang/Void;)V"⟩ : MethodName)) rfl hown (hw _ (List.mem_of_getElem? (i := 14) rfl)) (hw _ (List.mem_of_getElem? (i := 15) rfl)) (hw _ (List.mem_of_getElem? (i := 10) rfl)) (hw _ (List.mem_of_getElem? (i := 17) rfl)) (by decide) (W := 0) (rm3_L l Z a0 hw [] so ca px py zc h0 n0 Z0 E_so F_value F_coder V_ca g_so ne hzc S_cs S_as S_hi S_lo OL hpx hpy hl1 hl2) (by decide) (by decide) (g := (mkF m 6 #[rv so, rv ca] [.null, (.int (2 : Int32)), (.int (0 : Int32)), (.ref ca), (.ref so)])) rfl (by rw [hml]; rfl) (a := so) (argsL := [(.ref ca), (.int (0 : Int32)), (.int (2 : Int32)), .null]) (rest := []) (lenOf pd_2_2 rfl) rfl (by show 2 * 0 + _ ≤ _; exact Nat.le_of_eq rfl) (hb hby d2_6) e0 rfl (by decide) (by decide)
  obtain ⟨rfl, Nq1, Kq1, Eq1, Fc1, bs1, sq1, Fv1, Vq1⟩ := hQ1
  have N1 := Fr.app N0 Nq1
  have g_bs1 : n0 ≤ bs1 := Nat.le_trans Z0 sq1
  have ne_so_bs1 : so ≠ bs1 := Nat.ne_of_lt (Nat.lt_of_lt_of_le E_so.lt sq1)
  have ne_ca_bs1 : ca ≠ bs1 := Nat.ne_of_lt (Nat.lt_of_lt_of_le V_ca.lt sq1)
  have E_so_1 := E_so.keep Kq1
  have V_ca_1 := V_ca.keep Kq1 (ninS (Ne.symm ne) nin0)
  have OL_1 := OL.keep Kq1 (allS g_so all0)
  have Z1 : n0 ≤ T1.heap.size := Nat.le_trans Z0 Kq1.1
  have sz_bs1 : h0.size ≤ bs1 := Nat.le_trans K0.1 sq1
  have K1 : Keep h0 T1.heap [so] := K0.trans Kq1 (allS (Or.inl (List.mem_of_getElem? (i := 0) rfl)) all0)
  refine own_go st1 ?_
  show OwnFin p e below s _ _ _ (T1.setTop (mkF m 9 #[rv so, rv ca] []))
  refine own_ret X1 (v := none) hlk (fun _ => rfl) (fun fs hr => X1.returnOut hx hret (hb hby d2_9) hr) (by decide) (by decide) ?_
  exact ⟨rfl, N1, K1, E_so_1, Fc1, bs1, sz_bs1, Fv1, Vq1⟩
theorem ef_2_U (m : MethodId) (so : Addr) (ca : Addr) : entryFrame m #[(.ref so), (.ref ca)] 2 = mkF m 0 #[rv so, rv ca] [] := by first | (simp [entryFrame, mkF, argsToLocals, Value.category]; done) | rfl
set_option maxRecDepth 65536 in
set_option maxHeartbeats 40000000 in
theorem rm2_U (l : Launch) (Z : State) (a0 : Array Value) (hw : ∀ d ∈ tables_1, d.before a0 Z = true) (ws : List Jvm.Cond) (so : Addr) (ca : Addr) (px : Int32) (py : Int32) {u1 : Value} {u2 : Value} (zc : Int32) (h0 : Heap) (n0 : Nat) (Z0 : n0 ≤ h0.size) (E_so : Exa Z h0 so "java/lang/String") (F_value : Fld Z h0 so "java/lang/String" "value" "[B" u1) (F_coder : Fld Z h0 so "java/lang/String" "coder" "B" u2) (V_ca : OwnArr Z h0 ca .char 2 (fun k => .int (own_two px py k))) (g_so : n0 ≤ so) (ne : so ≠ ca) (hzc : ¬ zc = (0 : Int32)) (S_cs : Sta Z Z.heap "java/lang/String" "COMPACT_STRINGS" "Z" (.int zc)) (S_as : Sta Z Z.heap "java/lang/StringUTF16" "$assertionsDisabled" "Z" (.int (1 : Int32))) (S_hi : Sta Z Z.heap "java/lang/StringUTF16" "HI_BYTE_SHIFT" "I" (.int (0 : Int32))) (S_lo : Sta Z Z.heap "java/lang/StringUTF16" "LO_BYTE_SHIFT" "I" (.int (8 : Int32))) (OL : Old Z n0 h0) (hpx : own_ch px) (hpy : own_ch py) (hl3 : (255 : Int32) < px ∨ (255 : Int32) < py) :
    OwnCtr l Z (⟨"java/lang/String", "<init>", "([C)V"⟩ : MethodName) ws jdk_42_method_3_code 2 none ({ frames := 5, cells := 2, slots := 6, locals := 74 } : Room) #[(.ref so), (.ref ca)] h0 (fun v h L => v = none ∧ Fr n0 L ∧ Keep h0 h [so] ∧ Exa Z h so "java/lang/String" ∧ Fld Z h so "java/lang/String" "coder" "B" (.int (1 : Int32)) ∧ ∃ b : Addr, h0.size ≤ b ∧ Fld Z h so "java/lang/String" "value" "[B" (.ref b) ∧ OwnArr Z h b .byte 4 (fun k => .int (own_four (own_b0 px) (own_b1 px) (own_b0 py) (own_b1 py) k))) := by
  refine own_body (g0 := fun m => mkF m 0 #[rv so, rv ca] []) pn_2 (fun m => ef_2_U m so ca) ?_
  intro p e s m below meth c s₁ X0 hx hby hml hown hnm hZ e0 hret hlk
  have hml : c.maxLocals = 2 := hml
  have hown : s.vm.findClass "java/lang/String" = some m.cls := hown
  have hnm : meth.name = "<init>" := hnm
  have hret : meth.sig.returnType = none := hret
  have N0 := Fr.nil n0
  have K0 := Keep.refl h0 [so]
  show OwnFin p e below s _ _ _ (s₁.setTop (mkF m 0 #[rv so, rv ca] []))
  refine own_go (fun t_ k_ => XS.aloadN X0.here hx rfl (hb hby d2_0) rfl rfl k_) ?_
  show OwnFin p e below s _ _ _ (s₁.setTop (mkF m 1 #[rv so, rv ca] [(.ref so)]))
  refine own_go (fun t_ k_ => XS.aloadN X0.here hx rfl (hb hby d2_1) rfl rfl k_) ?_
  show OwnFin p e below s _ _ _ (s₁.setTop (mkF m 2 #[rv so, rv ca] [(.ref ca), (.ref so)]))
  refine own_go (fun t_ k_ => XS.iconst X0.here hx rfl (hb hby d2_2) k_) ?_
  show OwnFin p e below s _ _ _ (s₁.setTop (mkF m 3 #[rv so, rv ca] [(.int (0 : Int32)), (.ref ca), (.ref so)]))
  refine own_go (fun t_ k_ => XS.aloadN X0.here hx rfl (hb hby d2_3) rfl rfl k_) ?_
  show OwnFin p e below s _ _ _ (s₁.setTop (mkF m 4 #[rv so, rv ca] [(.ref ca), (.int (0 : Int32)), (.ref ca), (.ref so)]))
  refine own_go (own_alength X0 hx hZ e0 V_ca (g := (mkF m 4 #[rv so, rv ca] [(.ref ca), (.int (0 : Int32)), (.ref ca), (.ref so)])) rfl rfl (hb hby d2_4)) ?_
  show OwnFin p e below s _ _ _ (s₁.setTop (mkF m 5 #[rv so, rv ca] [(.int (2 : Int32)), (.int (0 : Int32)), (.ref ca), (.ref so)]))
  refine own_go (fun t_ k_ => XS.aconstNull X0.here hx rfl (hb hby d2_5) k_) ?_
  show OwnFin p e below s _ _ _ (s₁.setTop (mkF m 6 #[rv so, rv ca] [.null, (.int (2 : Int32)), (.int (0 : Int32)), (.ref ca), (.ref so)]))
  obtain ⟨v1, T1, L1, X1, hQ1, st1⟩ := own_callI X0 hx hZ (y := (⟨"java/lang/String", "<init>", "([CIILjava/lang/Void;)V"⟩ : MethodName)) rfl hown (hw _ (List.mem_of_getElem? (i := 14) rfl)) (hw _ (List.mem_of_getElem? (i := 15) rfl)) (hw _ (List.mem_of_getElem? (i := 10) rfl)) (hw _ (List.mem_of_getElem? (i := 17) rfl)) (by decide) (W := 0) (rm3_U l Z a0 hw [] so ca px py zc h0 n0 Z0 E_so F_value F_coder V_ca g_so ne hzc S_cs S_as S_hi S_lo OL hpx hpy hl3) (by decide) (by decide) (g := (mkF m 6 #[rv so, rv ca] [.null, (.int (2 : Int32)), (.int (0 : Int32)), (.ref ca), (.ref so)])) rfl (by rw [hml]; rfl) (a := so) (argsL := [(.ref ca), (.int (0 : Int32)), (.int (2 : Int32)), .null]) (rest := []) (lenOf pd_2_2 rfl) rfl (by show 2 * 0 + _ ≤ _; exact Nat.le_of_eq rfl) (hb hby d2_6) e0 rfl (by decide) (by decide)
  obtain ⟨rfl, Nq1, Kq1, Eq1, Fc1, bs1, sq1, Fv1, Vq1⟩ := hQ1
  have N1 := Fr.app N0 Nq1
  have g_bs1 : n0 ≤ bs1 := Nat.le_trans Z0 sq1
  have ne_so_bs1 : so ≠ bs1 := Nat.ne_of_lt (Nat.lt_of_lt_of_le E_so.lt sq1)
  have ne_ca_bs1 : ca ≠ bs1 := Nat.ne_of_lt (Nat.lt_of_lt_of_le V_ca.lt sq1)
  have E_so_1 := E_so.keep Kq1
  have V_ca_1 := V_ca.keep Kq1 (ninS (Ne.symm ne) nin0)
  have OL_1 := OL.keep Kq1 (allS g_so all0)
  have Z1 : n0 ≤ T1.heap.size := Nat.le_trans Z0 Kq1.1
  have sz_bs1 : h0.size ≤ bs1 := Nat.le_trans K0.1 sq1
  have K1 : Keep h0 T1.heap [so] := K0.trans Kq1 (allS (Or.inl (List.mem_of_getElem? (i := 0) rfl)) all0)
  refine own_go st1 ?_
  show OwnFin p e below s _ _ _ (T1.setTop (mkF m 9 #[rv so, rv ca] []))
  refine own_ret X1 (v := none) hlk (fun _ => rfl) (fun fs hr => X1.returnOut hx hret (hb hby d2_9) hr) (by decide) (by decide) ?_
  exact ⟨rfl, N1, K1, E_so_1, Fc1, bs1, sz_bs1, Fv1, Vq1⟩
theorem d15_0 : decode jdk_42_method_152_code 0 = .ok (.getstatic 38, 3) := by decide +kernel
theorem d15_3 : decode jdk_42_method_152_code 3 = .ok (.ifCond .eq 10, 3) := by decide +kernel
theorem d15_6 : decode jdk_42_method_152_code 6 = .ok (.aload_n 0, 1) := by decide +kernel
theorem d15_7 : decode jdk_42_method_152_code 7 = .ok (.getfield 15, 3) := by decide +kernel
theorem d15_10 : decode jdk_42_method_152_code 10 = .ok (.goto 4, 3) := by decide +kernel
theorem d15_13 : decode jdk_42_method_152_code 13 = .ok (.iconst 1, 1) := by decide +kernel
theorem d15_14 : decode jdk_42_method_152_code 14 = .ok (.ireturn, 1) := by decide +kernel
theorem pn_15 : plainFor (⟨"java/lang/String", "coder", "()B"⟩ : MethodName) = true := plainFor_of_name (by first | (simp [plainName, overriddenIn]; done) | decide +kernel)
theorem ef_15 (m : MethodId) (a1 : Addr) : entryFrame m #[(.ref a1)] 1 = mkF m 0 #[rv a1] [] := by first | (simp [entryFrame, mkF, argsToLocals, Value.category]; done) | rfl
theorem ef_15_L (m : MethodId) (so : Addr) : entryFrame m #[(.ref so)] 1 = mkF m 0 #[rv so] [] := by first | (simp [entryFrame, mkF, argsToLocals, Value.category]; done) | rfl
set_option maxRecDepth 65536 in
set_option maxHeartbeats 40000000 in
theorem rm15_L (l : Launch) (Z : State) (a0 : Array Value) (hw : ∀ d ∈ tables_1, d.before a0 Z = true) (ws : List Jvm.Cond) (so : Addr) (zc : Int32) (h0 : Heap) (n0 : Nat) (Z0 : n0 ≤ h0.size) (F_coder : Fld Z h0 so "java/lang/String" "coder" "B" (.int (0 : Int32))) (hzc : ¬ zc = (0 : Int32)) (S_cs : Sta Z Z.heap "java/lang/String" "COMPACT_STRINGS" "Z" (.int zc)) (OL : Old Z n0 h0) :
    OwnCtr l Z (⟨"java/lang/String", "coder", "()B"⟩ : MethodName) ws jdk_42_method_152_code 1 (some .byte) ({ frames := 0, cells := 0, slots := 0, locals := 0 } : Room) #[(.ref so)] h0 (fun v h L => v = some (.int (0 : Int32)) ∧ Fr n0 L ∧ h = h0) := by
  refine own_body (g0 := fun m => mkF m 0 #[rv so] []) pn_15 (fun m => ef_15_L m so) ?_
  intro p e s m below meth c s₁ X0 hx hby hml hown hnm hZ e0 hret hlk
  have hml : c.maxLocals = 1 := hml
  have hown : s.vm.findClass "java/lang/String" = some m.cls := hown
  have hnm : meth.name = "coder" := hnm
  have hret : meth.sig.returnType = (some .byte) := hret
  have N0 := Fr.nil n0
  show OwnFin p e below s _ _ _ (s₁.setTop (mkF m 0 #[rv so] []))
  obtain ⟨T1, X1, e1, st1⟩ := getS2 X0 hx hZ hown (host := "") (Or.inl (hw _ (List.mem_of_getElem? (i := 21) rfl))) Via.refl e0 (S_cs.ext OL.2) (g := (mkF m 0 #[rv so] [])) rfl (hb hby d15_0)
  refine own_go st1 ?_
  show OwnFin p e below s _ _ _ (T1.setTop (mkF m 3 #[rv so] [(.int zc)]))
  have hc3 : ¬ (zc = (0 : Int32)) := hzc
  refine own_go (fun t_ k_ => XS.ifNo X1.here hx rfl (hb hby d15_3) rfl ((if0 _ _).trans (feq hc3).1) k_) ?_
  show OwnFin p e below s _ _ _ (T1.setTop (mkF m 6 #[rv so] []))
  refine own_go (fun t_ k_ => XS.aloadN X1.here hx rfl (hb hby d15_6) rfl rfl k_) ?_
  show OwnFin p e below s _ _ _ (T1.setTop (mkF m 7 #[rv so] [(.ref so)]))
  obtain ⟨T2, X2, e2, st2⟩ := getF X1 hx hZ hown (host := "") (Or.inl (hw _ (List.mem_of_getElem? (i := 33) rfl))) Via.refl e1 F_coder (g := (mkF m 7 #[rv so] [(.ref so)])) rfl rfl (hb hby d15_7)
  refine own_go st2 ?_
  show OwnFin p e below s _ _ _ (T2.setTop (mkF m 10 #[rv so] [(.int (0 : Int32))]))
  refine own_go (fun t_ k_ => XS.goto X2.here hx rfl (pc0 := 10) (pc' := 14) rfl (hb hby d15_10) (by decide) (by decide) k_) ?_
  show OwnFin p e below s _ _ _ (T2.setTop (mkF m 14 #[rv so] [(.int (0 : Int32))]))
  refine own_ret X2 (v := some (.int (nar .byte (0 : Int32)))) hlk (fun hh => by rw [hret] at hh; cases hh) (fun fs hr => retN X2 hx (t := .byte) hret (by simp) (hb hby d15_14) hr) (by decide) (by decide) ?_
  rw [e2]
  exact ⟨rfl, N0, rfl⟩
theorem ef_15_U (m : MethodId) (so : Addr) : entryFrame m #[(.ref so)] 1 = mkF m 0 #[rv so] [] := by first | (simp [entryFrame, mkF, argsToLocals, Value.category]; done) | rfl
set_option maxRecDepth 65536 in
set_option maxHeartbeats 40000000 in
theorem rm15_U (l : Launch) (Z : State) (a0 : Array Value) (hw : ∀ d ∈ tables_1, d.before a0 Z = true) (ws : List Jvm.Cond) (so : Addr) (zc : Int32) (h0 : Heap) (n0 : Nat) (Z0 : n0 ≤ h0.size) (F_coder : Fld Z h0 so "java/lang/String" "coder" "B" (.int (1 : Int32))) (hzc : ¬ zc = (0 : Int32)) (S_cs : Sta Z Z.heap "java/lang/String" "COMPACT_STRINGS" "Z" (.int zc)) (OL : Old Z n0 h0) :
    OwnCtr l Z (⟨"java/lang/String", "coder", "()B"⟩ : MethodName) ws jdk_42_method_152_code 1 (some .byte) ({ frames := 0, cells := 0, slots := 0, locals := 0 } : Room) #[(.ref so)] h0 (fun v h L => v = some (.int (1 : Int32)) ∧ Fr n0 L ∧ h = h0) := by
  refine own_body (g0 := fun m => mkF m 0 #[rv so] []) pn_15 (fun m => ef_15_U m so) ?_
  intro p e s m below meth c s₁ X0 hx hby hml hown hnm hZ e0 hret hlk
  have hml : c.maxLocals = 1 := hml
  have hown : s.vm.findClass "java/lang/String" = some m.cls := hown
  have hnm : meth.name = "coder" := hnm
  have hret : meth.sig.returnType = (some .byte) := hret
  have N0 := Fr.nil n0
  show OwnFin p e below s _ _ _ (s₁.setTop (mkF m 0 #[rv so] []))
  obtain ⟨T1, X1, e1, st1⟩ := getS2 X0 hx hZ hown (host := "") (Or.inl (hw _ (List.mem_of_getElem? (i := 21) rfl))) Via.refl e0 (S_cs.ext OL.2) (g := (mkF m 0 #[rv so] [])) rfl (hb hby d15_0)
  refine own_go st1 ?_
  show OwnFin p e below s _ _ _ (T1.setTop (mkF m 3 #[rv so] [(.int zc)]))
  have hc3 : ¬ (zc = (0 : Int32)) := hzc
  refine own_go (fun t_ k_ => XS.ifNo X1.here hx rfl (hb hby d15_3) rfl ((if0 _ _).trans (feq hc3).1) k_) ?_
  show OwnFin p e below s _ _ _ (T1.setTop (mkF m 6 #[rv so] []))
  refine own_go (fun t_ k_ => XS.aloadN X1.here hx rfl (hb hby d15_6) rfl rfl k_) ?_
  show OwnFin p e below s _ _ _ (T1.setTop (mkF m 7 #[rv so] [(.ref so)]))
  obtain ⟨T2, X2, e2, st2⟩ := getF X1 hx hZ hown (host := "") (Or.inl (hw _ (List.mem_of_getElem? (i := 33) rfl))) Via.refl e1 F_coder (g := (mkF m 7 #[rv so] [(.ref so)])) rfl rfl (hb hby d15_7)
  refine own_go st2 ?_
  show OwnFin p e below s _ _ _ (T2.setTop (mkF m 10 #[rv so] [(.int (1 : Int32))]))
  refine own_go (fun t_ k_ => XS.goto X2.here hx rfl (pc0 := 10) (pc' := 14) rfl (hb hby d15_10) (by decide) (by decide) k_) ?_
  show OwnFin p e below s _ _ _ (T2.setTop (mkF m 14 #[rv so] [(.int (1 : Int32))]))
  refine own_ret X2 (v := some (.int (nar .byte (1 : Int32)))) hlk (fun hh => by rw [hret] at hh; cases hh) (fun fs hr => retN X2 hx (t := .byte) hret (by simp) (hb hby d15_14) hr) (by decide) (by decide) ?_
  rw [e2]
  exact ⟨rfl, N0, rfl⟩
theorem d13_0 : decode jdk_42_method_154_code 0 = .ok (.getstatic 38, 3) := by decide +kernel
theorem d13_3 : decode jdk_42_method_154_code 3 = .ok (.ifCond .eq 14, 3) := by decide +kernel
theorem d13_6 : decode jdk_42_method_154_code 6 = .ok (.aload_n 0, 1) := by decide +kernel
theorem d13_7 : decode jdk_42_method_154_code 7 = .ok (.getfield 15, 3) := by decide +kernel
theorem d13_10 : decode jdk_42_method_154_code 10 = .ok (.ifCond .ne 7, 3) := by decide +kernel
theorem d13_13 : decode jdk_42_method_154_code 13 = .ok (.iconst 1, 1) := by decide +kernel
theorem d13_14 : decode jdk_42_method_154_code 14 = .ok (.goto 4, 3) := by decide +kernel
theorem d13_17 : decode jdk_42_method_154_code 17 = .ok (.iconst 0, 1) := by decide +kernel
theorem d13_18 : decode jdk_42_method_154_code 18 = .ok (.ireturn, 1) := by decide +kernel
theorem pn_13 : plainFor (⟨"java/lang/String", "isLatin1", "()Z"⟩ : MethodName) = true := plainFor_of_name (by first | (simp [plainName, overriddenIn]; done) | decide +kernel)
theorem ef_13 (m : MethodId) (a1 : Addr) : entryFrame m #[(.ref a1)] 1 = mkF m 0 #[rv a1] [] := by first | (simp [entryFrame, mkF, argsToLocals, Value.category]; done) | rfl
theorem ef_13_L (m : MethodId) (so : Addr) : entryFrame m #[(.ref so)] 1 = mkF m 0 #[rv so] [] := by first | (simp [entryFrame, mkF, argsToLocals, Value.category]; done) | rfl
set_option maxRecDepth 65536 in
set_option maxHeartbeats 40000000 in
theorem rm13_L (l : Launch) (Z : State) (a0 : Array Value) (hw : ∀ d ∈ tables_1, d.before a0 Z = true) (ws : List Jvm.Cond) (so : Addr) (zc : Int32) (h0 : Heap) (n0 : Nat) (Z0 : n0 ≤ h0.size) (F_coder : Fld Z h0 so "java/lang/String" "coder" "B" (.int (0 : Int32))) (hzc : ¬ zc = (0 : Int32)) (S_cs : Sta Z Z.heap "java/lang/String" "COMPACT_STRINGS" "Z" (.int zc)) (OL : Old Z n0 h0) :
    OwnCtr l Z (⟨"java/lang/String", "isLatin1", "()Z"⟩ : MethodName) ws jdk_42_method_154_code 1 (some .boolean) ({ frames := 0, cells := 0, slots := 0, locals := 0 } : Room) #[(.ref so)] h0 (fun v h L => v = some (.int (1 : Int32)) ∧ Fr n0 L ∧ h = h0) := by
  refine own_body (g0 := fun m => mkF m 0 #[rv so] []) pn_13 (fun m => ef_13_L m so) ?_
  intro p e s m below meth c s₁ X0 hx hby hml hown hnm hZ e0 hret hlk
  have hml : c.maxLocals = 1 := hml
  have hown : s.vm.findClass "java/lang/String" = some m.cls := hown
  have hnm : meth.name = "isLatin1" := hnm
  have hret : meth.sig.returnType = (some .boolean) := hret
  have N0 := Fr.nil n0
  show OwnFin p e below s _ _ _ (s₁.setTop (mkF m 0 #[rv so] []))
  obtain ⟨T1, X1, e1, st1⟩ := getS2 X0 hx hZ hown (host := "") (Or.inl (hw _ (List.mem_of_getElem? (i := 21) rfl))) Via.refl e0 (S_cs.ext OL.2) (g := (mkF m 0 #[rv so] [])) rfl (hb hby d13_0)
  refine own_go st1 ?_
  show OwnFin p e below s _ _ _ (T1.setTop (mkF m 3 #[rv so] [(.int zc)]))
  have hc3 : ¬ (zc = (0 : Int32)) := hzc
  refine own_go (fun t_ k_ => XS.ifNo X1.here hx rfl (hb hby d13_3) rfl ((if0 _ _).trans (feq hc3).1) k_) ?_
  show OwnFin p e below s _ _ _ (T1.setTop (mkF m 6 #[rv so] []))
  refine own_go (fun t_ k_ => XS.aloadN X1.here hx rfl (hb hby d13_6) rfl rfl k_) ?_
  show OwnFin p e below s _ _ _ (T1.setTop (mkF m 7 #[rv so] [(.ref so)]))
  obtain ⟨T2, X2, e2, st2⟩ := getF X1 hx hZ hown (host := "") (Or.inl (hw _ (List.mem_of_getElem? (i := 33) rfl))) Via.refl e1 F_coder (g := (mkF m 7 #[rv so] [(.ref so)])) rfl rfl (hb hby d13_7)
  refine own_go st2 ?_
  show OwnFin p e below s _ _ _ (T2.setTop (mkF m 10 #[rv so] [(.int (0 : Int32))]))
  refine own_go (fun t_ k_ => XS.ifNo X2.here hx rfl (hb hby d13_10) rfl ((if0 _ _).trans (teq (by decide)).2) k_) ?_
  show OwnFin p e below s _ _ _ (T2.setTop (mkF m 13 #[rv so] []))
  refine own_go (fun t_ k_ => XS.iconst X2.here hx rfl (hb hby d13_13) k_) ?_
  show OwnFin p e below s _ _ _ (T2.setTop (mkF m 14 #[rv so] [(.int (1 : Int32))]))
  refine own_go (fun t_ k_ => XS.goto X2.here hx rfl (pc0 := 14) (pc' := 18) rfl (hb hby d13_14) (by decide) (by decide) k_) ?_
  show OwnFin p e below s _ _ _ (T2.setTop (mkF m 18 #[rv so] [(.int (1 : Int32))]))
  refine own_ret X2 (v := some (.int (1 : Int32))) hlk (fun hh => by rw [hret] at hh; cases hh) (fun fs hr => retN X2 hx (t := .boolean) hret (by simp) (hb hby d13_18) hr) (by decide) (by decide) ?_
  rw [e2]
  exact ⟨rfl, N0, rfl⟩
theorem ef_13_U (m : MethodId) (so : Addr) : entryFrame m #[(.ref so)] 1 = mkF m 0 #[rv so] [] := by first | (simp [entryFrame, mkF, argsToLocals, Value.category]; done) | rfl
set_option maxRecDepth 65536 in
set_option maxHeartbeats 40000000 in
theorem rm13_U (l : Launch) (Z : State) (a0 : Array Value) (hw : ∀ d ∈ tables_1, d.before a0 Z = true) (ws : List Jvm.Cond) (so : Addr) (zc : Int32) (h0 : Heap) (n0 : Nat) (Z0 : n0 ≤ h0.size) (F_coder : Fld Z h0 so "java/lang/String" "coder" "B" (.int (1 : Int32))) (hzc : ¬ zc = (0 : Int32)) (S_cs : Sta Z Z.heap "java/lang/String" "COMPACT_STRINGS" "Z" (.int zc)) (OL : Old Z n0 h0) :
    OwnCtr l Z (⟨"java/lang/String", "isLatin1", "()Z"⟩ : MethodName) ws jdk_42_method_154_code 1 (some .boolean) ({ frames := 0, cells := 0, slots := 0, locals := 0 } : Room) #[(.ref so)] h0 (fun v h L => v = some (.int (0 : Int32)) ∧ Fr n0 L ∧ h = h0) := by
  refine own_body (g0 := fun m => mkF m 0 #[rv so] []) pn_13 (fun m => ef_13_U m so) ?_
  intro p e s m below meth c s₁ X0 hx hby hml hown hnm hZ e0 hret hlk
  have hml : c.maxLocals = 1 := hml
  have hown : s.vm.findClass "java/lang/String" = some m.cls := hown
  have hnm : meth.name = "isLatin1" := hnm
  have hret : meth.sig.returnType = (some .boolean) := hret
  have N0 := Fr.nil n0
  show OwnFin p e below s _ _ _ (s₁.setTop (mkF m 0 #[rv so] []))
  obtain ⟨T1, X1, e1, st1⟩ := getS2 X0 hx hZ hown (host := "") (Or.inl (hw _ (List.mem_of_getElem? (i := 21) rfl))) Via.refl e0 (S_cs.ext OL.2) (g := (mkF m 0 #[rv so] [])) rfl (hb hby d13_0)
  refine own_go st1 ?_
  show OwnFin p e below s _ _ _ (T1.setTop (mkF m 3 #[rv so] [(.int zc)]))
  have hc3 : ¬ (zc = (0 : Int32)) := hzc
  refine own_go (fun t_ k_ => XS.ifNo X1.here hx rfl (hb hby d13_3) rfl ((if0 _ _).trans (feq hc3).1) k_) ?_
  show OwnFin p e below s _ _ _ (T1.setTop (mkF m 6 #[rv so] []))
  refine own_go (fun t_ k_ => XS.aloadN X1.here hx rfl (hb hby d13_6) rfl rfl k_) ?_
  show OwnFin p e below s _ _ _ (T1.setTop (mkF m 7 #[rv so] [(.ref so)]))
  obtain ⟨T2, X2, e2, st2⟩ := getF X1 hx hZ hown (host := "") (Or.inl (hw _ (List.mem_of_getElem? (i := 33) rfl))) Via.refl e1 F_coder (g := (mkF m 7 #[rv so] [(.ref so)])) rfl rfl (hb hby d13_7)
  refine own_go st2 ?_
  show OwnFin p e below s _ _ _ (T2.setTop (mkF m 10 #[rv so] [(.int (1 : Int32))]))
  refine own_go (fun t_ k_ => XS.ifYes X2.here hx rfl (pc0 := 10) (pc' := 17) rfl (hb hby d13_10) rfl ((if0 _ _).trans (feq (by decide)).2) (by decide) (by decide) k_) ?_
  show OwnFin p e below s _ _ _ (T2.setTop (mkF m 17 #[rv so] []))
  refine own_go (fun t_ k_ => XS.iconst X2.here hx rfl (hb hby d13_17) k_) ?_
  show OwnFin p e below s _ _ _ (T2.setTop (mkF m 18 #[rv so] [(.int (0 : Int32))]))
  refine own_ret X2 (v := some (.int (0 : Int32))) hlk (fun hh => by rw [hret] at hh; cases hh) (fun fs hr => retN X2 hx (t := .boolean) hret (by simp) (hb hby d13_18) hr) (by decide) (by decide) ?_
  rw [e2]
  exact ⟨rfl, N0, rfl⟩
theorem d14_0 : decode jdk_42_method_54_code 0 = .ok (.aload_n 0, 1) := by decide +kernel
theorem d14_1 : decode jdk_42_method_54_code 1 = .ok (.getfield 9, 3) := by decide +kernel
theorem d14_4 : decode jdk_42_method_54_code 4 = .ok (.arraylength, 1) := by decide +kernel
theorem d14_5 : decode jdk_42_method_54_code 5 = .ok (.aload_n 0, 1) := by decide +kernel
theorem d14_6 : decode jdk_42_method_54_code 6 = .ok (.invokevirtual 335, 3) := by decide +kernel
theorem d14_9 : decode jdk_42_method_54_code 9 = .ok (.ishr, 1) := by decide +kernel
theorem d14_10 : decode jdk_42_method_54_code 10 = .ok (.ireturn, 1) := by decide +kernel
theorem pn_14 : plainFor (⟨"java/lang/String", "length", "()I"⟩ : MethodName) = true := plainFor_of_name (by first | (simp [plainName, overriddenIn]; done) | decide +kernel)
theorem pd_14_14 : parseMethodDescriptor "()B" = some ⟨[], some .byte⟩ := by decide +kernel
theorem ef_14 (m : MethodId) (a1 : Addr) : entryFrame m #[(.ref a1)] 1 = mkF m 0 #[rv a1] [] := by first | (simp [entryFrame, mkF, argsToLocals, Value.category]; done) | rfl
theorem ef_14_L (m : MethodId) (so : Addr) : entryFrame m #[(.ref so)] 1 = mkF m 0 #[rv so] [] := by first | (simp [entryFrame, mkF, argsToLocals, Value.category]; done) | rfl
set_option maxRecDepth 65536 in
set_option maxHeartbeats 40000000 in
theorem rm14_L (l : Launch) (Z : State) (a0 : Array Value) (hw : ∀ d ∈ tables_1, d.before a0 Z = true) (ws : List Jvm.Cond) (so : Addr) (bs : Addr) (px : Int32) (py : Int32) (zc : Int32) (h0 : Heap) (n0 : Nat) (Z0 : n0 ≤ h0.size) (E_so : Exa Z h0 so "java/lang/String") (F_value : Fld Z h0 so "java/lang/String" "value" "[B" (.ref bs)) (F_coder : Fld Z h0 so "java/lang/String" "coder" "B" (.int (0 : Int32))) (V_bs : OwnArr Z h0 bs .byte 2 (fun k => .int (own_two (own_lb px) (own_lb py) k))) (hzc : ¬ zc = (0 : Int32)) (S_cs : Sta Z Z.heap "java/lang/String" "COMPACT_STRINGS" "Z" (.int zc)) (OL : Old Z n0 h0) :
    OwnCtr l Z (⟨"java/lang/String", "length", "()I"⟩ : MethodName) ws jdk_42_method_54_code 1 (some .int) ({ frames := 1, cells := 0, slots := 0, locals := 13 } : Room) #[(.ref so)] h0 (fun v h L => v = some (.int (2 : Int32)) ∧ Fr n0 L ∧ h = h0) := by
  refine own_body (g0 := fun m => mkF m 0 #[rv so] []) pn_14 (fun m => ef_14_L m so) ?_
  intro p e s m below meth c s₁ X0 hx hby hml hown hnm hZ e0 hret hlk
  have hml : c.maxLocals = 1 := hml
  have hown : s.vm.findClass "java/lang/String" = some m.cls := hown
  have hnm : meth.name = "length" := hnm
  have hret : meth.sig.returnType = (some .int) := hret
  have N0 := Fr.nil n0
  show OwnFin p e below s _ _ _ (s₁.setTop (mkF m 0 #[rv so] []))
  refine own_go (fun t_ k_ => XS.aloadN X0.here hx rfl (hb hby d14_0) rfl rfl k_) ?_
  show OwnFin p e below s _ _ _ (s₁.setTop (mkF m 1 #[rv so] [(.ref so)]))
  obtain ⟨T1, X1, e1, st1⟩ := getF X0 hx hZ hown (host := "") (Or.inl (hw _ (List.mem_of_getElem? (i := 35) rfl))) Via.refl e0 F_value (g := (mkF m 1 #[rv so] [(.ref so)])) rfl rfl (hb hby d14_1)
  refine own_go st1 ?_
  show OwnFin p e below s _ _ _ (T1.setTop (mkF m 4 #[rv so] [(.ref bs)]))
  refine own_go (own_alength X1 hx hZ e1 V_bs (g := (mkF m 4 #[rv so] [(.ref bs)])) rfl rfl (hb hby d14_4)) ?_
  show OwnFin p e below s _ _ _ (T1.setTop (mkF m 5 #[rv so] [(.int (2 : Int32))]))
  refine own_go (fun t_ k_ => XS.aloadN X1.here hx rfl (hb hby d14_5) rfl rfl k_) ?_
  show OwnFin p e below s _ _ _ (T1.setTop (mkF m 6 #[rv so] [(.ref so), (.int (2 : Int32))]))
  obtain ⟨v2, T2, L2, X2, hQ2, st2⟩ := own_callV X1 hx hZ (y := (⟨"java/lang/String", "coder", "()B"⟩ : MethodName)) (z := (⟨"java/lang/String", "coder", "()B"⟩ : MethodName)) hown (hw _ (List.mem_of_getElem? (i := 75) rfl)) (hw _ (List.mem_of_getElem? (i := 76) rfl)) (notFace_of_selects (args := #[]) (mvT hZ (hw _ (List.mem_of_getElem? (i := 78) rfl)))) (hw _ (List.mem_of_getElem? (i := 78) rfl)) (hw _ (List.mem_of_getElem? (i := 77) rfl)) (hw _ (List.mem_of_getElem? (i := 10) rfl)) (hw _ (List.mem_of_getElem? (i := 79) rfl)) (by decide) (W := 1) (rm15_L l Z a0 hw [] so zc h0 n0 Z0 F_coder hzc S_cs OL) (by decide) (by decide) E_so (g := (mkF m 6 #[rv so] [(.ref so), (.int (2 : Int32))])) rfl (by rw [hml]; rfl) (argsL := []) (rest := [(.int (2 : Int32))]) (lenOf pd_14_14 rfl) rfl (by show 2 * 0 + _ ≤ _; exact Nat.le_of_eq rfl) (hb hby d14_6) e1 rfl (by decide) (by decide)
  obtain ⟨rfl, Nq2, e2⟩ := hQ2
  have N2 := Fr.app N0 Nq2
  refine own_go st2 ?_
  show OwnFin p e below s _ _ _ (T2.setTop (mkF m 9 #[rv so] [(.int (0 : Int32)), (.int (2 : Int32))]))
  refine own_go (fun t_ k_ => XS.ishr X2.here hx rfl (hb hby d14_9) rfl k_) ?_
  show OwnFin p e below s _ _ _ (T2.setTop (mkF m 10 #[rv so] [(.int (2 : Int32))]))
  refine own_ret X2 (v := some (.int (2 : Int32))) hlk (fun hh => by rw [hret] at hh; cases hh) (fun fs hr => own_retI X2 hx hret (hb hby d14_10) hr) (by decide) (by decide) ?_
  rw [e2]
  exact ⟨rfl, N2, rfl⟩
theorem ef_14_U (m : MethodId) (so : Addr) : entryFrame m #[(.ref so)] 1 = mkF m 0 #[rv so] [] := by first | (simp [entryFrame, mkF, argsToLocals, Value.category]; done) | rfl
set_option maxRecDepth 65536 in
set_option maxHeartbeats 40000000 in
theorem rm14_U (l : Launch) (Z : State) (a0 : Array Value) (hw : ∀ d ∈ tables_1, d.before a0 Z = true) (ws : List Jvm.Cond) (so : Addr) (bs : Addr) (px : Int32) (py : Int32) (zc : Int32) (h0 : Heap) (n0 : Nat) (Z0 : n0 ≤ h0.size) (E_so : Exa Z h0 so "java/lang/String") (F_value : Fld Z h0 so "java/lang/String" "value" "[B" (.ref bs)) (F_coder : Fld Z h0 so "java/lang/String" "coder" "B" (.int (1 : Int32))) (V_bs : OwnArr Z h0 bs .byte 4 (fun k => .int (own_four (own_b0 px) (own_b1 px) (own_b0 py) (own_b1 py) k))) (hzc : ¬ zc = (0 : Int32)) (S_cs : Sta Z Z.heap "java/lang/String" "COMPACT_STRINGS" "Z" (.int zc)) (OL : Old Z n0 h0) :
    OwnCtr l Z (⟨"java/lang/String", "length", "()I"⟩ : MethodName) ws jdk_42_method_54_code 1 (some .int) ({ frames := 1, cells := 0, slots := 0, locals := 13 } : Room) #[(.ref so)] h0 (fun v h L => v = some (.int (2 : Int32)) ∧ Fr n0 L ∧ h = h0) := by
  refine own_body (g0 := fun m => mkF m 0 #[rv so] []) pn_14 (fun m => ef_14_U m so) ?_
  intro p e s m below meth c s₁ X0 hx hby hml hown hnm hZ e0 hret hlk
  have hml : c.maxLocals = 1 := hml
  have hown : s.vm.findClass "java/lang/String" = some m.cls := hown
  have hnm : meth.name = "length" := hnm
  have hret : meth.sig.returnType = (some .int) := hret
  have N0 := Fr.nil n0
  show OwnFin p e below s _ _ _ (s₁.setTop (mkF m 0 #[rv so] []))
  refine own_go (fun t_ k_ => XS.aloadN X0.here hx rfl (hb hby d14_0) rfl rfl k_) ?_
  show OwnFin p e below s _ _ _ (s₁.setTop (mkF m 1 #[rv so] [(.ref so)]))
  obtain ⟨T1, X1, e1, st1⟩ := getF X0 hx hZ hown (host := "") (Or.inl (hw _ (List.mem_of_getElem? (i := 35) rfl))) Via.refl e0 F_value (g := (mkF m 1 #[rv so] [(.ref so)])) rfl rfl (hb hby d14_1)
  refine own_go st1 ?_
  show OwnFin p e below s _ _ _ (T1.setTop (mkF m 4 #[rv so] [(.ref bs)]))
  refine own_go (own_alength X1 hx hZ e1 V_bs (g := (mkF m 4 #[rv so] [(.ref bs)])) rfl rfl (hb hby d14_4)) ?_
  show OwnFin p e below s _ _ _ (T1.setTop (mkF m 5 #[rv so] [(.int (4 : Int32))]))
  refine own_go (fun t_ k_ => XS.aloadN X1.here hx rfl (hb hby d14_5) rfl rfl k_) ?_
  show OwnFin p e below s _ _ _ (T1.setTop (mkF m 6 #[rv so] [(.ref so), (.int (4 : Int32))]))
  obtain ⟨v2, T2, L2, X2, hQ2, st2⟩ := own_callV X1 hx hZ (y := (⟨"java/lang/String", "coder", "()B"⟩ : MethodName)) (z := (⟨"java/lang/String", "coder", "()B"⟩ : MethodName)) hown (hw _ (List.mem_of_getElem? (i := 75) rfl)) (hw _ (List.mem_of_getElem? (i := 76) rfl)) (notFace_of_selects (args := #[]) (mvT hZ (hw _ (List.mem_of_getElem? (i := 78) rfl)))) (hw _ (List.mem_of_getElem? (i := 78) rfl)) (hw _ (List.mem_of_getElem? (i := 77) rfl)) (hw _ (List.mem_of_getElem? (i := 10) rfl)) (hw _ (List.mem_of_getElem? (i := 79) rfl)) (by decide) (W := 1) (rm15_U l Z a0 hw [] so zc h0 n0 Z0 F_coder hzc S_cs OL) (by decide) (by decide) E_so (g := (mkF m 6 #[rv so] [(.ref so), (.int (4 : Int32))])) rfl (by rw [hml]; rfl) (argsL := []) (rest := [(.int (4 : Int32))]) (lenOf pd_14_14 rfl) rfl (by show 2 * 0 + _ ≤ _; exact Nat.le_of_eq rfl) (hb hby d14_6) e1 rfl (by decide) (by decide)
  obtain ⟨rfl, Nq2, e2⟩ := hQ2
  have N2 := Fr.app N0 Nq2
  refine own_go st2 ?_
  show OwnFin p e below s _ _ _ (T2.setTop (mkF m 9 #[rv so] [(.int (1 : Int32)), (.int (4 : Int32))]))
  refine own_go (fun t_ k_ => XS.ishr X2.here hx rfl (hb hby d14_9) rfl k_) ?_
  show OwnFin p e below s _ _ _ (T2.setTop (mkF m 10 #[rv so] [(.int (2 : Int32))]))
  refine own_ret X2 (v := some (.int (2 : Int32))) hlk (fun hh => by rw [hret] at hh; cases hh) (fun fs hr => own_retI X2 hx hret (hb hby d14_10) hr) (by decide) (by decide) ?_
  rw [e2]
  exact ⟨rfl, N2, rfl⟩
theorem d17_0 : decode jdk_43_method_4_code 0 = .ok (.iload_n 0, 1) := by decide +kernel
theorem d17_1 : decode jdk_43_method_4_code 1 = .ok (.ifCond .lt 14, 3) := by decide +kernel
theorem d17_4 : decode jdk_43_method_4_code 4 = .ok (.iload_n 0, 1) := by decide +kernel
theorem d17_5 : decode jdk_43_method_4_code 5 = .ok (.sipush 255, 3) := by decide +kernel
theorem d17_8 : decode jdk_43_method_4_code 8 = .ok (.if_icmp .gt 7, 3) := by decide +kernel
theorem d17_11 : decode jdk_43_method_4_code 11 = .ok (.iconst 1, 1) := by decide +kernel
theorem d17_12 : decode jdk_43_method_4_code 12 = .ok (.goto 4, 3) := by decide +kernel
theorem d17_15 : decode jdk_43_method_4_code 15 = .ok (.iconst 0, 1) := by decide +kernel
theorem d17_16 : decode jdk_43_method_4_code 16 = .ok (.ireturn, 1) := by decide +kernel
theorem pn_17 : plainFor (⟨"java/lang/StringLatin1", "canEncode", "(I)Z"⟩ : MethodName) = true := plainFor_of_name (by first | (simp [plainName, overriddenIn]; done) | decide +kernel)
theorem ef_17 (m : MethodId) (pc : Int32) : entryFrame m #[(.int pc)] 1 = mkF m 0 #[iv pc] [] := by first | (simp [entryFrame, mkF, argsToLocals, Value.category]; done) | rfl
set_option maxRecDepth 65536 in
set_option maxHeartbeats 40000000 in
theorem rm17 (l : Launch) (Z : State) (a0 : Array Value) (hw : ∀ d ∈ tables_1, d.before a0 Z = true) (ws : List Jvm.Cond) (pc : Int32) (h0 : Heap) (n0 : Nat) (Z0 : n0 ≤ h0.size) (hc : own_ch pc) :
    OwnCtr l Z (⟨"java/lang/StringLatin1", "canEncode", "(I)Z"⟩ : MethodName) ws jdk_43_method_4_code 1 (some .boolean) ({ frames := 0, cells := 0, slots := 0, locals := 0 } : Room) #[(.int pc)] h0 (fun v h L => v = some (.int (if (255 : Int32) < pc then 0 else 1)) ∧ Fr n0 L ∧ h = h0) := by
  refine own_body (g0 := fun m => mkF m 0 #[iv pc] []) pn_17 (fun m => ef_17 m pc) ?_
  intro p e s m below meth c s₁ X0 hx hby hml hown hnm hZ e0 hret hlk
  have hml : c.maxLocals = 1 := hml
  have hown : s.vm.findClass "java/lang/StringLatin1" = some m.cls := hown
  have hnm : meth.name = "canEncode" := hnm
  have hret : meth.sig.returnType = (some .boolean) := hret
  have N0 := Fr.nil n0
  show OwnFin p e below s _ _ _ (s₁.setTop (mkF m 0 #[iv pc] []))
  refine own_go (fun t_ k_ => XS.iloadN X0.here hx rfl (hb hby d17_0) rfl k_) ?_
  show OwnFin p e below s _ _ _ (s₁.setTop (mkF m 1 #[iv pc] [(.int pc)]))
  have hc1 : ¬ (pc < (0 : Int32)) := own_nlt hc
  refine own_go (fun t_ k_ => XS.ifNo X0.here hx rfl (hb hby d17_1) rfl ((if0 _ _).trans (flt hc1).1) k_) ?_
  show OwnFin p e below s _ _ _ (s₁.setTop (mkF m 4 #[iv pc] []))
  refine own_go (fun t_ k_ => XS.iloadN X0.here hx rfl (hb hby d17_4) rfl k_) ?_
  show OwnFin p e below s _ _ _ (s₁.setTop (mkF m 5 #[iv pc] [(.int pc)]))
  refine own_go (fun t_ k_ => XS.sipush X0.here hx rfl (hb hby d17_5) k_) ?_
  show OwnFin p e below s _ _ _ (s₁.setTop (mkF m 8 #[iv pc] [(.int (255 : Int32)), (.int pc)]))
  by_cases hc8 : (255 : Int32) < pc
  · refine own_go (fun t_ k_ => XS.icmpYes X0.here hx rfl (pc0 := 8) (pc' := 15) rfl (hb hby d17_8) rfl (tlt hc8).2.2.1 (by decide) (by decide) k_) ?_
    show OwnFin p e below s _ _ _ (s₁.setTop (mkF m 15 #[iv pc] []))
    refine own_go (fun t_ k_ => XS.iconst X0.here hx rfl (hb hby d17_15) k_) ?_
    show OwnFin p e below s _ _ _ (s₁.setTop (mkF m 16 #[iv pc] [(.int (0 : Int32))]))
    refine own_ret X0 (v := some (.int (0 : Int32))) hlk (fun hh => by rw [hret] at hh; cases hh) (fun fs hr => retN X0 hx (t := .boolean) hret (by simp) (hb hby d17_16) hr) (by decide) (by decide) ?_
    rw [e0]
    exact ⟨by simp [hc8], N0, rfl⟩
  · refine own_go (fun t_ k_ => XS.icmpNo X0.here hx rfl (hb hby d17_8) rfl (flt hc8).2.2.1 k_) ?_
    show OwnFin p e below s _ _ _ (s₁.setTop (mkF m 11 #[iv pc] []))
    refine own_go (fun t_ k_ => XS.iconst X0.here hx rfl (hb hby d17_11) k_) ?_
    show OwnFin p e below s _ _ _ (s₁.setTop (mkF m 12 #[iv pc] [(.int (1 : Int32))]))
    refine own_go (fun t_ k_ => XS.goto X0.here hx rfl (pc0 := 12) (pc' := 16) rfl (hb hby d17_12) (by decide) (by decide) k_) ?_
    show OwnFin p e below s _ _ _ (s₁.setTop (mkF m 16 #[iv pc] [(.int (1 : Int32))]))
    refine own_ret X0 (v := some (.int (1 : Int32))) hlk (fun hh => by rw [hret] at hh; cases hh) (fun fs hr => retN X0 hx (t := .boolean) hret (by simp) (hb hby d17_16) hr) (by decide) (by decide) ?_
    rw [e0]
    exact ⟨by simp [hc8], N0, rfl⟩
theorem d20_0 : decode jdk_43_method_23_code 0 = .ok (.iload_n 1, 1) := by decide +kernel
theorem d20_1 : decode jdk_43_method_23_code 1 = .ok (.i2b, 1) := by decide +kernel
theorem d20_2 : decode jdk_43_method_23_code 2 = .ok (.istore 4, 2) := by decide +kernel
theorem d20_4 : decode jdk_43_method_23_code 4 = .ok (.iload_n 2, 1) := by decide +kernel
theorem d20_5 : decode jdk_43_method_23_code 5 = .ok (.istore 5, 2) := by decide +kernel
theorem d20_7 : decode jdk_43_method_23_code 7 = .ok (.iload 5, 2) := by decide +kernel
theorem d20_9 : decode jdk_43_method_23_code 9 = .ok (.iload_n 3, 1) := by decide +kernel
theorem d20_10 : decode jdk_43_method_23_code 10 = .ok (.if_icmp .ge 21, 3) := by decide +kernel
theorem d20_13 : decode jdk_43_method_23_code 13 = .ok (.aload_n 0, 1) := by decide +kernel
theorem d20_14 : decode jdk_43_method_23_code 14 = .ok (.iload 5, 2) := by decide +kernel
theorem d20_16 : decode jdk_43_method_23_code 16 = .ok (.baload, 1) := by decide +kernel
theorem d20_17 : decode jdk_43_method_23_code 17 = .ok (.iload 4, 2) := by decide +kernel
theorem d20_19 : decode jdk_43_method_23_code 19 = .ok (.if_icmp .ne 6, 3) := by decide +kernel
theorem d20_22 : decode jdk_43_method_23_code 22 = .ok (.iload 5, 2) := by decide +kernel
theorem d20_24 : decode jdk_43_method_23_code 24 = .ok (.ireturn, 1) := by decide +kernel
theorem d20_25 : decode jdk_43_method_23_code 25 = .ok (.iinc 5 1, 3) := by decide +kernel
theorem d20_28 : decode jdk_43_method_23_code 28 = .ok (.goto (-21), 3) := by decide +kernel
theorem d20_31 : decode jdk_43_method_23_code 31 = .ok (.iconst (-1), 1) := by decide +kernel
theorem d20_32 : decode jdk_43_method_23_code 32 = .ok (.ireturn, 1) := by decide +kernel
theorem pn_20 : plainFor (⟨"java/lang/StringLatin1", "indexOfChar", "([BIII)I"⟩ : MethodName) = true := plainFor_of_name (by first | (simp [plainName, overriddenIn]; done) | decide +kernel)
theorem ef_20 (m : MethodId) (bs : Addr) (pc : Int32) : entryFrame m #[(.ref bs), (.int pc), (.int (0 : Int32)), (.int (2 : Int32))] 6 = mkF m 0 #[rv bs, iv pc, iv (0 : Int32), iv (2 : Int32), .unset, .unset] [] := by first | (simp [entryFrame, mkF, argsToLocals, Value.category]; done) | rfl
set_option maxRecDepth 65536 in
set_option maxHeartbeats 40000000 in
theorem rm20 (l : Launch) (Z : State) (a0 : Array Value) (hw : ∀ d ∈ tables_1, d.before a0 Z = true) (ws : List Jvm.Cond) (bs : Addr) (pc : Int32) (px : Int32) (py : Int32) (h0 : Heap) (n0 : Nat) (Z0 : n0 ≤ h0.size) (V_bs : OwnArr Z h0 bs .byte 2 (fun k => .int (own_two (own_lb px) (own_lb py) k))) (hc : own_ch pc) (hpx : own_ch px) (hpy : own_ch py) (hl0 : ¬ (255 : Int32) < pc) (hl1 : ¬ (255 : Int32) < px) (hl2 : ¬ (255 : Int32) < py) :
    OwnCtr l Z (⟨"java/lang/StringLatin1", "indexOfChar", "([BIII)I"⟩ : MethodName) ws jdk_43_method_23_code 6 (some .int) ({ frames := 0, cells := 0, slots := 0, locals := 0 } : Room) #[(.ref bs), (.int pc), (.int (0 : Int32)), (.int (2 : Int32))] h0 (fun v h L => v = some (.int (own_idx pc px py)) ∧ Fr n0 L ∧ h = h0) := by
  refine own_body (g0 := fun m => mkF m 0 #[rv bs, iv pc, iv (0 : Int32), iv (2 : Int32), .unset, .unset] []) pn_20 (fun m => ef_20 m bs pc) ?_
  intro p e s m below meth c s₁ X0 hx hby hml hown hnm hZ e0 hret hlk
  have hml : c.maxLocals = 6 := hml
  have hown : s.vm.findClass "java/lang/StringLatin1" = some m.cls := hown
  have hnm : meth.name = "indexOfChar" := hnm
  have hret : meth.sig.returnType = (some .int) := hret
  have N0 := Fr.nil n0
  show OwnFin p e below s _ _ _ (s₁.setTop (mkF m 0 #[rv bs, iv pc, iv (0 : Int32), iv (2 : Int32), .unset, .unset] []))
  refine own_go (fun t_ k_ => XS.iloadN X0.here hx rfl (hb hby d20_0) rfl k_) ?_
  show OwnFin p e below s _ _ _ (s₁.setTop (mkF m 1 #[rv bs, iv pc, iv (0 : Int32), iv (2 : Int32), .unset, .unset] [(.int pc)]))
  refine own_go (fun t_ k_ => XS.i2b X0.here hx rfl (hb hby d20_1) rfl k_) ?_
  show OwnFin p e below s _ _ _ (s₁.setTop (mkF m 2 #[rv bs, iv pc, iv (0 : Int32), iv (2 : Int32), .unset, .unset] [(.int (pc.toInt8.toInt32))]))
  refine own_go (fun t_ k_ => XS.istore X0.here hx rfl (hb hby d20_2) rfl (l' := #[rv bs, iv pc, iv (0 : Int32), iv (2 : Int32), iv (pc.toInt8.toInt32), .unset]) rfl k_) ?_
  show OwnFin p e below s _ _ _ (s₁.setTop (mkF m 4 #[rv bs, iv pc, iv (0 : Int32), iv (2 : Int32), iv (pc.toInt8.toInt32), .unset] []))
  refine own_go (fun t_ k_ => XS.iloadN X0.here hx rfl (hb hby d20_4) rfl k_) ?_
  show OwnFin p e below s _ _ _ (s₁.setTop (mkF m 5 #[rv bs, iv pc, iv (0 : Int32), iv (2 : Int32), iv (pc.toInt8.toInt32), .unset] [(.int (0 : Int32))]))
  refine own_go (fun t_ k_ => XS.istore X0.here hx rfl (hb hby d20_5) rfl (l' := #[rv bs, iv pc, iv (0 : Int32), iv (2 : Int32), iv (pc.toInt8.toInt32), iv (0 : Int32)]) rfl k_) ?_
  show OwnFin p e below s _ _ _ (s₁.setTop (mkF m 7 #[rv bs, iv pc, iv (0 : Int32), iv (2 : Int32), iv (pc.toInt8.toInt32), iv (0 : Int32)] []))
  refine own_go (fun t_ k_ => XS.iload X0.here hx rfl (hb hby d20_7) rfl k_) ?_
  show OwnFin p e below s _ _ _ (s₁.setTop (mkF m 9 #[rv bs, iv pc, iv (0 : Int32), iv (2 : Int32), iv (pc.toInt8.toInt32), iv (0 : Int32)] [(.int (0 : Int32))]))
  refine own_go (fun t_ k_ => XS.iloadN X0.here hx rfl (hb hby d20_9) rfl k_) ?_
  show OwnFin p e below s _ _ _ (s₁.setTop (mkF m 10 #[rv bs, iv pc, iv (0 : Int32), iv (2 : Int32), iv (pc.toInt8.toInt32), iv (0 : Int32)] [(.int (2 : Int32)), (.int (0 : Int32))]))
  refine own_go (fun t_ k_ => XS.icmpNo X0.here hx rfl (hb hby d20_10) rfl (tlt (by decide)).2.1 k_) ?_
  show OwnFin p e below s _ _ _ (s₁.setTop (mkF m 13 #[rv bs, iv pc, iv (0 : Int32), iv (2 : Int32), iv (pc.toInt8.toInt32), iv (0 : Int32)] []))
  refine own_go (fun t_ k_ => XS.aloadN X0.here hx rfl (hb hby d20_13) rfl rfl k_) ?_
  show OwnFin p e below s _ _ _ (s₁.setTop (mkF m 14 #[rv bs, iv pc, iv (0 : Int32), iv (2 : Int32), iv (pc.toInt8.toInt32), iv (0 : Int32)] [(.ref bs)]))
  refine own_go (fun t_ k_ => XS.iload X0.here hx rfl (hb hby d20_14) rfl k_) ?_
  show OwnFin p e below s _ _ _ (s₁.setTop (mkF m 16 #[rv bs, iv pc, iv (0 : Int32), iv (2 : Int32), iv (pc.toInt8.toInt32), iv (0 : Int32)] [(.int (0 : Int32)), (.ref bs)]))
  refine own_go (own_baload X0 hx hZ e0 V_bs (i := 0) (by decide) (by decide) (g := (mkF m 16 #[rv bs, iv pc, iv (0 : Int32), iv (2 : Int32), iv (pc.toInt8.toInt32), iv (0 : Int32)] [(.int (0 : Int32)), (.ref bs)])) rfl rfl (hb hby d20_16)) ?_
  show OwnFin p e below s _ _ _ (s₁.setTop (mkF m 17 #[rv bs, iv pc, iv (0 : Int32), iv (2 : Int32), iv (pc.toInt8.toInt32), iv (0 : Int32)] [(.int (own_lb px))]))
  refine own_go (fun t_ k_ => XS.iload X0.here hx rfl (hb hby d20_17) rfl k_) ?_
  show OwnFin p e below s _ _ _ (s₁.setTop (mkF m 19 #[rv bs, iv pc, iv (0 : Int32), iv (2 : Int32), iv (pc.toInt8.toInt32), iv (0 : Int32)] [(.int (pc.toInt8.toInt32)), (.int (own_lb px))]))
  by_cases hc19 : (own_lb px) = (pc.toInt8.toInt32)
  · refine own_go (fun t_ k_ => XS.icmpNo X0.here hx rfl (hb hby d20_19) rfl (teq hc19).2 k_) ?_
    show OwnFin p e below s _ _ _ (s₁.setTop (mkF m 22 #[rv bs, iv pc, iv (0 : Int32), iv (2 : Int32), iv (pc.toInt8.toInt32), iv (0 : Int32)] []))
    refine own_go (fun t_ k_ => XS.iload X0.here hx rfl (hb hby d20_22) rfl k_) ?_
    show OwnFin p e below s _ _ _ (s₁.setTop (mkF m 24 #[rv bs, iv pc, iv (0 : Int32), iv (2 : Int32), iv (pc.toInt8.toInt32), iv (0 : Int32)] [(.int (0 : Int32))]))
    refine own_ret X0 (v := some (.int (0 : Int32))) hlk (fun hh => by rw [hret] at hh; cases hh) (fun fs hr => own_retI X0 hx hret (hb hby d20_24) hr) (by decide) (by decide) ?_
    rw [e0]
    rw [own_lat hc hl0 hpx hl1] at hc19
    exact ⟨by simp [own_idx, hc19], N0, rfl⟩
  · refine own_go (fun t_ k_ => XS.icmpYes X0.here hx rfl (pc0 := 19) (pc' := 25) rfl (hb hby d20_19) rfl (feq hc19).2 (by decide) (by decide) k_) ?_
    show OwnFin p e below s _ _ _ (s₁.setTop (mkF m 25 #[rv bs, iv pc, iv (0 : Int32), iv (2 : Int32), iv (pc.toInt8.toInt32), iv (0 : Int32)] []))
    refine own_go (fun t_ k_ => XS.iinc X0.here hx rfl (hb hby d20_25) rfl (l' := #[rv bs, iv pc, iv (0 : Int32), iv (2 : Int32), iv (pc.toInt8.toInt32), iv (1 : Int32)]) rfl k_) ?_
    show OwnFin p e below s _ _ _ (s₁.setTop (mkF m 28 #[rv bs, iv pc, iv (0 : Int32), iv (2 : Int32), iv (pc.toInt8.toInt32), iv (1 : Int32)] []))
    refine own_go (fun t_ k_ => XS.goto X0.here hx rfl (pc0 := 28) (pc' := 7) rfl (hb hby d20_28) (by decide) (by decide) k_) ?_
    show OwnFin p e below s _ _ _ (s₁.setTop (mkF m 7 #[rv bs, iv pc, iv (0 : Int32), iv (2 : Int32), iv (pc.toInt8.toInt32), iv (1 : Int32)] []))
    refine own_go (fun t_ k_ => XS.iload X0.here hx rfl (hb hby d20_7) rfl k_) ?_
    show OwnFin p e below s _ _ _ (s₁.setTop (mkF m 9 #[rv bs, iv pc, iv (0 : Int32), iv (2 : Int32), iv (pc.toInt8.toInt32), iv (1 : Int32)] [(.int (1 : Int32))]))
    refine own_go (fun t_ k_ => XS.iloadN X0.here hx rfl (hb hby d20_9) rfl k_) ?_
    show OwnFin p e below s _ _ _ (s₁.setTop (mkF m 10 #[rv bs, iv pc, iv (0 : Int32), iv (2 : Int32), iv (pc.toInt8.toInt32), iv (1 : Int32)] [(.int (2 : Int32)), (.int (1 : Int32))]))
    refine own_go (fun t_ k_ => XS.icmpNo X0.here hx rfl (hb hby d20_10) rfl (tlt (by decide)).2.1 k_) ?_
    show OwnFin p e below s _ _ _ (s₁.setTop (mkF m 13 #[rv bs, iv pc, iv (0 : Int32), iv (2 : Int32), iv (pc.toInt8.toInt32), iv (1 : Int32)] []))
    refine own_go (fun t_ k_ => XS.aloadN X0.here hx rfl (hb hby d20_13) rfl rfl k_) ?_
    show OwnFin p e below s _ _ _ (s₁.setTop (mkF m 14 #[rv bs, iv pc, iv (0 : Int32), iv (2 : Int32), iv (pc.toInt8.toInt32), iv (1 : Int32)] [(.ref bs)]))
    refine own_go (fun t_ k_ => XS.iload X0.here hx rfl (hb hby d20_14) rfl k_) ?_
    show OwnFin p e below s _ _ _ (s₁.setTop (mkF m 16 #[rv bs, iv pc, iv (0 : Int32), iv (2 : Int32), iv (pc.toInt8.toInt32), iv (1 : Int32)] [(.int (1 : Int32)), (.ref bs)]))
    refine own_go (own_baload X0 hx hZ e0 V_bs (i := 1) (by decide) (by decide) (g := (mkF m 16 #[rv bs, iv pc, iv (0 : Int32), iv (2 : Int32), iv (pc.toInt8.toInt32), iv (1 : Int32)] [(.int (1 : Int32)), (.ref bs)])) rfl rfl (hb hby d20_16)) ?_
    show OwnFin p e below s _ _ _ (s₁.setTop (mkF m 17 #[rv bs, iv pc, iv (0 : Int32), iv (2 : Int32), iv (pc.toInt8.toInt32), iv (1 : Int32)] [(.int (own_lb py))]))
    refine own_go (fun t_ k_ => XS.iload X0.here hx rfl (hb hby d20_17) rfl k_) ?_
    show OwnFin p e below s _ _ _ (s₁.setTop (mkF m 19 #[rv bs, iv pc, iv (0 : Int32), iv (2 : Int32), iv (pc.toInt8.toInt32), iv (1 : Int32)] [(.int (pc.toInt8.toInt32)), (.int (own_lb py))]))
    by_cases hc19_1 : (own_lb py) = (pc.toInt8.toInt32)
    · refine own_go (fun t_ k_ => XS.icmpNo X0.here hx rfl (hb hby d20_19) rfl (teq hc19_1).2 k_) ?_
      show OwnFin p e below s _ _ _ (s₁.setTop (mkF m 22 #[rv bs, iv pc, iv (0 : Int32), iv (2 : Int32), iv (pc.toInt8.toInt32), iv (1 : Int32)] []))
      refine own_go (fun t_ k_ => XS.iload X0.here hx rfl (hb hby d20_22) rfl k_) ?_
      show OwnFin p e below s _ _ _ (s₁.setTop (mkF m 24 #[rv bs, iv pc, iv (0 : Int32), iv (2 : Int32), iv (pc.toInt8.toInt32), iv (1 : Int32)] [(.int (1 : Int32))]))
      refine own_ret X0 (v := some (.int (1 : Int32))) hlk (fun hh => by rw [hret] at hh; cases hh) (fun fs hr => own_retI X0 hx hret (hb hby d20_24) hr) (by decide) (by decide) ?_
      rw [e0]
      rw [own_lat hc hl0 hpx hl1] at hc19
      rw [own_lat hc hl0 hpy hl2] at hc19_1
      exact ⟨by simp [own_idx, hc19, hc19_1], N0, rfl⟩
    · refine own_go (fun t_ k_ => XS.icmpYes X0.here hx rfl (pc0 := 19) (pc' := 25) rfl (hb hby d20_19) rfl (feq hc19_1).2 (by decide) (by decide) k_) ?_
      show OwnFin p e below s _ _ _ (s₁.setTop (mkF m 25 #[rv bs, iv pc, iv (0 : Int32), iv (2 : Int32), iv (pc.toInt8.toInt32), iv (1 : Int32)] []))
      refine own_go (fun t_ k_ => XS.iinc X0.here hx rfl (hb hby d20_25) rfl (l' := #[rv bs, iv pc, iv (0 : Int32), iv (2 : Int32), iv (pc.toInt8.toInt32), iv (2 : Int32)]) rfl k_) ?_
      show OwnFin p e below s _ _ _ (s₁.setTop (mkF m 28 #[rv bs, iv pc, iv (0 : Int32), iv (2 : Int32), iv (pc.toInt8.toInt32), iv (2 : Int32)] []))
      refine own_go (fun t_ k_ => XS.goto X0.here hx rfl (pc0 := 28) (pc' := 7) rfl (hb hby d20_28) (by decide) (by decide) k_) ?_
      show OwnFin p e below s _ _ _ (s₁.setTop (mkF m 7 #[rv bs, iv pc, iv (0 : Int32), iv (2 : Int32), iv (pc.toInt8.toInt32), iv (2 : Int32)] []))
      refine own_go (fun t_ k_ => XS.iload X0.here hx rfl (hb hby d20_7) rfl k_) ?_
      show OwnFin p e below s _ _ _ (s₁.setTop (mkF m 9 #[rv bs, iv pc, iv (0 : Int32), iv (2 : Int32), iv (pc.toInt8.toInt32), iv (2 : Int32)] [(.int (2 : Int32))]))
      refine own_go (fun t_ k_ => XS.iloadN X0.here hx rfl (hb hby d20_9) rfl k_) ?_
      show OwnFin p e below s _ _ _ (s₁.setTop (mkF m 10 #[rv bs, iv pc, iv (0 : Int32), iv (2 : Int32), iv (pc.toInt8.toInt32), iv (2 : Int32)] [(.int (2 : Int32)), (.int (2 : Int32))]))
      refine own_go (fun t_ k_ => XS.icmpYes X0.here hx rfl (pc0 := 10) (pc' := 31) rfl (hb hby d20_10) rfl (flt (by decide)).2.1 (by decide) (by decide) k_) ?_
      show OwnFin p e below s _ _ _ (s₁.setTop (mkF m 31 #[rv bs, iv pc, iv (0 : Int32), iv (2 : Int32), iv (pc.toInt8.toInt32), iv (2 : Int32)] []))
      refine own_go (fun t_ k_ => XS.iconst X0.here hx rfl (hb hby d20_31) k_) ?_
      show OwnFin p e below s _ _ _ (s₁.setTop (mkF m 32 #[rv bs, iv pc, iv (0 : Int32), iv (2 : Int32), iv (pc.toInt8.toInt32), iv (2 : Int32)] [(.int (-1 : Int32))]))
      refine own_ret X0 (v := some (.int (-1 : Int32))) hlk (fun hh => by rw [hret] at hh; cases hh) (fun fs hr => own_retI X0 hx hret (hb hby d20_32) hr) (by decide) (by decide) ?_
      rw [e0]
      rw [own_lat hc hl0 hpx hl1] at hc19
      rw [own_lat hc hl0 hpy hl2] at hc19_1
      exact ⟨by simp [own_idx, hc19, hc19_1], N0, rfl⟩
theorem d16_0 : decode jdk_43_method_22_code 0 = .ok (.iload_n 1, 1) := by decide +kernel
theorem d16_1 : decode jdk_43_method_22_code 1 = .ok (.invokestatic 88, 3) := by decide +kernel
theorem d16_4 : decode jdk_43_method_22_code 4 = .ok (.ifCond .ne 5, 3) := by decide +kernel
theorem d16_7 : decode jdk_43_method_22_code 7 = .ok (.iconst (-1), 1) := by decide +kernel
theorem d16_8 : decode jdk_43_method_22_code 8 = .ok (.ireturn, 1) := by decide +kernel
theorem d16_9 : decode jdk_43_method_22_code 9 = .ok (.iload_n 2, 1) := by decide +kernel
theorem d16_10 : decode jdk_43_method_22_code 10 = .ok (.iconst 0, 1) := by decide +kernel
theorem d16_11 : decode jdk_43_method_22_code 11 = .ok (.invokestatic 92, 3) := by decide +kernel
theorem d16_14 : decode jdk_43_method_22_code 14 = .ok (.istore_n 2, 1) := by decide +kernel
theorem d16_15 : decode jdk_43_method_22_code 15 = .ok (.iload_n 3, 1) := by decide +kernel
theorem d16_16 : decode jdk_43_method_22_code 16 = .ok (.aload_n 0, 1) := by decide +kernel
theorem d16_17 : decode jdk_43_method_22_code 17 = .ok (.arraylength, 1) := by decide +kernel
theorem d16_18 : decode jdk_43_method_22_code 18 = .ok (.invokestatic 38, 3) := by decide +kernel
theorem d16_21 : decode jdk_43_method_22_code 21 = .ok (.istore_n 3, 1) := by decide +kernel
theorem d16_22 : decode jdk_43_method_22_code 22 = .ok (.iload_n 2, 1) := by decide +kernel
theorem d16_23 : decode jdk_43_method_22_code 23 = .ok (.iload_n 3, 1) := by decide +kernel
theorem d16_24 : decode jdk_43_method_22_code 24 = .ok (.if_icmp .lt 5, 3) := by decide +kernel
theorem d16_29 : decode jdk_43_method_22_code 29 = .ok (.aload_n 0, 1) := by decide +kernel
theorem d16_30 : decode jdk_43_method_22_code 30 = .ok (.iload_n 1, 1) := by decide +kernel
theorem d16_31 : decode jdk_43_method_22_code 31 = .ok (.iload_n 2, 1) := by decide +kernel
theorem d16_32 : decode jdk_43_method_22_code 32 = .ok (.iload_n 3, 1) := by decide +kernel
theorem d16_33 : decode jdk_43_method_22_code 33 = .ok (.invokestatic 95, 3) := by decide +kernel
theorem d16_36 : decode jdk_43_method_22_code 36 = .ok (.ireturn, 1) := by decide +kernel
theorem pn_16 : plainFor (⟨"java/lang/StringLatin1", "indexOf", "([BIII)I"⟩ : MethodName) = true := plainFor_of_name (by first | (simp [plainName, overriddenIn]; done) | decide +kernel)
theorem pd_16_16 : parseMethodDescriptor "(I)Z" = some ⟨[.int], some .boolean⟩ := by decide +kernel
theorem pd_16_11 : parseMethodDescriptor "(II)I" = some ⟨[.int, .int], some .int⟩ := by decide +kernel
theorem pd_16_15 : parseMethodDescriptor "([BIII)I" = some ⟨[(.array .byte), .int, .int, .int], some .int⟩ := by decide +kernel
theorem ef_16 (m : MethodId) (bs : Addr) (pc : Int32) : entryFrame m #[(.ref bs), (.int pc), (.int (0 : Int32)), (.int (2 : Int32))] 4 = mkF m 0 #[rv bs, iv pc, iv (0 : Int32), iv (2 : Int32)] [] := by first | (simp [entryFrame, mkF, argsToLocals, Value.category]; done) | rfl
set_option maxRecDepth 65536 in
set_option maxHeartbeats 40000000 in
theorem rm16 (l : Launch) (Z : State) (a0 : Array Value) (hw : ∀ d ∈ tables_1, d.before a0 Z = true) (ws : List Jvm.Cond) (bs : Addr) (pc : Int32) (px : Int32) (py : Int32) (h0 : Heap) (n0 : Nat) (Z0 : n0 ≤ h0.size) (V_bs : OwnArr Z h0 bs .byte 2 (fun k => .int (own_two (own_lb px) (own_lb py) k))) (hc : own_ch pc) (hpx : own_ch px) (hpy : own_ch py) (hl1 : ¬ (255 : Int32) < px) (hl2 : ¬ (255 : Int32) < py) :
    OwnCtr l Z (⟨"java/lang/StringLatin1", "indexOf", "([BIII)I"⟩ : MethodName) ws jdk_43_method_22_code 4 (some .int) ({ frames := 1, cells := 0, slots := 0, locals := 17 } : Room) #[(.ref bs), (.int pc), (.int (0 : Int32)), (.int (2 : Int32))] h0 (fun v h L => v = some (.int (own_idx pc px py)) ∧ Fr n0 L ∧ h = h0) := by
  refine own_body (g0 := fun m => mkF m 0 #[rv bs, iv pc, iv (0 : Int32), iv (2 : Int32)] []) pn_16 (fun m => ef_16 m bs pc) ?_
  intro p e s m below meth c s₁ X0 hx hby hml hown hnm hZ e0 hret hlk
  have hml : c.maxLocals = 4 := hml
  have hown : s.vm.findClass "java/lang/StringLatin1" = some m.cls := hown
  have hnm : meth.name = "indexOf" := hnm
  have hret : meth.sig.returnType = (some .int) := hret
  have N0 := Fr.nil n0
  show OwnFin p e below s _ _ _ (s₁.setTop (mkF m 0 #[rv bs, iv pc, iv (0 : Int32), iv (2 : Int32)] []))
  refine own_go (fun t_ k_ => XS.iloadN X0.here hx rfl (hb hby d16_0) rfl k_) ?_
  show OwnFin p e below s _ _ _ (s₁.setTop (mkF m 1 #[rv bs, iv pc, iv (0 : Int32), iv (2 : Int32)] [(.int pc)]))
  obtain ⟨v1, T1, L1, X1, hQ1, st1⟩ := own_callS X0 hx hZ (y := (⟨"java/lang/StringLatin1", "canEncode", "(I)Z"⟩ : MethodName)) hown (hw _ (List.mem_of_getElem? (i := 84) rfl)) (hw _ (List.mem_of_getElem? (i := 85) rfl)) (hw _ (List.mem_of_getElem? (i := 82) rfl)) (hw _ (List.mem_of_getElem? (i := 86) rfl)) (by decide) (W := 0) (rm17 l Z a0 hw [] pc h0 n0 Z0 hc) (by decide) (by decide) (g := (mkF m 1 #[rv bs, iv pc, iv (0 : Int32), iv (2 : Int32)] [(.int pc)])) rfl (by rw [hml]; rfl) (argsL := [(.int pc)]) (rest := []) (lenOf pd_16_16 rfl) rfl (by show 2 * 0 + _ ≤ _; exact Nat.le_of_eq rfl) (hb hby d16_1) e0 rfl (by decide) (by decide)
  obtain ⟨rfl, Nq1, e1⟩ := hQ1
  have N1 := Fr.app N0 Nq1
  refine own_go st1 ?_
  show OwnFin p e below s _ _ _ (T1.setTop (mkF m 4 #[rv bs, iv pc, iv (0 : Int32), iv (2 : Int32)] [(.int (if (255 : Int32) < pc then 0 else 1))]))
  by_cases hl0 : (255 : Int32) < pc
  · rw [if_pos hl0]
    show OwnFin p e below s _ _ _ (T1.setTop (mkF m 4 #[rv bs, iv pc, iv (0 : Int32), iv (2 : Int32)] [(.int (0 : Int32))]))
    refine own_go (fun t_ k_ => XS.ifNo X1.here hx rfl (hb hby d16_4) rfl ((if0 _ _).trans (teq (by decide)).2) k_) ?_
    show OwnFin p e below s _ _ _ (T1.setTop (mkF m 7 #[rv bs, iv pc, iv (0 : Int32), iv (2 : Int32)] []))
    refine own_go (fun t_ k_ => XS.iconst X1.here hx rfl (hb hby d16_7) k_) ?_
    show OwnFin p e below s _ _ _ (T1.setTop (mkF m 8 #[rv bs, iv pc, iv (0 : Int32), iv (2 : Int32)] [(.int (-1 : Int32))]))
    refine own_ret X1 (v := some (.int (-1 : Int32))) hlk (fun hh => by rw [hret] at hh; cases hh) (fun fs hr => own_retI X1 hx hret (hb hby d16_8) hr) (by decide) (by decide) ?_
    rw [e1]
    have q1 : ¬ px = pc := fun q => hl1 (q ▸ hl0)
    have q2 : ¬ py = pc := fun q => hl2 (q ▸ hl0)
    exact ⟨by simp [own_idx, q1, q2], N1, rfl⟩
  · rw [if_neg hl0]
    show OwnFin p e below s _ _ _ (T1.setTop (mkF m 4 #[rv bs, iv pc, iv (0 : Int32), iv (2 : Int32)] [(.int (1 : Int32))]))
    refine own_go (fun t_ k_ => XS.ifYes X1.here hx rfl (pc0 := 4) (pc' := 9) rfl (hb hby d16_4) rfl ((if0 _ _).trans (feq (by decide)).2) (by decide) (by decide) k_) ?_
    show OwnFin p e below s _ _ _ (T1.setTop (mkF m 9 #[rv bs, iv pc, iv (0 : Int32), iv (2 : Int32)] []))
    refine own_go (fun t_ k_ => XS.iloadN X1.here hx rfl (hb hby d16_9) rfl k_) ?_
    show OwnFin p e below s _ _ _ (T1.setTop (mkF m 10 #[rv bs, iv pc, iv (0 : Int32), iv (2 : Int32)] [(.int (0 : Int32))]))
    refine own_go (fun t_ k_ => XS.iconst X1.here hx rfl (hb hby d16_10) k_) ?_
    show OwnFin p e below s _ _ _ (T1.setTop (mkF m 11 #[rv bs, iv pc, iv (0 : Int32), iv (2 : Int32)] [(.int (0 : Int32)), (.int (0 : Int32))]))
    obtain ⟨v2, T2, L2, X2, hQ2, st2⟩ := own_callS X1 hx hZ (y := (⟨"java/lang/Math", "max", "(II)I"⟩ : MethodName)) hown (hw _ (List.mem_of_getElem? (i := 87) rfl)) (hw _ (List.mem_of_getElem? (i := 88) rfl)) (hw _ (List.mem_of_getElem? (i := 89) rfl)) (hw _ (List.mem_of_getElem? (i := 90) rfl)) (by decide) (W := 0) (rm18 l Z a0 hw [] (0 : Int32) (0 : Int32) h0 n0 Z0) (by decide) (by decide) (g := (mkF m 11 #[rv bs, iv pc, iv (0 : Int32), iv (2 : Int32)] [(.int (0 : Int32)), (.int (0 : Int32))])) rfl (by rw [hml]; rfl) (argsL := [(.int (0 : Int32)), (.int (0 : Int32))]) (rest := []) (lenOf pd_16_11 rfl) rfl (by show 2 * 0 + _ ≤ _; exact Nat.le_of_eq rfl) (hb hby d16_11) e1 rfl (by decide) (by decide)
    obtain ⟨rfl, Nq2, e2⟩ := hQ2
    have N2 := Fr.app N1 Nq2
    refine own_go st2 ?_
    show OwnFin p e below s _ _ _ (T2.setTop (mkF m 14 #[rv bs, iv pc, iv (0 : Int32), iv (2 : Int32)] [(.int (0 : Int32))]))
    refine own_go (fun t_ k_ => XS.istoreN X2.here hx rfl (hb hby d16_14) rfl (l' := #[rv bs, iv pc, iv (0 : Int32), iv (2 : Int32)]) rfl k_) ?_
    show OwnFin p e below s _ _ _ (T2.setTop (mkF m 15 #[rv bs, iv pc, iv (0 : Int32), iv (2 : Int32)] []))
    refine own_go (fun t_ k_ => XS.iloadN X2.here hx rfl (hb hby d16_15) rfl k_) ?_
    show OwnFin p e below s _ _ _ (T2.setTop (mkF m 16 #[rv bs, iv pc, iv (0 : Int32), iv (2 : Int32)] [(.int (2 : Int32))]))
    refine own_go (fun t_ k_ => XS.aloadN X2.here hx rfl (hb hby d16_16) rfl rfl k_) ?_
    show OwnFin p e below s _ _ _ (T2.setTop (mkF m 17 #[rv bs, iv pc, iv (0 : Int32), iv (2 : Int32)] [(.ref bs), (.int (2 : Int32))]))
    refine own_go (own_alength X2 hx hZ e2 V_bs (g := (mkF m 17 #[rv bs, iv pc, iv (0 : Int32), iv (2 : Int32)] [(.ref bs), (.int (2 : Int32))])) rfl rfl (hb hby d16_17)) ?_
    show OwnFin p e below s _ _ _ (T2.setTop (mkF m 18 #[rv bs, iv pc, iv (0 : Int32), iv (2 : Int32)] [(.int (2 : Int32)), (.int (2 : Int32))]))
    obtain ⟨v3, T3, L3, X3, hQ3, st3⟩ := own_callS X2 hx hZ (y := (⟨"java/lang/Math", "min", "(II)I"⟩ : MethodName)) hown (hw _ (List.mem_of_getElem? (i := 91) rfl)) (hw _ (List.mem_of_getElem? (i := 92) rfl)) (hw _ (List.mem_of_getElem? (i := 89) rfl)) (hw _ (List.mem_of_getElem? (i := 93) rfl)) (by decide) (W := 0) (rm19 l Z a0 hw [] (2 : Int32) (2 : Int32) h0 n0 Z0) (by decide) (by decide) (g := (mkF m 18 #[rv bs, iv pc, iv (0 : Int32), iv (2 : Int32)] [(.int (2 : Int32)), (.int (2 : Int32))])) rfl (by rw [hml]; rfl) (argsL := [(.int (2 : Int32)), (.int (2 : Int32))]) (rest := []) (lenOf pd_16_11 rfl) rfl (by show 2 * 0 + _ ≤ _; exact Nat.le_of_eq rfl) (hb hby d16_18) e2 rfl (by decide) (by decide)
    obtain ⟨rfl, Nq3, e3⟩ := hQ3
    have N3 := Fr.app N2 Nq3
    refine own_go st3 ?_
    show OwnFin p e below s _ _ _ (T3.setTop (mkF m 21 #[rv bs, iv pc, iv (0 : Int32), iv (2 : Int32)] [(.int (2 : Int32))]))
    refine own_go (fun t_ k_ => XS.istoreN X3.here hx rfl (hb hby d16_21) rfl (l' := #[rv bs, iv pc, iv (0 : Int32), iv (2 : Int32)]) rfl k_) ?_
    show OwnFin p e below s _ _ _ (T3.setTop (mkF m 22 #[rv bs, iv pc, iv (0 : Int32), iv (2 : Int32)] []))
    refine own_go (fun t_ k_ => XS.iloadN X3.here hx rfl (hb hby d16_22) rfl k_) ?_
    show OwnFin p e below s _ _ _ (T3.setTop (mkF m 23 #[rv bs, iv pc, iv (0 : Int32), iv (2 : Int32)] [(.int (0 : Int32))]))
    refine own_go (fun t_ k_ => XS.iloadN X3.here hx rfl (hb hby d16_23) rfl k_) ?_
    show OwnFin p e below s _ _ _ (T3.setTop (mkF m 24 #[rv bs, iv pc, iv (0 : Int32), iv (2 : Int32)] [(.int (2 : Int32)), (.int (0 : Int32))]))
    refine own_go (fun t_ k_ => XS.icmpYes X3.here hx rfl (pc0 := 24) (pc' := 29) rfl (hb hby d16_24) rfl (tlt (by decide)).1 (by decide) (by decide) k_) ?_
    show OwnFin p e below s _ _ _ (T3.setTop (mkF m 29 #[rv bs, iv pc, iv (0 : Int32), iv (2 : Int32)] []))
    refine own_go (fun t_ k_ => XS.aloadN X3.here hx rfl (hb hby d16_29) rfl rfl k_) ?_
    show OwnFin p e below s _ _ _ (T3.setTop (mkF m 30 #[rv bs, iv pc, iv (0 : Int32), iv (2 : Int32)] [(.ref bs)]))
    refine own_go (fun t_ k_ => XS.iloadN X3.here hx rfl (hb hby d16_30) rfl k_) ?_
    show OwnFin p e below s _ _ _ (T3.setTop (mkF m 31 #[rv bs, iv pc, iv (0 : Int32), iv (2 : Int32)] [(.int pc), (.ref bs)]))
    refine own_go (fun t_ k_ => XS.iloadN X3.here hx rfl (hb hby d16_31) rfl k_) ?_
    show OwnFin p e below s _ _ _ (T3.setTop (mkF m 32 #[rv bs, iv pc, iv (0 : Int32), iv (2 : Int32)] [(.int (0 : Int32)), (.int pc), (.ref bs)]))
    refine own_go (fun t_ k_ => XS.iloadN X3.here hx rfl (hb hby d16_32) rfl k_) ?_
    show OwnFin p e below s _ _ _ (T3.setTop (mkF m 33 #[rv bs, iv pc, iv (0 : Int32), iv (2 : Int32)] [(.int (2 : Int32)), (.int (0 : Int32)), (.int pc), (.ref bs)]))
    obtain ⟨v4, T4, L4, X4, hQ4, st4⟩ := own_callS X3 hx hZ (y := (⟨"java/lang/StringLatin1", "indexOfChar", "([BIII)I"⟩ : MethodName)) hown (hw _ (List.mem_of_getElem? (i := 94) rfl)) (hw _ (List.mem_of_getElem? (i := 95) rfl)) (hw _ (List.mem_of_getElem? (i := 82) rfl)) (hw _ (List.mem_of_getElem? (i := 96) rfl)) (by decide) (W := 0) (rm20 l Z a0 hw [] bs pc px py h0 n0 Z0 V_bs hc hpx hpy hl0 hl1 hl2) (by decide) (by decide) (g := (mkF m 33 #[rv bs, iv pc, iv (0 : Int32), iv (2 : Int32)] [(.int (2 : Int32)), (.int (0 : Int32)), (.int pc), (.ref bs)])) rfl (by rw [hml]; rfl) (argsL := [(.ref bs), (.int pc), (.int (0 : Int32)), (.int (2 : Int32))]) (rest := []) (lenOf pd_16_15 rfl) rfl (by show 2 * 0 + _ ≤ _; exact Nat.le_of_eq rfl) (hb hby d16_33) e3 rfl (by decide) (by decide)
    obtain ⟨rfl, Nq4, e4⟩ := hQ4
    have N4 := Fr.app N3 Nq4
    refine own_go st4 ?_
    show OwnFin p e below s _ _ _ (T4.setTop (mkF m 36 #[rv bs, iv pc, iv (0 : Int32), iv (2 : Int32)] [(.int (own_idx pc px py))]))
    refine own_ret X4 (v := some (.int (own_idx pc px py))) hlk (fun hh => by rw [hret] at hh; cases hh) (fun fs hr => own_retI X4 hx hret (hb hby d16_36) hr) (by decide) (by decide) ?_
    rw [e4]
    exact ⟨rfl, N4, rfl⟩
theorem d31_0 : decode jdk_52_method_6_code 0 = .ok (.aload_n 0, 1) := by decide +kernel
theorem d31_1 : decode jdk_52_method_6_code 1 = .ok (.arraylength, 1) := by decide +kernel
theorem d31_2 : decode jdk_52_method_6_code 2 = .ok (.iconst 1, 1) := by decide +kernel
theorem d31_3 : decode jdk_52_method_6_code 3 = .ok (.ishr, 1) := by decide +kernel
theorem d31_4 : decode jdk_52_method_6_code 4 = .ok (.ireturn, 1) := by decide +kernel
theorem pn_31 : plainFor (⟨"java/lang/StringUTF16", "length", "([B)I"⟩ : MethodName) = true := plainFor_of_name (by first | (simp [plainName, overriddenIn]; done) | decide +kernel)
theorem ef_31 (m : MethodId) (bs : Addr) : entryFrame m #[(.ref bs)] 1 = mkF m 0 #[rv bs] [] := by first | (simp [entryFrame, mkF, argsToLocals, Value.category]; done) | rfl
set_option maxRecDepth 65536 in
set_option maxHeartbeats 40000000 in
theorem rm31 (l : Launch) (Z : State) (a0 : Array Value) (hw : ∀ d ∈ tables_1, d.before a0 Z = true) (ws : List Jvm.Cond) (bs : Addr) (f : Nat → Int32) (h0 : Heap) (n0 : Nat) (Z0 : n0 ≤ h0.size) (V_bs : OwnArr Z h0 bs .byte 4 (fun k => .int (f k))) :
    OwnCtr l Z (⟨"java/lang/StringUTF16", "length", "([B)I"⟩ : MethodName) ws jdk_52_method_6_code 1 (some .int) ({ frames := 0, cells := 0, slots := 0, locals := 0 } : Room) #[(.ref bs)] h0 (fun v h L => v = some (.int (2 : Int32)) ∧ Fr n0 L ∧ h = h0) := by
  refine own_body (g0 := fun m => mkF m 0 #[rv bs] []) pn_31 (fun m => ef_31 m bs) ?_
  intro p e s m below meth c s₁ X0 hx hby hml hown hnm hZ e0 hret hlk
  have hml : c.maxLocals = 1 := hml
  have hown : s.vm.findClass "java/lang/StringUTF16" = some m.cls := hown
  have hnm : meth.name = "length" := hnm
  have hret : meth.sig.returnType = (some .int) := hret
  have N0 := Fr.nil n0
  show OwnFin p e below s _ _ _ (s₁.setTop (mkF m 0 #[rv bs] []))
  refine own_go (fun t_ k_ => XS.aloadN X0.here hx rfl (hb hby d31_0) rfl rfl k_) ?_
  show OwnFin p e below s _ _ _ (s₁.setTop (mkF m 1 #[rv bs] [(.ref bs)]))
  refine own_go (own_alength X0 hx hZ e0 V_bs (g := (mkF m 1 #[rv bs] [(.ref bs)])) rfl rfl (hb hby d31_1)) ?_
  show OwnFin p e below s _ _ _ (s₁.setTop (mkF m 2 #[rv bs] [(.int (4 : Int32))]))
  refine own_go (fun t_ k_ => XS.iconst X0.here hx rfl (hb hby d31_2) k_) ?_
  show OwnFin p e below s _ _ _ (s₁.setTop (mkF m 3 #[rv bs] [(.int (1 : Int32)), (.int (4 : Int32))]))
  refine own_go (fun t_ k_ => XS.ishr X0.here hx rfl (hb hby d31_3) rfl k_) ?_
  show OwnFin p e below s _ _ _ (s₁.setTop (mkF m 4 #[rv bs] [(.int (2 : Int32))]))
  refine own_ret X0 (v := some (.int (2 : Int32))) hlk (fun hh => by rw [hret] at hh; cases hh) (fun fs hr => own_retI X0 hx hret (hb hby d31_4) hr) (by decide) (by decide) ?_
  rw [e0]
  exact ⟨rfl, N0, rfl⟩
theorem d33_0 : decode jdk_41_method_12_code 0 = .ok (.iload_n 0, 1) := by decide +kernel
theorem d33_1 : decode jdk_41_method_12_code 1 = .ok (.ifCond .lt 13, 3) := by decide +kernel
theorem d33_4 : decode jdk_41_method_12_code 4 = .ok (.iload_n 0, 1) := by decide +kernel
theorem d33_5 : decode jdk_41_method_12_code 5 = .ok (.iload_n 1, 1) := by decide +kernel
theorem d33_6 : decode jdk_41_method_12_code 6 = .ok (.if_icmp .gt 8, 3) := by decide +kernel
theorem d33_9 : decode jdk_41_method_12_code 9 = .ok (.iload_n 1, 1) := by decide +kernel
theorem d33_10 : decode jdk_41_method_12_code 10 = .ok (.iload_n 2, 1) := by decide +kernel
theorem d33_11 : decode jdk_41_method_12_code 11 = .ok (.if_icmp .le 11, 3) := by decide +kernel
theorem d33_14 : decode jdk_41_method_12_code 14 = .ok (.aload_n 3, 1) := by decide +kernel
theorem d33_15 : decode jdk_41_method_12_code 15 = .ok (.iload_n 0, 1) := by decide +kernel
theorem d33_16 : decode jdk_41_method_12_code 16 = .ok (.iload_n 1, 1) := by decide +kernel
theorem d33_17 : decode jdk_41_method_12_code 17 = .ok (.iload_n 2, 1) := by decide +kernel
theorem d33_18 : decode jdk_41_method_12_code 18 = .ok (.invokestatic 99, 3) := by decide +kernel
theorem d33_21 : decode jdk_41_method_12_code 21 = .ok (.athrow, 1) := by decide +kernel
theorem d33_22 : decode jdk_41_method_12_code 22 = .ok (.iload_n 0, 1) := by decide +kernel
theorem d33_23 : decode jdk_41_method_12_code 23 = .ok (.ireturn, 1) := by decide +kernel
theorem pn_33 : plainFor (⟨"jdk/internal/util/Preconditions", "checkFromToIndex", "(IIILjava/util/function/BiFunction;)I"⟩ : MethodName) = true := plainFor_of_name (by first | (simp [plainName, overriddenIn]; done) | decide +kernel)
theorem ef_33 (m : MethodId) (p1 : Int32) (p2 : Int32) (p3 : Int32) (a4 : Addr) : entryFrame m #[(.int p1), (.int p2), (.int p3), (.ref a4)] 4 = mkF m 0 #[iv p1, iv p2, iv p3, rv a4] [] := by first | (simp [entryFrame, mkF, argsToLocals, Value.category]; done) | rfl
theorem ef_33_0 (m : MethodId)  : entryFrame m #[(.int (0 : Int32)), (.int (2 : Int32)), (.int (2 : Int32)), .null] 4 = mkF m 0 #[iv (0 : Int32), iv (2 : Int32), iv (2 : Int32), .val .null] [] := by first | (simp [entryFrame, mkF, argsToLocals, Value.category]; done) | rfl
set_option maxRecDepth 65536 in
set_option maxHeartbeats 40000000 in
theorem rm33_0 (l : Launch) (Z : State) (a0 : Array Value) (hw : ∀ d ∈ tables_1, d.before a0 Z = true) (ws : List Jvm.Cond)  (h0 : Heap) (n0 : Nat) (Z0 : n0 ≤ h0.size) :
    OwnCtr l Z (⟨"jdk/internal/util/Preconditions", "checkFromToIndex", "(IIILjava/util/function/BiFunction;)I"⟩ : MethodName) ws jdk_41_method_12_code 4 (some .int) ({ frames := 0, cells := 0, slots := 0, locals := 0 } : Room) #[(.int (0 : Int32)), (.int (2 : Int32)), (.int (2 : Int32)), .null] h0 (fun v h L => v = some (.int (0 : Int32)) ∧ Fr n0 L ∧ h = h0) := by
  refine own_body (g0 := fun m => mkF m 0 #[iv (0 : Int32), iv (2 : Int32), iv (2 : Int32), .val .null] []) pn_33 (fun m => ef_33_0 m ) ?_
  intro p e s m below meth c s₁ X0 hx hby hml hown hnm hZ e0 hret hlk
  have hml : c.maxLocals = 4 := hml
  have hown : s.vm.findClass "jdk/internal/util/Preconditions" = some m.cls := hown
  have hnm : meth.name = "checkFromToIndex" := hnm
  have hret : meth.sig.returnType = (some .int) := hret
  have N0 := Fr.nil n0
  show OwnFin p e below s _ _ _ (s₁.setTop (mkF m 0 #[iv (0 : Int32), iv (2 : Int32), iv (2 : Int32), .val .null] []))
  refine own_go (fun t_ k_ => XS.iloadN X0.here hx rfl (hb hby d33_0) rfl k_) ?_
  show OwnFin p e below s _ _ _ (s₁.setTop (mkF m 1 #[iv (0 : Int32), iv (2 : Int32), iv (2 : Int32), .val .null] [(.int (0 : Int32))]))
  refine own_go (fun t_ k_ => XS.ifNo X0.here hx rfl (hb hby d33_1) rfl ((if0 _ _).trans (flt (by decide)).1) k_) ?_
  show OwnFin p e below s _ _ _ (s₁.setTop (mkF m 4 #[iv (0 : Int32), iv (2 : Int32), iv (2 : Int32), .val .null] []))
  refine own_go (fun t_ k_ => XS.iloadN X0.here hx rfl (hb hby d33_4) rfl k_) ?_
  show OwnFin p e below s _ _ _ (s₁.setTop (mkF m 5 #[iv (0 : Int32), iv (2 : Int32), iv (2 : Int32), .val .null] [(.int (0 : Int32))]))
  refine own_go (fun t_ k_ => XS.iloadN X0.here hx rfl (hb hby d33_5) rfl k_) ?_
  show OwnFin p e below s _ _ _ (s₁.setTop (mkF m 6 #[iv (0 : Int32), iv (2 : Int32), iv (2 : Int32), .val .null] [(.int (2 : Int32)), (.int (0 : Int32))]))
  refine own_go (fun t_ k_ => XS.icmpNo X0.here hx rfl (hb hby d33_6) rfl (flt (by decide)).2.2.1 k_) ?_
  show OwnFin p e below s _ _ _ (s₁.setTop (mkF m 9 #[iv (0 : Int32), iv (2 : Int32), iv (2 : Int32), .val .null] []))
  refine own_go (fun t_ k_ => XS.iloadN X0.here hx rfl (hb hby d33_9) rfl k_) ?_
  show OwnFin p e below s _ _ _ (s₁.setTop (mkF m 10 #[iv (0 : Int32), iv (2 : Int32), iv (2 : Int32), .val .null] [(.int (2 : Int32))]))
  refine own_go (fun t_ k_ => XS.iloadN X0.here hx rfl (hb hby d33_10) rfl k_) ?_
  show OwnFin p e below s _ _ _ (s₁.setTop (mkF m 11 #[iv (0 : Int32), iv (2 : Int32), iv (2 : Int32), .val .null] [(.int (2 : Int32)), (.int (2 : Int32))]))
  refine own_go (fun t_ k_ => XS.icmpYes X0.here hx rfl (pc0 := 11) (pc' := 22) rfl (hb hby d33_11) rfl (flt (by decide)).2.2.2 (by decide) (by decide) k_) ?_
  show OwnFin p e below s _ _ _ (s₁.setTop (mkF m 22 #[iv (0 : Int32), iv (2 : Int32), iv (2 : Int32), .val .null] []))
  refine own_go (fun t_ k_ => XS.iloadN X0.here hx rfl (hb hby d33_22) rfl k_) ?_
  show OwnFin p e below s _ _ _ (s₁.setTop (mkF m 23 #[iv (0 : Int32), iv (2 : Int32), iv (2 : Int32), .val .null] [(.int (0 : Int32))]))
  refine own_ret X0 (v := some (.int (0 : Int32))) hlk (fun hh => by rw [hret] at hh; cases hh) (fun fs hr => own_retI X0 hx hret (hb hby d33_23) hr) (by decide) (by decide) ?_
  rw [e0]
  exact ⟨rfl, N0, rfl⟩
theorem ef_33_1 (m : MethodId) (fo : Addr) : entryFrame m #[(.int (0 : Int32)), (.int (2 : Int32)), (.int (2 : Int32)), (.ref fo)] 4 = mkF m 0 #[iv (0 : Int32), iv (2 : Int32), iv (2 : Int32), rv fo] [] := by first | (simp [entryFrame, mkF, argsToLocals, Value.category]; done) | rfl
set_option maxRecDepth 65536 in
set_option maxHeartbeats 40000000 in
theorem rm33_1 (l : Launch) (Z : State) (a0 : Array Value) (hw : ∀ d ∈ tables_1, d.before a0 Z = true) (ws : List Jvm.Cond) (fo : Addr) (h0 : Heap) (n0 : Nat) (Z0 : n0 ≤ h0.size) :
    OwnCtr l Z (⟨"jdk/internal/util/Preconditions", "checkFromToIndex", "(IIILjava/util/function/BiFunction;)I"⟩ : MethodName) ws jdk_41_method_12_code 4 (some .int) ({ frames := 0, cells := 0, slots := 0, locals := 0 } : Room) #[(.int (0 : Int32)), (.int (2 : Int32)), (.int (2 : Int32)), (.ref fo)] h0 (fun v h L => v = some (.int (0 : Int32)) ∧ Fr n0 L ∧ h = h0) := by
  refine own_body (g0 := fun m => mkF m 0 #[iv (0 : Int32), iv (2 : Int32), iv (2 : Int32), rv fo] []) pn_33 (fun m => ef_33_1 m fo) ?_
  intro p e s m below meth c s₁ X0 hx hby hml hown hnm hZ e0 hret hlk
  have hml : c.maxLocals = 4 := hml
  have hown : s.vm.findClass "jdk/internal/util/Preconditions" = some m.cls := hown
  have hnm : meth.name = "checkFromToIndex" := hnm
  have hret : meth.sig.returnType = (some .int) := hret
  have N0 := Fr.nil n0
  show OwnFin p e below s _ _ _ (s₁.setTop (mkF m 0 #[iv (0 : Int32), iv (2 : Int32), iv (2 : Int32), rv fo] []))
  refine own_go (fun t_ k_ => XS.iloadN X0.here hx rfl (hb hby d33_0) rfl k_) ?_
  show OwnFin p e below s _ _ _ (s₁.setTop (mkF m 1 #[iv (0 : Int32), iv (2 : Int32), iv (2 : Int32), rv fo] [(.int (0 : Int32))]))
  refine own_go (fun t_ k_ => XS.ifNo X0.here hx rfl (hb hby d33_1) rfl ((if0 _ _).trans (flt (by decide)).1) k_) ?_
  show OwnFin p e below s _ _ _ (s₁.setTop (mkF m 4 #[iv (0 : Int32), iv (2 : Int32), iv (2 : Int32), rv fo] []))
  refine own_go (fun t_ k_ => XS.iloadN X0.here hx rfl (hb hby d33_4) rfl k_) ?_
  show OwnFin p e below s _ _ _ (s₁.setTop (mkF m 5 #[iv (0 : Int32), iv (2 : Int32), iv (2 : Int32), rv fo] [(.int (0 : Int32))]))
  refine own_go (fun t_ k_ => XS.iloadN X0.here hx rfl (hb hby d33_5) rfl k_) ?_
  show OwnFin p e below s _ _ _ (s₁.setTop (mkF m 6 #[iv (0 : Int32), iv (2 : Int32), iv (2 : Int32), rv fo] [(.int (2 : Int32)), (.int (0 : Int32))]))
  refine own_go (fun t_ k_ => XS.icmpNo X0.here hx rfl (hb hby d33_6) rfl (flt (by decide)).2.2.1 k_) ?_
  show OwnFin p e below s _ _ _ (s₁.setTop (mkF m 9 #[iv (0 : Int32), iv (2 : Int32), iv (2 : Int32), rv fo] []))
  refine own_go (fun t_ k_ => XS.iloadN X0.here hx rfl (hb hby d33_9) rfl k_) ?_
  show OwnFin p e below s _ _ _ (s₁.setTop (mkF m 10 #[iv (0 : Int32), iv (2 : Int32), iv (2 : Int32), rv fo] [(.int (2 : Int32))]))
  refine own_go (fun t_ k_ => XS.iloadN X0.here hx rfl (hb hby d33_10) rfl k_) ?_
  show OwnFin p e below s _ _ _ (s₁.setTop (mkF m 11 #[iv (0 : Int32), iv (2 : Int32), iv (2 : Int32), rv fo] [(.int (2 : Int32)), (.int (2 : Int32))]))
  refine own_go (fun t_ k_ => XS.icmpYes X0.here hx rfl (pc0 := 11) (pc' := 22) rfl (hb hby d33_11) rfl (flt (by decide)).2.2.2 (by decide) (by decide) k_) ?_
  show OwnFin p e below s _ _ _ (s₁.setTop (mkF m 22 #[iv (0 : Int32), iv (2 : Int32), iv (2 : Int32), rv fo] []))
  refine own_go (fun t_ k_ => XS.iloadN X0.here hx rfl (hb hby d33_22) rfl k_) ?_
  show OwnFin p e below s _ _ _ (s₁.setTop (mkF m 23 #[iv (0 : Int32), iv (2 : Int32), iv (2 : Int32), rv fo] [(.int (0 : Int32))]))
  refine own_ret X0 (v := some (.int (0 : Int32))) hlk (fun hh => by rw [hret] at hh; cases hh) (fun fs hr => own_retI X0 hx hret (hb hby d33_23) hr) (by decide) (by decide) ?_
  rw [e0]
  exact ⟨rfl, N0, rfl⟩
theorem d32_0 : decode jdk_42_method_158_code 0 = .ok (.iload_n 0, 1) := by decide +kernel
theorem d32_1 : decode jdk_42_method_158_code 1 = .ok (.iload_n 1, 1) := by decide +kernel
theorem d32_2 : decode jdk_42_method_158_code 2 = .ok (.iload_n 2, 1) := by decide +kernel
theorem d32_3 : decode jdk_42_method_158_code 3 = .ok (.getstatic 1053, 3) := by decide +kernel
theorem d32_6 : decode jdk_42_method_158_code 6 = .ok (.invokestatic 1062, 3) := by decide +kernel
theorem d32_9 : decode jdk_42_method_158_code 9 = .ok (.pop, 1) := by decide +kernel
theorem d32_10 : decode jdk_42_method_158_code 10 = .ok (.return_, 1) := by decide +kernel
theorem pn_32 : plainFor (⟨"java/lang/String", "checkBoundsBeginEnd", "(III)V"⟩ : MethodName) = true := plainFor_of_name (by first | (simp [plainName, overriddenIn]; done) | decide +kernel)
theorem pd_32_23 : parseMethodDescriptor "(IIILjava/util/function/BiFunction;)I" = some ⟨[.int, .int, .int, (.object "java/util/function/BiFunction")], some .int⟩ := by decide +kernel
theorem ef_32 (m : MethodId)  : entryFrame m #[(.int (0 : Int32)), (.int (2 : Int32)), (.int (2 : Int32))] 3 = mkF m 0 #[iv (0 : Int32), iv (2 : Int32), iv (2 : Int32)] [] := by first | (simp [entryFrame, mkF, argsToLocals, Value.category]; done) | rfl
set_option maxRecDepth 65536 in
set_option maxHeartbeats 40000000 in
theorem rm32 (l : Launch) (Z : State) (a0 : Array Value) (hw : ∀ d ∈ tables_1, d.before a0 Z = true) (ws : List Jvm.Cond) (fm : Value) (h0 : Heap) (n0 : Nat) (Z0 : n0 ≤ h0.size) (hfm : fm.isRef = true) (S_fm : Sta Z Z.heap "jdk/internal/util/Preconditions" "SIOOBE_FORMATTER" "Ljava/util/function/BiFunction;" fm) (OL : Old Z n0 h0) :
    OwnCtr l Z (⟨"java/lang/String", "checkBoundsBeginEnd", "(III)V"⟩ : MethodName) ws jdk_42_method_158_code 3 none ({ frames := 1, cells := 0, slots := 0, locals := 15 } : Room) #[(.int (0 : Int32)), (.int (2 : Int32)), (.int (2 : Int32))] h0 (fun v h L => v = none ∧ Fr n0 L ∧ h = h0) := by
  refine own_body (g0 := fun m => mkF m 0 #[iv (0 : Int32), iv (2 : Int32), iv (2 : Int32)] []) pn_32 (fun m => ef_32 m ) ?_
  intro p e s m below meth c s₁ X0 hx hby hml hown hnm hZ e0 hret hlk
  have hml : c.maxLocals = 3 := hml
  have hown : s.vm.findClass "java/lang/String" = some m.cls := hown
  have hnm : meth.name = "checkBoundsBeginEnd" := hnm
  have hret : meth.sig.returnType = none := hret
  have N0 := Fr.nil n0
  show OwnFin p e below s _ _ _ (s₁.setTop (mkF m 0 #[iv (0 : Int32), iv (2 : Int32), iv (2 : Int32)] []))
  refine own_go (fun t_ k_ => XS.iloadN X0.here hx rfl (hb hby d32_0) rfl k_) ?_
  show OwnFin p e below s _ _ _ (s₁.setTop (mkF m 1 #[iv (0 : Int32), iv (2 : Int32), iv (2 : Int32)] [(.int (0 : Int32))]))
  refine own_go (fun t_ k_ => XS.iloadN X0.here hx rfl (hb hby d32_1) rfl k_) ?_
  show OwnFin p e below s _ _ _ (s₁.setTop (mkF m 2 #[iv (0 : Int32), iv (2 : Int32), iv (2 : Int32)] [(.int (2 : Int32)), (.int (0 : Int32))]))
  refine own_go (fun t_ k_ => XS.iloadN X0.here hx rfl (hb hby d32_2) rfl k_) ?_
  show OwnFin p e below s _ _ _ (s₁.setTop (mkF m 3 #[iv (0 : Int32), iv (2 : Int32), iv (2 : Int32)] [(.int (2 : Int32)), (.int (2 : Int32)), (.int (0 : Int32))]))
  rcases ref_cases hfm with rfl | ⟨fo, rfl⟩
  · obtain ⟨T1, X1, e1, st1⟩ := getS2 X0 hx hZ hown (host := "") (Or.inl (hw _ (List.mem_of_getElem? (i := 146) rfl))) Via.refl e0 (S_fm.ext OL.2) (g := (mkF m 3 #[iv (0 : Int32), iv (2 : Int32), iv (2 : Int32)] [(.int (2 : Int32)), (.int (2 : Int32)), (.int (0 : Int32))])) rfl (hb hby d32_3)
    refine own_go st1 ?_
    show OwnFin p e below s _ _ _ (T1.setTop (mkF m 6 #[iv (0 : Int32), iv (2 : Int32), iv (2 : Int32)] [.null, (.int (2 : Int32)), (.int (2 : Int32)), (.int (0 : Int32))]))
    obtain ⟨v2, T2, L2, X2, hQ2, st2⟩ := own_callS X1 hx hZ (y := (⟨"jdk/internal/util/Preconditions", "checkFromToIndex", "(IIILjava/util/function/BiFunction;)I"⟩ : MethodName)) hown (hw _ (List.mem_of_getElem? (i := 148) rfl)) (hw _ (List.mem_of_getElem? (i := 149) rfl)) (hw _ (List.mem_of_getElem? (i := 147) rfl)) (hw _ (List.mem_of_getElem? (i := 150) rfl)) (by decide) (W := 0) (rm33_0 l Z a0 hw []  h0 n0 Z0) (by decide) (by decide) (g := (mkF m 6 #[iv (0 : Int32), iv (2 : Int32), iv (2 : Int32)] [.null, (.int (2 : Int32)), (.int (2 : Int32)), (.int (0 : Int32))])) rfl (by rw [hml]; rfl) (argsL := [(.int (0 : Int32)), (.int (2 : Int32)), (.int (2 : Int32)), .null]) (rest := []) (lenOf pd_32_23 rfl) rfl (by show 2 * 0 + _ ≤ _; exact Nat.le_of_eq rfl) (hb hby d32_6) e1 rfl (by decide) (by decide)
    obtain ⟨rfl, Nq2, e2⟩ := hQ2
    have N2 := Fr.app N0 Nq2
    refine own_go st2 ?_
    show OwnFin p e below s _ _ _ (T2.setTop (mkF m 9 #[iv (0 : Int32), iv (2 : Int32), iv (2 : Int32)] [(.int (0 : Int32))]))
    refine own_go (fun t_ k_ => XS.pop X2.here hx rfl (hb hby d32_9) rfl rfl k_) ?_
    show OwnFin p e below s _ _ _ (T2.setTop (mkF m 10 #[iv (0 : Int32), iv (2 : Int32), iv (2 : Int32)] []))
    refine own_ret X2 (v := none) hlk (fun _ => rfl) (fun fs hr => X2.returnOut hx hret (hb hby d32_10) hr) (by decide) (by decide) ?_
    rw [e2]
    exact ⟨rfl, N2, rfl⟩
  · obtain ⟨T3, X3, e3, st3⟩ := getS2 X0 hx hZ hown (host := "") (Or.inl (hw _ (List.mem_of_getElem? (i := 146) rfl))) Via.refl e0 (S_fm.ext OL.2) (g := (mkF m 3 #[iv (0 : Int32), iv (2 : Int32), iv (2 : Int32)] [(.int (2 : Int32)), (.int (2 : Int32)), (.int (0 : Int32))])) rfl (hb hby d32_3)
    refine own_go st3 ?_
    show OwnFin p e below s _ _ _ (T3.setTop (mkF m 6 #[iv (0 : Int32), iv (2 : Int32), iv (2 : Int32)] [(.ref fo), (.int (2 : Int32)), (.int (2 : Int32)), (.int (0 : Int32))]))
    obtain ⟨v4, T4, L4, X4, hQ4, st4⟩ := own_callS X3 hx hZ (y := (⟨"jdk/internal/util/Preconditions", "checkFromToIndex", "(IIILjava/util/function/BiFunction;)I"⟩ : MethodName)) hown (hw _ (List.mem_of_getElem? (i := 148) rfl)) (hw _ (List.mem_of_getElem? (i := 149) rfl)) (hw _ (List.mem_of_getElem? (i := 147) rfl)) (hw _ (List.mem_of_getElem? (i := 150) rfl)) (by decide) (W := 0) (rm33_1 l Z a0 hw [] fo h0 n0 Z0) (by decide) (by decide) (g := (mkF m 6 #[iv (0 : Int32), iv (2 : Int32), iv (2 : Int32)] [(.ref fo), (.int (2 : Int32)), (.int (2 : Int32)), (.int (0 : Int32))])) rfl (by rw [hml]; rfl) (argsL := [(.int (0 : Int32)), (.int (2 : Int32)), (.int (2 : Int32)), (.ref fo)]) (rest := []) (lenOf pd_32_23 rfl) rfl (by show 2 * 0 + _ ≤ _; exact Nat.le_of_eq rfl) (hb hby d32_6) e3 rfl (by decide) (by decide)
    obtain ⟨rfl, Nq4, e4⟩ := hQ4
    have N4 := Fr.app N0 Nq4
    refine own_go st4 ?_
    show OwnFin p e below s _ _ _ (T4.setTop (mkF m 9 #[iv (0 : Int32), iv (2 : Int32), iv (2 : Int32)] [(.int (0 : Int32))]))
    refine own_go (fun t_ k_ => XS.pop X4.here hx rfl (hb hby d32_9) rfl rfl k_) ?_
    show OwnFin p e below s _ _ _ (T4.setTop (mkF m 10 #[iv (0 : Int32), iv (2 : Int32), iv (2 : Int32)] []))
    refine own_ret X4 (v := none) hlk (fun _ => rfl) (fun fs hr => X4.returnOut hx hret (hb hby d32_10) hr) (by decide) (by decide) ?_
    rw [e4]
    exact ⟨rfl, N4, rfl⟩
theorem d30_0 : decode jdk_52_method_93_code 0 = .ok (.iload_n 0, 1) := by decide +kernel
theorem d30_1 : decode jdk_52_method_93_code 1 = .ok (.iload_n 1, 1) := by decide +kernel
theorem d30_2 : decode jdk_52_method_93_code 2 = .ok (.aload_n 2, 1) := by decide +kernel
theorem d30_3 : decode jdk_52_method_93_code 3 = .ok (.invokestatic 48, 3) := by decide +kernel
theorem d30_6 : decode jdk_52_method_93_code 6 = .ok (.invokestatic 241, 3) := by decide +kernel
theorem d30_9 : decode jdk_52_method_93_code 9 = .ok (.return_, 1) := by decide +kernel
theorem pn_30 : plainFor (⟨"java/lang/StringUTF16", "checkBoundsBeginEnd", "(II[B)V"⟩ : MethodName) = true := plainFor_of_name (by first | (simp [plainName, overriddenIn]; done) | decide +kernel)
theorem pd_30_21 : parseMethodDescriptor "([B)I" = some ⟨[(.array .byte)], some .int⟩ := by decide +kernel
theorem pd_30_22 : parseMethodDescriptor "(III)V" = some ⟨[.int, .int, .int], none⟩ := by decide +kernel
theorem ef_30 (m : MethodId) (bs : Addr) : entryFrame m #[(.int (0 : Int32)), (.int (2 : Int32)), (.ref bs)] 3 = mkF m 0 #[iv (0 : Int32), iv (2 : Int32), rv bs] [] := by first | (simp [entryFrame, mkF, argsToLocals, Value.category]; done) | rfl
set_option maxRecDepth 65536 in
set_option maxHeartbeats 40000000 in
theorem rm30 (l : Launch) (Z : State) (a0 : Array Value) (hw : ∀ d ∈ tables_1, d.before a0 Z = true) (ws : List Jvm.Cond) (bs : Addr) (f : Nat → Int32) (fm : Value) (h0 : Heap) (n0 : Nat) (Z0 : n0 ≤ h0.size) (V_bs : OwnArr Z h0 bs .byte 4 (fun k => .int (f k))) (hfm : fm.isRef = true) (S_fm : Sta Z Z.heap "jdk/internal/util/Preconditions" "SIOOBE_FORMATTER" "Ljava/util/function/BiFunction;" fm) (OL : Old Z n0 h0) :
    OwnCtr l Z (⟨"java/lang/StringUTF16", "checkBoundsBeginEnd", "(II[B)V"⟩ : MethodName) ws jdk_52_method_93_code 3 none ({ frames := 2, cells := 0, slots := 0, locals := 29 } : Room) #[(.int (0 : Int32)), (.int (2 : Int32)), (.ref bs)] h0 (fun v h L => v = none ∧ Fr n0 L ∧ h = h0) := by
  refine own_body (g0 := fun m => mkF m 0 #[iv (0 : Int32), iv (2 : Int32), rv bs] []) pn_30 (fun m => ef_30 m bs) ?_
  intro p e s m below meth c s₁ X0 hx hby hml hown hnm hZ e0 hret hlk
  have hml : c.maxLocals = 3 := hml
  have hown : s.vm.findClass "java/lang/StringUTF16" = some m.cls := hown
  have hnm : meth.name = "checkBoundsBeginEnd" := hnm
  have hret : meth.sig.returnType = none := hret
  have N0 := Fr.nil n0
  show OwnFin p e below s _ _ _ (s₁.setTop (mkF m 0 #[iv (0 : Int32), iv (2 : Int32), rv bs] []))
  refine own_go (fun t_ k_ => XS.iloadN X0.here hx rfl (hb hby d30_0) rfl k_) ?_
  show OwnFin p e below s _ _ _ (s₁.setTop (mkF m 1 #[iv (0 : Int32), iv (2 : Int32), rv bs] [(.int (0 : Int32))]))
  refine own_go (fun t_ k_ => XS.iloadN X0.here hx rfl (hb hby d30_1) rfl k_) ?_
  show OwnFin p e below s _ _ _ (s₁.setTop (mkF m 2 #[iv (0 : Int32), iv (2 : Int32), rv bs] [(.int (2 : Int32)), (.int (0 : Int32))]))
  refine own_go (fun t_ k_ => XS.aloadN X0.here hx rfl (hb hby d30_2) rfl rfl k_) ?_
  show OwnFin p e below s _ _ _ (s₁.setTop (mkF m 3 #[iv (0 : Int32), iv (2 : Int32), rv bs] [(.ref bs), (.int (2 : Int32)), (.int (0 : Int32))]))
  obtain ⟨v1, T1, L1, X1, hQ1, st1⟩ := own_callS X0 hx hZ (y := (⟨"java/lang/StringUTF16", "length", "([B)I"⟩ : MethodName)) hown (hw _ (List.mem_of_getElem? (i := 140) rfl)) (hw _ (List.mem_of_getElem? (i := 141) rfl)) (hw _ (List.mem_of_getElem? (i := 24) rfl)) (hw _ (List.mem_of_getElem? (i := 142) rfl)) (by decide) (W := 2) (rm31 l Z a0 hw [] bs _ h0 n0 Z0 V_bs) (by decide) (by decide) (g := (mkF m 3 #[iv (0 : Int32), iv (2 : Int32), rv bs] [(.ref bs), (.int (2 : Int32)), (.int (0 : Int32))])) rfl (by rw [hml]; rfl) (argsL := [(.ref bs)]) (rest := [(.int (2 : Int32)), (.int (0 : Int32))]) (lenOf pd_30_21 rfl) rfl (by show 2 * 0 + _ ≤ _; exact Nat.le_of_eq rfl) (hb hby d30_3) e0 rfl (by decide) (by decide)
  obtain ⟨rfl, Nq1, e1⟩ := hQ1
  have N1 := Fr.app N0 Nq1
  refine own_go st1 ?_
  show OwnFin p e below s _ _ _ (T1.setTop (mkF m 6 #[iv (0 : Int32), iv (2 : Int32), rv bs] [(.int (2 : Int32)), (.int (2 : Int32)), (.int (0 : Int32))]))
  obtain ⟨v2, T2, L2, X2, hQ2, st2⟩ := own_callS X1 hx hZ (y := (⟨"java/lang/String", "checkBoundsBeginEnd", "(III)V"⟩ : MethodName)) hown (hw _ (List.mem_of_getElem? (i := 143) rfl)) (hw _ (List.mem_of_getElem? (i := 144) rfl)) (hw _ (List.mem_of_getElem? (i := 10) rfl)) (hw _ (List.mem_of_getElem? (i := 145) rfl)) (by decide) (W := 0) (rm32 l Z a0 hw [] fm h0 n0 Z0 hfm S_fm OL) (by decide) (by decide) (g := (mkF m 6 #[iv (0 : Int32), iv (2 : Int32), rv bs] [(.int (2 : Int32)), (.int (2 : Int32)), (.int (0 : Int32))])) rfl (by rw [hml]; rfl) (argsL := [(.int (0 : Int32)), (.int (2 : Int32)), (.int (2 : Int32))]) (rest := []) (lenOf pd_30_22 rfl) rfl (by show 2 * 0 + _ ≤ _; exact Nat.le_of_eq rfl) (hb hby d30_6) e1 rfl (by decide) (by decide)
  obtain ⟨rfl, Nq2, e2⟩ := hQ2
  have N2 := Fr.app N1 Nq2
  refine own_go st2 ?_
  show OwnFin p e below s _ _ _ (T2.setTop (mkF m 9 #[iv (0 : Int32), iv (2 : Int32), rv bs] []))
  refine own_ret X2 (v := none) hlk (fun _ => rfl) (fun fs hr => X2.returnOut hx hret (hb hby d30_9) hr) (by decide) (by decide) ?_
  rw [e2]
  exact ⟨rfl, N2, rfl⟩
theorem d34_0 : decode jdk_52_method_48_code 0 = .ok (.iload_n 2, 1) := by decide +kernel
theorem d34_1 : decode jdk_52_method_48_code 1 = .ok (.istore 4, 2) := by decide +kernel
theorem d34_3 : decode jdk_52_method_48_code 3 = .ok (.iload 4, 2) := by decide +kernel
theorem d34_5 : decode jdk_52_method_48_code 5 = .ok (.iload_n 3, 1) := by decide +kernel
theorem d34_6 : decode jdk_52_method_48_code 6 = .ok (.if_icmp .ge 22, 3) := by decide +kernel
theorem d34_9 : decode jdk_52_method_48_code 9 = .ok (.aload_n 0, 1) := by decide +kernel
theorem d34_10 : decode jdk_52_method_48_code 10 = .ok (.iload 4, 2) := by decide +kernel
theorem d34_12 : decode jdk_52_method_48_code 12 = .ok (.invokestatic 71, 3) := by decide +kernel
theorem d34_15 : decode jdk_52_method_48_code 15 = .ok (.iload_n 1, 1) := by decide +kernel
theorem d34_16 : decode jdk_52_method_48_code 16 = .ok (.if_icmp .ne 6, 3) := by decide +kernel
theorem d34_19 : decode jdk_52_method_48_code 19 = .ok (.iload 4, 2) := by decide +kernel
theorem d34_21 : decode jdk_52_method_48_code 21 = .ok (.ireturn, 1) := by decide +kernel
theorem d34_22 : decode jdk_52_method_48_code 22 = .ok (.iinc 4 1, 3) := by decide +kernel
theorem d34_25 : decode jdk_52_method_48_code 25 = .ok (.goto (-22), 3) := by decide +kernel
theorem d34_28 : decode jdk_52_method_48_code 28 = .ok (.iconst (-1), 1) := by decide +kernel
theorem d34_29 : decode jdk_52_method_48_code 29 = .ok (.ireturn, 1) := by decide +kernel
theorem pn_34 : plainFor (⟨"java/lang/StringUTF16", "indexOfCharUnsafe", "([BIII)I"⟩ : MethodName) = true := plainFor_of_name (by first | (simp [plainName, overriddenIn]; done) | decide +kernel)
theorem pd_34_19 : parseMethodDescriptor "([BI)C" = some ⟨[(.array .byte), .int], some .char⟩ := by decide +kernel
theorem ef_34 (m : MethodId) (bs : Addr) (pc : Int32) : entryFrame m #[(.ref bs), (.int pc), (.int (0 : Int32)), (.int (2 : Int32))] 5 = mkF m 0 #[rv bs, iv pc, iv (0 : Int32), iv (2 : Int32), .unset] [] := by first | (simp [entryFrame, mkF, argsToLocals, Value.category]; done) | rfl
set_option maxRecDepth 65536 in
set_option maxHeartbeats 40000000 in
theorem rm34 (l : Launch) (Z : State) (a0 : Array Value) (hw : ∀ d ∈ tables_1, d.before a0 Z = true) (ws : List Jvm.Cond) (bs : Addr) (pc : Int32) (px : Int32) (py : Int32) (h0 : Heap) (n0 : Nat) (Z0 : n0 ≤ h0.size) (V_bs : OwnArr Z h0 bs .byte 4 (fun k => .int (own_four (own_b0 px) (own_b1 px) (own_b0 py) (own_b1 py) k))) (hc : own_ch pc) (hpx : own_ch px) (hpy : own_ch py) (S_as : Sta Z Z.heap "java/lang/StringUTF16" "$assertionsDisabled" "Z" (.int (1 : Int32))) (S_hi : Sta Z Z.heap "java/lang/StringUTF16" "HI_BYTE_SHIFT" "I" (.int (0 : Int32))) (S_lo : Sta Z Z.heap "java/lang/StringUTF16" "LO_BYTE_SHIFT" "I" (.int (8 : Int32))) (OL : Old Z n0 h0) :
    OwnCtr l Z (⟨"java/lang/StringUTF16", "indexOfCharUnsafe", "([BIII)I"⟩ : MethodName) ws jdk_52_method_48_code 5 (some .int) ({ frames := 1, cells := 0, slots := 0, locals := 13 } : Room) #[(.ref bs), (.int pc), (.int (0 : Int32)), (.int (2 : Int32))] h0 (fun v h L => v = some (.int (own_idx pc px py)) ∧ Fr n0 L ∧ h = h0) := by
  refine own_body (g0 := fun m => mkF m 0 #[rv bs, iv pc, iv (0 : Int32), iv (2 : Int32), .unset] []) pn_34 (fun m => ef_34 m bs pc) ?_
  intro p e s m below meth c s₁ X0 hx hby hml hown hnm hZ e0 hret hlk
  have hml : c.maxLocals = 5 := hml
  have hown : s.vm.findClass "java/lang/StringUTF16" = some m.cls := hown
  have hnm : meth.name = "indexOfCharUnsafe" := hnm
  have hret : meth.sig.returnType = (some .int) := hret
  have N0 := Fr.nil n0
  show OwnFin p e below s _ _ _ (s₁.setTop (mkF m 0 #[rv bs, iv pc, iv (0 : Int32), iv (2 : Int32), .unset] []))
  refine own_go (fun t_ k_ => XS.iloadN X0.here hx rfl (hb hby d34_0) rfl k_) ?_
  show OwnFin p e below s _ _ _ (s₁.setTop (mkF m 1 #[rv bs, iv pc, iv (0 : Int32), iv (2 : Int32), .unset] [(.int (0 : Int32))]))
  refine own_go (fun t_ k_ => XS.istore X0.here hx rfl (hb hby d34_1) rfl (l' := #[rv bs, iv pc, iv (0 : Int32), iv (2 : Int32), iv (0 : Int32)]) rfl k_) ?_
  show OwnFin p e below s _ _ _ (s₁.setTop (mkF m 3 #[rv bs, iv pc, iv (0 : Int32), iv (2 : Int32), iv (0 : Int32)] []))
  refine own_go (fun t_ k_ => XS.iload X0.here hx rfl (hb hby d34_3) rfl k_) ?_
  show OwnFin p e below s _ _ _ (s₁.setTop (mkF m 5 #[rv bs, iv pc, iv (0 : Int32), iv (2 : Int32), iv (0 : Int32)] [(.int (0 : Int32))]))
  refine own_go (fun t_ k_ => XS.iloadN X0.here hx rfl (hb hby d34_5) rfl k_) ?_
  show OwnFin p e below s _ _ _ (s₁.setTop (mkF m 6 #[rv bs, iv pc, iv (0 : Int32), iv (2 : Int32), iv (0 : Int32)] [(.int (2 : Int32)), (.int (0 : Int32))]))
  refine own_go (fun t_ k_ => XS.icmpNo X0.here hx rfl (hb hby d34_6) rfl (tlt (by decide)).2.1 k_) ?_
  show OwnFin p e below s _ _ _ (s₁.setTop (mkF m 9 #[rv bs, iv pc, iv (0 : Int32), iv (2 : Int32), iv (0 : Int32)] []))
  refine own_go (fun t_ k_ => XS.aloadN X0.here hx rfl (hb hby d34_9) rfl rfl k_) ?_
  show OwnFin p e below s _ _ _ (s₁.setTop (mkF m 10 #[rv bs, iv pc, iv (0 : Int32), iv (2 : Int32), iv (0 : Int32)] [(.ref bs)]))
  refine own_go (fun t_ k_ => XS.iload X0.here hx rfl (hb hby d34_10) rfl k_) ?_
  show OwnFin p e below s _ _ _ (s₁.setTop (mkF m 12 #[rv bs, iv pc, iv (0 : Int32), iv (2 : Int32), iv (0 : Int32)] [(.int (0 : Int32)), (.ref bs)]))
  obtain ⟨v1, T1, L1, X1, hQ1, st1⟩ := own_callS X0 hx hZ (y := (⟨"java/lang/StringUTF16", "getChar", "([BI)C"⟩ : MethodName)) hown (hw _ (List.mem_of_getElem? (i := 125) rfl)) (hw _ (List.mem_of_getElem? (i := 126) rfl)) (hw _ (List.mem_of_getElem? (i := 24) rfl)) (hw _ (List.mem_of_getElem? (i := 127) rfl)) (by decide) (W := 0) (rm27_0 l Z a0 hw [] bs (own_b0 px) (own_b1 px) (own_b0 py) (own_b1 py) h0 n0 Z0 V_bs S_as S_hi S_lo OL) (by decide) (by decide) (g := (mkF m 12 #[rv bs, iv pc, iv (0 : Int32), iv (2 : Int32), iv (0 : Int32)] [(.int (0 : Int32)), (.ref bs)])) rfl (by rw [hml]; rfl) (argsL := [(.ref bs), (.int (0 : Int32))]) (rest := []) (lenOf pd_34_19 rfl) rfl (by show 2 * 0 + _ ≤ _; exact Nat.le_of_eq rfl) (hb hby d34_12) e0 rfl (by decide) (by decide)
  obtain ⟨rfl, Nq1, e1⟩ := hQ1
  have N1 := Fr.app N0 Nq1
  refine own_go st1 ?_
  show OwnFin p e below s _ _ _ (T1.setTop (mkF m 15 #[rv bs, iv pc, iv (0 : Int32), iv (2 : Int32), iv (0 : Int32)] [(.int (own_gc (own_b0 px) (own_b1 px)))]))
  refine own_go (fun t_ k_ => XS.iloadN X1.here hx rfl (hb hby d34_15) rfl k_) ?_
  show OwnFin p e below s _ _ _ (T1.setTop (mkF m 16 #[rv bs, iv pc, iv (0 : Int32), iv (2 : Int32), iv (0 : Int32)] [(.int pc), (.int (own_gc (own_b0 px) (own_b1 px)))]))
  by_cases hc16 : (own_gc (own_b0 px) (own_b1 px)) = pc
  · refine own_go (fun t_ k_ => XS.icmpNo X1.here hx rfl (hb hby d34_16) rfl (teq hc16).2 k_) ?_
    show OwnFin p e below s _ _ _ (T1.setTop (mkF m 19 #[rv bs, iv pc, iv (0 : Int32), iv (2 : Int32), iv (0 : Int32)] []))
    refine own_go (fun t_ k_ => XS.iload X1.here hx rfl (hb hby d34_19) rfl k_) ?_
    show OwnFin p e below s _ _ _ (T1.setTop (mkF m 21 #[rv bs, iv pc, iv (0 : Int32), iv (2 : Int32), iv (0 : Int32)] [(.int (0 : Int32))]))
    refine own_ret X1 (v := some (.int (0 : Int32))) hlk (fun hh => by rw [hret] at hh; cases hh) (fun fs hr => own_retI X1 hx hret (hb hby d34_21) hr) (by decide) (by decide) ?_
    rw [e1]
    rw [own_gc_eq hpx] at hc16
    exact ⟨by simp [own_idx, hc16], N1, rfl⟩
  · refine own_go (fun t_ k_ => XS.icmpYes X1.here hx rfl (pc0 := 16) (pc' := 22) rfl (hb hby d34_16) rfl (feq hc16).2 (by decide) (by decide) k_) ?_
    show OwnFin p e below s _ _ _ (T1.setTop (mkF m 22 #[rv bs, iv pc, iv (0 : Int32), iv (2 : Int32), iv (0 : Int32)] []))
    refine own_go (fun t_ k_ => XS.iinc X1.here hx rfl (hb hby d34_22) rfl (l' := #[rv bs, iv pc, iv (0 : Int32), iv (2 : Int32), iv (1 : Int32)]) rfl k_) ?_
    show OwnFin p e below s _ _ _ (T1.setTop (mkF m 25 #[rv bs, iv pc, iv (0 : Int32), iv (2 : Int32), iv (1 : Int32)] []))
    refine own_go (fun t_ k_ => XS.goto X1.here hx rfl (pc0 := 25) (pc' := 3) rfl (hb hby d34_25) (by decide) (by decide) k_) ?_
    show OwnFin p e below s _ _ _ (T1.setTop (mkF m 3 #[rv bs, iv pc, iv (0 : Int32), iv (2 : Int32), iv (1 : Int32)] []))
    refine own_go (fun t_ k_ => XS.iload X1.here hx rfl (hb hby d34_3) rfl k_) ?_
    show OwnFin p e below s _ _ _ (T1.setTop (mkF m 5 #[rv bs, iv pc, iv (0 : Int32), iv (2 : Int32), iv (1 : Int32)] [(.int (1 : Int32))]))
    refine own_go (fun t_ k_ => XS.iloadN X1.here hx rfl (hb hby d34_5) rfl k_) ?_
    show OwnFin p e below s _ _ _ (T1.setTop (mkF m 6 #[rv bs, iv pc, iv (0 : Int32), iv (2 : Int32), iv (1 : Int32)] [(.int (2 : Int32)), (.int (1 : Int32))]))
    refine own_go (fun t_ k_ => XS.icmpNo X1.here hx rfl (hb hby d34_6) rfl (tlt (by decide)).2.1 k_) ?_
    show OwnFin p e below s _ _ _ (T1.setTop (mkF m 9 #[rv bs, iv pc, iv (0 : Int32), iv (2 : Int32), iv (1 : Int32)] []))
    refine own_go (fun t_ k_ => XS.aloadN X1.here hx rfl (hb hby d34_9) rfl rfl k_) ?_
    show OwnFin p e below s _ _ _ (T1.setTop (mkF m 10 #[rv bs, iv pc, iv (0 : Int32), iv (2 : Int32), iv (1 : Int32)] [(.ref bs)]))
    refine own_go (fun t_ k_ => XS.iload X1.here hx rfl (hb hby d34_10) rfl k_) ?_
    show OwnFin p e below s _ _ _ (T1.setTop (mkF m 12 #[rv bs, iv pc, iv (0 : Int32), iv (2 : Int32), iv (1 : Int32)] [(.int (1 : Int32)), (.ref bs)]))
    obtain ⟨v2, T2, L2, X2, hQ2, st2⟩ := own_callS X1 hx hZ (y := (⟨"java/lang/StringUTF16", "getChar", "([BI)C"⟩ : MethodName)) hown (hw _ (List.mem_of_getElem? (i := 125) rfl)) (hw _ (List.mem_of_getElem? (i := 126) rfl)) (hw _ (List.mem_of_getElem? (i := 24) rfl)) (hw _ (List.mem_of_getElem? (i := 127) rfl)) (by decide) (W := 0) (rm27_1 l Z a0 hw [] bs (own_b0 px) (own_b1 px) (own_b0 py) (own_b1 py) h0 n0 Z0 V_bs S_as S_hi S_lo OL) (by decide) (by decide) (g := (mkF m 12 #[rv bs, iv pc, iv (0 : Int32), iv (2 : Int32), iv (1 : Int32)] [(.int (1 : Int32)), (.ref bs)])) rfl (by rw [hml]; rfl) (argsL := [(.ref bs), (.int (1 : Int32))]) (rest := []) (lenOf pd_34_19 rfl) rfl (by show 2 * 0 + _ ≤ _; exact Nat.le_of_eq rfl) (hb hby d34_12) e1 rfl (by decide) (by decide)
    obtain ⟨rfl, Nq2, e2⟩ := hQ2
    have N2 := Fr.app N1 Nq2
    refine own_go st2 ?_
    show OwnFin p e below s _ _ _ (T2.setTop (mkF m 15 #[rv bs, iv pc, iv (0 : Int32), iv (2 : Int32), iv (1 : Int32)] [(.int (own_gc (own_b0 py) (own_b1 py)))]))
    refine own_go (fun t_ k_ => XS.iloadN X2.here hx rfl (hb hby d34_15) rfl k_) ?_
    show OwnFin p e below s _ _ _ (T2.setTop (mkF m 16 #[rv bs, iv pc, iv (0 : Int32), iv (2 : Int32), iv (1 : Int32)] [(.int pc), (.int (own_gc (own_b0 py) (own_b1 py)))]))
    by_cases hc16_1 : (own_gc (own_b0 py) (own_b1 py)) = pc
    · refine own_go (fun t_ k_ => XS.icmpNo X2.here hx rfl (hb hby d34_16) rfl (teq hc16_1).2 k_) ?_
      show OwnFin p e below s _ _ _ (T2.setTop (mkF m 19 #[rv bs, iv pc, iv (0 : Int32), iv (2 : Int32), iv (1 : Int32)] []))
      refine own_go (fun t_ k_ => XS.iload X2.here hx rfl (hb hby d34_19) rfl k_) ?_
      show OwnFin p e below s _ _ _ (T2.setTop (mkF m 21 #[rv bs, iv pc, iv (0 : Int32), iv (2 : Int32), iv (1 : Int32)] [(.int (1 : Int32))]))
      refine own_ret X2 (v := some (.int (1 : Int32))) hlk (fun hh => by rw [hret] at hh; cases hh) (fun fs hr => own_retI X2 hx hret (hb hby d34_21) hr) (by decide) (by decide) ?_
      rw [e2]
      rw [own_gc_eq hpx] at hc16
      rw [own_gc_eq hpy] at hc16_1
      exact ⟨by simp [own_idx, hc16, hc16_1], N2, rfl⟩
    · refine own_go (fun t_ k_ => XS.icmpYes X2.here hx rfl (pc0 := 16) (pc' := 22) rfl (hb hby d34_16) rfl (feq hc16_1).2 (by decide) (by decide) k_) ?_
      show OwnFin p e below s _ _ _ (T2.setTop (mkF m 22 #[rv bs, iv pc, iv (0 : Int32), iv (2 : Int32), iv (1 : Int32)] []))
      refine own_go (fun t_ k_ => XS.iinc X2.here hx rfl (hb hby d34_22) rfl (l' := #[rv bs, iv pc, iv (0 : Int32), iv (2 : Int32), iv (2 : Int32)]) rfl k_) ?_
      show OwnFin p e below s _ _ _ (T2.setTop (mkF m 25 #[rv bs, iv pc, iv (0 : Int32), iv (2 : Int32), iv (2 : Int32)] []))
      refine own_go (fun t_ k_ => XS.goto X2.here hx rfl (pc0 := 25) (pc' := 3) rfl (hb hby d34_25) (by decide) (by decide) k_) ?_
      show OwnFin p e below s _ _ _ (T2.setTop (mkF m 3 #[rv bs, iv pc, iv (0 : Int32), iv (2 : Int32), iv (2 : Int32)] []))
      refine own_go (fun t_ k_ => XS.iload X2.here hx rfl (hb hby d34_3) rfl k_) ?_
      show OwnFin p e below s _ _ _ (T2.setTop (mkF m 5 #[rv bs, iv pc, iv (0 : Int32), iv (2 : Int32), iv (2 : Int32)] [(.int (2 : Int32))]))
      refine own_go (fun t_ k_ => XS.iloadN X2.here hx rfl (hb hby d34_5) rfl k_) ?_
      show OwnFin p e below s _ _ _ (T2.setTop (mkF m 6 #[rv bs, iv pc, iv (0 : Int32), iv (2 : Int32), iv (2 : Int32)] [(.int (2 : Int32)), (.int (2 : Int32))]))
      refine own_go (fun t_ k_ => XS.icmpYes X2.here hx rfl (pc0 := 6) (pc' := 28) rfl (hb hby d34_6) rfl (flt (by decide)).2.1 (by decide) (by decide) k_) ?_
      show OwnFin p e below s _ _ _ (T2.setTop (mkF m 28 #[rv bs, iv pc, iv (0 : Int32), iv (2 : Int32), iv (2 : Int32)] []))
      refine own_go (fun t_ k_ => XS.iconst X2.here hx rfl (hb hby d34_28) k_) ?_
      show OwnFin p e below s _ _ _ (T2.setTop (mkF m 29 #[rv bs, iv pc, iv (0 : Int32), iv (2 : Int32), iv (2 : Int32)] [(.int (-1 : Int32))]))
      refine own_ret X2 (v := some (.int (-1 : Int32))) hlk (fun hh => by rw [hret] at hh; cases hh) (fun fs hr => own_retI X2 hx hret (hb hby d34_29) hr) (by decide) (by decide) ?_
      rw [e2]
      rw [own_gc_eq hpx] at hc16
      rw [own_gc_eq hpy] at hc16_1
      exact ⟨by simp [own_idx, hc16, hc16_1], N2, rfl⟩
theorem d29_0 : decode jdk_52_method_47_code 0 = .ok (.iload_n 2, 1) := by decide +kernel
theorem d29_1 : decode jdk_52_method_47_code 1 = .ok (.iload_n 3, 1) := by decide +kernel
theorem d29_2 : decode jdk_52_method_47_code 2 = .ok (.aload_n 0, 1) := by decide +kernel
theorem d29_3 : decode jdk_52_method_47_code 3 = .ok (.invokestatic 96, 3) := by decide +kernel
theorem d29_6 : decode jdk_52_method_47_code 6 = .ok (.aload_n 0, 1) := by decide +kernel
theorem d29_7 : decode jdk_52_method_47_code 7 = .ok (.iload_n 1, 1) := by decide +kernel
theorem d29_8 : decode jdk_52_method_47_code 8 = .ok (.iload_n 2, 1) := by decide +kernel
theorem d29_9 : decode jdk_52_method_47_code 9 = .ok (.iload_n 3, 1) := by decide +kernel
theorem d29_10 : decode jdk_52_method_47_code 10 = .ok (.invokestatic 244, 3) := by decide +kernel
theorem d29_13 : decode jdk_52_method_47_code 13 = .ok (.ireturn, 1) := by decide +kernel
theorem pn_29 : plainFor (⟨"java/lang/StringUTF16", "indexOfChar", "([BIII)I"⟩ : MethodName) = true := plainFor_of_name (by first | (simp [plainName, overriddenIn]; done) | decide +kernel)
theorem pd_29_20 : parseMethodDescriptor "(II[B)V" = some ⟨[.int, .int, (.array .byte)], none⟩ := by decide +kernel
theorem pd_29_15 : parseMethodDescriptor "([BIII)I" = some ⟨[(.array .byte), .int, .int, .int], some .int⟩ := by decide +kernel
theorem ef_29 (m : MethodId) (bs : Addr) (pc : Int32) : entryFrame m #[(.ref bs), (.int pc), (.int (0 : Int32)), (.int (2 : Int32))] 4 = mkF m 0 #[rv bs, iv pc, iv (0 : Int32), iv (2 : Int32)] [] := by first | (simp [entryFrame, mkF, argsToLocals, Value.category]; done) | rfl
set_option maxRecDepth 65536 in
set_option maxHeartbeats 40000000 in
theorem rm29 (l : Launch) (Z : State) (a0 : Array Value) (hw : ∀ d ∈ tables_1, d.before a0 Z = true) (ws : List Jvm.Cond) (bs : Addr) (pc : Int32) (px : Int32) (py : Int32) (fm : Value) (h0 : Heap) (n0 : Nat) (Z0 : n0 ≤ h0.size) (V_bs : OwnArr Z h0 bs .byte 4 (fun k => .int (own_four (own_b0 px) (own_b1 px) (own_b0 py) (own_b1 py) k))) (hc : own_ch pc) (hpx : own_ch px) (hpy : own_ch py) (hfm : fm.isRef = true) (S_as : Sta Z Z.heap "java/lang/StringUTF16" "$assertionsDisabled" "Z" (.int (1 : Int32))) (S_hi : Sta Z Z.heap "java/lang/StringUTF16" "HI_BYTE_SHIFT" "I" (.int (0 : Int32))) (S_lo : Sta Z Z.heap "java/lang/StringUTF16" "LO_BYTE_SHIFT" "I" (.int (8 : Int32))) (S_fm : Sta Z Z.heap "jdk/internal/util/Preconditions" "SIOOBE_FORMATTER" "Ljava/util/function/BiFunction;" fm) (OL : Old Z n0 h0) :
    OwnCtr l Z (⟨"java/lang/StringUTF16", "indexOfChar", "([BIII)I"⟩ : MethodName) ws jdk_52_method_47_code 4 (some .int) ({ frames := 3, cells := 0, slots := 0, locals := 43 } : Room) #[(.ref bs), (.int pc), (.int (0 : Int32)), (.int (2 : Int32))] h0 (fun v h L => v = some (.int (own_idx pc px py)) ∧ Fr n0 L ∧ h = h0) := by
  refine own_body (g0 := fun m => mkF m 0 #[rv bs, iv pc, iv (0 : Int32), iv (2 : Int32)] []) pn_29 (fun m => ef_29 m bs pc) ?_
  intro p e s m below meth c s₁ X0 hx hby hml hown hnm hZ e0 hret hlk
  have hml : c.maxLocals = 4 := hml
  have hown : s.vm.findClass "java/lang/StringUTF16" = some m.cls := hown
  have hnm : meth.name = "indexOfChar" := hnm
  have hret : meth.sig.returnType = (some .int) := hret
  have N0 := Fr.nil n0
  show OwnFin p e below s _ _ _ (s₁.setTop (mkF m 0 #[rv bs, iv pc, iv (0 : Int32), iv (2 : Int32)] []))
  refine own_go (fun t_ k_ => XS.iloadN X0.here hx rfl (hb hby d29_0) rfl k_) ?_
  show OwnFin p e below s _ _ _ (s₁.setTop (mkF m 1 #[rv bs, iv pc, iv (0 : Int32), iv (2 : Int32)] [(.int (0 : Int32))]))
  refine own_go (fun t_ k_ => XS.iloadN X0.here hx rfl (hb hby d29_1) rfl k_) ?_
  show OwnFin p e below s _ _ _ (s₁.setTop (mkF m 2 #[rv bs, iv pc, iv (0 : Int32), iv (2 : Int32)] [(.int (2 : Int32)), (.int (0 : Int32))]))
  refine own_go (fun t_ k_ => XS.aloadN X0.here hx rfl (hb hby d29_2) rfl rfl k_) ?_
  show OwnFin p e below s _ _ _ (s₁.setTop (mkF m 3 #[rv bs, iv pc, iv (0 : Int32), iv (2 : Int32)] [(.ref bs), (.int (2 : Int32)), (.int (0 : Int32))]))
  obtain ⟨v1, T1, L1, X1, hQ1, st1⟩ := own_callS X0 hx hZ (y := (⟨"java/lang/StringUTF16", "checkBoundsBeginEnd", "(II[B)V"⟩ : MethodName)) hown (hw _ (List.mem_of_getElem? (i := 137) rfl)) (hw _ (List.mem_of_getElem? (i := 138) rfl)) (hw _ (List.mem_of_getElem? (i := 24) rfl)) (hw _ (List.mem_of_getElem? (i := 139) rfl)) (by decide) (W := 0) (rm30 l Z a0 hw [] bs _ fm h0 n0 Z0 V_bs hfm S_fm OL) (by decide) (by decide) (g := (mkF m 3 #[rv bs, iv pc, iv (0 : Int32), iv (2 : Int32)] [(.ref bs), (.int (2 : Int32)), (.int (0 : Int32))])) rfl (by rw [hml]; rfl) (argsL := [(.int (0 : Int32)), (.int (2 : Int32)), (.ref bs)]) (rest := []) (lenOf pd_29_20 rfl) rfl (by show 2 * 0 + _ ≤ _; exact Nat.le_of_eq rfl) (hb hby d29_3) e0 rfl (by decide) (by decide)
  obtain ⟨rfl, Nq1, e1⟩ := hQ1
  have N1 := Fr.app N0 Nq1
  refine own_go st1 ?_
  show OwnFin p e below s _ _ _ (T1.setTop (mkF m 6 #[rv bs, iv pc, iv (0 : Int32), iv (2 : Int32)] []))
  refine own_go (fun t_ k_ => XS.aloadN X1.here hx rfl (hb hby d29_6) rfl rfl k_) ?_
  show OwnFin p e below s _ _ _ (T1.setTop (mkF m 7 #[rv bs, iv pc, iv (0 : Int32), iv (2 : Int32)] [(.ref bs)]))
  refine own_go (fun t_ k_ => XS.iloadN X1.here hx rfl (hb hby d29_7) rfl k_) ?_
  show OwnFin p e below s _ _ _ (T1.setTop (mkF m 8 #[rv bs, iv pc, iv (0 : Int32), iv (2 : Int32)] [(.int pc), (.ref bs)]))
  refine own_go (fun t_ k_ => XS.iloadN X1.here hx rfl (hb hby d29_8) rfl k_) ?_
  show OwnFin p e below s _ _ _ (T1.setTop (mkF m 9 #[rv bs, iv pc, iv (0 : Int32), iv (2 : Int32)] [(.int (0 : Int32)), (.int pc), (.ref bs)]))
  refine own_go (fun t_ k_ => XS.iloadN X1.here hx rfl (hb hby d29_9) rfl k_) ?_
  show OwnFin p e below s _ _ _ (T1.setTop (mkF m 10 #[rv bs, iv pc, iv (0 : Int32), iv (2 : Int32)] [(.int (2 : Int32)), (.int (0 : Int32)), (.int pc), (.ref bs)]))
  obtain ⟨v2, T2, L2, X2, hQ2, st2⟩ := own_callS X1 hx hZ (y := (⟨"java/lang/StringUTF16", "indexOfCharUnsafe", "([BIII)I"⟩ : MethodName)) hown (hw _ (List.mem_of_getElem? (i := 151) rfl)) (hw _ (List.mem_of_getElem? (i := 152) rfl)) (hw _ (List.mem_of_getElem? (i := 24) rfl)) (hw _ (List.mem_of_getElem? (i := 153) rfl)) (by decide) (W := 0) (rm34 l Z a0 hw [] bs pc px py h0 n0 Z0 V_bs hc hpx hpy S_as S_hi S_lo OL) (by decide) (by decide) (g := (mkF m 10 #[rv bs, iv pc, iv (0 : Int32), iv (2 : Int32)] [(.int (2 : Int32)), (.int (0 : Int32)), (.int pc), (.ref bs)])) rfl (by rw [hml]; rfl) (argsL := [(.ref bs), (.int pc), (.int (0 : Int32)), (.int (2 : Int32))]) (rest := []) (lenOf pd_29_15 rfl) rfl (by show 2 * 0 + _ ≤ _; exact Nat.le_of_eq rfl) (hb hby d29_10) e1 rfl (by decide) (by decide)
  obtain ⟨rfl, Nq2, e2⟩ := hQ2
  have N2 := Fr.app N1 Nq2
  refine own_go st2 ?_
  show OwnFin p e below s _ _ _ (T2.setTop (mkF m 13 #[rv bs, iv pc, iv (0 : Int32), iv (2 : Int32)] [(.int (own_idx pc px py))]))
  refine own_ret X2 (v := some (.int (own_idx pc px py))) hlk (fun hh => by rw [hret] at hh; cases hh) (fun fs hr => own_retI X2 hx hret (hb hby d29_13) hr) (by decide) (by decide) ?_
  rw [e2]
  exact ⟨rfl, N2, rfl⟩
theorem d28_0 : decode jdk_52_method_40_code 0 = .ok (.iload_n 2, 1) := by decide +kernel
theorem d28_1 : decode jdk_52_method_40_code 1 = .ok (.iconst 0, 1) := by decide +kernel
theorem d28_2 : decode jdk_52_method_40_code 2 = .ok (.invokestatic 224, 3) := by decide +kernel
theorem d28_5 : decode jdk_52_method_40_code 5 = .ok (.istore_n 2, 1) := by decide +kernel
theorem d28_6 : decode jdk_52_method_40_code 6 = .ok (.iload_n 3, 1) := by decide +kernel
theorem d28_7 : decode jdk_52_method_40_code 7 = .ok (.aload_n 0, 1) := by decide +kernel
theorem d28_8 : decode jdk_52_method_40_code 8 = .ok (.arraylength, 1) := by decide +kernel
theorem d28_9 : decode jdk_52_method_40_code 9 = .ok (.iconst 1, 1) := by decide +kernel
theorem d28_10 : decode jdk_52_method_40_code 10 = .ok (.ishr, 1) := by decide +kernel
theorem d28_11 : decode jdk_52_method_40_code 11 = .ok (.invokestatic 183, 3) := by decide +kernel
theorem d28_14 : decode jdk_52_method_40_code 14 = .ok (.istore_n 3, 1) := by decide +kernel
theorem d28_15 : decode jdk_52_method_40_code 15 = .ok (.iload_n 2, 1) := by decide +kernel
theorem d28_16 : decode jdk_52_method_40_code 16 = .ok (.iload_n 3, 1) := by decide +kernel
theorem d28_17 : decode jdk_52_method_40_code 17 = .ok (.if_icmp .lt 5, 3) := by decide +kernel
theorem d28_22 : decode jdk_52_method_40_code 22 = .ok (.iload_n 1, 1) := by decide +kernel
theorem d28_23 : decode jdk_52_method_40_code 23 = .ok (.ldc 227, 2) := by decide +kernel
theorem d28_25 : decode jdk_52_method_40_code 25 = .ok (.if_icmp .ge 11, 3) := by decide +kernel
theorem d28_28 : decode jdk_52_method_40_code 28 = .ok (.aload_n 0, 1) := by decide +kernel
theorem d28_29 : decode jdk_52_method_40_code 29 = .ok (.iload_n 1, 1) := by decide +kernel
theorem d28_30 : decode jdk_52_method_40_code 30 = .ok (.iload_n 2, 1) := by decide +kernel
theorem d28_31 : decode jdk_52_method_40_code 31 = .ok (.iload_n 3, 1) := by decide +kernel
theorem d28_32 : decode jdk_52_method_40_code 32 = .ok (.invokestatic 228, 3) := by decide +kernel
theorem d28_35 : decode jdk_52_method_40_code 35 = .ok (.ireturn, 1) := by decide +kernel
theorem pn_28 : plainFor (⟨"java/lang/StringUTF16", "indexOf", "([BIII)I"⟩ : MethodName) = true := plainFor_of_name (by first | (simp [plainName, overriddenIn]; done) | decide +kernel)
theorem pd_28_11 : parseMethodDescriptor "(II)I" = some ⟨[.int, .int], some .int⟩ := by decide +kernel
theorem pd_28_15 : parseMethodDescriptor "([BIII)I" = some ⟨[(.array .byte), .int, .int, .int], some .int⟩ := by decide +kernel
theorem ef_28 (m : MethodId) (bs : Addr) (pc : Int32) : entryFrame m #[(.ref bs), (.int pc), (.int (0 : Int32)), (.int (2 : Int32))] 4 = mkF m 0 #[rv bs, iv pc, iv (0 : Int32), iv (2 : Int32)] [] := by first | (simp [entryFrame, mkF, argsToLocals, Value.category]; done) | rfl
set_option maxRecDepth 65536 in
set_option maxHeartbeats 40000000 in
theorem rm28 (l : Launch) (Z : State) (a0 : Array Value) (hw : ∀ d ∈ tables_1, d.before a0 Z = true) (ws : List Jvm.Cond) (bs : Addr) (pc : Int32) (px : Int32) (py : Int32) (fm : Value) (h0 : Heap) (n0 : Nat) (Z0 : n0 ≤ h0.size) (V_bs : OwnArr Z h0 bs .byte 4 (fun k => .int (own_four (own_b0 px) (own_b1 px) (own_b0 py) (own_b1 py) k))) (hc : own_ch pc) (hpx : own_ch px) (hpy : own_ch py) (hfm : fm.isRef = true) (S_as : Sta Z Z.heap "java/lang/StringUTF16" "$assertionsDisabled" "Z" (.int (1 : Int32))) (S_hi : Sta Z Z.heap "java/lang/StringUTF16" "HI_BYTE_SHIFT" "I" (.int (0 : Int32))) (S_lo : Sta Z Z.heap "java/lang/StringUTF16" "LO_BYTE_SHIFT" "I" (.int (8 : Int32))) (S_fm : Sta Z Z.heap "jdk/internal/util/Preconditions" "SIOOBE_FORMATTER" "Ljava/util/function/BiFunction;" fm) (OL : Old Z n0 h0) :
    OwnCtr l Z (⟨"java/lang/StringUTF16", "indexOf", "([BIII)I"⟩ : MethodName) ws jdk_52_method_40_code 4 (some .int) ({ frames := 4, cells := 0, slots := 0, locals := 58 } : Room) #[(.ref bs), (.int pc), (.int (0 : Int32)), (.int (2 : Int32))] h0 (fun v h L => v = some (.int (own_idx pc px py)) ∧ Fr n0 L ∧ h = h0) := by
  refine own_body (g0 := fun m => mkF m 0 #[rv bs, iv pc, iv (0 : Int32), iv (2 : Int32)] []) pn_28 (fun m => ef_28 m bs pc) ?_
  intro p e s m below meth c s₁ X0 hx hby hml hown hnm hZ e0 hret hlk
  have hml : c.maxLocals = 4 := hml
  have hown : s.vm.findClass "java/lang/StringUTF16" = some m.cls := hown
  have hnm : meth.name = "indexOf" := hnm
  have hret : meth.sig.returnType = (some .int) := hret
  have N0 := Fr.nil n0
  show OwnFin p e below s _ _ _ (s₁.setTop (mkF m 0 #[rv bs, iv pc, iv (0 : Int32), iv (2 : Int32)] []))
  refine own_go (fun t_ k_ => XS.iloadN X0.here hx rfl (hb hby d28_0) rfl k_) ?_
  show OwnFin p e below s _ _ _ (s₁.setTop (mkF m 1 #[rv bs, iv pc, iv (0 : Int32), iv (2 : Int32)] [(.int (0 : Int32))]))
  refine own_go (fun t_ k_ => XS.iconst X0.here hx rfl (hb hby d28_1) k_) ?_
  show OwnFin p e below s _ _ _ (s₁.setTop (mkF m 2 #[rv bs, iv pc, iv (0 : Int32), iv (2 : Int32)] [(.int (0 : Int32)), (.int (0 : Int32))]))
  obtain ⟨v1, T1, L1, X1, hQ1, st1⟩ := own_callS X0 hx hZ (y := (⟨"java/lang/Math", "max", "(II)I"⟩ : MethodName)) hown (hw _ (List.mem_of_getElem? (i := 131) rfl)) (hw _ (List.mem_of_getElem? (i := 88) rfl)) (hw _ (List.mem_of_getElem? (i := 89) rfl)) (hw _ (List.mem_of_getElem? (i := 90) rfl)) (by decide) (W := 0) (rm18 l Z a0 hw [] (0 : Int32) (0 : Int32) h0 n0 Z0) (by decide) (by decide) (g := (mkF m 2 #[rv bs, iv pc, iv (0 : Int32), iv (2 : Int32)] [(.int (0 : Int32)), (.int (0 : Int32))])) rfl (by rw [hml]; rfl) (argsL := [(.int (0 : Int32)), (.int (0 : Int32))]) (rest := []) (lenOf pd_28_11 rfl) rfl (by show 2 * 0 + _ ≤ _; exact Nat.le_of_eq rfl) (hb hby d28_2) e0 rfl (by decide) (by decide)
  obtain ⟨rfl, Nq1, e1⟩ := hQ1
  have N1 := Fr.app N0 Nq1
  refine own_go st1 ?_
  show OwnFin p e below s _ _ _ (T1.setTop (mkF m 5 #[rv bs, iv pc, iv (0 : Int32), iv (2 : Int32)] [(.int (0 : Int32))]))
  refine own_go (fun t_ k_ => XS.istoreN X1.here hx rfl (hb hby d28_5) rfl (l' := #[rv bs, iv pc, iv (0 : Int32), iv (2 : Int32)]) rfl k_) ?_
  show OwnFin p e below s _ _ _ (T1.setTop (mkF m 6 #[rv bs, iv pc, iv (0 : Int32), iv (2 : Int32)] []))
  refine own_go (fun t_ k_ => XS.iloadN X1.here hx rfl (hb hby d28_6) rfl k_) ?_
  show OwnFin p e below s _ _ _ (T1.setTop (mkF m 7 #[rv bs, iv pc, iv (0 : Int32), iv (2 : Int32)] [(.int (2 : Int32))]))
  refine own_go (fun t_ k_ => XS.aloadN X1.here hx rfl (hb hby d28_7) rfl rfl k_) ?_
  show OwnFin p e below s _ _ _ (T1.setTop (mkF m 8 #[rv bs, iv pc, iv (0 : Int32), iv (2 : Int32)] [(.ref bs), (.int (2 : Int32))]))
  refine own_go (own_alength X1 hx hZ e1 V_bs (g := (mkF m 8 #[rv bs, iv pc, iv (0 : Int32), iv (2 : Int32)] [(.ref bs), (.int (2 : Int32))])) rfl rfl (hb hby d28_8)) ?_
  show OwnFin p e below s _ _ _ (T1.setTop (mkF m 9 #[rv bs, iv pc, iv (0 : Int32), iv (2 : Int32)] [(.int (4 : Int32)), (.int (2 : Int32))]))
  refine own_go (fun t_ k_ => XS.iconst X1.here hx rfl (hb hby d28_9) k_) ?_
  show OwnFin p e below s _ _ _ (T1.setTop (mkF m 10 #[rv bs, iv pc, iv (0 : Int32), iv (2 : Int32)] [(.int (1 : Int32)), (.int (4 : Int32)), (.int (2 : Int32))]))
  refine own_go (fun t_ k_ => XS.ishr X1.here hx rfl (hb hby d28_10) rfl k_) ?_
  show OwnFin p e below s _ _ _ (T1.setTop (mkF m 11 #[rv bs, iv pc, iv (0 : Int32), iv (2 : Int32)] [(.int (2 : Int32)), (.int (2 : Int32))]))
  obtain ⟨v2, T2, L2, X2, hQ2, st2⟩ := own_callS X1 hx hZ (y := (⟨"java/lang/Math", "min", "(II)I"⟩ : MethodName)) hown (hw _ (List.mem_of_getElem? (i := 132) rfl)) (hw _ (List.mem_of_getElem? (i := 92) rfl)) (hw _ (List.mem_of_getElem? (i := 89) rfl)) (hw _ (List.mem_of_getElem? (i := 93) rfl)) (by decide) (W := 0) (rm19 l Z a0 hw [] (2 : Int32) (2 : Int32) h0 n0 Z0) (by decide) (by decide) (g := (mkF m 11 #[rv bs, iv pc, iv (0 : Int32), iv (2 : Int32)] [(.int (2 : Int32)), (.int (2 : Int32))])) rfl (by rw [hml]; rfl) (argsL := [(.int (2 : Int32)), (.int (2 : Int32))]) (rest := []) (lenOf pd_28_11 rfl) rfl (by show 2 * 0 + _ ≤ _; exact Nat.le_of_eq rfl) (hb hby d28_11) e1 rfl (by decide) (by decide)
  obtain ⟨rfl, Nq2, e2⟩ := hQ2
  have N2 := Fr.app N1 Nq2
  refine own_go st2 ?_
  show OwnFin p e below s _ _ _ (T2.setTop (mkF m 14 #[rv bs, iv pc, iv (0 : Int32), iv (2 : Int32)] [(.int (2 : Int32))]))
  refine own_go (fun t_ k_ => XS.istoreN X2.here hx rfl (hb hby d28_14) rfl (l' := #[rv bs, iv pc, iv (0 : Int32), iv (2 : Int32)]) rfl k_) ?_
  show OwnFin p e below s _ _ _ (T2.setTop (mkF m 15 #[rv bs, iv pc, iv (0 : Int32), iv (2 : Int32)] []))
  refine own_go (fun t_ k_ => XS.iloadN X2.here hx rfl (hb hby d28_15) rfl k_) ?_
  show OwnFin p e below s _ _ _ (T2.setTop (mkF m 16 #[rv bs, iv pc, iv (0 : Int32), iv (2 : Int32)] [(.int (0 : Int32))]))
  refine own_go (fun t_ k_ => XS.iloadN X2.here hx rfl (hb hby d28_16) rfl k_) ?_
  show OwnFin p e below s _ _ _ (T2.setTop (mkF m 17 #[rv bs, iv pc, iv (0 : Int32), iv (2 : Int32)] [(.int (2 : Int32)), (.int (0 : Int32))]))
  refine own_go (fun t_ k_ => XS.icmpYes X2.here hx rfl (pc0 := 17) (pc' := 22) rfl (hb hby d28_17) rfl (tlt (by decide)).1 (by decide) (by decide) k_) ?_
  show OwnFin p e below s _ _ _ (T2.setTop (mkF m 22 #[rv bs, iv pc, iv (0 : Int32), iv (2 : Int32)] []))
  refine own_go (fun t_ k_ => XS.iloadN X2.here hx rfl (hb hby d28_22) rfl k_) ?_
  show OwnFin p e below s _ _ _ (T2.setTop (mkF m 23 #[rv bs, iv pc, iv (0 : Int32), iv (2 : Int32)] [(.int pc)]))
  refine own_go (X2.ldcInt hx hown (mvT hZ (hw _ (List.mem_of_getElem? (i := 133) rfl))) (g := (mkF m 23 #[rv bs, iv pc, iv (0 : Int32), iv (2 : Int32)] [(.int pc)])) rfl (hb hby d28_23)) ?_
  show OwnFin p e below s _ _ _ (T2.setTop (mkF m 25 #[rv bs, iv pc, iv (0 : Int32), iv (2 : Int32)] [(.int (65536 : Int32)), (.int pc)]))
  have hc25 : pc < (65536 : Int32) := by rw [Int32.lt_iff_toInt_lt]; have hl1 := hc.2; have e : (65536 : Int32).toInt = 65536 := (by decide); omega
  refine own_go (fun t_ k_ => XS.icmpNo X2.here hx rfl (hb hby d28_25) rfl (tlt hc25).2.1 k_) ?_
  show OwnFin p e below s _ _ _ (T2.setTop (mkF m 28 #[rv bs, iv pc, iv (0 : Int32), iv (2 : Int32)] []))
  refine own_go (fun t_ k_ => XS.aloadN X2.here hx rfl (hb hby d28_28) rfl rfl k_) ?_
  show OwnFin p e below s _ _ _ (T2.setTop (mkF m 29 #[rv bs, iv pc, iv (0 : Int32), iv (2 : Int32)] [(.ref bs)]))
  refine own_go (fun t_ k_ => XS.iloadN X2.here hx rfl (hb hby d28_29) rfl k_) ?_
  show OwnFin p e below s _ _ _ (T2.setTop (mkF m 30 #[rv bs, iv pc, iv (0 : Int32), iv (2 : Int32)] [(.int pc), (.ref bs)]))
  refine own_go (fun t_ k_ => XS.iloadN X2.here hx rfl (hb hby d28_30) rfl k_) ?_
  show OwnFin p e below s _ _ _ (T2.setTop (mkF m 31 #[rv bs, iv pc, iv (0 : Int32), iv (2 : Int32)] [(.int (0 : Int32)), (.int pc), (.ref bs)]))
  refine own_go (fun t_ k_ => XS.iloadN X2.here hx rfl (hb hby d28_31) rfl k_) ?_
  show OwnFin p e below s _ _ _ (T2.setTop (mkF m 32 #[rv bs, iv pc, iv (0 : Int32), iv (2 : Int32)] [(.int (2 : Int32)), (.int (0 : Int32)), (.int pc), (.ref bs)]))
  obtain ⟨v3, T3, L3, X3, hQ3, st3⟩ := own_callS X2 hx hZ (y := (⟨"java/lang/StringUTF16", "indexOfChar", "([BIII)I"⟩ : MethodName)) hown (hw _ (List.mem_of_getElem? (i := 134) rfl)) (hw _ (List.mem_of_getElem? (i := 135) rfl)) (hw _ (List.mem_of_getElem? (i := 24) rfl)) (hw _ (List.mem_of_getElem? (i := 136) rfl)) (by decide) (W := 0) (rm29 l Z a0 hw [] bs pc px py fm h0 n0 Z0 V_bs hc hpx hpy hfm S_as S_hi S_lo S_fm OL) (by decide) (by decide) (g := (mkF m 32 #[rv bs, iv pc, iv (0 : Int32), iv (2 : Int32)] [(.int (2 : Int32)), (.int (0 : Int32)), (.int pc), (.ref bs)])) rfl (by rw [hml]; rfl) (argsL := [(.ref bs), (.int pc), (.int (0 : Int32)), (.int (2 : Int32))]) (rest := []) (lenOf pd_28_15 rfl) rfl (by show 2 * 0 + _ ≤ _; exact Nat.le_of_eq rfl) (hb hby d28_32) e2 rfl (by decide) (by decide)
  obtain ⟨rfl, Nq3, e3⟩ := hQ3
  have N3 := Fr.app N2 Nq3
  refine own_go st3 ?_
  show OwnFin p e below s _ _ _ (T3.setTop (mkF m 35 #[rv bs, iv pc, iv (0 : Int32), iv (2 : Int32)] [(.int (own_idx pc px py))]))
  refine own_ret X3 (v := some (.int (own_idx pc px py))) hlk (fun hh => by rw [hret] at hh; cases hh) (fun fs hr => own_retI X3 hx hret (hb hby d28_35) hr) (by decide) (by decide) ?_
  rw [e3]
  exact ⟨rfl, N3, rfl⟩
theorem d12_0 : decode jdk_42_method_80_code 0 = .ok (.aload_n 0, 1) := by decide +kernel
theorem d12_1 : decode jdk_42_method_80_code 1 = .ok (.invokevirtual 492, 3) := by decide +kernel
theorem d12_4 : decode jdk_42_method_80_code 4 = .ok (.ifCond .eq 19, 3) := by decide +kernel
theorem d12_7 : decode jdk_42_method_80_code 7 = .ok (.aload_n 0, 1) := by decide +kernel
theorem d12_8 : decode jdk_42_method_80_code 8 = .ok (.getfield 9, 3) := by decide +kernel
theorem d12_11 : decode jdk_42_method_80_code 11 = .ok (.iload_n 1, 1) := by decide +kernel
theorem d12_12 : decode jdk_42_method_80_code 12 = .ok (.iload_n 2, 1) := by decide +kernel
theorem d12_13 : decode jdk_42_method_80_code 13 = .ok (.aload_n 0, 1) := by decide +kernel
theorem d12_14 : decode jdk_42_method_80_code 14 = .ok (.invokevirtual 505, 3) := by decide +kernel
theorem d12_17 : decode jdk_42_method_80_code 17 = .ok (.invokestatic 637, 3) := by decide +kernel
theorem d12_20 : decode jdk_42_method_80_code 20 = .ok (.goto 16, 3) := by decide +kernel
theorem d12_23 : decode jdk_42_method_80_code 23 = .ok (.aload_n 0, 1) := by decide +kernel
theorem d12_24 : decode jdk_42_method_80_code 24 = .ok (.getfield 9, 3) := by decide +kernel
theorem d12_27 : decode jdk_42_method_80_code 27 = .ok (.iload_n 1, 1) := by decide +kernel
theorem d12_28 : decode jdk_42_method_80_code 28 = .ok (.iload_n 2, 1) := by decide +kernel
theorem d12_29 : decode jdk_42_method_80_code 29 = .ok (.aload_n 0, 1) := by decide +kernel
theorem d12_30 : decode jdk_42_method_80_code 30 = .ok (.invokevirtual 505, 3) := by decide +kernel
theorem d12_33 : decode jdk_42_method_80_code 33 = .ok (.invokestatic 640, 3) := by decide +kernel
theorem d12_36 : decode jdk_42_method_80_code 36 = .ok (.ireturn, 1) := by decide +kernel
theorem pn_12 : plainFor (⟨"java/lang/String", "indexOf", "(II)I"⟩ : MethodName) = true := plainFor_of_name (by first | (simp [plainName, overriddenIn]; done) | decide +kernel)
theorem pd_12_12 : parseMethodDescriptor "()Z" = some ⟨[], some .boolean⟩ := by decide +kernel
theorem pd_12_13 : parseMethodDescriptor "()I" = some ⟨[], some .int⟩ := by decide +kernel
theorem pd_12_15 : parseMethodDescriptor "([BIII)I" = some ⟨[(.array .byte), .int, .int, .int], some .int⟩ := by decide +kernel
theorem ef_12 (m : MethodId) (a1 : Addr) (p2 : Int32) (p3 : Int32) : entryFrame m #[(.ref a1), (.int p2), (.int p3)] 3 = mkF m 0 #[rv a1, iv p2, iv p3] [] := by first | (simp [entryFrame, mkF, argsToLocals, Value.category]; done) | rfl
theorem ef_12_L (m : MethodId) (so : Addr) (pc : Int32) : entryFrame m #[(.ref so), (.int pc), (.int (0 : Int32))] 3 = mkF m 0 #[rv so, iv pc, iv (0 : Int32)] [] := by first | (simp [entryFrame, mkF, argsToLocals, Value.category]; done) | rfl
set_option maxRecDepth 65536 in
set_option maxHeartbeats 40000000 in
theorem rm12_L (l : Launch) (Z : State) (a0 : Array Value) (hw : ∀ d ∈ tables_1, d.before a0 Z = true) (ws : List Jvm.Cond) (so : Addr) (pc : Int32) (bs : Addr) (px : Int32) (py : Int32) (zc : Int32) (h0 : Heap) (n0 : Nat) (Z0 : n0 ≤ h0.size) (E_so : Exa Z h0 so "java/lang/String") (F_value : Fld Z h0 so "java/lang/String" "value" "[B" (.ref bs)) (F_coder : Fld Z h0 so "java/lang/String" "coder" "B" (.int (0 : Int32))) (V_bs : OwnArr Z h0 bs .byte 2 (fun k => .int (own_two (own_lb px) (own_lb py) k))) (hc : own_ch pc) (hpx : own_ch px) (hpy : own_ch py) (hl1 : ¬ (255 : Int32) < px) (hl2 : ¬ (255 : Int32) < py) (hzc : ¬ zc = (0 : Int32)) (S_cs : Sta Z Z.heap "java/lang/String" "COMPACT_STRINGS" "Z" (.int zc)) (OL : Old Z n0 h0) :
    OwnCtr l Z (⟨"java/lang/String", "indexOf", "(II)I"⟩ : MethodName) ws jdk_42_method_80_code 3 (some .int) ({ frames := 2, cells := 0, slots := 0, locals := 32 } : Room) #[(.ref so), (.int pc), (.int (0 : Int32))] h0 (fun v h L => v = some (.int (own_idx pc px py)) ∧ Fr n0 L ∧ h = h0) := by
  refine own_body (g0 := fun m => mkF m 0 #[rv so, iv pc, iv (0 : Int32)] []) pn_12 (fun m => ef_12_L m so pc) ?_
  intro p e s m below meth c s₁ X0 hx hby hml hown hnm hZ e0 hret hlk
  have hml : c.maxLocals = 3 := hml
  have hown : s.vm.findClass "java/lang/String" = some m.cls := hown
  have hnm : meth.name = "indexOf" := hnm
  have hret : meth.sig.returnType = (some .int) := hret
  have N0 := Fr.nil n0
  show OwnFin p e below s _ _ _ (s₁.setTop (mkF m 0 #[rv so, iv pc, iv (0 : Int32)] []))
  refine own_go (fun t_ k_ => XS.aloadN X0.here hx rfl (hb hby d12_0) rfl rfl k_) ?_
  show OwnFin p e below s _ _ _ (s₁.setTop (mkF m 1 #[rv so, iv pc, iv (0 : Int32)] [(.ref so)]))
  obtain ⟨v1, T1, L1, X1, hQ1, st1⟩ := own_callV X0 hx hZ (y := (⟨"java/lang/String", "isLatin1", "()Z"⟩ : MethodName)) (z := (⟨"java/lang/String", "isLatin1", "()Z"⟩ : MethodName)) hown (hw _ (List.mem_of_getElem? (i := 65) rfl)) (hw _ (List.mem_of_getElem? (i := 66) rfl)) (notFace_of_selects (args := #[]) (mvT hZ (hw _ (List.mem_of_getElem? (i := 68) rfl)))) (hw _ (List.mem_of_getElem? (i := 68) rfl)) (hw _ (List.mem_of_getElem? (i := 67) rfl)) (hw _ (List.mem_of_getElem? (i := 10) rfl)) (hw _ (List.mem_of_getElem? (i := 69) rfl)) (by decide) (W := 0) (rm13_L l Z a0 hw [] so zc h0 n0 Z0 F_coder hzc S_cs OL) (by decide) (by decide) E_so (g := (mkF m 1 #[rv so, iv pc, iv (0 : Int32)] [(.ref so)])) rfl (by rw [hml]; rfl) (argsL := []) (rest := []) (lenOf pd_12_12 rfl) rfl (by show 2 * 0 + _ ≤ _; exact Nat.le_of_eq rfl) (hb hby d12_1) e0 rfl (by decide) (by decide)
  obtain ⟨rfl, Nq1, e1⟩ := hQ1
  have N1 := Fr.app N0 Nq1
  refine own_go st1 ?_
  show OwnFin p e below s _ _ _ (T1.setTop (mkF m 4 #[rv so, iv pc, iv (0 : Int32)] [(.int (1 : Int32))]))
  refine own_go (fun t_ k_ => XS.ifNo X1.here hx rfl (hb hby d12_4) rfl ((if0 _ _).trans (feq (by decide)).1) k_) ?_
  show OwnFin p e below s _ _ _ (T1.setTop (mkF m 7 #[rv so, iv pc, iv (0 : Int32)] []))
  refine own_go (fun t_ k_ => XS.aloadN X1.here hx rfl (hb hby d12_7) rfl rfl k_) ?_
  show OwnFin p e below s _ _ _ (T1.setTop (mkF m 8 #[rv so, iv pc, iv (0 : Int32)] [(.ref so)]))
  obtain ⟨T2, X2, e2, st2⟩ := getF X1 hx hZ hown (host := "") (Or.inl (hw _ (List.mem_of_getElem? (i := 35) rfl))) Via.refl e1 F_value (g := (mkF m 8 #[rv so, iv pc, iv (0 : Int32)] [(.ref so)])) rfl rfl (hb hby d12_8)
  refine own_go st2 ?_
  show OwnFin p e below s _ _ _ (T2.setTop (mkF m 11 #[rv so, iv pc, iv (0 : Int32)] [(.ref bs)]))
  refine own_go (fun t_ k_ => XS.iloadN X2.here hx rfl (hb hby d12_11) rfl k_) ?_
  show OwnFin p e below s _ _ _ (T2.setTop (mkF m 12 #[rv so, iv pc, iv (0 : Int32)] [(.int pc), (.ref bs)]))
  refine own_go (fun t_ k_ => XS.iloadN X2.here hx rfl (hb hby d12_12) rfl k_) ?_
  show OwnFin p e below s _ _ _ (T2.setTop (mkF m 13 #[rv so, iv pc, iv (0 : Int32)] [(.int (0 : Int32)), (.int pc), (.ref bs)]))
  refine own_go (fun t_ k_ => XS.aloadN X2.here hx rfl (hb hby d12_13) rfl rfl k_) ?_
  show OwnFin p e below s _ _ _ (T2.setTop (mkF m 14 #[rv so, iv pc, iv (0 : Int32)] [(.ref so), (.int (0 : Int32)), (.int pc), (.ref bs)]))
  obtain ⟨v3, T3, L3, X3, hQ3, st3⟩ := own_callV X2 hx hZ (y := (⟨"java/lang/String", "length", "()I"⟩ : MethodName)) (z := (⟨"java/lang/String", "length", "()I"⟩ : MethodName)) hown (hw _ (List.mem_of_getElem? (i := 70) rfl)) (hw _ (List.mem_of_getElem? (i := 71) rfl)) (notFace_of_selects (args := #[]) (mvT hZ (hw _ (List.mem_of_getElem? (i := 73) rfl)))) (hw _ (List.mem_of_getElem? (i := 73) rfl)) (hw _ (List.mem_of_getElem? (i := 72) rfl)) (hw _ (List.mem_of_getElem? (i := 10) rfl)) (hw _ (List.mem_of_getElem? (i := 74) rfl)) (by decide) (W := 3) (rm14_L l Z a0 hw [] so bs px py zc h0 n0 Z0 E_so F_value F_coder V_bs hzc S_cs OL) (by decide) (by decide) E_so (g := (mkF m 14 #[rv so, iv pc, iv (0 : Int32)] [(.ref so), (.int (0 : Int32)), (.int pc), (.ref bs)])) rfl (by rw [hml]; rfl) (argsL := []) (rest := [(.int (0 : Int32)), (.int pc), (.ref bs)]) (lenOf pd_12_13 rfl) rfl (by show 2 * 0 + _ ≤ _; exact Nat.le_of_eq rfl) (hb hby d12_14) e2 rfl (by decide) (by decide)
  obtain ⟨rfl, Nq3, e3⟩ := hQ3
  have N3 := Fr.app N1 Nq3
  refine own_go st3 ?_
  show OwnFin p e below s _ _ _ (T3.setTop (mkF m 17 #[rv so, iv pc, iv (0 : Int32)] [(.int (2 : Int32)), (.int (0 : Int32)), (.int pc), (.ref bs)]))
  obtain ⟨v4, T4, L4, X4, hQ4, st4⟩ := own_callS X3 hx hZ (y := (⟨"java/lang/StringLatin1", "indexOf", "([BIII)I"⟩ : MethodName)) hown (hw _ (List.mem_of_getElem? (i := 80) rfl)) (hw _ (List.mem_of_getElem? (i := 81) rfl)) (hw _ (List.mem_of_getElem? (i := 82) rfl)) (hw _ (List.mem_of_getElem? (i := 83) rfl)) (by decide) (W := 0) (rm16 l Z a0 hw [] bs pc px py h0 n0 Z0 V_bs hc hpx hpy hl1 hl2) (by decide) (by decide) (g := (mkF m 17 #[rv so, iv pc, iv (0 : Int32)] [(.int (2 : Int32)), (.int (0 : Int32)), (.int pc), (.ref bs)])) rfl (by rw [hml]; rfl) (argsL := [(.ref bs), (.int pc), (.int (0 : Int32)), (.int (2 : Int32))]) (rest := []) (lenOf pd_12_15 rfl) rfl (by show 2 * 0 + _ ≤ _; exact Nat.le_of_eq rfl) (hb hby d12_17) e3 rfl (by decide) (by decide)
  obtain ⟨rfl, Nq4, e4⟩ := hQ4
  have N4 := Fr.app N3 Nq4
  refine own_go st4 ?_
  show OwnFin p e below s _ _ _ (T4.setTop (mkF m 20 #[rv so, iv pc, iv (0 : Int32)] [(.int (own_idx pc px py))]))
  refine own_go (fun t_ k_ => XS.goto X4.here hx rfl (pc0 := 20) (pc' := 36) rfl (hb hby d12_20) (by decide) (by decide) k_) ?_
  show OwnFin p e below s _ _ _ (T4.setTop (mkF m 36 #[rv so, iv pc, iv (0 : Int32)] [(.int (own_idx pc px py))]))
  refine own_ret X4 (v := some (.int (own_idx pc px py))) hlk (fun hh => by rw [hret] at hh; cases hh) (fun fs hr => own_retI X4 hx hret (hb hby d12_36) hr) (by decide) (by decide) ?_
  rw [e4]
  exact ⟨rfl, N4, rfl⟩
theorem ef_12_U (m : MethodId) (so : Addr) (pc : Int32) : entryFrame m #[(.ref so), (.int pc), (.int (0 : Int32))] 3 = mkF m 0 #[rv so, iv pc, iv (0 : Int32)] [] := by first | (simp [entryFrame, mkF, argsToLocals, Value.category]; done) | rfl
set_option maxRecDepth 65536 in
set_option maxHeartbeats 40000000 in
theorem rm12_U (l : Launch) (Z : State) (a0 : Array Value) (hw : ∀ d ∈ tables_1, d.before a0 Z = true) (ws : List Jvm.Cond) (so : Addr) (pc : Int32) (bs : Addr) (px : Int32) (py : Int32) (zc : Int32) (fm : Value) (h0 : Heap) (n0 : Nat) (Z0 : n0 ≤ h0.size) (E_so : Exa Z h0 so "java/lang/String") (F_value : Fld Z h0 so "java/lang/String" "value" "[B" (.ref bs)) (F_coder : Fld Z h0 so "java/lang/String" "coder" "B" (.int (1 : Int32))) (V_bs : OwnArr Z h0 bs .byte 4 (fun k => .int (own_four (own_b0 px) (own_b1 px) (own_b0 py) (own_b1 py) k))) (hc : own_ch pc) (hpx : own_ch px) (hpy : own_ch py) (hzc : ¬ zc = (0 : Int32)) (hfm : fm.isRef = true) (S_cs : Sta Z Z.heap "java/lang/String" "COMPACT_STRINGS" "Z" (.int zc)) (S_as : Sta Z Z.heap "java/lang/StringUTF16" "$assertionsDisabled" "Z" (.int (1 : Int32))) (S_hi : Sta Z Z.heap "java/lang/StringUTF16" "HI_BYTE_SHIFT" "I" (.int (0 : Int32))) (S_lo : Sta Z Z.heap "java/lang/StringUTF16" "LO_BYTE_SHIFT" "I" (.int (8 : Int32))) (S_fm : Sta Z Z.heap "jdk/internal/util/Preconditions" "SIOOBE_FORMATTER" "Ljava/util/function/BiFunction;" fm) (OL : Old Z n0 h0) :
    OwnCtr l Z (⟨"java/lang/String", "indexOf", "(II)I"⟩ : MethodName) ws jdk_42_method_80_code 3 (some .int) ({ frames := 5, cells := 0, slots := 0, locals := 73 } : Room) #[(.ref so), (.int pc), (.int (0 : Int32))] h0 (fun v h L => v = some (.int (own_idx pc px py)) ∧ Fr n0 L ∧ h = h0) := by
  refine own_body (g0 := fun m => mkF m 0 #[rv so, iv pc, iv (0 : Int32)] []) pn_12 (fun m => ef_12_U m so pc) ?_
  intro p e s m below meth c s₁ X0 hx hby hml hown hnm hZ e0 hret hlk
  have hml : c.maxLocals = 3 := hml
  have hown : s.vm.findClass "java/lang/String" = some m.cls := hown
  have hnm : meth.name = "indexOf" := hnm
  have hret : meth.sig.returnType = (some .int) := hret
  have N0 := Fr.nil n0
  show OwnFin p e below s _ _ _ (s₁.setTop (mkF m 0 #[rv so, iv pc, iv (0 : Int32)] []))
  refine own_go (fun t_ k_ => XS.aloadN X0.here hx rfl (hb hby d12_0) rfl rfl k_) ?_
  show OwnFin p e below s _ _ _ (s₁.setTop (mkF m 1 #[rv so, iv pc, iv (0 : Int32)] [(.ref so)]))
  obtain ⟨v1, T1, L1, X1, hQ1, st1⟩ := own_callV X0 hx hZ (y := (⟨"java/lang/String", "isLatin1", "()Z"⟩ : MethodName)) (z := (⟨"java/lang/String", "isLatin1", "()Z"⟩ : MethodName)) hown (hw _ (List.mem_of_getElem? (i := 65) rfl)) (hw _ (List.mem_of_getElem? (i := 66) rfl)) (notFace_of_selects (args := #[]) (mvT hZ (hw _ (List.mem_of_getElem? (i := 68) rfl)))) (hw _ (List.mem_of_getElem? (i := 68) rfl)) (hw _ (List.mem_of_getElem? (i := 67) rfl)) (hw _ (List.mem_of_getElem? (i := 10) rfl)) (hw _ (List.mem_of_getElem? (i := 69) rfl)) (by decide) (W := 0) (rm13_U l Z a0 hw [] so zc h0 n0 Z0 F_coder hzc S_cs OL) (by decide) (by decide) E_so (g := (mkF m 1 #[rv so, iv pc, iv (0 : Int32)] [(.ref so)])) rfl (by rw [hml]; rfl) (argsL := []) (rest := []) (lenOf pd_12_12 rfl) rfl (by show 2 * 0 + _ ≤ _; exact Nat.le_of_eq rfl) (hb hby d12_1) e0 rfl (by decide) (by decide)
  obtain ⟨rfl, Nq1, e1⟩ := hQ1
  have N1 := Fr.app N0 Nq1
  refine own_go st1 ?_
  show OwnFin p e below s _ _ _ (T1.setTop (mkF m 4 #[rv so, iv pc, iv (0 : Int32)] [(.int (0 : Int32))]))
  refine own_go (fun t_ k_ => XS.ifYes X1.here hx rfl (pc0 := 4) (pc' := 23) rfl (hb hby d12_4) rfl ((if0 _ _).trans (teq (by decide)).1) (by decide) (by decide) k_) ?_
  show OwnFin p e below s _ _ _ (T1.setTop (mkF m 23 #[rv so, iv pc, iv (0 : Int32)] []))
  refine own_go (fun t_ k_ => XS.aloadN X1.here hx rfl (hb hby d12_23) rfl rfl k_) ?_
  show OwnFin p e below s _ _ _ (T1.setTop (mkF m 24 #[rv so, iv pc, iv (0 : Int32)] [(.ref so)]))
  obtain ⟨T2, X2, e2, st2⟩ := getF X1 hx hZ hown (host := "") (Or.inl (hw _ (List.mem_of_getElem? (i := 35) rfl))) Via.refl e1 F_value (g := (mkF m 24 #[rv so, iv pc, iv (0 : Int32)] [(.ref so)])) rfl rfl (hb hby d12_24)
  refine own_go st2 ?_
  show OwnFin p e below s _ _ _ (T2.setTop (mkF m 27 #[rv so, iv pc, iv (0 : Int32)] [(.ref bs)]))
  refine own_go (fun t_ k_ => XS.iloadN X2.here hx rfl (hb hby d12_27) rfl k_) ?_
  show OwnFin p e below s _ _ _ (T2.setTop (mkF m 28 #[rv so, iv pc, iv (0 : Int32)] [(.int pc), (.ref bs)]))
  refine own_go (fun t_ k_ => XS.iloadN X2.here hx rfl (hb hby d12_28) rfl k_) ?_
  show OwnFin p e below s _ _ _ (T2.setTop (mkF m 29 #[rv so, iv pc, iv (0 : Int32)] [(.int (0 : Int32)), (.int pc), (.ref bs)]))
  refine own_go (fun t_ k_ => XS.aloadN X2.here hx rfl (hb hby d12_29) rfl rfl k_) ?_
  show OwnFin p e below s _ _ _ (T2.setTop (mkF m 30 #[rv so, iv pc, iv (0 : Int32)] [(.ref so), (.int (0 : Int32)), (.int pc), (.ref bs)]))
  obtain ⟨v3, T3, L3, X3, hQ3, st3⟩ := own_callV X2 hx hZ (y := (⟨"java/lang/String", "length", "()I"⟩ : MethodName)) (z := (⟨"java/lang/String", "length", "()I"⟩ : MethodName)) hown (hw _ (List.mem_of_getElem? (i := 70) rfl)) (hw _ (List.mem_of_getElem? (i := 71) rfl)) (notFace_of_selects (args := #[]) (mvT hZ (hw _ (List.mem_of_getElem? (i := 73) rfl)))) (hw _ (List.mem_of_getElem? (i := 73) rfl)) (hw _ (List.mem_of_getElem? (i := 72) rfl)) (hw _ (List.mem_of_getElem? (i := 10) rfl)) (hw _ (List.mem_of_getElem? (i := 74) rfl)) (by decide) (W := 3) (rm14_U l Z a0 hw [] so bs px py zc h0 n0 Z0 E_so F_value F_coder V_bs hzc S_cs OL) (by decide) (by decide) E_so (g := (mkF m 30 #[rv so, iv pc, iv (0 : Int32)] [(.ref so), (.int (0 : Int32)), (.int pc), (.ref bs)])) rfl (by rw [hml]; rfl) (argsL := []) (rest := [(.int (0 : Int32)), (.int pc), (.ref bs)]) (lenOf pd_12_13 rfl) rfl (by show 2 * 0 + _ ≤ _; exact Nat.le_of_eq rfl) (hb hby d12_30) e2 rfl (by decide) (by decide)
  obtain ⟨rfl, Nq3, e3⟩ := hQ3
  have N3 := Fr.app N1 Nq3
  refine own_go st3 ?_
  show OwnFin p e below s _ _ _ (T3.setTop (mkF m 33 #[rv so, iv pc, iv (0 : Int32)] [(.int (2 : Int32)), (.int (0 : Int32)), (.int pc), (.ref bs)]))
  obtain ⟨v4, T4, L4, X4, hQ4, st4⟩ := own_callS X3 hx hZ (y := (⟨"java/lang/StringUTF16", "indexOf", "([BIII)I"⟩ : MethodName)) hown (hw _ (List.mem_of_getElem? (i := 128) rfl)) (hw _ (List.mem_of_getElem? (i := 129) rfl)) (hw _ (List.mem_of_getElem? (i := 24) rfl)) (hw _ (List.mem_of_getElem? (i := 130) rfl)) (by decide) (W := 0) (rm28 l Z a0 hw [] bs pc px py fm h0 n0 Z0 V_bs hc hpx hpy hfm S_as S_hi S_lo S_fm OL) (by decide) (by decide) (g := (mkF m 33 #[rv so, iv pc, iv (0 : Int32)] [(.int (2 : Int32)), (.int (0 : Int32)), (.int pc), (.ref bs)])) rfl (by rw [hml]; rfl) (argsL := [(.ref bs), (.int pc), (.int (0 : Int32)), (.int (2 : Int32))]) (rest := []) (lenOf pd_12_15 rfl) rfl (by show 2 * 0 + _ ≤ _; exact Nat.le_of_eq rfl) (hb hby d12_33) e3 rfl (by decide) (by decide)
  obtain ⟨rfl, Nq4, e4⟩ := hQ4
  have N4 := Fr.app N3 Nq4
  refine own_go st4 ?_
  show OwnFin p e below s _ _ _ (T4.setTop (mkF m 36 #[rv so, iv pc, iv (0 : Int32)] [(.int (own_idx pc px py))]))
  refine own_ret X4 (v := some (.int (own_idx pc px py))) hlk (fun hh => by rw [hret] at hh; cases hh) (fun fs hr => own_retI X4 hx hret (hb hby d12_36) hr) (by decide) (by decide) ?_
  rw [e4]
  exact ⟨rfl, N4, rfl⟩
theorem d11_0 : decode jdk_42_method_79_code 0 = .ok (.aload_n 0, 1) := by decide +kernel
theorem d11_1 : decode jdk_42_method_79_code 1 = .ok (.iload_n 1, 1) := by decide +kernel
theorem d11_2 : decode jdk_42_method_79_code 2 = .ok (.iconst 0, 1) := by decide +kernel
theorem d11_3 : decode jdk_42_method_79_code 3 = .ok (.invokevirtual 633, 3) := by decide +kernel
theorem d11_6 : decode jdk_42_method_79_code 6 = .ok (.ireturn, 1) := by decide +kernel
theorem pn_11 : plainFor (⟨"java/lang/String", "indexOf", "(I)I"⟩ : MethodName) = true := plainFor_of_name (by first | (simp [plainName, overriddenIn]; done) | decide +kernel)
theorem pd_11_11 : parseMethodDescriptor "(II)I" = some ⟨[.int, .int], some .int⟩ := by decide +kernel
theorem ef_11 (m : MethodId) (a1 : Addr) (p2 : Int32) : entryFrame m #[(.ref a1), (.int p2)] 2 = mkF m 0 #[rv a1, iv p2] [] := by first | (simp [entryFrame, mkF, argsToLocals, Value.category]; done) | rfl
theorem ef_11_L (m : MethodId) (so : Addr) (pc : Int32) : entryFrame m #[(.ref so), (.int pc)] 2 = mkF m 0 #[rv so, iv pc] [] := by first | (simp [entryFrame, mkF, argsToLocals, Value.category]; done) | rfl
set_option maxRecDepth 65536 in
set_option maxHeartbeats 40000000 in
theorem rm11_L (l : Launch) (Z : State) (a0 : Array Value) (hw : ∀ d ∈ tables_1, d.before a0 Z = true) (ws : List Jvm.Cond) (so : Addr) (pc : Int32) (bs : Addr) (px : Int32) (py : Int32) (zc : Int32) (h0 : Heap) (n0 : Nat) (Z0 : n0 ≤ h0.size) (E_so : Exa Z h0 so "java/lang/String") (F_value : Fld Z h0 so "java/lang/String" "value" "[B" (.ref bs)) (F_coder : Fld Z h0 so "java/lang/String" "coder" "B" (.int (0 : Int32))) (V_bs : OwnArr Z h0 bs .byte 2 (fun k => .int (own_two (own_lb px) (own_lb py) k))) (hc : own_ch pc) (hpx : own_ch px) (hpy : own_ch py) (hl1 : ¬ (255 : Int32) < px) (hl2 : ¬ (255 : Int32) < py) (hzc : ¬ zc = (0 : Int32)) (S_cs : Sta Z Z.heap "java/lang/String" "COMPACT_STRINGS" "Z" (.int zc)) (OL : Old Z n0 h0) :
    OwnCtr l Z (⟨"java/lang/String", "indexOf", "(I)I"⟩ : MethodName) ws jdk_42_method_79_code 2 (some .int) ({ frames := 3, cells := 0, slots := 0, locals := 46 } : Room) #[(.ref so), (.int pc)] h0 (fun v h L => v = some (.int (own_idx pc px py)) ∧ Fr n0 L ∧ h = h0) := by
  refine own_body (g0 := fun m => mkF m 0 #[rv so, iv pc] []) pn_11 (fun m => ef_11_L m so pc) ?_
  intro p e s m below meth c s₁ X0 hx hby hml hown hnm hZ e0 hret hlk
  have hml : c.maxLocals = 2 := hml
  have hown : s.vm.findClass "java/lang/String" = some m.cls := hown
  have hnm : meth.name = "indexOf" := hnm
  have hret : meth.sig.returnType = (some .int) := hret
  have N0 := Fr.nil n0
  show OwnFin p e below s _ _ _ (s₁.setTop (mkF m 0 #[rv so, iv pc] []))
  refine own_go (fun t_ k_ => XS.aloadN X0.here hx rfl (hb hby d11_0) rfl rfl k_) ?_
  show OwnFin p e below s _ _ _ (s₁.setTop (mkF m 1 #[rv so, iv pc] [(.ref so)]))
  refine own_go (fun t_ k_ => XS.iloadN X0.here hx rfl (hb hby d11_1) rfl k_) ?_
  show OwnFin p e below s _ _ _ (s₁.setTop (mkF m 2 #[rv so, iv pc] [(.int pc), (.ref so)]))
  refine own_go (fun t_ k_ => XS.iconst X0.here hx rfl (hb hby d11_2) k_) ?_
  show OwnFin p e below s _ _ _ (s₁.setTop (mkF m 3 #[rv so, iv pc] [(.int (0 : Int32)), (.int pc), (.ref so)]))
  obtain ⟨v1, T1, L1, X1, hQ1, st1⟩ := own_callV X0 hx hZ (y := (⟨"java/lang/String", "indexOf", "(II)I"⟩ : MethodName)) (z := (⟨"java/lang/String", "indexOf", "(II)I"⟩ : MethodName)) hown (hw _ (List.mem_of_getElem? (i := 60) rfl)) (hw _ (List.mem_of_getElem? (i := 61) rfl)) (notFace_of_selects (args := #[]) (mvT hZ (hw _ (List.mem_of_getElem? (i := 63) rfl)))) (hw _ (List.mem_of_getElem? (i := 63) rfl)) (hw _ (List.mem_of_getElem? (i := 62) rfl)) (hw _ (List.mem_of_getElem? (i := 10) rfl)) (hw _ (List.mem_of_getElem? (i := 64) rfl)) (by decide) (W := 0) (rm12_L l Z a0 hw [] so pc bs px py zc h0 n0 Z0 E_so F_value F_coder V_bs hc hpx hpy hl1 hl2 hzc S_cs OL) (by decide) (by decide) E_so (g := (mkF m 3 #[rv so, iv pc] [(.int (0 : Int32)), (.int pc), (.ref so)])) rfl (by rw [hml]; rfl) (argsL := [(.int pc), (.int (0 : Int32))]) (rest := []) (lenOf pd_11_11 rfl) rfl (by show 2 * 0 + _ ≤ _; exact Nat.le_of_eq rfl) (hb hby d11_3) e0 rfl (by decide) (by decide)
  obtain ⟨rfl, Nq1, e1⟩ := hQ1
  have N1 := Fr.app N0 Nq1
  refine own_go st1 ?_
  show OwnFin p e below s _ _ _ (T1.setTop (mkF m 6 #[rv so, iv pc] [(.int (own_idx pc px py))]))
  refine own_ret X1 (v := some (.int (own_idx pc px py))) hlk (fun hh => by rw [hret] at hh; cases hh) (fun fs hr => own_retI X1 hx hret (hb hby d11_6) hr) (by decide) (by decide) ?_
  rw [e1]
  exact ⟨rfl, N1, rfl⟩
theorem ef_11_U (m : MethodId) (so : Addr) (pc : Int32) : entryFrame m #[(.ref so), (.int pc)] 2 = mkF m 0 #[rv so, iv pc] [] := by first | (simp [entryFrame, mkF, argsToLocals, Value.category]; done) | rfl
set_option maxRecDepth 65536 in
set_option maxHeartbeats 40000000 in
theorem rm11_U (l : Launch) (Z : State) (a0 : Array Value) (hw : ∀ d ∈ tables_1, d.before a0 Z = true) (ws : List Jvm.Cond) (so : Addr) (pc : Int32) (bs : Addr) (px : Int32) (py : Int32) (zc : Int32) (fm : Value) (h0 : Heap) (n0 : Nat) (Z0 : n0 ≤ h0.size) (E_so : Exa Z h0 so "java/lang/String") (F_value : Fld Z h0 so "java/lang/String" "value" "[B" (.ref bs)) (F_coder : Fld Z h0 so "java/lang/String" "coder" "B" (.int (1 : Int32))) (V_bs : OwnArr Z h0 bs .byte 4 (fun k => .int (own_four (own_b0 px) (own_b1 px) (own_b0 py) (own_b1 py) k))) (hc : own_ch pc) (hpx : own_ch px) (hpy : own_ch py) (hzc : ¬ zc = (0 : Int32)) (hfm : fm.isRef = true) (S_cs : Sta Z Z.heap "java/lang/String" "COMPACT_STRINGS" "Z" (.int zc)) (S_as : Sta Z Z.heap "java/lang/StringUTF16" "$assertionsDisabled" "Z" (.int (1 : Int32))) (S_hi : Sta Z Z.heap "java/lang/StringUTF16" "HI_BYTE_SHIFT" "I" (.int (0 : Int32))) (S_lo : Sta Z Z.heap "java/lang/StringUTF16" "LO_BYTE_SHIFT" "I" (.int (8 : Int32))) (S_fm : Sta Z Z.heap "jdk/internal/util/Preconditions" "SIOOBE_FORMATTER" "Ljava/util/function/BiFunction;" fm) (OL : Old Z n0 h0) :
    OwnCtr l Z (⟨"java/lang/String", "indexOf", "(I)I"⟩ : MethodName) ws jdk_42_method_79_code 2 (some .int) ({ frames := 6, cells := 0, slots := 0, locals := 87 } : Room) #[(.ref so), (.int pc)] h0 (fun v h L => v = some (.int (own_idx pc px py)) ∧ Fr n0 L ∧ h = h0) := by
  refine own_body (g0 := fun m => mkF m 0 #[rv so, iv pc] []) pn_11 (fun m => ef_11_U m so pc) ?_
  intro p e s m below meth c s₁ X0 hx hby hml hown hnm hZ e0 hret hlk
  have hml : c.maxLocals = 2 := hml
  have hown : s.vm.findClass "java/lang/String" = some m.cls := hown
  have hnm : meth.name = "indexOf" := hnm
  have hret : meth.sig.returnType = (some .int) := hret
  have N0 := Fr.nil n0
  show OwnFin p e below s _ _ _ (s₁.setTop (mkF m 0 #[rv so, iv pc] []))
  refine own_go (fun t_ k_ => XS.aloadN X0.here hx rfl (hb hby d11_0) rfl rfl k_) ?_
  show OwnFin p e below s _ _ _ (s₁.setTop (mkF m 1 #[rv so, iv pc] [(.ref so)]))
  refine own_go (fun t_ k_ => XS.iloadN X0.here hx rfl (hb hby d11_1) rfl k_) ?_
  show OwnFin p e below s _ _ _ (s₁.setTop (mkF m 2 #[rv so, iv pc] [(.int pc), (.ref so)]))
  refine own_go (fun t_ k_ => XS.iconst X0.here hx rfl (hb hby d11_2) k_) ?_
  show OwnFin p e below s _ _ _ (s₁.setTop (mkF m 3 #[rv so, iv pc] [(.int (0 : Int32)), (.int pc), (.ref so)]))
  obtain ⟨v1, T1, L1, X1, hQ1, st1⟩ := own_callV X0 hx hZ (y := (⟨"java/lang/String", "indexOf", "(II)I"⟩ : MethodName)) (z := (⟨"java/lang/String", "indexOf", "(II)I"⟩ : MethodName)) hown (hw _ (List.mem_of_getElem? (i := 60) rfl)) (hw _ (List.mem_of_getElem? (i := 61) rfl)) (notFace_of_selects (args := #[]) (mvT hZ (hw _ (List.mem_of_getElem? (i := 63) rfl)))) (hw _ (List.mem_of_getElem? (i := 63) rfl)) (hw _ (List.mem_of_getElem? (i := 62) rfl)) (hw _ (List.mem_of_getElem? (i := 10) rfl)) (hw _ (List.mem_of_getElem? (i := 64) rfl)) (by decide) (W := 0) (rm12_U l Z a0 hw [] so pc bs px py zc fm h0 n0 Z0 E_so F_value F_coder V_bs hc hpx hpy hzc hfm S_cs S_as S_hi S_lo S_fm OL) (by decide) (by decide) E_so (g := (mkF m 3 #[rv so, iv pc] [(.int (0 : Int32)), (.int pc), (.ref so)])) rfl (by rw [hml]; rfl) (argsL := [(.int pc), (.int (0 : Int32))]) (rest := []) (lenOf pd_11_11 rfl) rfl (by show 2 * 0 + _ ≤ _; exact Nat.le_of_eq rfl) (hb hby d11_3) e0 rfl (by decide) (by decide)
  obtain ⟨rfl, Nq1, e1⟩ := hQ1
  have N1 := Fr.app N0 Nq1
  refine own_go st1 ?_
  show OwnFin p e below s _ _ _ (T1.setTop (mkF m 6 #[rv so, iv pc] [(.int (own_idx pc px py))]))
  refine own_ret X1 (v := some (.int (own_idx pc px py))) hlk (fun hh => by rw [hret] at hh; cases hh) (fun fs hr => own_retI X1 hx hret (hb hby d11_6) hr) (by decide) (by decide) ?_
  rw [e1]
  exact ⟨rfl, N1, rfl⟩
theorem d8_0 : decode prog_32_method_1_code 0 = .ok (.aload_n 0, 1) := by decide +kernel
theorem d8_1 : decode prog_32_method_1_code 1 = .ok (.invokespecial 1, 3) := by decide +kernel
theorem d8_4 : decode prog_32_method_1_code 4 = .ok (.aload_n 0, 1) := by decide +kernel
theorem d8_5 : decode prog_32_method_1_code 5 = .ok (.iconst 1, 1) := by decide +kernel
theorem d8_6 : decode prog_32_method_1_code 6 = .ok (.putfield 7, 3) := by decide +kernel
theorem d8_9 : decode prog_32_method_1_code 9 = .ok (.aload_n 0, 1) := by decide +kernel
theorem d8_10 : decode prog_32_method_1_code 10 = .ok (.iconst 1, 1) := by decide +kernel
theorem d8_11 : decode prog_32_method_1_code 11 = .ok (.putfield 13, 3) := by decide +kernel
theorem d8_14 : decode prog_32_method_1_code 14 = .ok (.aload_n 0, 1) := by decide +kernel
theorem d8_15 : decode prog_32_method_1_code 15 = .ok (.aload_n 1, 1) := by decide +kernel
theorem d8_16 : decode prog_32_method_1_code 16 = .ok (.putfield 16, 3) := by decide +kernel
theorem d8_19 : decode prog_32_method_1_code 19 = .ok (.return_, 1) := by decide +kernel
theorem pn_8 : plainFor (⟨"com/example/argweave/argweave/LineCounter", "<init>", "(Ljava/lang/String;)V"⟩ : MethodName) = true := plainFor_of_name (by first | (simp [plainName, overriddenIn]; done) | decide +kernel)
theorem ef_8 (m : MethodId) (a1 : Addr) (a2 : Addr) : entryFrame m #[(.ref a1), (.ref a2)] 2 = mkF m 0 #[rv a1, rv a2] [] := by first | (simp [entryFrame, mkF, argsToLocals, Value.category]; done) | rfl
set_option maxRecDepth 65536 in
set_option maxHeartbeats 40000000 in
theorem rm8 (l : Launch) (Z : State) (a0 : Array Value) (hw : ∀ d ∈ tables_1, d.before a0 Z = true) (ws : List Jvm.Cond) (a1 : Addr) (a2 : Addr) {u_line : Value} {u_column : Value} {u_breaks : Value} (h0 : Heap) (n0 : Nat) (Z0 : n0 ≤ h0.size) (E_a1 : Exa Z h0 a1 "com/example/argweave/argweave/LineCounter") (g_a1 : n0 ≤ a1) (F_line_a1 : Fld Z h0 a1 "com/example/argweave/argweave/LineCounter" "line" "I" u_line) (F_column_a1 : Fld Z h0 a1 "com/example/argweave/argweave/LineCounter" "column" "I" u_column) (F_breaks_a1 : Fld Z h0 a1 "com/example/argweave/argweave/LineCounter" "breaks" "Ljava/lang/String;" u_breaks) (F_afterCr_a1 : Fld Z h0 a1 "com/example/argweave/argweave/LineCounter" "afterCr" "Z" (.int (0 : Int32))) :
    OwnCtr l Z (⟨"com/example/argweave/argweave/LineCounter", "<init>", "(Ljava/lang/String;)V"⟩ : MethodName) ws prog_32_method_1_code 2 none ({ frames := 1, cells := 0, slots := 0, locals := 12 } : Room) #[(.ref a1), (.ref a2)] h0 (fun v h L => v = none ∧ Fr n0 L ∧ Keep h0 h [a1] ∧ Exa Z h a1 "com/example/argweave/argweave/LineCounter" ∧ Fld Z h a1 "com/example/argweave/argweave/LineCounter" "line" "I" (.int (1 : Int32)) ∧ Fld Z h a1 "com/example/argweave/argweave/LineCounter" "column" "I" (.int (1 : Int32)) ∧ Fld Z h a1 "com/example/argweave/argweave/LineCounter" "breaks" "Ljava/lang/String;" (.ref a2) ∧ Fld Z h a1 "com/example/argweave/argweave/LineCounter" "afterCr" "Z" (.int (0 : Int32))) := by
  refine own_body (g0 := fun m => mkF m 0 #[rv a1, rv a2] []) pn_8 (fun m => ef_8 m a1 a2) ?_
  intro p e s m below meth c s₁ X0 hx hby hml hown hnm hZ e0 hret hlk
  have hml : c.maxLocals = 2 := hml
  have hown : s.vm.findClass "com/example/argweave/argweave/LineCounter" = some m.cls := hown
  have hnm : meth.name = "<init>" := hnm
  have hret : meth.sig.returnType = none := hret
  have N0 := Fr.nil n0
  have K0 := Keep.refl h0 [a1]
  show OwnFin p e below s _ _ _ (s₁.setTop (mkF m 0 #[rv a1, rv a2] []))
  refine own_go (fun t_ k_ => XS.aloadN X0.here hx rfl (hb hby d8_0) rfl rfl k_) ?_
  show OwnFin p e below s _ _ _ (s₁.setTop (mkF m 1 #[rv a1, rv a2] [(.ref a1)]))
  obtain ⟨T1, X1, e1, st1⟩ := initO X0 hx hZ hown (hw _ (List.mem_of_getElem? (i := 40) rfl)) (hw _ (List.mem_of_getElem? (i := 19) rfl)) (hw _ (List.mem_of_getElem? (i := 20) rfl)) e0 (g := (mkF m 1 #[rv a1, rv a2] [(.ref a1)])) rfl (by rw [hml]; rfl) rfl (hb hby d8_1) (by decide) (W := 0) (by show 2 * 0 + _ ≤ _; exact Nat.le_of_eq rfl) (by decide)
  refine own_go st1 ?_
  show OwnFin p e below s _ _ _ (T1.setTop (mkF m 4 #[rv a1, rv a2] []))
  refine own_go (fun t_ k_ => XS.aloadN X1.here hx rfl (hb hby d8_4) rfl rfl k_) ?_
  show OwnFin p e below s _ _ _ (T1.setTop (mkF m 5 #[rv a1, rv a2] [(.ref a1)]))
  refine own_go (fun t_ k_ => XS.iconst X1.here hx rfl (hb hby d8_5) k_) ?_
  show OwnFin p e below s _ _ _ (T1.setTop (mkF m 6 #[rv a1, rv a2] [(.int (1 : Int32)), (.ref a1)]))
  obtain ⟨T2, h2, X2, e2, W2, st2⟩ := putF X1 hx hZ hown (host := "") (Or.inl (hw _ (List.mem_of_getElem? (i := 41) rfl))) Via.refl e1 F_line_a1 E_a1 (Or.inl (hw _ (List.mem_of_getElem? (i := 42) rfl))) (hw _ (List.mem_of_getElem? (i := 6) rfl)) (ty := .int) (by decide) rfl rfl (g := (mkF m 6 #[rv a1, rv a2] [(.int (1 : Int32)), (.ref a1)])) rfl rfl (hb hby d8_6)
  have E_a1_2 := E_a1.wr W2
  have F_line_a1_2 := F_line_a1.same W2
  have F_column_a1_2 := F_column_a1.other W2 (Or.inr (slot_ne (Or.inl (hw _ (List.mem_of_getElem? (i := 44) rfl))) (Or.inl (hw _ (List.mem_of_getElem? (i := 42) rfl))) (by decide) (t := .int) (t' := .int) (by decide) (by decide)))
  have F_breaks_a1_2 := F_breaks_a1.other W2 (Or.inr (slot_ne (Or.inr (hw _ (List.mem_of_getElem? (i := 46) rfl))) (Or.inl (hw _ (List.mem_of_getElem? (i := 42) rfl))) (by decide) (t := (.object "java/lang/String")) (t' := .int) (by decide) (by decide)))
  have F_afterCr_a1_2 := F_afterCr_a1.other W2 (Or.inr (slot_ne (Or.inl (hw _ (List.mem_of_getElem? (i := 98) rfl))) (Or.inl (hw _ (List.mem_of_getElem? (i := 42) rfl))) (by decide) (t := .boolean) (t' := .int) (by decide) (by decide)))
  have Z2 : n0 ≤ h2.size := Nat.le_trans Z0 (Keep.of_wr W2).1
  have K2 : Keep h0 h2 [a1] := K0.wr W2 (Or.inl (List.mem_of_getElem? (i := 0) rfl))
  have N2 := Fr.snoc X2 N0 g_a1
  refine own_go st2 ?_
  show OwnFin p e below s _ _ _ (T2.setTop (mkF m 9 #[rv a1, rv a2] []))
  refine own_go (fun t_ k_ => XS.aloadN X2.here hx rfl (hb hby d8_9) rfl rfl k_) ?_
  show OwnFin p e below s _ _ _ (T2.setTop (mkF m 10 #[rv a1, rv a2] [(.ref a1)]))
  refine own_go (fun t_ k_ => XS.iconst X2.here hx rfl (hb hby d8_10) k_) ?_
  show OwnFin p e below s _ _ _ (T2.setTop (mkF m 11 #[rv a1, rv a2] [(.int (1 : Int32)), (.ref a1)]))
  obtain ⟨T3, h3, X3, e3, W3, st3⟩ := putF X2 hx hZ hown (host := "") (Or.inl (hw _ (List.mem_of_getElem? (i := 43) rfl))) Via.refl e2 F_column_a1_2 E_a1_2 (Or.inl (hw _ (List.mem_of_getElem? (i := 44) rfl))) (hw _ (List.mem_of_getElem? (i := 6) rfl)) (ty := .int) (by decide) rfl rfl (g := (mkF m 11 #[rv a1, rv a2] [(.int (1 : Int32)), (.ref a1)])) rfl rfl (hb hby d8_11)
  have E_a1_3 := E_a1_2.wr W3
  have F_line_a1_3 := F_line_a1_2.other W3 (Or.inr (slot_ne (Or.inl (hw _ (List.mem_of_getElem? (i := 42) rfl))) (Or.inl (hw _ (List.mem_of_getElem? (i := 44) rfl))) (by decide) (t := .int) (t' := .int) (by decide) (by decide)))
  have F_column_a1_3 := F_column_a1_2.same W3
  have F_breaks_a1_3 := F_breaks_a1_2.other W3 (Or.inr (slot_ne (Or.inr (hw _ (List.mem_of_getElem? (i := 46) rfl))) (Or.inl (hw _ (List.mem_of_getElem? (i := 44) rfl))) (by decide) (t := (.object "java/lang/String")) (t' := .int) (by decide) (by decide)))
  have F_afterCr_a1_3 := F_afterCr_a1_2.other W3 (Or.inr (slot_ne (Or.inl (hw _ (List.mem_of_getElem? (i := 98) rfl))) (Or.inl (hw _ (List.mem_of_getElem? (i := 44) rfl))) (by decide) (t := .boolean) (t' := .int) (by decide) (by decide)))
  have Z3 : n0 ≤ h3.size := Nat.le_trans Z2 (Keep.of_wr W3).1
  have K3 : Keep h0 h3 [a1] := K2.wr W3 (Or.inl (List.mem_of_getElem? (i := 0) rfl))
  have N3 := Fr.snoc X3 N2 g_a1
  refine own_go st3 ?_
  show OwnFin p e below s _ _ _ (T3.setTop (mkF m 14 #[rv a1, rv a2] []))
  refine own_go (fun t_ k_ => XS.aloadN X3.here hx rfl (hb hby d8_14) rfl rfl k_) ?_
  show OwnFin p e below s _ _ _ (T3.setTop (mkF m 15 #[rv a1, rv a2] [(.ref a1)]))
  refine own_go (fun t_ k_ => XS.aloadN X3.here hx rfl (hb hby d8_15) rfl rfl k_) ?_
  show OwnFin p e below s _ _ _ (T3.setTop (mkF m 16 #[rv a1, rv a2] [(.ref a2), (.ref a1)]))
  obtain ⟨T4, h4, X4, e4, W4, st4⟩ := putF X3 hx hZ hown (host := "") (Or.inl (hw _ (List.mem_of_getElem? (i := 45) rfl))) Via.refl e3 F_breaks_a1_3 E_a1_3 (Or.inr ⟨(hw _ (List.mem_of_getElem? (i := 46) rfl)), rfl, hnm⟩) (hw _ (List.mem_of_getElem? (i := 6) rfl)) (ty := (.object "java/lang/String")) (by decide) rfl rfl (g := (mkF m 16 #[rv a1, rv a2] [(.ref a2), (.ref a1)])) rfl rfl (hb hby d8_16)
  have E_a1_4 := E_a1_3.wr W4
  have F_line_a1_4 := F_line_a1_3.other W4 (Or.inr (slot_ne (Or.inl (hw _ (List.mem_of_getElem? (i := 42) rfl))) (Or.inr (hw _ (List.mem_of_getElem? (i := 46) rfl))) (by decide) (t := .int) (t' := (.object "java/lang/String")) (by decide) (by decide)))
  have F_column_a1_4 := F_column_a1_3.other W4 (Or.inr (slot_ne (Or.inl (hw _ (List.mem_of_getElem? (i := 44) rfl))) (Or.inr (hw _ (List.mem_of_getElem? (i := 46) rfl))) (by decide) (t := .int) (t' := (.object "java/lang/String")) (by decide) (by decide)))
  have F_breaks_a1_4 := F_breaks_a1_3.same W4
  have F_afterCr_a1_4 := F_afterCr_a1_3.other W4 (Or.inr (slot_ne (Or.inl (hw _ (List.mem_of_getElem? (i := 98) rfl))) (Or.inr (hw _ (List.mem_of_getElem? (i := 46) rfl))) (by decide) (t := .boolean) (t' := (.object "java/lang/String")) (by decide) (by decide)))
  have Z4 : n0 ≤ h4.size := Nat.le_trans Z3 (Keep.of_wr W4).1
  have K4 : Keep h0 h4 [a1] := K3.wr W4 (Or.inl (List.mem_of_getElem? (i := 0) rfl))
  have N4 := Fr.snoc X4 N3 g_a1
  refine own_go st4 ?_
  show OwnFin p e below s _ _ _ (T4.setTop (mkF m 19 #[rv a1, rv a2] []))
  refine own_ret X4 (v := none) hlk (fun _ => rfl) (fun fs hr => X4.returnOut hx hret (hb hby d8_19) hr) (by decide) (by decide) ?_
  rw [e4]
  exact ⟨rfl, N4, K4, E_a1_4, F_line_a1_4, F_column_a1_4, F_breaks_a1_4, F_afterCr_a1_4⟩
theorem d10_0 : decode prog_32_method_2_code 0 = .ok (.aload_n 0, 1) := by decide +kernel
theorem d10_1 : decode prog_32_method_2_code 1 = .ok (.getfield 16, 3) := by decide +kernel
theorem d10_4 : decode prog_32_method_2_code 4 = .ok (.iload_n 1, 1) := by decide +kernel
theorem d10_5 : decode prog_32_method_2_code 5 = .ok (.invokevirtual 20, 3) := by decide +kernel
theorem d10_8 : decode prog_32_method_2_code 8 = .ok (.ifCond .lt 26, 3) := by decide +kernel
theorem d10_11 : decode prog_32_method_2_code 11 = .ok (.iload_n 1, 1) := by decide +kernel
theorem d10_12 : decode prog_32_method_2_code 12 = .ok (.bipush 10, 2) := by decide +kernel
theorem d10_14 : decode prog_32_method_2_code 14 = .ok (.if_icmp .ne 10, 3) := by decide +kernel
theorem d10_17 : decode prog_32_method_2_code 17 = .ok (.aload_n 0, 1) := by decide +kernel
theorem d10_18 : decode prog_32_method_2_code 18 = .ok (.getfield 26, 3) := by decide +kernel
theorem d10_21 : decode prog_32_method_2_code 21 = .ok (.ifCond .ne 13, 3) := by decide +kernel
theorem d10_24 : decode prog_32_method_2_code 24 = .ok (.aload_n 0, 1) := by decide +kernel
theorem d10_25 : decode prog_32_method_2_code 25 = .ok (.dup, 1) := by decide +kernel
theorem d10_26 : decode prog_32_method_2_code 26 = .ok (.getfield 7, 3) := by decide +kernel
theorem d10_29 : decode prog_32_method_2_code 29 = .ok (.iconst 1, 1) := by decide +kernel
theorem d10_30 : decode prog_32_method_2_code 30 = .ok (.iadd, 1) := by decide +kernel
theorem d10_31 : decode prog_32_method_2_code 31 = .ok (.putfield 7, 3) := by decide +kernel
theorem d10_34 : decode prog_32_method_2_code 34 = .ok (.aload_n 0, 1) := by decide +kernel
theorem d10_35 : decode prog_32_method_2_code 35 = .ok (.iload_n 1, 1) := by decide +kernel
theorem d10_36 : decode prog_32_method_2_code 36 = .ok (.bipush 13, 2) := by decide +kernel
theorem d10_38 : decode prog_32_method_2_code 38 = .ok (.if_icmp .ne 7, 3) := by decide +kernel
theorem d10_41 : decode prog_32_method_2_code 41 = .ok (.iconst 1, 1) := by decide +kernel
theorem d10_42 : decode prog_32_method_2_code 42 = .ok (.goto 4, 3) := by decide +kernel
theorem d10_45 : decode prog_32_method_2_code 45 = .ok (.iconst 0, 1) := by decide +kernel
theorem d10_46 : decode prog_32_method_2_code 46 = .ok (.putfield 26, 3) := by decide +kernel
theorem d10_49 : decode prog_32_method_2_code 49 = .ok (.return_, 1) := by decide +kernel
theorem pn_10 : plainFor (⟨"com/example/argweave/argweave/LineCounter", "pass", "(C)V"⟩ : MethodName) = true := plainFor_of_name (by first | (simp [plainName, overriddenIn]; done) | decide +kernel)
theorem pd_10_10 : parseMethodDescriptor "(I)I" = some ⟨[.int], some .int⟩ := by decide +kernel
theorem ef_10 (m : MethodId) (a1 : Addr) (p2 : Int32) : entryFrame m #[(.ref a1), (.int p2)] 2 = mkF m 0 #[rv a1, iv p2] [] := by first | (simp [entryFrame, mkF, argsToLocals, Value.category]; done) | rfl
theorem ef_10_L (m : MethodId) (lo_ : Addr) (pc : Int32) : entryFrame m #[(.ref lo_), (.int pc)] 2 = mkF m 0 #[rv lo_, iv pc] [] := by first | (simp [entryFrame, mkF, argsToLocals, Value.category]; done) | rfl
set_option maxRecDepth 65536 in
set_option maxHeartbeats 40000000 in
theorem rm10_L (l : Launch) (Z : State) (a0 : Array Value) (hw : ∀ d ∈ tables_1, d.before a0 Z = true) (ws : List Jvm.Cond) (lo_ : Addr) (pc : Int32) (so : Addr) (bs : Addr) (px : Int32) (py : Int32) (pl : Int32) (pz : Int32) (zc : Int32) (h0 : Heap) (n0 : Nat) (Z0 : n0 ≤ h0.size) (E_lo_ : Exa Z h0 lo_ "com/example/argweave/argweave/LineCounter") (F_line : Fld Z h0 lo_ "com/example/argweave/argweave/LineCounter" "line" "I" (.int pl)) (F_col : Fld Z h0 lo_ "com/example/argweave/argweave/LineCounter" "column" "I" (.int (1 : Int32))) (F_brk : Fld Z h0 lo_ "com/example/argweave/argweave/LineCounter" "breaks" "Ljava/lang/String;" (.ref so)) (F_acr : Fld Z h0 lo_ "com/example/argweave/argweave/LineCounter" "afterCr" "Z" (.int pz)) (g_lo_ : n0 ≤ lo_) (E_so : Exa Z h0 so "java/lang/String") (F_value : Fld Z h0 so "java/lang/String" "value" "[B" (.ref bs)) (F_coder : Fld Z h0 so "java/lang/String" "coder" "B" (.int (0 : Int32))) (V_bs : OwnArr Z h0 bs .byte 2 (fun k => .int (own_two (own_lb px) (own_lb py) k))) (hc : own_ch pc) (hpx : own_ch px) (hpy : own_ch py) (hl1 : ¬ (255 : Int32) < px) (hl2 : ¬ (255 : Int32) < py) (ne1 : lo_ ≠ so) (ne2 : lo_ ≠ bs) (hzc : ¬ zc = (0 : Int32)) (S_cs : Sta Z Z.heap "java/lang/String" "COMPACT_STRINGS" "Z" (.int zc)) (OL : Old Z n0 h0) :
    OwnCtr l Z (⟨"com/example/argweave/argweave/LineCounter", "pass", "(C)V"⟩ : MethodName) ws prog_32_method_2_code 2 none ({ frames := 4, cells := 0, slots := 0, locals := 59 } : Room) #[(.ref lo_), (.int pc)] h0 (fun v h L => v = none ∧ Fr n0 L ∧ Keep h0 h [lo_] ∧ Fld Z h lo_ "com/example/argweave/argweave/LineCounter" "line" "I" (.int (pl + own_step pc pz px py)) ∧ Fld Z h lo_ "com/example/argweave/argweave/LineCounter" "column" "I" (.int (1 : Int32)) ∧ Fld Z h lo_ "com/example/argweave/argweave/LineCounter" "breaks" "Ljava/lang/String;" (.ref so) ∧ Fld Z h lo_ "com/example/argweave/argweave/LineCounter" "afterCr" "Z" (.int (if pc = 13 then 1 else 0))) := by
  refine own_body (g0 := fun m => mkF m 0 #[rv lo_, iv pc] []) pn_10 (fun m => ef_10_L m lo_ pc) ?_
  intro p e s m below meth c s₁ X0 hx hby hml hown hnm hZ e0 hret hlk
  have hml : c.maxLocals = 2 := hml
  have hown : s.vm.findClass "com/example/argweave/argweave/LineCounter" = some m.cls := hown
  have hnm : meth.name = "pass" := hnm
  have hret : meth.sig.returnType = none := hret
  have N0 := Fr.nil n0
  have K0 := Keep.refl h0 [lo_]
  show OwnFin p e below s _ _ _ (s₁.setTop (mkF m 0 #[rv lo_, iv pc] []))
  refine own_go (fun t_ k_ => XS.aloadN X0.here hx rfl (hb hby d10_0) rfl rfl k_) ?_
  show OwnFin p e below s _ _ _ (s₁.setTop (mkF m 1 #[rv lo_, iv pc] [(.ref lo_)]))
  obtain ⟨T1, X1, e1, st1⟩ := getF X0 hx hZ hown (host := "") (Or.inl (hw _ (List.mem_of_getElem? (i := 45) rfl))) Via.refl e0 F_brk (g := (mkF m 1 #[rv lo_, iv pc] [(.ref lo_)])) rfl rfl (hb hby d10_1)
  refine own_go st1 ?_
  show OwnFin p e below s _ _ _ (T1.setTop (mkF m 4 #[rv lo_, iv pc] [(.ref so)]))
  refine own_go (fun t_ k_ => XS.iloadN X1.here hx rfl (hb hby d10_4) rfl k_) ?_
  show OwnFin p e below s _ _ _ (T1.setTop (mkF m 5 #[rv lo_, iv pc] [(.int pc), (.ref so)]))
  obtain ⟨v2, T2, L2, X2, hQ2, st2⟩ := own_callV X1 hx hZ (y := (⟨"java/lang/String", "indexOf", "(I)I"⟩ : MethodName)) (z := (⟨"java/lang/String", "indexOf", "(I)I"⟩ : MethodName)) hown (hw _ (List.mem_of_getElem? (i := 55) rfl)) (hw _ (List.mem_of_getElem? (i := 56) rfl)) (notFace_of_selects (args := #[]) (mvT hZ (hw _ (List.mem_of_getElem? (i := 58) rfl)))) (hw _ (List.mem_of_getElem? (i := 58) rfl)) (hw _ (List.mem_of_getElem? (i := 57) rfl)) (hw _ (List.mem_of_getElem? (i := 10) rfl)) (hw _ (List.mem_of_getElem? (i := 59) rfl)) (by decide) (W := 0) (rm11_L l Z a0 hw [] so pc bs px py zc h0 n0 Z0 E_so F_value F_coder V_bs hc hpx hpy hl1 hl2 hzc S_cs OL) (by decide) (by decide) E_so (g := (mkF m 5 #[rv lo_, iv pc] [(.int pc), (.ref so)])) rfl (by rw [hml]; rfl) (argsL := [(.int pc)]) (rest := []) (lenOf pd_10_10 rfl) rfl (by show 2 * 0 + _ ≤ _; exact Nat.le_of_eq rfl) (hb hby d10_5) e1 rfl (by decide) (by decide)
  obtain ⟨rfl, Nq2, e2⟩ := hQ2
  have N2 := Fr.app N0 Nq2
  refine own_go st2 ?_
  show OwnFin p e below s _ _ _ (T2.setTop (mkF m 8 #[rv lo_, iv pc] [(.int (own_idx pc px py))]))
  by_cases q1 : px = pc
  · rw [show own_idx pc px py = 0 by simp [own_idx, q1]]
    show OwnFin p e below s _ _ _ (T2.setTop (mkF m 8 #[rv lo_, iv pc] [(.int (0 : Int32))]))
    refine own_go (fun t_ k_ => XS.ifNo X2.here hx rfl (hb hby d10_8) rfl ((if0 _ _).trans (flt (by decide)).1) k_) ?_
    show OwnFin p e below s _ _ _ (T2.setTop (mkF m 11 #[rv lo_, iv pc] []))
    refine own_go (fun t_ k_ => XS.iloadN X2.here hx rfl (hb hby d10_11) rfl k_) ?_
    show OwnFin p e below s _ _ _ (T2.setTop (mkF m 12 #[rv lo_, iv pc] [(.int pc)]))
    refine own_go (fun t_ k_ => XS.bipush X2.here hx rfl (hb hby d10_12) k_) ?_
    show OwnFin p e below s _ _ _ (T2.setTop (mkF m 14 #[rv lo_, iv pc] [(.int (10 : Int32)), (.int pc)]))
    by_cases hc14 : pc = (10 : Int32)
    · refine own_go (fun t_ k_ => XS.icmpNo X2.here hx rfl (hb hby d10_14) rfl (teq hc14).2 k_) ?_
      show OwnFin p e below s _ _ _ (T2.setTop (mkF m 17 #[rv lo_, iv pc] []))
      refine own_go (fun t_ k_ => XS.aloadN X2.here hx rfl (hb hby d10_17) rfl rfl k_) ?_
      show OwnFin p e below s _ _ _ (T2.setTop (mkF m 18 #[rv lo_, iv pc] [(.ref lo_)]))
      obtain ⟨T3, X3, e3, st3⟩ := getF X2 hx hZ hown (host := "") (Or.inl (hw _ (List.mem_of_getElem? (i := 97) rfl))) Via.refl e2 F_acr (g := (mkF m 18 #[rv lo_, iv pc] [(.ref lo_)])) rfl rfl (hb hby d10_18)
      refine own_go st3 ?_
      show OwnFin p e below s _ _ _ (T3.setTop (mkF m 21 #[rv lo_, iv pc] [(.int pz)]))
      by_cases hc21 : pz = (0 : Int32)
      · refine own_go (fun t_ k_ => XS.ifNo X3.here hx rfl (hb hby d10_21) rfl ((if0 _ _).trans (teq hc21).2) k_) ?_
        show OwnFin p e below s _ _ _ (T3.setTop (mkF m 24 #[rv lo_, iv pc] []))
        refine own_go (fun t_ k_ => XS.aloadN X3.here hx rfl (hb hby d10_24) rfl rfl k_) ?_
        show OwnFin p e below s _ _ _ (T3.setTop (mkF m 25 #[rv lo_, iv pc] [(.ref lo_)]))
        refine own_go (fun t_ k_ => XS.dup X3.here hx rfl (hb hby d10_25) rfl rfl k_) ?_
        show OwnFin p e below s _ _ _ (T3.setTop (mkF m 26 #[rv lo_, iv pc] [(.ref lo_), (.ref lo_)]))
        obtain ⟨T4, X4, e4, st4⟩ := getF X3 hx hZ hown (host := "") (Or.inl (hw _ (List.mem_of_getElem? (i := 41) rfl))) Via.refl e3 F_line (g := (mkF m 26 #[rv lo_, iv pc] [(.ref lo_), (.ref lo_)])) rfl rfl (hb hby d10_26)
        refine own_go st4 ?_
        show OwnFin p e below s _ _ _ (T4.setTop (mkF m 29 #[rv lo_, iv pc] [(.int pl), (.ref lo_)]))
        refine own_go (fun t_ k_ => XS.iconst X4.here hx rfl (hb hby d10_29) k_) ?_
        show OwnFin p e below s _ _ _ (T4.setTop (mkF m 30 #[rv lo_, iv pc] [(.int (1 : Int32)), (.int pl), (.ref lo_)]))
        refine own_go (fun t_ k_ => XS.iadd X4.here hx rfl (hb hby d10_30) rfl k_) ?_
        show OwnFin p e below s _ _ _ (T4.setTop (mkF m 31 #[rv lo_, iv pc] [(.int (pl + (1 : Int32))), (.ref lo_)]))
        obtain ⟨T5, h5, X5, e5, W5, st5⟩ := putF X4 hx hZ hown (host := "") (Or.inl (hw _ (List.mem_of_getElem? (i := 41) rfl))) Via.refl e4 F_line E_lo_ (Or.inl (hw _ (List.mem_of_getElem? (i := 42) rfl))) (hw _ (List.mem_of_getElem? (i := 6) rfl)) (ty := .int) (by decide) rfl rfl (g := (mkF m 31 #[rv lo_, iv pc] [(.int (pl + (1 : Int32))), (.ref lo_)])) rfl rfl (hb hby d10_31)
        have E_lo__5 := E_lo_.wr W5
        have F_line_5 := F_line.same W5
        have F_col_5 := F_col.other W5 (Or.inr (slot_ne (Or.inl (hw _ (List.mem_of_getElem? (i := 44) rfl))) (Or.inl (hw _ (List.mem_of_getElem? (i := 42) rfl))) (by decide) (t := .int) (t' := .int) (by decide) (by decide)))
        have F_brk_5 := F_brk.other W5 (Or.inr (slot_ne (Or.inr (hw _ (List.mem_of_getElem? (i := 46) rfl))) (Or.inl (hw _ (List.mem_of_getElem? (i := 42) rfl))) (by decide) (t := (.object "java/lang/String")) (t' := .int) (by decide) (by decide)))
        have F_acr_5 := F_acr.other W5 (Or.inr (slot_ne (Or.inl (hw _ (List.mem_of_getElem? (i := 98) rfl))) (Or.inl (hw _ (List.mem_of_getElem? (i := 42) rfl))) (by decide) (t := .boolean) (t' := .int) (by decide) (by decide)))
        have E_so_5 := E_so.wr W5
        have F_value_5 := F_value.other W5 (Or.inl (Ne.symm ne1))
        have F_coder_5 := F_coder.other W5 (Or.inl (Ne.symm ne1))
        have V_bs_5 := V_bs.other W5 (Ne.symm ne2)
        have OL_5 := OL.wr W5 g_lo_
        have Z5 : n0 ≤ h5.size := Nat.le_trans Z0 (Keep.of_wr W5).1
        have K5 : Keep h0 h5 [lo_] := K0.wr W5 (Or.inl (List.mem_of_getElem? (i := 0) rfl))
        have N5 := Fr.snoc X5 N2 g_lo_
        refine own_go st5 ?_
        show OwnFin p e below s _ _ _ (T5.setTop (mkF m 34 #[rv lo_, iv pc] []))
        have qe : pc = px := q1.symm
        refine own_go (fun t_ k_ => XS.aloadN X5.here hx rfl (hb hby d10_34) rfl rfl k_) ?_
        show OwnFin p e below s _ _ _ (T5.setTop (mkF m 35 #[rv lo_, iv pc] [(.ref lo_)]))
        refine own_go (fun t_ k_ => XS.iloadN X5.here hx rfl (hb hby d10_35) rfl k_) ?_
        show OwnFin p e below s _ _ _ (T5.setTop (mkF m 36 #[rv lo_, iv pc] [(.int pc), (.ref lo_)]))
        refine own_go (fun t_ k_ => XS.bipush X5.here hx rfl (hb hby d10_36) k_) ?_
        show OwnFin p e below s _ _ _ (T5.setTop (mkF m 38 #[rv lo_, iv pc] [(.int (13 : Int32)), (.int pc), (.ref lo_)]))
        refine own_go (B := T5.setTop (mkF m 46 #[rv lo_, iv pc] [(.int (if pc = (13 : Int32) then (1 : Int32) else (0 : Int32))), (.ref lo_)])) (fun t_ k_ => ?_) ?_
        · by_cases hm38 : pc = (13 : Int32)
          · rw [if_pos hm38] at k_; exact XS.icmpNo X5.here hx rfl (hb hby d10_38) rfl (teq hm38).2 (XS.iconst X5.here hx rfl (hb hby d10_41) (XS.goto X5.here hx rfl (pc0 := 42) (pc' := 46) rfl (hb hby d10_42) (by decide) (by decide) k_))
          · rw [if_neg hm38] at k_; exact XS.icmpYes X5.here hx rfl (pc0 := 38) (pc' := 45) rfl (hb hby d10_38) rfl (feq hm38).2 (by decide) (by decide) (XS.iconst X5.here hx rfl (hb hby d10_45) k_)
        show OwnFin p e below s _ _ _ (T5.setTop (mkF m 46 #[rv lo_, iv pc] [(.int (if pc = (13 : Int32) then (1 : Int32) else (0 : Int32))), (.ref lo_)]))
        obtain ⟨T6, h6, X6, e6, W6, st6⟩ := putFN X5 hx hZ hown (hw _ (List.mem_of_getElem? (i := 97) rfl)) Via.refl e5 F_acr_5 E_lo__5 (Or.inl (hw _ (List.mem_of_getElem? (i := 98) rfl))) (hw _ (List.mem_of_getElem? (i := 6) rfl)) (ty := .boolean) (v' := (.int (nar .boolean (if pc = (13 : Int32) then (1 : Int32) else (0 : Int32))))) (by decide) rfl (fits_nar_bool _) (g := (mkF m 46 #[rv lo_, iv pc] [(.int (if pc = (13 : Int32) then (1 : Int32) else (0 : Int32))), (.ref lo_)])) rfl rfl (hb hby d10_46)
        have E_lo__6 := E_lo__5.wr W6
        have F_line_6 := F_line_5.other W6 (Or.inr (slot_ne (Or.inl (hw _ (List.mem_of_getElem? (i := 42) rfl))) (Or.inl (hw _ (List.mem_of_getElem? (i := 98) rfl))) (by decide) (t := .int) (t' := .boolean) (by decide) (by decide)))
        have F_col_6 := F_col_5.other W6 (Or.inr (slot_ne (Or.inl (hw _ (List.mem_of_getElem? (i := 44) rfl))) (Or.inl (hw _ (List.mem_of_getElem? (i := 98) rfl))) (by decide) (t := .int) (t' := .boolean) (by decide) (by decide)))
        have F_brk_6 := F_brk_5.other W6 (Or.inr (slot_ne (Or.inr (hw _ (List.mem_of_getElem? (i := 46) rfl))) (Or.inl (hw _ (List.mem_of_getElem? (i := 98) rfl))) (by decide) (t := (.object "java/lang/String")) (t' := .boolean) (by decide) (by decide)))
        have F_acr_6 := F_acr_5.same W6
        have E_so_6 := E_so_5.wr W6
        have F_value_6 := F_value_5.other W6 (Or.inl (Ne.symm ne1))
        have F_coder_6 := F_coder_5.other W6 (Or.inl (Ne.symm ne1))
        have V_bs_6 := V_bs_5.other W6 (Ne.symm ne2)
        have OL_6 := OL_5.wr W6 g_lo_
        have Z6 : n0 ≤ h6.size := Nat.le_trans Z5 (Keep.of_wr W6).1
        have K6 : Keep h0 h6 [lo_] := K5.wr W6 (Or.inl (List.mem_of_getElem? (i := 0) rfl))
        have N6 := Fr.snoc X6 N5 g_lo_
        refine own_go st6 ?_
        show OwnFin p e below s _ _ _ (T6.setTop (mkF m 49 #[rv lo_, iv pc] []))
        refine own_ret X6 (v := none) hlk (fun _ => rfl) (fun fs hr => X6.returnOut hx hret (hb hby d10_49) hr) (by decide) (by decide) ?_
        rw [e6]
        have hstep : own_step pc pz px py = 1 := by unfold own_step; rw [if_neg (fun z => z.1 qe), if_neg (fun z => z.2 hc21)]
        refine ⟨rfl, N6, K6, ?_, F_col_6, F_brk_6, ?_⟩
        · rw [hstep]; exact F_line_6
        · rw [← own_nb (pc = 13)]; exact F_acr_6
      · refine own_go (fun t_ k_ => XS.ifYes X3.here hx rfl (pc0 := 21) (pc' := 34) rfl (hb hby d10_21) rfl ((if0 _ _).trans (feq hc21).2) (by decide) (by decide) k_) ?_
        show OwnFin p e below s _ _ _ (T3.setTop (mkF m 34 #[rv lo_, iv pc] []))
        have qe : pc = px := q1.symm
        refine own_go (fun t_ k_ => XS.aloadN X3.here hx rfl (hb hby d10_34) rfl rfl k_) ?_
        show OwnFin p e below s _ _ _ (T3.setTop (mkF m 35 #[rv lo_, iv pc] [(.ref lo_)]))
        refine own_go (fun t_ k_ => XS.iloadN X3.here hx rfl (hb hby d10_35) rfl k_) ?_
        show OwnFin p e below s _ _ _ (T3.setTop (mkF m 36 #[rv lo_, iv pc] [(.int pc), (.ref lo_)]))
        refine own_go (fun t_ k_ => XS.bipush X3.here hx rfl (hb hby d10_36) k_) ?_
        show OwnFin p e below s _ _ _ (T3.setTop (mkF m 38 #[rv lo_, iv pc] [(.int (13 : Int32)), (.int pc), (.ref lo_)]))
        refine own_go (B := T3.setTop (mkF m 46 #[rv lo_, iv pc] [(.int (if pc = (13 : Int32) then (1 : Int32) else (0 : Int32))), (.ref lo_)])) (fun t_ k_ => ?_) ?_
        · by_cases hm38 : pc = (13 : Int32)
          · rw [if_pos hm38] at k_; exact XS.icmpNo X3.here hx rfl (hb hby d10_38) rfl (teq hm38).2 (XS.iconst X3.here hx rfl (hb hby d10_41) (XS.goto X3.here hx rfl (pc0 := 42) (pc' := 46) rfl (hb hby d10_42) (by decide) (by decide) k_))
          · rw [if_neg hm38] at k_; exact XS.icmpYes X3.here hx rfl (pc0 := 38) (pc' := 45) rfl (hb hby d10_38) rfl (feq hm38).2 (by decide) (by decide) (XS.iconst X3.here hx rfl (hb hby d10_45) k_)
        show OwnFin p e below s _ _ _ (T3.setTop (mkF m 46 #[rv lo_, iv pc] [(.int (if pc = (13 : Int32) then (1 : Int32) else (0 : Int32))), (.ref lo_)]))
        obtain ⟨T7, h7, X7, e7, W7, st7⟩ := putFN X3 hx hZ hown (hw _ (List.mem_of_getElem? (i := 97) rfl)) Via.refl e3 F_acr E_lo_ (Or.inl (hw _ (List.mem_of_getElem? (i := 98) rfl))) (hw _ (List.mem_of_getElem? (i := 6) rfl)) (ty := .boolean) (v' := (.int (nar .boolean (if pc = (13 : Int32) then (1 : Int32) else (0 : Int32))))) (by decide) rfl (fits_nar_bool _) (g := (mkF m 46 #[rv lo_, iv pc] [(.int (if pc = (13 : Int32) then (1 : Int32) else (0 : Int32))), (.ref lo_)])) rfl rfl (hb hby d10_46)
        have E_lo__7 := E_lo_.wr W7
        have F_line_7 := F_line.other W7 (Or.inr (slot_ne (Or.inl (hw _ (List.mem_of_getElem? (i := 42) rfl))) (Or.inl (hw _ (List.mem_of_getElem? (i := 98) rfl))) (by decide) (t := .int) (t' := .boolean) (by decide) (by decide)))
        have F_col_7 := F_col.other W7 (Or.inr (slot_ne (Or.inl (hw _ (List.mem_of_getElem? (i := 44) rfl))) (Or.inl (hw _ (List.mem_of_getElem? (i := 98) rfl))) (by decide) (t := .int) (t' := .boolean) (by decide) (by decide)))
        have F_brk_7 := F_brk.other W7 (Or.inr (slot_ne (Or.inr (hw _ (List.mem_of_getElem? (i := 46) rfl))) (Or.inl (hw _ (List.mem_of_getElem? (i := 98) rfl))) (by decide) (t := (.object "java/lang/String")) (t' := .boolean) (by decide) (by decide)))
        have F_acr_7 := F_acr.same W7
        have E_so_7 := E_so.wr W7
        have F_value_7 := F_value.other W7 (Or.inl (Ne.symm ne1))
        have F_coder_7 := F_coder.other W7 (Or.inl (Ne.symm ne1))
        have V_bs_7 := V_bs.other W7 (Ne.symm ne2)
        have OL_7 := OL.wr W7 g_lo_
        have Z7 : n0 ≤ h7.size := Nat.le_trans Z0 (Keep.of_wr W7).1
        have K7 : Keep h0 h7 [lo_] := K0.wr W7 (Or.inl (List.mem_of_getElem? (i := 0) rfl))
        have N7 := Fr.snoc X7 N2 g_lo_
        refine own_go st7 ?_
        show OwnFin p e below s _ _ _ (T7.setTop (mkF m 49 #[rv lo_, iv pc] []))
        refine own_ret X7 (v := none) hlk (fun _ => rfl) (fun fs hr => X7.returnOut hx hret (hb hby d10_49) hr) (by decide) (by decide) ?_
        rw [e7]
        have hstep : own_step pc pz px py = 0 := by unfold own_step; rw [if_neg (fun z => z.1 qe), if_pos ⟨hc14, hc21⟩]
        refine ⟨rfl, N7, K7, ?_, F_col_7, F_brk_7, ?_⟩
        · rw [hstep, Int32.add_zero]; exact F_line_7
        · rw [← own_nb (pc = 13)]; exact F_acr_7
    · refine own_go (fun t_ k_ => XS.icmpYes X2.here hx rfl (pc0 := 14) (pc' := 24) rfl (hb hby d10_14) rfl (feq hc14).2 (by decide) (by decide) k_) ?_
      show OwnFin p e below s _ _ _ (T2.setTop (mkF m 24 #[rv lo_, iv pc] []))
      refine own_go (fun t_ k_ => XS.aloadN X2.here hx rfl (hb hby d10_24) rfl rfl k_) ?_
      show OwnFin p e below s _ _ _ (T2.setTop (mkF m 25 #[rv lo_, iv pc] [(.ref lo_)]))
      refine own_go (fun t_ k_ => XS.dup X2.here hx rfl (hb hby d10_25) rfl rfl k_) ?_
      show OwnFin p e below s _ _ _ (T2.setTop (mkF m 26 #[rv lo_, iv pc] [(.ref lo_), (.ref lo_)]))
      obtain ⟨T8, X8, e8, st8⟩ := getF X2 hx hZ hown (host := "") (Or.inl (hw _ (List.mem_of_getElem? (i := 41) rfl))) Via.refl e2 F_line (g := (mkF m 26 #[rv lo_, iv pc] [(.ref lo_), (.ref lo_)])) rfl rfl (hb hby d10_26)
      refine own_go st8 ?_
      show OwnFin p e below s _ _ _ (T8.setTop (mkF m 29 #[rv lo_, iv pc] [(.int pl), (.ref lo_)]))
      refine own_go (fun t_ k_ => XS.iconst X8.here hx rfl (hb hby d10_29) k_) ?_
      show OwnFin p e below s _ _ _ (T8.setTop (mkF m 30 #[rv lo_, iv pc] [(.int (1 : Int32)), (.int pl), (.ref lo_)]))
      refine own_go (fun t_ k_ => XS.iadd X8.here hx rfl (hb hby d10_30) rfl k_) ?_
      show OwnFin p e below s _ _ _ (T8.setTop (mkF m 31 #[rv lo_, iv pc] [(.int (pl + (1 : Int32))), (.ref lo_)]))
      obtain ⟨T9, h9, X9, e9, W9, st9⟩ := putF X8 hx hZ hown (host := "") (Or.inl (hw _ (List.mem_of_getElem? (i := 41) rfl))) Via.refl e8 F_line E_lo_ (Or.inl (hw _ (List.mem_of_getElem? (i := 42) rfl))) (hw _ (List.mem_of_getElem? (i := 6) rfl)) (ty := .int) (by decide) rfl rfl (g := (mkF m 31 #[rv lo_, iv pc] [(.int (pl + (1 : Int32))), (.ref lo_)])) rfl rfl (hb hby d10_31)
      have E_lo__9 := E_lo_.wr W9
      have F_line_9 := F_line.same W9
      have F_col_9 := F_col.other W9 (Or.inr (slot_ne (Or.inl (hw _ (List.mem_of_getElem? (i := 44) rfl))) (Or.inl (hw _ (List.mem_of_getElem? (i := 42) rfl))) (by decide) (t := .int) (t' := .int) (by decide) (by decide)))
      have F_brk_9 := F_brk.other W9 (Or.inr (slot_ne (Or.inr (hw _ (List.mem_of_getElem? (i := 46) rfl))) (Or.inl (hw _ (List.mem_of_getElem? (i := 42) rfl))) (by decide) (t := (.object "java/lang/String")) (t' := .int) (by decide) (by decide)))
      have F_acr_9 := F_acr.other W9 (Or.inr (slot_ne (Or.inl (hw _ (List.mem_of_getElem? (i := 98) rfl))) (Or.inl (hw _ (List.mem_of_getElem? (i := 42) rfl))) (by decide) (t := .boolean) (t' := .int) (by decide) (by decide)))
      have E_so_9 := E_so.wr W9
      have F_value_9 := F_value.other W9 (Or.inl (Ne.symm ne1))
      have F_coder_9 := F_coder.other W9 (Or.inl (Ne.symm ne1))
      have V_bs_9 := V_bs.other W9 (Ne.symm ne2)
      have OL_9 := OL.wr W9 g_lo_
      have Z9 : n0 ≤ h9.size := Nat.le_trans Z0 (Keep.of_wr W9).1
      have K9 : Keep h0 h9 [lo_] := K0.wr W9 (Or.inl (List.mem_of_getElem? (i := 0) rfl))
      have N9 := Fr.snoc X9 N2 g_lo_
      refine own_go st9 ?_
      show OwnFin p e below s _ _ _ (T9.setTop (mkF m 34 #[rv lo_, iv pc] []))
      have qe : pc = px := q1.symm
      refine own_go (fun t_ k_ => XS.aloadN X9.here hx rfl (hb hby d10_34) rfl rfl k_) ?_
      show OwnFin p e below s _ _ _ (T9.setTop (mkF m 35 #[rv lo_, iv pc] [(.ref lo_)]))
      refine own_go (fun t_ k_ => XS.iloadN X9.here hx rfl (hb hby d10_35) rfl k_) ?_
      show OwnFin p e below s _ _ _ (T9.setTop (mkF m 36 #[rv lo_, iv pc] [(.int pc), (.ref lo_)]))
      refine own_go (fun t_ k_ => XS.bipush X9.here hx rfl (hb hby d10_36) k_) ?_
      show OwnFin p e below s _ _ _ (T9.setTop (mkF m 38 #[rv lo_, iv pc] [(.int (13 : Int32)), (.int pc), (.ref lo_)]))
      refine own_go (B := T9.setTop (mkF m 46 #[rv lo_, iv pc] [(.int (if pc = (13 : Int32) then (1 : Int32) else (0 : Int32))), (.ref lo_)])) (fun t_ k_ => ?_) ?_
      · by_cases hm38 : pc = (13 : Int32)
        · rw [if_pos hm38] at k_; exact XS.icmpNo X9.here hx rfl (hb hby d10_38) rfl (teq hm38).2 (XS.iconst X9.here hx rfl (hb hby d10_41) (XS.goto X9.here hx rfl (pc0 := 42) (pc' := 46) rfl (hb hby d10_42) (by decide) (by decide) k_))
        · rw [if_neg hm38] at k_; exact XS.icmpYes X9.here hx rfl (pc0 := 38) (pc' := 45) rfl (hb hby d10_38) rfl (feq hm38).2 (by decide) (by decide) (XS.iconst X9.here hx rfl (hb hby d10_45) k_)
      show OwnFin p e below s _ _ _ (T9.setTop (mkF m 46 #[rv lo_, iv pc] [(.int (if pc = (13 : Int32) then (1 : Int32) else (0 : Int32))), (.ref lo_)]))
      obtain ⟨T10, h10, X10, e10, W10, st10⟩ := putFN X9 hx hZ hown (hw _ (List.mem_of_getElem? (i := 97) rfl)) Via.refl e9 F_acr_9 E_lo__9 (Or.inl (hw _ (List.mem_of_getElem? (i := 98) rfl))) (hw _ (List.mem_of_getElem? (i := 6) rfl)) (ty := .boolean) (v' := (.int (nar .boolean (if pc = (13 : Int32) then (1 : Int32) else (0 : Int32))))) (by decide) rfl (fits_nar_bool _) (g := (mkF m 46 #[rv lo_, iv pc] [(.int (if pc = (13 : Int32) then (1 : Int32) else (0 : Int32))), (.ref lo_)])) rfl rfl (hb hby d10_46)
      have E_lo__10 := E_lo__9.wr W10
      have F_line_10 := F_line_9.other W10 (Or.inr (slot_ne (Or.inl (hw _ (List.mem_of_getElem? (i := 42) rfl))) (Or.inl (hw _ (List.mem_of_getElem? (i := 98) rfl))) (by decide) (t := .int) (t' := .boolean) (by decide) (by decide)))
      have F_col_10 := F_col_9.other W10 (Or.inr (slot_ne (Or.inl (hw _ (List.mem_of_getElem? (i := 44) rfl))) (Or.inl (hw _ (List.mem_of_getElem? (i := 98) rfl))) (by decide) (t := .int) (t' := .boolean) (by decide) (by decide)))
      have F_brk_10 := F_brk_9.other W10 (Or.inr (slot_ne (Or.inr (hw _ (List.mem_of_getElem? (i := 46) rfl))) (Or.inl (hw _ (List.mem_of_getElem? (i := 98) rfl))) (by decide) (t := (.object "java/lang/String")) (t' := .boolean) (by decide) (by decide)))
      have F_acr_10 := F_acr_9.same W10
      have E_so_10 := E_so_9.wr W10
      have F_value_10 := F_value_9.other W10 (Or.inl (Ne.symm ne1))
      have F_coder_10 := F_coder_9.other W10 (Or.inl (Ne.symm ne1))
      have V_bs_10 := V_bs_9.other W10 (Ne.symm ne2)
      have OL_10 := OL_9.wr W10 g_lo_
      have Z10 : n0 ≤ h10.size := Nat.le_trans Z9 (Keep.of_wr W10).1
      have K10 : Keep h0 h10 [lo_] := K9.wr W10 (Or.inl (List.mem_of_getElem? (i := 0) rfl))
      have N10 := Fr.snoc X10 N9 g_lo_
      refine own_go st10 ?_
      show OwnFin p e below s _ _ _ (T10.setTop (mkF m 49 #[rv lo_, iv pc] []))
      refine own_ret X10 (v := none) hlk (fun _ => rfl) (fun fs hr => X10.returnOut hx hret (hb hby d10_49) hr) (by decide) (by decide) ?_
      rw [e10]
      have hstep : own_step pc pz px py = 1 := by unfold own_step; rw [if_neg (fun z => z.1 qe), if_neg (fun z => hc14 z.1)]
      refine ⟨rfl, N10, K10, ?_, F_col_10, F_brk_10, ?_⟩
      · rw [hstep]; exact F_line_10
      · rw [← own_nb (pc = 13)]; exact F_acr_10
  by_cases q2 : py = pc
  · rw [show own_idx pc px py = 1 by simp [own_idx, q1, q2]]
    show OwnFin p e below s _ _ _ (T2.setTop (mkF m 8 #[rv lo_, iv pc] [(.int (1 : Int32))]))
    refine own_go (fun t_ k_ => XS.ifNo X2.here hx rfl (hb hby d10_8) rfl ((if0 _ _).trans (flt (by decide)).1) k_) ?_
    show OwnFin p e below s _ _ _ (T2.setTop (mkF m 11 #[rv lo_, iv pc] []))
    refine own_go (fun t_ k_ => XS.iloadN X2.here hx rfl (hb hby d10_11) rfl k_) ?_
    show OwnFin p e below s _ _ _ (T2.setTop (mkF m 12 #[rv lo_, iv pc] [(.int pc)]))
    refine own_go (fun t_ k_ => XS.bipush X2.here hx rfl (hb hby d10_12) k_) ?_
    show OwnFin p e below s _ _ _ (T2.setTop (mkF m 14 #[rv lo_, iv pc] [(.int (10 : Int32)), (.int pc)]))
    by_cases hc14 : pc = (10 : Int32)
    · refine own_go (fun t_ k_ => XS.icmpNo X2.here hx rfl (hb hby d10_14) rfl (teq hc14).2 k_) ?_
      show OwnFin p e below s _ _ _ (T2.setTop (mkF m 17 #[rv lo_, iv pc] []))
      refine own_go (fun t_ k_ => XS.aloadN X2.here hx rfl (hb hby d10_17) rfl rfl k_) ?_
      show OwnFin p e below s _ _ _ (T2.setTop (mkF m 18 #[rv lo_, iv pc] [(.ref lo_)]))
      obtain ⟨T11, X11, e11, st11⟩ := getF X2 hx hZ hown (host := "") (Or.inl (hw _ (List.mem_of_getElem? (i := 97) rfl))) Via.refl e2 F_acr (g := (mkF m 18 #[rv lo_, iv pc] [(.ref lo_)])) rfl rfl (hb hby d10_18)
      refine own_go st11 ?_
      show OwnFin p e below s _ _ _ (T11.setTop (mkF m 21 #[rv lo_, iv pc] [(.int pz)]))
      by_cases hc21 : pz = (0 : Int32)
      · refine own_go (fun t_ k_ => XS.ifNo X11.here hx rfl (hb hby d10_21) rfl ((if0 _ _).trans (teq hc21).2) k_) ?_
        show OwnFin p e below s _ _ _ (T11.setTop (mkF m 24 #[rv lo_, iv pc] []))
        refine own_go (fun t_ k_ => XS.aloadN X11.here hx rfl (hb hby d10_24) rfl rfl k_) ?_
        show OwnFin p e below s _ _ _ (T11.setTop (mkF m 25 #[rv lo_, iv pc] [(.ref lo_)]))
        refine own_go (fun t_ k_ => XS.dup X11.here hx rfl (hb hby d10_25) rfl rfl k_) ?_
        show OwnFin p e below s _ _ _ (T11.setTop (mkF m 26 #[rv lo_, iv pc] [(.ref lo_), (.ref lo_)]))
        obtain ⟨T12, X12, e12, st12⟩ := getF X11 hx hZ hown (host := "") (Or.inl (hw _ (List.mem_of_getElem? (i := 41) rfl))) Via.refl e11 F_line (g := (mkF m 26 #[rv lo_, iv pc] [(.ref lo_), (.ref lo_)])) rfl rfl (hb hby d10_26)
        refine own_go st12 ?_
        show OwnFin p e below s _ _ _ (T12.setTop (mkF m 29 #[rv lo_, iv pc] [(.int pl), (.ref lo_)]))
        refine own_go (fun t_ k_ => XS.iconst X12.here hx rfl (hb hby d10_29) k_) ?_
        show OwnFin p e below s _ _ _ (T12.setTop (mkF m 30 #[rv lo_, iv pc] [(.int (1 : Int32)), (.int pl), (.ref lo_)]))
        refine own_go (fun t_ k_ => XS.iadd X12.here hx rfl (hb hby d10_30) rfl k_) ?_
        show OwnFin p e below s _ _ _ (T12.setTop (mkF m 31 #[rv lo_, iv pc] [(.int (pl + (1 : Int32))), (.ref lo_)]))
        obtain ⟨T13, h13, X13, e13, W13, st13⟩ := putF X12 hx hZ hown (host := "") (Or.inl (hw _ (List.mem_of_getElem? (i := 41) rfl))) Via.refl e12 F_line E_lo_ (Or.inl (hw _ (List.mem_of_getElem? (i := 42) rfl))) (hw _ (List.mem_of_getElem? (i := 6) rfl)) (ty := .int) (by decide) rfl rfl (g := (mkF m 31 #[rv lo_, iv pc] [(.int (pl + (1 : Int32))), (.ref lo_)])) rfl rfl (hb hby d10_31)
        have E_lo__13 := E_lo_.wr W13
        have F_line_13 := F_line.same W13
        have F_col_13 := F_col.other W13 (Or.inr (slot_ne (Or.inl (hw _ (List.mem_of_getElem? (i := 44) rfl))) (Or.inl (hw _ (List.mem_of_getElem? (i := 42) rfl))) (by decide) (t := .int) (t' := .int) (by decide) (by decide)))
        have F_brk_13 := F_brk.other W13 (Or.inr (slot_ne (Or.inr (hw _ (List.mem_of_getElem? (i := 46) rfl))) (Or.inl (hw _ (List.mem_of_getElem? (i := 42) rfl))) (by decide) (t := (.object "java/lang/String")) (t' := .int) (by decide) (by decide)))
        have F_acr_13 := F_acr.other W13 (Or.inr (slot_ne (Or.inl (hw _ (List.mem_of_getElem? (i := 98) rfl))) (Or.inl (hw _ (List.mem_of_getElem? (i := 42) rfl))) (by decide) (t := .boolean) (t' := .int) (by decide) (by decide)))
        have E_so_13 := E_so.wr W13
        have F_value_13 := F_value.other W13 (Or.inl (Ne.symm ne1))
        have F_coder_13 := F_coder.other W13 (Or.inl (Ne.symm ne1))
        have V_bs_13 := V_bs.other W13 (Ne.symm ne2)
        have OL_13 := OL.wr W13 g_lo_
        have Z13 : n0 ≤ h13.size := Nat.le_trans Z0 (Keep.of_wr W13).1
        have K13 : Keep h0 h13 [lo_] := K0.wr W13 (Or.inl (List.mem_of_getElem? (i := 0) rfl))
        have N13 := Fr.snoc X13 N2 g_lo_
        refine own_go st13 ?_
        show OwnFin p e below s _ _ _ (T13.setTop (mkF m 34 #[rv lo_, iv pc] []))
        have qe : pc = py := q2.symm
        refine own_go (fun t_ k_ => XS.aloadN X13.here hx rfl (hb hby d10_34) rfl rfl k_) ?_
        show OwnFin p e below s _ _ _ (T13.setTop (mkF m 35 #[rv lo_, iv pc] [(.ref lo_)]))
        refine own_go (fun t_ k_ => XS.iloadN X13.here hx rfl (hb hby d10_35) rfl k_) ?_
        show OwnFin p e below s _ _ _ (T13.setTop (mkF m 36 #[rv lo_, iv pc] [(.int pc), (.ref lo_)]))
        refine own_go (fun t_ k_ => XS.bipush X13.here hx rfl (hb hby d10_36) k_) ?_
        show OwnFin p e below s _ _ _ (T13.setTop (mkF m 38 #[rv lo_, iv pc] [(.int (13 : Int32)), (.int pc), (.ref lo_)]))
        refine own_go (B := T13.setTop (mkF m 46 #[rv lo_, iv pc] [(.int (if pc = (13 : Int32) then (1 : Int32) else (0 : Int32))), (.ref lo_)])) (fun t_ k_ => ?_) ?_
        · by_cases hm38 : pc = (13 : Int32)
          · rw [if_pos hm38] at k_; exact XS.icmpNo X13.here hx rfl (hb hby d10_38) rfl (teq hm38).2 (XS.iconst X13.here hx rfl (hb hby d10_41) (XS.goto X13.here hx rfl (pc0 := 42) (pc' := 46) rfl (hb hby d10_42) (by decide) (by decide) k_))
          · rw [if_neg hm38] at k_; exact XS.icmpYes X13.here hx rfl (pc0 := 38) (pc' := 45) rfl (hb hby d10_38) rfl (feq hm38).2 (by decide) (by decide) (XS.iconst X13.here hx rfl (hb hby d10_45) k_)
        show OwnFin p e below s _ _ _ (T13.setTop (mkF m 46 #[rv lo_, iv pc] [(.int (if pc = (13 : Int32) then (1 : Int32) else (0 : Int32))), (.ref lo_)]))
        obtain ⟨T14, h14, X14, e14, W14, st14⟩ := putFN X13 hx hZ hown (hw _ (List.mem_of_getElem? (i := 97) rfl)) Via.refl e13 F_acr_13 E_lo__13 (Or.inl (hw _ (List.mem_of_getElem? (i := 98) rfl))) (hw _ (List.mem_of_getElem? (i := 6) rfl)) (ty := .boolean) (v' := (.int (nar .boolean (if pc = (13 : Int32) then (1 : Int32) else (0 : Int32))))) (by decide) rfl (fits_nar_bool _) (g := (mkF m 46 #[rv lo_, iv pc] [(.int (if pc = (13 : Int32) then (1 : Int32) else (0 : Int32))), (.ref lo_)])) rfl rfl (hb hby d10_46)
        have E_lo__14 := E_lo__13.wr W14
        have F_line_14 := F_line_13.other W14 (Or.inr (slot_ne (Or.inl (hw _ (List.mem_of_getElem? (i := 42) rfl))) (Or.inl (hw _ (List.mem_of_getElem? (i := 98) rfl))) (by decide) (t := .int) (t' := .boolean) (by decide) (by decide)))
        have F_col_14 := F_col_13.other W14 (Or.inr (slot_ne (Or.inl (hw _ (List.mem_of_getElem? (i := 44) rfl))) (Or.inl (hw _ (List.mem_of_getElem? (i := 98) rfl))) (by decide) (t := .int) (t' := .boolean) (by decide) (by decide)))
        have F_brk_14 := F_brk_13.other W14 (Or.inr (slot_ne (Or.inr (hw _ (List.mem_of_getElem? (i := 46) rfl))) (Or.inl (hw _ (List.mem_of_getElem? (i := 98) rfl))) (by decide) (t := (.object "java/lang/String")) (t' := .boolean) (by decide) (by decide)))
        have F_acr_14 := F_acr_13.same W14
        have E_so_14 := E_so_13.wr W14
        have F_value_14 := F_value_13.other W14 (Or.inl (Ne.symm ne1))
        have F_coder_14 := F_coder_13.other W14 (Or.inl (Ne.symm ne1))
        have V_bs_14 := V_bs_13.other W14 (Ne.symm ne2)
        have OL_14 := OL_13.wr W14 g_lo_
        have Z14 : n0 ≤ h14.size := Nat.le_trans Z13 (Keep.of_wr W14).1
        have K14 : Keep h0 h14 [lo_] := K13.wr W14 (Or.inl (List.mem_of_getElem? (i := 0) rfl))
        have N14 := Fr.snoc X14 N13 g_lo_
        refine own_go st14 ?_
        show OwnFin p e below s _ _ _ (T14.setTop (mkF m 49 #[rv lo_, iv pc] []))
        refine own_ret X14 (v := none) hlk (fun _ => rfl) (fun fs hr => X14.returnOut hx hret (hb hby d10_49) hr) (by decide) (by decide) ?_
        rw [e14]
        have hstep : own_step pc pz px py = 1 := by unfold own_step; rw [if_neg (fun z => z.2 qe), if_neg (fun z => z.2 hc21)]
        refine ⟨rfl, N14, K14, ?_, F_col_14, F_brk_14, ?_⟩
        · rw [hstep]; exact F_line_14
        · rw [← own_nb (pc = 13)]; exact F_acr_14
      · refine own_go (fun t_ k_ => XS.ifYes X11.here hx rfl (pc0 := 21) (pc' := 34) rfl (hb hby d10_21) rfl ((if0 _ _).trans (feq hc21).2) (by decide) (by decide) k_) ?_
        show OwnFin p e below s _ _ _ (T11.setTop (mkF m 34 #[rv lo_, iv pc] []))
        have qe : pc = py := q2.symm
        refine own_go (fun t_ k_ => XS.aloadN X11.here hx rfl (hb hby d10_34) rfl rfl k_) ?_
        show OwnFin p e below s _ _ _ (T11.setTop (mkF m 35 #[rv lo_, iv pc] [(.ref lo_)]))
        refine own_go (fun t_ k_ => XS.iloadN X11.here hx rfl (hb hby d10_35) rfl k_) ?_
        show OwnFin p e below s _ _ _ (T11.setTop (mkF m 36 #[rv lo_, iv pc] [(.int pc), (.ref lo_)]))
        refine own_go (fun t_ k_ => XS.bipush X11.here hx rfl (hb hby d10_36) k_) ?_
        show OwnFin p e below s _ _ _ (T11.setTop (mkF m 38 #[rv lo_, iv pc] [(.int (13 : Int32)), (.int pc), (.ref lo_)]))
        refine own_go (B := T11.setTop (mkF m 46 #[rv lo_, iv pc] [(.int (if pc = (13 : Int32) then (1 : Int32) else (0 : Int32))), (.ref lo_)])) (fun t_ k_ => ?_) ?_
        · by_cases hm38 : pc = (13 : Int32)
          · rw [if_pos hm38] at k_; exact XS.icmpNo X11.here hx rfl (hb hby d10_38) rfl (teq hm38).2 (XS.iconst X11.here hx rfl (hb hby d10_41) (XS.goto X11.here hx rfl (pc0 := 42) (pc' := 46) rfl (hb hby d10_42) (by decide) (by decide) k_))
          · rw [if_neg hm38] at k_; exact XS.icmpYes X11.here hx rfl (pc0 := 38) (pc' := 45) rfl (hb hby d10_38) rfl (feq hm38).2 (by decide) (by decide) (XS.iconst X11.here hx rfl (hb hby d10_45) k_)
        show OwnFin p e below s _ _ _ (T11.setTop (mkF m 46 #[rv lo_, iv pc] [(.int (if pc = (13 : Int32) then (1 : Int32) else (0 : Int32))), (.ref lo_)]))
        obtain ⟨T15, h15, X15, e15, W15, st15⟩ := putFN X11 hx hZ hown (hw _ (List.mem_of_getElem? (i := 97) rfl)) Via.refl e11 F_acr E_lo_ (Or.inl (hw _ (List.mem_of_getElem? (i := 98) rfl))) (hw _ (List.mem_of_getElem? (i := 6) rfl)) (ty := .boolean) (v' := (.int (nar .boolean (if pc = (13 : Int32) then (1 : Int32) else (0 : Int32))))) (by decide) rfl (fits_nar_bool _) (g := (mkF m 46 #[rv lo_, iv pc] [(.int (if pc = (13 : Int32) then (1 : Int32) else (0 : Int32))), (.ref lo_)])) rfl rfl (hb hby d10_46)
        have E_lo__15 := E_lo_.wr W15
        have F_line_15 := F_line.other W15 (Or.inr (slot_ne (Or.inl (hw _ (List.mem_of_getElem? (i := 42) rfl))) (Or.inl (hw _ (List.mem_of_getElem? (i := 98) rfl))) (by decide) (t := .int) (t' := .boolean) (by decide) (by decide)))
        have F_col_15 := F_col.other W15 (Or.inr (slot_ne (Or.inl (hw _ (List.mem_of_getElem? (i := 44) rfl))) (Or.inl (hw _ (List.mem_of_getElem? (i := 98) rfl))) (by decide) (t := .int) (t' := .boolean) (by decide) (by decide)))
        have F_brk_15 := F_brk.other W15 (Or.inr (slot_ne (Or.inr (hw _ (List.mem_of_getElem? (i := 46) rfl))) (Or.inl (hw _ (List.mem_of_getElem? (i := 98) rfl))) (by decide) (t := (.object "java/lang/String")) (t' := .boolean) (by decide) (by decide)))
        have F_acr_15 := F_acr.same W15
        have E_so_15 := E_so.wr W15
        have F_value_15 := F_value.other W15 (Or.inl (Ne.symm ne1))
        have F_coder_15 := F_coder.other W15 (Or.inl (Ne.symm ne1))
        have V_bs_15 := V_bs.other W15 (Ne.symm ne2)
        have OL_15 := OL.wr W15 g_lo_
        have Z15 : n0 ≤ h15.size := Nat.le_trans Z0 (Keep.of_wr W15).1
        have K15 : Keep h0 h15 [lo_] := K0.wr W15 (Or.inl (List.mem_of_getElem? (i := 0) rfl))
        have N15 := Fr.snoc X15 N2 g_lo_
        refine own_go st15 ?_
        show OwnFin p e below s _ _ _ (T15.setTop (mkF m 49 #[rv lo_, iv pc] []))
        refine own_ret X15 (v := none) hlk (fun _ => rfl) (fun fs hr => X15.returnOut hx hret (hb hby d10_49) hr) (by decide) (by decide) ?_
        rw [e15]
        have hstep : own_step pc pz px py = 0 := by unfold own_step; rw [if_neg (fun z => z.2 qe), if_pos ⟨hc14, hc21⟩]
        refine ⟨rfl, N15, K15, ?_, F_col_15, F_brk_15, ?_⟩
        · rw [hstep, Int32.add_zero]; exact F_line_15
        · rw [← own_nb (pc = 13)]; exact F_acr_15
    · refine own_go (fun t_ k_ => XS.icmpYes X2.here hx rfl (pc0 := 14) (pc' := 24) rfl (hb hby d10_14) rfl (feq hc14).2 (by decide) (by decide) k_) ?_
      show OwnFin p e below s _ _ _ (T2.setTop (mkF m 24 #[rv lo_, iv pc] []))
      refine own_go (fun t_ k_ => XS.aloadN X2.here hx rfl (hb hby d10_24) rfl rfl k_) ?_
      show OwnFin p e below s _ _ _ (T2.setTop (mkF m 25 #[rv lo_, iv pc] [(.ref lo_)]))
      refine own_go (fun t_ k_ => XS.dup X2.here hx rfl (hb hby d10_25) rfl rfl k_) ?_
      show OwnFin p e below s _ _ _ (T2.setTop (mkF m 26 #[rv lo_, iv pc] [(.ref lo_), (.ref lo_)]))
      obtain ⟨T16, X16, e16, st16⟩ := getF X2 hx hZ hown (host := "") (Or.inl (hw _ (List.mem_of_getElem? (i := 41) rfl))) Via.refl e2 F_line (g := (mkF m 26 #[rv lo_, iv pc] [(.ref lo_), (.ref lo_)])) rfl rfl (hb hby d10_26)
      refine own_go st16 ?_
      show OwnFin p e below s _ _ _ (T16.setTop (mkF m 29 #[rv lo_, iv pc] [(.int pl), (.ref lo_)]))
      refine own_go (fun t_ k_ => XS.iconst X16.here hx rfl (hb hby d10_29) k_) ?_
      show OwnFin p e below s _ _ _ (T16.setTop (mkF m 30 #[rv lo_, iv pc] [(.int (1 : Int32)), (.int pl), (.ref lo_)]))
      refine own_go (fun t_ k_ => XS.iadd X16.here hx rfl (hb hby d10_30) rfl k_) ?_
      show OwnFin p e below s _ _ _ (T16.setTop (mkF m 31 #[rv lo_, iv pc] [(.int (pl + (1 : Int32))), (.ref lo_)]))
      obtain ⟨T17, h17, X17, e17, W17, st17⟩ := putF X16 hx hZ hown (host := "") (Or.inl (hw _ (List.mem_of_getElem? (i := 41) rfl))) Via.refl e16 F_line E_lo_ (Or.inl (hw _ (List.mem_of_getElem? (i := 42) rfl))) (hw _ (List.mem_of_getElem? (i := 6) rfl)) (ty := .int) (by decide) rfl rfl (g := (mkF m 31 #[rv lo_, iv pc] [(.int (pl + (1 : Int32))), (.ref lo_)])) rfl rfl (hb hby d10_31)
      have E_lo__17 := E_lo_.wr W17
      have F_line_17 := F_line.same W17
      have F_col_17 := F_col.other W17 (Or.inr (slot_ne (Or.inl (hw _ (List.mem_of_getElem? (i := 44) rfl))) (Or.inl (hw _ (List.mem_of_getElem? (i := 42) rfl))) (by decide) (t := .int) (t' := .int) (by decide) (by decide)))
      have F_brk_17 := F_brk.other W17 (Or.inr (slot_ne (Or.inr (hw _ (List.mem_of_getElem? (i := 46) rfl))) (Or.inl (hw _ (List.mem_of_getElem? (i := 42) rfl))) (by decide) (t := (.object "java/lang/String")) (t' := .int) (by decide) (by decide)))
      have F_acr_17 := F_acr.other W17 (Or.inr (slot_ne (Or.inl (hw _ (List.mem_of_getElem? (i := 98) rfl))) (Or.inl (hw _ (List.mem_of_getElem? (i := 42) rfl))) (by decide) (t := .boolean) (t' := .int) (by decide) (by decide)))
      have E_so_17 := E_so.wr W17
      have F_value_17 := F_value.other W17 (Or.inl (Ne.symm ne1))
      have F_coder_17 := F_coder.other W17 (Or.inl (Ne.symm ne1))
      have V_bs_17 := V_bs.other W17 (Ne.symm ne2)
      have OL_17 := OL.wr W17 g_lo_
      have Z17 : n0 ≤ h17.size := Nat.le_trans Z0 (Keep.of_wr W17).1
      have K17 : Keep h0 h17 [lo_] := K0.wr W17 (Or.inl (List.mem_of_getElem? (i := 0) rfl))
      have N17 := Fr.snoc X17 N2 g_lo_
      refine own_go st17 ?_
      show OwnFin p e below s _ _ _ (T17.setTop (mkF m 34 #[rv lo_, iv pc] []))
      have qe : pc = py := q2.symm
      refine own_go (fun t_ k_ => XS.aloadN X17.here hx rfl (hb hby d10_34) rfl rfl k_) ?_
      show OwnFin p e below s _ _ _ (T17.setTop (mkF m 35 #[rv lo_, iv pc] [(.ref lo_)]))
      refine own_go (fun t_ k_ => XS.iloadN X17.here hx rfl (hb hby d10_35) rfl k_) ?_
      show OwnFin p e below s _ _ _ (T17.setTop (mkF m 36 #[rv lo_, iv pc] [(.int pc), (.ref lo_)]))
      refine own_go (fun t_ k_ => XS.bipush X17.here hx rfl (hb hby d10_36) k_) ?_
      show OwnFin p e below s _ _ _ (T17.setTop (mkF m 38 #[rv lo_, iv pc] [(.int (13 : Int32)), (.int pc), (.ref lo_)]))
      refine own_go (B := T17.setTop (mkF m 46 #[rv lo_, iv pc] [(.int (if pc = (13 : Int32) then (1 : Int32) else (0 : Int32))), (.ref lo_)])) (fun t_ k_ => ?_) ?_
      · by_cases hm38 : pc = (13 : Int32)
        · rw [if_pos hm38] at k_; exact XS.icmpNo X17.here hx rfl (hb hby d10_38) rfl (teq hm38).2 (XS.iconst X17.here hx rfl (hb hby d10_41) (XS.goto X17.here hx rfl (pc0 := 42) (pc' := 46) rfl (hb hby d10_42) (by decide) (by decide) k_))
        · rw [if_neg hm38] at k_; exact XS.icmpYes X17.here hx rfl (pc0 := 38) (pc' := 45) rfl (hb hby d10_38) rfl (feq hm38).2 (by decide) (by decide) (XS.iconst X17.here hx rfl (hb hby d10_45) k_)
      show OwnFin p e below s _ _ _ (T17.setTop (mkF m 46 #[rv lo_, iv pc] [(.int (if pc = (13 : Int32) then (1 : Int32) else (0 : Int32))), (.ref lo_)]))
      obtain ⟨T18, h18, X18, e18, W18, st18⟩ := putFN X17 hx hZ hown (hw _ (List.mem_of_getElem? (i := 97) rfl)) Via.refl e17 F_acr_17 E_lo__17 (Or.inl (hw _ (List.mem_of_getElem? (i := 98) rfl))) (hw _ (List.mem_of_getElem? (i := 6) rfl)) (ty := .boolean) (v' := (.int (nar .boolean (if pc = (13 : Int32) then (1 : Int32) else (0 : Int32))))) (by decide) rfl (fits_nar_bool _) (g := (mkF m 46 #[rv lo_, iv pc] [(.int (if pc = (13 : Int32) then (1 : Int32) else (0 : Int32))), (.ref lo_)])) rfl rfl (hb hby d10_46)
      have E_lo__18 := E_lo__17.wr W18
      have F_line_18 := F_line_17.other W18 (Or.inr (slot_ne (Or.inl (hw _ (List.mem_of_getElem? (i := 42) rfl))) (Or.inl (hw _ (List.mem_of_getElem? (i := 98) rfl))) (by decide) (t := .int) (t' := .boolean) (by decide) (by decide)))
      have F_col_18 := F_col_17.other W18 (Or.inr (slot_ne (Or.inl (hw _ (List.mem_of_getElem? (i := 44) rfl))) (Or.inl (hw _ (List.mem_of_getElem? (i := 98) rfl))) (by decide) (t := .int) (t' := .boolean) (by decide) (by decide)))
      have F_brk_18 := F_brk_17.other W18 (Or.inr (slot_ne (Or.inr (hw _ (List.mem_of_getElem? (i := 46) rfl))) (Or.inl (hw _ (List.mem_of_getElem? (i := 98) rfl))) (by decide) (t := (.object "java/lang/String")) (t' := .boolean) (by decide) (by decide)))
      have F_acr_18 := F_acr_17.same W18
      have E_so_18 := E_so_17.wr W18
      have F_value_18 := F_value_17.other W18 (Or.inl (Ne.symm ne1))
      have F_coder_18 := F_coder_17.other W18 (Or.inl (Ne.symm ne1))
      have V_bs_18 := V_bs_17.other W18 (Ne.symm ne2)
      have OL_18 := OL_17.wr W18 g_lo_
      have Z18 : n0 ≤ h18.size := Nat.le_trans Z17 (Keep.of_wr W18).1
      have K18 : Keep h0 h18 [lo_] := K17.wr W18 (Or.inl (List.mem_of_getElem? (i := 0) rfl))
      have N18 := Fr.snoc X18 N17 g_lo_
      refine own_go st18 ?_
      show OwnFin p e below s _ _ _ (T18.setTop (mkF m 49 #[rv lo_, iv pc] []))
      refine own_ret X18 (v := none) hlk (fun _ => rfl) (fun fs hr => X18.returnOut hx hret (hb hby d10_49) hr) (by decide) (by decide) ?_
      rw [e18]
      have hstep : own_step pc pz px py = 1 := by unfold own_step; rw [if_neg (fun z => z.2 qe), if_neg (fun z => hc14 z.1)]
      refine ⟨rfl, N18, K18, ?_, F_col_18, F_brk_18, ?_⟩
      · rw [hstep]; exact F_line_18
      · rw [← own_nb (pc = 13)]; exact F_acr_18
  · rw [show own_idx pc px py = -1 by simp [own_idx, q1, q2]]
    show OwnFin p e below s _ _ _ (T2.setTop (mkF m 8 #[rv lo_, iv pc] [(.int (-1 : Int32))]))
    refine own_go (fun t_ k_ => XS.ifYes X2.here hx rfl (pc0 := 8) (pc' := 34) rfl (hb hby d10_8) rfl ((if0 _ _).trans (tlt (by decide)).1) (by decide) (by decide) k_) ?_
    show OwnFin p e below s _ _ _ (T2.setTop (mkF m 34 #[rv lo_, iv pc] []))
    refine own_go (fun t_ k_ => XS.aloadN X2.here hx rfl (hb hby d10_34) rfl rfl k_) ?_
    show OwnFin p e below s _ _ _ (T2.setTop (mkF m 35 #[rv lo_, iv pc] [(.ref lo_)]))
    refine own_go (fun t_ k_ => XS.iloadN X2.here hx rfl (hb hby d10_35) rfl k_) ?_
    show OwnFin p e below s _ _ _ (T2.setTop (mkF m 36 #[rv lo_, iv pc] [(.int pc), (.ref lo_)]))
    refine own_go (fun t_ k_ => XS.bipush X2.here hx rfl (hb hby d10_36) k_) ?_
    show OwnFin p e below s _ _ _ (T2.setTop (mkF m 38 #[rv lo_, iv pc] [(.int (13 : Int32)), (.int pc), (.ref lo_)]))
    refine own_go (B := T2.setTop (mkF m 46 #[rv lo_, iv pc] [(.int (if pc = (13 : Int32) then (1 : Int32) else (0 : Int32))), (.ref lo_)])) (fun t_ k_ => ?_) ?_
    · by_cases hm38 : pc = (13 : Int32)
      · rw [if_pos hm38] at k_; exact XS.icmpNo X2.here hx rfl (hb hby d10_38) rfl (teq hm38).2 (XS.iconst X2.here hx rfl (hb hby d10_41) (XS.goto X2.here hx rfl (pc0 := 42) (pc' := 46) rfl (hb hby d10_42) (by decide) (by decide) k_))
      · rw [if_neg hm38] at k_; exact XS.icmpYes X2.here hx rfl (pc0 := 38) (pc' := 45) rfl (hb hby d10_38) rfl (feq hm38).2 (by decide) (by decide) (XS.iconst X2.here hx rfl (hb hby d10_45) k_)
    show OwnFin p e below s _ _ _ (T2.setTop (mkF m 46 #[rv lo_, iv pc] [(.int (if pc = (13 : Int32) then (1 : Int32) else (0 : Int32))), (.ref lo_)]))
    obtain ⟨T19, h19, X19, e19, W19, st19⟩ := putFN X2 hx hZ hown (hw _ (List.mem_of_getElem? (i := 97) rfl)) Via.refl e2 F_acr E_lo_ (Or.inl (hw _ (List.mem_of_getElem? (i := 98) rfl))) (hw _ (List.mem_of_getElem? (i := 6) rfl)) (ty := .boolean) (v' := (.int (nar .boolean (if pc = (13 : Int32) then (1 : Int32) else (0 : Int32))))) (by decide) rfl (fits_nar_bool _) (g := (mkF m 46 #[rv lo_, iv pc] [(.int (if pc = (13 : Int32) then (1 : Int32) else (0 : Int32))), (.ref lo_)])) rfl rfl (hb hby d10_46)
    have E_lo__19 := E_lo_.wr W19
    have F_line_19 := F_line.other W19 (Or.inr (slot_ne (Or.inl (hw _ (List.mem_of_getElem? (i := 42) rfl))) (Or.inl (hw _ (List.mem_of_getElem? (i := 98) rfl))) (by decide) (t := .int) (t' := .boolean) (by decide) (by decide)))
    have F_col_19 := F_col.other W19 (Or.inr (slot_ne (Or.inl (hw _ (List.mem_of_getElem? (i := 44) rfl))) (Or.inl (hw _ (List.mem_of_getElem? (i := 98) rfl))) (by decide) (t := .int) (t' := .boolean) (by decide) (by decide)))
    have F_brk_19 := F_brk.other W19 (Or.inr (slot_ne (Or.inr (hw _ (List.mem_of_getElem? (i := 46) rfl))) (Or.inl (hw _ (List.mem_of_getElem? (i := 98) rfl))) (by decide) (t := (.object "java/lang/String")) (t' := .boolean) (by decide) (by decide)))
    have F_acr_19 := F_acr.same W19
    have E_so_19 := E_so.wr W19
    have F_value_19 := F_value.other W19 (Or.inl (Ne.symm ne1))
    have F_coder_19 := F_coder.other W19 (Or.inl (Ne.symm ne1))
    have V_bs_19 := V_bs.other W19 (Ne.symm ne2)
    have OL_19 := OL.wr W19 g_lo_
    have Z19 : n0 ≤ h19.size := Nat.le_trans Z0 (Keep.of_wr W19).1
    have K19 : Keep h0 h19 [lo_] := K0.wr W19 (Or.inl (List.mem_of_getElem? (i := 0) rfl))
    have N19 := Fr.snoc X19 N2 g_lo_
    refine own_go st19 ?_
    show OwnFin p e below s _ _ _ (T19.setTop (mkF m 49 #[rv lo_, iv pc] []))
    refine own_ret X19 (v := none) hlk (fun _ => rfl) (fun fs hr => X19.returnOut hx hret (hb hby d10_49) hr) (by decide) (by decide) ?_
    rw [e19]
    have hstep : own_step pc pz px py = 0 := own_step0 q1 q2
    refine ⟨rfl, N19, K19, ?_, F_col_19, F_brk_19, ?_⟩
    · rw [hstep, Int32.add_zero]; exact F_line_19
    · rw [← own_nb (pc = 13)]; exact F_acr_19
theorem ef_10_U (m : MethodId) (lo_ : Addr) (pc : Int32) : entryFrame m #[(.ref lo_), (.int pc)] 2 = mkF m 0 #[rv lo_, iv pc] [] := by first | (simp [entryFrame, mkF, argsToLocals, Value.category]; done) | rfl
set_option maxRecDepth 65536 in
set_option maxHeartbeats 40000000 in
theorem rm10_U (l : Launch) (Z : State) (a0 : Array Value) (hw : ∀ d ∈ tables_1, d.before a0 Z = true) (ws : List Jvm.Cond) (lo_ : Addr) (pc : Int32) (so : Addr) (bs : Addr) (px : Int32) (py : Int32) (pl : Int32) (pz : Int32) (zc : Int32) (fm : Value) (h0 : Heap) (n0 : Nat) (Z0 : n0 ≤ h0.size) (E_lo_ : Exa Z h0 lo_ "com/example/argweave/argweave/LineCounter") (F_line : Fld Z h0 lo_ "com/example/argweave/argweave/LineCounter" "line" "I" (.int pl)) (F_col : Fld Z h0 lo_ "com/example/argweave/argweave/LineCounter" "column" "I" (.int (1 : Int32))) (F_brk : Fld Z h0 lo_ "com/example/argweave/argweave/LineCounter" "breaks" "Ljava/lang/String;" (.ref so)) (F_acr : Fld Z h0 lo_ "com/example/argweave/argweave/LineCounter" "afterCr" "Z" (.int pz)) (g_lo_ : n0 ≤ lo_) (E_so : Exa Z h0 so "java/lang/String") (F_value : Fld Z h0 so "java/lang/String" "value" "[B" (.ref bs)) (F_coder : Fld Z h0 so "java/lang/String" "coder" "B" (.int (1 : Int32))) (V_bs : OwnArr Z h0 bs .byte 4 (fun k => .int (own_four (own_b0 px) (own_b1 px) (own_b0 py) (own_b1 py) k))) (hc : own_ch pc) (hpx : own_ch px) (hpy : own_ch py) (ne1 : lo_ ≠ so) (ne2 : lo_ ≠ bs) (hzc : ¬ zc = (0 : Int32)) (hfm : fm.isRef = true) (S_cs : Sta Z Z.heap "java/lang/String" "COMPACT_STRINGS" "Z" (.int zc)) (S_as : Sta Z Z.heap "java/lang/StringUTF16" "$assertionsDisabled" "Z" (.int (1 : Int32))) (S_hi : Sta Z Z.heap "java/lang/StringUTF16" "HI_BYTE_SHIFT" "I" (.int (0 : Int32))) (S_lo : Sta Z Z.heap "java/lang/StringUTF16" "LO_BYTE_SHIFT" "I" (.int (8 : Int32))) (S_fm : Sta Z Z.heap "jdk/internal/util/Preconditions" "SIOOBE_FORMATTER" "Ljava/util/function/BiFunction;" fm) (OL : Old Z n0 h0) :
    OwnCtr l Z (⟨"com/example/argweave/argweave/LineCounter", "pass", "(C)V"⟩ : MethodName) ws prog_32_method_2_code 2 none ({ frames := 7, cells := 0, slots := 0, locals := 100 } : Room) #[(.ref lo_), (.int pc)] h0 (fun v h L => v = none ∧ Fr n0 L ∧ Keep h0 h [lo_] ∧ Fld Z h lo_ "com/example/argweave/argweave/LineCounter" "line" "I" (.int (pl + own_step pc pz px py)) ∧ Fld Z h lo_ "com/example/argweave/argweave/LineCounter" "column" "I" (.int (1 : Int32)) ∧ Fld Z h lo_ "com/example/argweave/argweave/LineCounter" "breaks" "Ljava/lang/String;" (.ref so) ∧ Fld Z h lo_ "com/example/argweave/argweave/LineCounter" "afterCr" "Z" (.int (if pc = 13 then 1 else 0))) := by
  refine own_body (g0 := fun m => mkF m 0 #[rv lo_, iv pc] []) pn_10 (fun m => ef_10_U m lo_ pc) ?_
  intro p e s m below meth c s₁ X0 hx hby hml hown hnm hZ e0 hret hlk
  have hml : c.maxLocals = 2 := hml
  have hown : s.vm.findClass "com/example/argweave/argweave/LineCounter" = some m.cls := hown
  have hnm : meth.name = "pass" := hnm
  have hret : meth.sig.returnType = none := hret
  have N0 := Fr.nil n0
  have K0 := Keep.refl h0 [lo_]
  show OwnFin p e below s _ _ _ (s₁.setTop (mkF m 0 #[rv lo_, iv pc] []))
  refine own_go (fun t_ k_ => XS.aloadN X0.here hx rfl (hb hby d10_0) rfl rfl k_) ?_
  show OwnFin p e below s _ _ _ (s₁.setTop (mkF m 1 #[rv lo_, iv pc] [(.ref lo_)]))
  obtain ⟨T1, X1, e1, st1⟩ := getF X0 hx hZ hown (host := "") (Or.inl (hw _ (List.mem_of_getElem? (i := 45) rfl))) Via.refl e0 F_brk (g := (mkF m 1 #[rv lo_, iv pc] [(.ref lo_)])) rfl rfl (hb hby d10_1)
  refine own_go st1 ?_
  show OwnFin p e below s _ _ _ (T1.setTop (mkF m 4 #[rv lo_, iv pc] [(.ref so)]))
  refine own_go (fun t_ k_ => XS.iloadN X1.here hx rfl (hb hby d10_4) rfl k_) ?_
  show OwnFin p e below s _ _ _ (T1.setTop (mkF m 5 #[rv lo_, iv pc] [(.int pc), (.ref so)]))
  obtain ⟨v2, T2, L2, X2, hQ2, st2⟩ := own_callV X1 hx hZ (y := (⟨"java/lang/String", "indexOf", "(I)I"⟩ : MethodName)) (z := (⟨"java/lang/String", "indexOf", "(I)I"⟩ : MethodName)) hown (hw _ (List.mem_of_getElem? (i := 55) rfl)) (hw _ (List.mem_of_getElem? (i := 56) rfl)) (notFace_of_selects (args := #[]) (mvT hZ (hw _ (List.mem_of_getElem? (i := 58) rfl)))) (hw _ (List.mem_of_getElem? (i := 58) rfl)) (hw _ (List.mem_of_getElem? (i := 57) rfl)) (hw _ (List.mem_of_getElem? (i := 10) rfl)) (hw _ (List.mem_of_getElem? (i := 59) rfl)) (by decide) (W := 0) (rm11_U l Z a0 hw [] so pc bs px py zc fm h0 n0 Z0 E_so F_value F_coder V_bs hc hpx hpy hzc hfm S_cs S_as S_hi S_lo S_fm OL) (by decide) (by decide) E_so (g := (mkF m 5 #[rv lo_, iv pc] [(.int pc), (.ref so)])) rfl (by rw [hml]; rfl) (argsL := [(.int pc)]) (rest := []) (lenOf pd_10_10 rfl) rfl (by show 2 * 0 + _ ≤ _; exact Nat.le_of_eq rfl) (hb hby d10_5) e1 rfl (by decide) (by decide)
  obtain ⟨rfl, Nq2, e2⟩ := hQ2
  have N2 := Fr.app N0 Nq2
  refine own_go st2 ?_
  show OwnFin p e below s _ _ _ (T2.setTop (mkF m 8 #[rv lo_, iv pc] [(.int (own_idx pc px py))]))
  by_cases q1 : px = pc
  · rw [show own_idx pc px py = 0 by simp [own_idx, q1]]
    show OwnFin p e below s _ _ _ (T2.setTop (mkF m 8 #[rv lo_, iv pc] [(.int (0 : Int32))]))
    refine own_go (fun t_ k_ => XS.ifNo X2.here hx rfl (hb hby d10_8) rfl ((if0 _ _).trans (flt (by decide)).1) k_) ?_
    show OwnFin p e below s _ _ _ (T2.setTop (mkF m 11 #[rv lo_, iv pc] []))
    refine own_go (fun t_ k_ => XS.iloadN X2.here hx rfl (hb hby d10_11) rfl k_) ?_
    show OwnFin p e below s _ _ _ (T2.setTop (mkF m 12 #[rv lo_, iv pc] [(.int pc)]))
    refine own_go (fun t_ k_ => XS.bipush X2.here hx rfl (hb hby d10_12) k_) ?_
    show OwnFin p e below s _ _ _ (T2.setTop (mkF m 14 #[rv lo_, iv pc] [(.int (10 : Int32)), (.int pc)]))
    by_cases hc14 : pc = (10 : Int32)
    · refine own_go (fun t_ k_ => XS.icmpNo X2.here hx rfl (hb hby d10_14) rfl (teq hc14).2 k_) ?_
      show OwnFin p e below s _ _ _ (T2.setTop (mkF m 17 #[rv lo_, iv pc] []))
      refine own_go (fun t_ k_ => XS.aloadN X2.here hx rfl (hb hby d10_17) rfl rfl k_) ?_
      show OwnFin p e below s _ _ _ (T2.setTop (mkF m 18 #[rv lo_, iv pc] [(.ref lo_)]))
      obtain ⟨T3, X3, e3, st3⟩ := getF X2 hx hZ hown (host := "") (Or.inl (hw _ (List.mem_of_getElem? (i := 97) rfl))) Via.refl e2 F_acr (g := (mkF m 18 #[rv lo_, iv pc] [(.ref lo_)])) rfl rfl (hb hby d10_18)
      refine own_go st3 ?_
      show OwnFin p e below s _ _ _ (T3.setTop (mkF m 21 #[rv lo_, iv pc] [(.int pz)]))
      by_cases hc21 : pz = (0 : Int32)
      · refine own_go (fun t_ k_ => XS.ifNo X3.here hx rfl (hb hby d10_21) rfl ((if0 _ _).trans (teq hc21).2) k_) ?_
        show OwnFin p e below s _ _ _ (T3.setTop (mkF m 24 #[rv lo_, iv pc] []))
        refine own_go (fun t_ k_ => XS.aloadN X3.here hx rfl (hb hby d10_24) rfl rfl k_) ?_
        show OwnFin p e below s _ _ _ (T3.setTop (mkF m 25 #[rv lo_, iv pc] [(.ref lo_)]))
        refine own_go (fun t_ k_ => XS.dup X3.here hx rfl (hb hby d10_25) rfl rfl k_) ?_
        show OwnFin p e below s _ _ _ (T3.setTop (mkF m 26 #[rv lo_, iv pc] [(.ref lo_), (.ref lo_)]))
        obtain ⟨T4, X4, e4, st4⟩ := getF X3 hx hZ hown (host := "") (Or.inl (hw _ (List.mem_of_getElem? (i := 41) rfl))) Via.refl e3 F_line (g := (mkF m 26 #[rv lo_, iv pc] [(.ref lo_), (.ref lo_)])) rfl rfl (hb hby d10_26)
        refine own_go st4 ?_
        show OwnFin p e below s _ _ _ (T4.setTop (mkF m 29 #[rv lo_, iv pc] [(.int pl), (.ref lo_)]))
        refine own_go (fun t_ k_ => XS.iconst X4.here hx rfl (hb hby d10_29) k_) ?_
        show OwnFin p e below s _ _ _ (T4.setTop (mkF m 30 #[rv lo_, iv pc] [(.int (1 : Int32)), (.int pl), (.ref lo_)]))
        refine own_go (fun t_ k_ => XS.iadd X4.here hx rfl (hb hby d10_30) rfl k_) ?_
        show OwnFin p e below s _ _ _ (T4.setTop (mkF m 31 #[rv lo_, iv pc] [(.int (pl + (1 : Int32))), (.ref lo_)]))
        obtain ⟨T5, h5, X5, e5, W5, st5⟩ := putF X4 hx hZ hown (host := "") (Or.inl (hw _ (List.mem_of_getElem? (i := 41) rfl))) Via.refl e4 F_line E_lo_ (Or.inl (hw _ (List.mem_of_getElem? (i := 42) rfl))) (hw _ (List.mem_of_getElem? (i := 6) rfl)) (ty := .int) (by decide) rfl rfl (g := (mkF m 31 #[rv lo_, iv pc] [(.int (pl + (1 : Int32))), (.ref lo_)])) rfl rfl (hb hby d10_31)
        have E_lo__5 := E_lo_.wr W5
        have F_line_5 := F_line.same W5
        have F_col_5 := F_col.other W5 (Or.inr (slot_ne (Or.inl (hw _ (List.mem_of_getElem? (i := 44) rfl))) (Or.inl (hw _ (List.mem_of_getElem? (i := 42) rfl))) (by decide) (t := .int) (t' := .int) (by decide) (by decide)))
        have F_brk_5 := F_brk.other W5 (Or.inr (slot_ne (Or.inr (hw _ (List.mem_of_getElem? (i := 46) rfl))) (Or.inl (hw _ (List.mem_of_getElem? (i := 42) rfl))) (by decide) (t := (.object "java/lang/String")) (t' := .int) (by decide) (by decide)))
        have F_acr_5 := F_acr.other W5 (Or.inr (slot_ne (Or.inl (hw _ (List.mem_of_getElem? (i := 98) rfl))) (Or.inl (hw _ (List.mem_of_getElem? (i := 42) rfl))) (by decide) (t := .boolean) (t' := .int) (by decide) (by decide)))
        have E_so_5 := E_so.wr W5
        have F_value_5 := F_value.other W5 (Or.inl (Ne.symm ne1))
        have F_coder_5 := F_coder.other W5 (Or.inl (Ne.symm ne1))
        have V_bs_5 := V_bs.other W5 (Ne.symm ne2)
        have OL_5 := OL.wr W5 g_lo_
        have Z5 : n0 ≤ h5.size := Nat.le_trans Z0 (Keep.of_wr W5).1
        have K5 : Keep h0 h5 [lo_] := K0.wr W5 (Or.inl (List.mem_of_getElem? (i := 0) rfl))
        have N5 := Fr.snoc X5 N2 g_lo_
        refine own_go st5 ?_
        show OwnFin p e below s _ _ _ (T5.setTop (mkF m 34 #[rv lo_, iv pc] []))
        have qe : pc = px := q1.symm
        refine own_go (fun t_ k_ => XS.aloadN X5.here hx rfl (hb hby d10_34) rfl rfl k_) ?_
        show OwnFin p e below s _ _ _ (T5.setTop (mkF m 35 #[rv lo_, iv pc] [(.ref lo_)]))
        refine own_go (fun t_ k_ => XS.iloadN X5.here hx rfl (hb hby d10_35) rfl k_) ?_
        show OwnFin p e below s _ _ _ (T5.setTop (mkF m 36 #[rv lo_, iv pc] [(.int pc), (.ref lo_)]))
        refine own_go (fun t_ k_ => XS.bipush X5.here hx rfl (hb hby d10_36) k_) ?_
        show OwnFin p e below s _ _ _ (T5.setTop (mkF m 38 #[rv lo_, iv pc] [(.int (13 : Int32)), (.int pc), (.ref lo_)]))
        refine own_go (B := T5.setTop (mkF m 46 #[rv lo_, iv pc] [(.int (if pc = (13 : Int32) then (1 : Int32) else (0 : Int32))), (.ref lo_)])) (fun t_ k_ => ?_) ?_
        · by_cases hm38 : pc = (13 : Int32)
          · rw [if_pos hm38] at k_; exact XS.icmpNo X5.here hx rfl (hb hby d10_38) rfl (teq hm38).2 (XS.iconst X5.here hx rfl (hb hby d10_41) (XS.goto X5.here hx rfl (pc0 := 42) (pc' := 46) rfl (hb hby d10_42) (by decide) (by decide) k_))
          · rw [if_neg hm38] at k_; exact XS.icmpYes X5.here hx rfl (pc0 := 38) (pc' := 45) rfl (hb hby d10_38) rfl (feq hm38).2 (by decide) (by decide) (XS.iconst X5.here hx rfl (hb hby d10_45) k_)
        show OwnFin p e below s _ _ _ (T5.setTop (mkF m 46 #[rv lo_, iv pc] [(.int (if pc = (13 : Int32) then (1 : Int32) else (0 : Int32))), (.ref lo_)]))
        obtain ⟨T6, h6, X6, e6, W6, st6⟩ := putFN X5 hx hZ hown (hw _ (List.mem_of_getElem? (i := 97) rfl)) Via.refl e5 F_acr_5 E_lo__5 (Or.inl (hw _ (List.mem_of_getElem? (i := 98) rfl))) (hw _ (List.mem_of_getElem? (i := 6) rfl)) (ty := .boolean) (v' := (.int (nar .boolean (if pc = (13 : Int32) then (1 : Int32) else (0 : Int32))))) (by decide) rfl (fits_nar_bool _) (g := (mkF m 46 #[rv lo_, iv pc] [(.int (if pc = (13 : Int32) then (1 : Int32) else (0 : Int32))), (.ref lo_)])) rfl rfl (hb hby d10_46)
        have E_lo__6 := E_lo__5.wr W6
        have F_line_6 := F_line_5.other W6 (Or.inr (slot_ne (Or.inl (hw _ (List.mem_of_getElem? (i := 42) rfl))) (Or.inl (hw _ (List.mem_of_getElem? (i := 98) rfl))) (by decide) (t := .int) (t' := .boolean) (by decide) (by decide)))
        have F_col_6 := F_col_5.other W6 (Or.inr (slot_ne (Or.inl (hw _ (List.mem_of_getElem? (i := 44) rfl))) (Or.inl (hw _ (List.mem_of_getElem? (i := 98) rfl))) (by decide) (t := .int) (t' := .boolean) (by decide) (by decide)))
        have F_brk_6 := F_brk_5.other W6 (Or.inr (slot_ne (Or.inr (hw _ (List.mem_of_getElem? (i := 46) rfl))) (Or.inl (hw _ (List.mem_of_getElem? (i := 98) rfl))) (by decide) (t := (.object "java/lang/String")) (t' := .boolean) (by decide) (by decide)))
        have F_acr_6 := F_acr_5.same W6
        have E_so_6 := E_so_5.wr W6
        have F_value_6 := F_value_5.other W6 (Or.inl (Ne.symm ne1))
        have F_coder_6 := F_coder_5.other W6 (Or.inl (Ne.symm ne1))
        have V_bs_6 := V_bs_5.other W6 (Ne.symm ne2)
        have OL_6 := OL_5.wr W6 g_lo_
        have Z6 : n0 ≤ h6.size := Nat.le_trans Z5 (Keep.of_wr W6).1
        have K6 : Keep h0 h6 [lo_] := K5.wr W6 (Or.inl (List.mem_of_getElem? (i := 0) rfl))
        have N6 := Fr.snoc X6 N5 g_lo_
        refine own_go st6 ?_
        show OwnFin p e below s _ _ _ (T6.setTop (mkF m 49 #[rv lo_, iv pc] []))
        refine own_ret X6 (v := none) hlk (fun _ => rfl) (fun fs hr => X6.returnOut hx hret (hb hby d10_49) hr) (by decide) (by decide) ?_
        rw [e6]
        have hstep : own_step pc pz px py = 1 := by unfold own_step; rw [if_neg (fun z => z.1 qe), if_neg (fun z => z.2 hc21)]
        refine ⟨rfl, N6, K6, ?_, F_col_6, F_brk_6, ?_⟩
        · rw [hstep]; exact F_line_6
        · rw [← own_nb (pc = 13)]; exact F_acr_6
      · refine own_go (fun t_ k_ => XS.ifYes X3.here hx rfl (pc0 := 21) (pc' := 34) rfl (hb hby d10_21) rfl ((if0 _ _).trans (feq hc21).2) (by decide) (by decide) k_) ?_
        show OwnFin p e below s _ _ _ (T3.setTop (mkF m 34 #[rv lo_, iv pc] []))
        have qe : pc = px := q1.symm
        refine own_go (fun t_ k_ => XS.aloadN X3.here hx rfl (hb hby d10_34) rfl rfl k_) ?_
        show OwnFin p e below s _ _ _ (T3.setTop (mkF m 35 #[rv lo_, iv pc] [(.ref lo_)]))
        refine own_go (fun t_ k_ => XS.iloadN X3.here hx rfl (hb hby d10_35) rfl k_) ?_
        show OwnFin p e below s _ _ _ (T3.setTop (mkF m 36 #[rv lo_, iv pc] [(.int pc), (.ref lo_)]))
        refine own_go (fun t_ k_ => XS.bipush X3.here hx rfl (hb hby d10_36) k_) ?_
        show OwnFin p e below s _ _ _ (T3.setTop (mkF m 38 #[rv lo_, iv pc] [(.int (13 : Int32)), (.int pc), (.ref lo_)]))
        refine own_go (B := T3.setTop (mkF m 46 #[rv lo_, iv pc] [(.int (if pc = (13 : Int32) then (1 : Int32) else (0 : Int32))), (.ref lo_)])) (fun t_ k_ => ?_) ?_
        · by_cases hm38 : pc = (13 : Int32)
          · rw [if_pos hm38] at k_; exact XS.icmpNo X3.here hx rfl (hb hby d10_38) rfl (teq hm38).2 (XS.iconst X3.here hx rfl (hb hby d10_41) (XS.goto X3.here hx rfl (pc0 := 42) (pc' := 46) rfl (hb hby d10_42) (by decide) (by decide) k_))
          · rw [if_neg hm38] at k_; exact XS.icmpYes X3.here hx rfl (pc0 := 38) (pc' := 45) rfl (hb hby d10_38) rfl (feq hm38).2 (by decide) (by decide) (XS.iconst X3.here hx rfl (hb hby d10_45) k_)
        show OwnFin p e below s _ _ _ (T3.setTop (mkF m 46 #[rv lo_, iv pc] [(.int (if pc = (13 : Int32) then (1 : Int32) else (0 : Int32))), (.ref lo_)]))
        obtain ⟨T7, h7, X7, e7, W7, st7⟩ := putFN X3 hx hZ hown (hw _ (List.mem_of_getElem? (i := 97) rfl)) Via.refl e3 F_acr E_lo_ (Or.inl (hw _ (List.mem_of_getElem? (i := 98) rfl))) (hw _ (List.mem_of_getElem? (i := 6) rfl)) (ty := .boolean) (v' := (.int (nar .boolean (if pc = (13 : Int32) then (1 : Int32) else (0 : Int32))))) (by decide) rfl (fits_nar_bool _) (g := (mkF m 46 #[rv lo_, iv pc] [(.int (if pc = (13 : Int32) then (1 : Int32) else (0 : Int32))), (.ref lo_)])) rfl rfl (hb hby d10_46)
        have E_lo__7 := E_lo_.wr W7
        have F_line_7 := F_line.other W7 (Or.inr (slot_ne (Or.inl (hw _ (List.mem_of_getElem? (i := 42) rfl))) (Or.inl (hw _ (List.mem_of_getElem? (i := 98) rfl))) (by decide) (t := .int) (t' := .boolean) (by decide) (by decide)))
        have F_col_7 := F_col.other W7 (Or.inr (slot_ne (Or.inl (hw _ (List.mem_of_getElem? (i := 44) rfl))) (Or.inl (hw _ (List.mem_of_getElem? (i := 98) rfl))) (by decide) (t := .int) (t' := .boolean) (by decide) (by decide)))
        have F_brk_7 := F_brk.other W7 (Or.inr (slot_ne (Or.inr (hw _ (List.mem_of_getElem? (i := 46) rfl))) (Or.inl (hw _ (List.mem_of_getElem? (i := 98) rfl))) (by decide) (t := (.object "java/lang/String")) (t' := .boolean) (by decide) (by decide)))
        have F_acr_7 := F_acr.same W7
        have E_so_7 := E_so.wr W7
        have F_value_7 := F_value.other W7 (Or.inl (Ne.symm ne1))
        have F_coder_7 := F_coder.other W7 (Or.inl (Ne.symm ne1))
        have V_bs_7 := V_bs.other W7 (Ne.symm ne2)
        have OL_7 := OL.wr W7 g_lo_
        have Z7 : n0 ≤ h7.size := Nat.le_trans Z0 (Keep.of_wr W7).1
        have K7 : Keep h0 h7 [lo_] := K0.wr W7 (Or.inl (List.mem_of_getElem? (i := 0) rfl))
        have N7 := Fr.snoc X7 N2 g_lo_
        refine own_go st7 ?_
        show OwnFin p e below s _ _ _ (T7.setTop (mkF m 49 #[rv lo_, iv pc] []))
        refine own_ret X7 (v := none) hlk (fun _ => rfl) (fun fs hr => X7.returnOut hx hret (hb hby d10_49) hr) (by decide) (by decide) ?_
        rw [e7]
        have hstep : own_step pc pz px py = 0 := by unfold own_step; rw [if_neg (fun z => z.1 qe), if_pos ⟨hc14, hc21⟩]
        refine ⟨rfl, N7, K7, ?_, F_col_7, F_brk_7, ?_⟩
        · rw [hstep, Int32.add_zero]; exact F_line_7
        · rw [← own_nb (pc = 13)]; exact F_acr_7
    · refine own_go (fun t_ k_ => XS.icmpYes X2.here hx rfl (pc0 := 14) (pc' := 24) rfl (hb hby d10_14) rfl (feq hc14).2 (by decide) (by decide) k_) ?_
      show OwnFin p e below s _ _ _ (T2.setTop (mkF m 24 #[rv lo_, iv pc] []))
      refine own_go (fun t_ k_ => XS.aloadN X2.here hx rfl (hb hby d10_24) rfl rfl k_) ?_
      show OwnFin p e below s _ _ _ (T2.setTop (mkF m 25 #[rv lo_, iv pc] [(.ref lo_)]))
      refine own_go (fun t_ k_ => XS.dup X2.here hx rfl (hb hby d10_25) rfl rfl k_) ?_
      show OwnFin p e below s _ _ _ (T2.setTop (mkF m 26 #[rv lo_, iv pc] [(.ref lo_), (.ref lo_)]))
      obtain ⟨T8, X8, e8, st8⟩ := getF X2 hx hZ hown (host := "") (Or.inl (hw _ (List.mem_of_getElem? (i := 41) rfl))) Via.refl e2 F_line (g := (mkF m 26 #[rv lo_, iv pc] [(.ref lo_), (.ref lo_)])) rfl rfl (hb hby d10_26)
      refine own_go st8 ?_
      show OwnFin p e below s _ _ _ (T8.setTop (mkF m 29 #[rv lo_, iv pc] [(.int pl), (.ref lo_)]))
      refine own_go (fun t_ k_ => XS.iconst X8.here hx rfl (hb hby d10_29) k_) ?_
      show OwnFin p e below s _ _ _ (T8.setTop (mkF m 30 #[rv lo_, iv pc] [(.int (1 : Int32)), (.int pl), (.ref lo_)]))
      refine own_go (fun t_ k_ => XS.iadd X8.here hx rfl (hb hby d10_30) rfl k_) ?_
      show OwnFin p e below s _ _ _ (T8.setTop (mkF m 31 #[rv lo_, iv pc] [(.int (pl + (1 : Int32))), (.ref lo_)]))
      obtain ⟨T9, h9, X9, e9, W9, st9⟩ := putF X8 hx hZ hown (host := "") (Or.inl (hw _ (List.mem_of_getElem? (i := 41) rfl))) Via.refl e8 F_line E_lo_ (Or.inl (hw _ (List.mem_of_getElem? (i := 42) rfl))) (hw _ (List.mem_of_getElem? (i := 6) rfl)) (ty := .int) (by decide) rfl rfl (g := (mkF m 31 #[rv lo_, iv pc] [(.int (pl + (1 : Int32))), (.ref lo_)])) rfl rfl (hb hby d10_31)
      have E_lo__9 := E_lo_.wr W9
      have F_line_9 := F_line.same W9
      have F_col_9 := F_col.other W9 (Or.inr (slot_ne (Or.inl (hw _ (List.mem_of_getElem? (i := 44) rfl))) (Or.inl (hw _ (List.mem_of_getElem? (i := 42) rfl))) (by decide) (t := .int) (t' := .int) (by decide) (by decide)))
      have F_brk_9 := F_brk.other W9 (Or.inr (slot_ne (Or.inr (hw _ (List.mem_of_getElem? (i := 46) rfl))) (Or.inl (hw _ (List.mem_of_getElem? (i := 42) rfl))) (by decide) (t := (.object "java/lang/String")) (t' := .int) (by decide) (by decide)))
      have F_acr_9 := F_acr.other W9 (Or.inr (slot_ne (Or.inl (hw _ (List.mem_of_getElem? (i := 98) rfl))) (Or.inl (hw _ (List.mem_of_getElem? (i := 42) rfl))) (by decide) (t := .boolean) (t' := .int) (by decide) (by decide)))
      have E_so_9 := E_so.wr W9
      have F_value_9 := F_value.other W9 (Or.inl (Ne.symm ne1))
      have F_coder_9 := F_coder.other W9 (Or.inl (Ne.symm ne1))
      have V_bs_9 := V_bs.other W9 (Ne.symm ne2)
      have OL_9 := OL.wr W9 g_lo_
      have Z9 : n0 ≤ h9.size := Nat.le_trans Z0 (Keep.of_wr W9).1
      have K9 : Keep h0 h9 [lo_] := K0.wr W9 (Or.inl (List.mem_of_getElem? (i := 0) rfl))
      have N9 := Fr.snoc X9 N2 g_lo_
      refine own_go st9 ?_
      show OwnFin p e below s _ _ _ (T9.setTop (mkF m 34 #[rv lo_, iv pc] []))
      have qe : pc = px := q1.symm
      refine own_go (fun t_ k_ => XS.aloadN X9.here hx rfl (hb hby d10_34) rfl rfl k_) ?_
      show OwnFin p e below s _ _ _ (T9.setTop (mkF m 35 #[rv lo_, iv pc] [(.ref lo_)]))
      refine own_go (fun t_ k_ => XS.iloadN X9.here hx rfl (hb hby d10_35) rfl k_) ?_
      show OwnFin p e below s _ _ _ (T9.setTop (mkF m 36 #[rv lo_, iv pc] [(.int pc), (.ref lo_)]))
      refine own_go (fun t_ k_ => XS.bipush X9.here hx rfl (hb hby d10_36) k_) ?_
      show OwnFin p e below s _ _ _ (T9.setTop (mkF m 38 #[rv lo_, iv pc] [(.int (13 : Int32)), (.int pc), (.ref lo_)]))
      refine own_go (B := T9.setTop (mkF m 46 #[rv lo_, iv pc] [(.int (if pc = (13 : Int32) then (1 : Int32) else (0 : Int32))), (.ref lo_)])) (fun t_ k_ => ?_) ?_
      · by_cases hm38 : pc = (13 : Int32)
        · rw [if_pos hm38] at k_; exact XS.icmpNo X9.here hx rfl (hb hby d10_38) rfl (teq hm38).2 (XS.iconst X9.here hx rfl (hb hby d10_41) (XS.goto X9.here hx rfl (pc0 := 42) (pc' := 46) rfl (hb hby d10_42) (by decide) (by decide) k_))
        · rw [if_neg hm38] at k_; exact XS.icmpYes X9.here hx rfl (pc0 := 38) (pc' := 45) rfl (hb hby d10_38) rfl (feq hm38).2 (by decide) (by decide) (XS.iconst X9.here hx rfl (hb hby d10_45) k_)
      show OwnFin p e below s _ _ _ (T9.setTop (mkF m 46 #[rv lo_, iv pc] [(.int (if pc = (13 : Int32) then (1 : Int32) else (0 : Int32))), (.ref lo_)]))
      obtain ⟨T10, h10, X10, e10, W10, st10⟩ := putFN X9 hx hZ hown (hw _ (List.mem_of_getElem? (i := 97) rfl)) Via.refl e9 F_acr_9 E_lo__9 (Or.inl (hw _ (List.mem_of_getElem? (i := 98) rfl))) (hw _ (List.mem_of_getElem? (i := 6) rfl)) (ty := .boolean) (v' := (.int (nar .boolean (if pc = (13 : Int32) then (1 : Int32) else (0 : Int32))))) (by decide) rfl (fits_nar_bool _) (g := (mkF m 46 #[rv lo_, iv pc] [(.int (if pc = (13 : Int32) then (1 : Int32) else (0 : Int32))), (.ref lo_)])) rfl rfl (hb hby d10_46)
      have E_lo__10 := E_lo__9.wr W10
      have F_line_10 := F_line_9.other W10 (Or.inr (slot_ne (Or.inl (hw _ (List.mem_of_getElem? (i := 42) rfl))) (Or.inl (hw _ (List.mem_of_getElem? (i := 98) rfl))) (by decide) (t := .int) (t' := .boolean) (by decide) (by decide)))
      have F_col_10 := F_col_9.other W10 (Or.inr (slot_ne (Or.inl (hw _ (List.mem_of_getElem? (i := 44) rfl))) (Or.inl (hw _ (List.mem_of_getElem? (i := 98) rfl))) (by decide) (t := .int) (t' := .boolean) (by decide) (by decide)))
      have F_brk_10 := F_brk_9.other W10 (Or.inr (slot_ne (Or.inr (hw _ (List.mem_of_getElem? (i := 46) rfl))) (Or.inl (hw _ (List.mem_of_getElem? (i := 98) rfl))) (by decide) (t := (.object "java/lang/String")) (t' := .boolean) (by decide) (by decide)))
      have F_acr_10 := F_acr_9.same W10
      have E_so_10 := E_so_9.wr W10
      have F_value_10 := F_value_9.other W10 (Or.inl (Ne.symm ne1))
      have F_coder_10 := F_coder_9.other W10 (Or.inl (Ne.symm ne1))
      have V_bs_10 := V_bs_9.other W10 (Ne.symm ne2)
      have OL_10 := OL_9.wr W10 g_lo_
      have Z10 : n0 ≤ h10.size := Nat.le_trans Z9 (Keep.of_wr W10).1
      have K10 : Keep h0 h10 [lo_] := K9.wr W10 (Or.inl (List.mem_of_getElem? (i := 0) rfl))
      have N10 := Fr.snoc X10 N9 g_lo_
      refine own_go st10 ?_
      show OwnFin p e below s _ _ _ (T10.setTop (mkF m 49 #[rv lo_, iv pc] []))
      refine own_ret X10 (v := none) hlk (fun _ => rfl) (fun fs hr => X10.returnOut hx hret (hb hby d10_49) hr) (by decide) (by decide) ?_
      rw [e10]
      have hstep : own_step pc pz px py = 1 := by unfold own_step; rw [if_neg (fun z => z.1 qe), if_neg (fun z => hc14 z.1)]
      refine ⟨rfl, N10, K10, ?_, F_col_10, F_brk_10, ?_⟩
      · rw [hstep]; exact F_line_10
      · rw [← own_nb (pc = 13)]; exact F_acr_10
  by_cases q2 : py = pc
  · rw [show own_idx pc px py = 1 by simp [own_idx, q1, q2]]
    show OwnFin p e below s _ _ _ (T2.setTop (mkF m 8 #[rv lo_, iv pc] [(.int (1 : Int32))]))
    refine own_go (fun t_ k_ => XS.ifNo X2.here hx rfl (hb hby d10_8) rfl ((if0 _ _).trans (flt (by decide)).1) k_) ?_
    show OwnFin p e below s _ _ _ (T2.setTop (mkF m 11 #[rv lo_, iv pc] []))
    refine own_go (fun t_ k_ => XS.iloadN X2.here hx rfl (hb hby d10_11) rfl k_) ?_
    show OwnFin p e below s _ _ _ (T2.setTop (mkF m 12 #[rv lo_, iv pc] [(.int pc)]))
    refine own_go (fun t_ k_ => XS.bipush X2.here hx rfl (hb hby d10_12) k_) ?_
    show OwnFin p e below s _ _ _ (T2.setTop (mkF m 14 #[rv lo_, iv pc] [(.int (10 : Int32)), (.int pc)]))
    by_cases hc14 : pc = (10 : Int32)
    · refine own_go (fun t_ k_ => XS.icmpNo X2.here hx rfl (hb hby d10_14) rfl (teq hc14).2 k_) ?_
      show OwnFin p e below s _ _ _ (T2.setTop (mkF m 17 #[rv lo_, iv pc] []))
      refine own_go (fun t_ k_ => XS.aloadN X2.here hx rfl (hb hby d10_17) rfl rfl k_) ?_
      show OwnFin p e below s _ _ _ (T2.setTop (mkF m 18 #[rv lo_, iv pc] [(.ref lo_)]))
      obtain ⟨T11, X11, e11, st11⟩ := getF X2 hx hZ hown (host := "") (Or.inl (hw _ (List.mem_of_getElem? (i := 97) rfl))) Via.refl e2 F_acr (g := (mkF m 18 #[rv lo_, iv pc] [(.ref lo_)])) rfl rfl (hb hby d10_18)
      refine own_go st11 ?_
      show OwnFin p e below s _ _ _ (T11.setTop (mkF m 21 #[rv lo_, iv pc] [(.int pz)]))
      by_cases hc21 : pz = (0 : Int32)
      · refine own_go (fun t_ k_ => XS.ifNo X11.here hx rfl (hb hby d10_21) rfl ((if0 _ _).trans (teq hc21).2) k_) ?_
        show OwnFin p e below s _ _ _ (T11.setTop (mkF m 24 #[rv lo_, iv pc] []))
        refine own_go (fun t_ k_ => XS.aloadN X11.here hx rfl (hb hby d10_24) rfl rfl k_) ?_
        show OwnFin p e below s _ _ _ (T11.setTop (mkF m 25 #[rv lo_, iv pc] [(.ref lo_)]))
        refine own_go (fun t_ k_ => XS.dup X11.here hx rfl (hb hby d10_25) rfl rfl k_) ?_
        show OwnFin p e below s _ _ _ (T11.setTop (mkF m 26 #[rv lo_, iv pc] [(.ref lo_), (.ref lo_)]))
        obtain ⟨T12, X12, e12, st12⟩ := getF X11 hx hZ hown (host := "") (Or.inl (hw _ (List.mem_of_getElem? (i := 41) rfl))) Via.refl e11 F_line (g := (mkF m 26 #[rv lo_, iv pc] [(.ref lo_), (.ref lo_)])) rfl rfl (hb hby d10_26)
        refine own_go st12 ?_
        show OwnFin p e below s _ _ _ (T12.setTop (mkF m 29 #[rv lo_, iv pc] [(.int pl), (.ref lo_)]))
        refine own_go (fun t_ k_ => XS.iconst X12.here hx rfl (hb hby d10_29) k_) ?_
        show OwnFin p e below s _ _ _ (T12.setTop (mkF m 30 #[rv lo_, iv pc] [(.int (1 : Int32)), (.int pl), (.ref lo_)]))
        refine own_go (fun t_ k_ => XS.iadd X12.here hx rfl (hb hby d10_30) rfl k_) ?_
        show OwnFin p e below s _ _ _ (T12.setTop (mkF m 31 #[rv lo_, iv pc] [(.int (pl + (1 : Int32))), (.ref lo_)]))
        obtain ⟨T13, h13, X13, e13, W13, st13⟩ := putF X12 hx hZ hown (host := "") (Or.inl (hw _ (List.mem_of_getElem? (i := 41) rfl))) Via.refl e12 F_line E_lo_ (Or.inl (hw _ (List.mem_of_getElem? (i := 42) rfl))) (hw _ (List.mem_of_getElem? (i := 6) rfl)) (ty := .int) (by decide) rfl rfl (g := (mkF m 31 #[rv lo_, iv pc] [(.int (pl + (1 : Int32))), (.ref lo_)])) rfl rfl (hb hby d10_31)
        have E_lo__13 := E_lo_.wr W13
        have F_line_13 := F_line.same W13
        have F_col_13 := F_col.other W13 (Or.inr (slot_ne (Or.inl (hw _ (List.mem_of_getElem? (i := 44) rfl))) (Or.inl (hw _ (List.mem_of_getElem? (i := 42) rfl))) (by decide) (t := .int) (t' := .int) (by decide) (by decide)))
        have F_brk_13 := F_brk.other W13 (Or.inr (slot_ne (Or.inr (hw _ (List.mem_of_getElem? (i := 46) rfl))) (Or.inl (hw _ (List.mem_of_getElem? (i := 42) rfl))) (by decide) (t := (.object "java/lang/String")) (t' := .int) (by decide) (by decide)))
        have F_acr_13 := F_acr.other W13 (Or.inr (slot_ne (Or.inl (hw _ (List.mem_of_getElem? (i := 98) rfl))) (Or.inl (hw _ (List.mem_of_getElem? (i := 42) rfl))) (by decide) (t := .boolean) (t' := .int) (by decide) (by decide)))
        have E_so_13 := E_so.wr W13
        have F_value_13 := F_value.other W13 (Or.inl (Ne.symm ne1))
        have F_coder_13 := F_coder.other W13 (Or.inl (Ne.symm ne1))
        have V_bs_13 := V_bs.other W13 (Ne.symm ne2)
        have OL_13 := OL.wr W13 g_lo_
        have Z13 : n0 ≤ h13.size := Nat.le_trans Z0 (Keep.of_wr W13).1
        have K13 : Keep h0 h13 [lo_] := K0.wr W13 (Or.inl (List.mem_of_getElem? (i := 0) rfl))
        have N13 := Fr.snoc X13 N2 g_lo_
        refine own_go st13 ?_
        show OwnFin p e below s _ _ _ (T13.setTop (mkF m 34 #[rv lo_, iv pc] []))
        have qe : pc = py := q2.symm
        refine own_go (fun t_ k_ => XS.aloadN X13.here hx rfl (hb hby d10_34) rfl rfl k_) ?_
        show OwnFin p e below s _ _ _ (T13.setTop (mkF m 35 #[rv lo_, iv pc] [(.ref lo_)]))
        refine own_go (fun t_ k_ => XS.iloadN X13.here hx rfl (hb hby d10_35) rfl k_) ?_
        show OwnFin p e below s _ _ _ (T13.setTop (mkF m 36 #[rv lo_, iv pc] [(.int pc), (.ref lo_)]))
        refine own_go (fun t_ k_ => XS.bipush X13.here hx rfl (hb hby d10_36) k_) ?_
        show OwnFin p e below s _ _ _ (T13.setTop (mkF m 38 #[rv lo_, iv pc] [(.int (13 : Int32)), (.int pc), (.ref lo_)]))
        refine own_go (B := T13.setTop (mkF m 46 #[rv lo_, iv pc] [(.int (if pc = (13 : Int32) then (1 : Int32) else (0 : Int32))), (.ref lo_)])) (fun t_ k_ => ?_) ?_
        · by_cases hm38 : pc = (13 : Int32)
          · rw [if_pos hm38] at k_; exact XS.icmpNo X13.here hx rfl (hb hby d10_38) rfl (teq hm38).2 (XS.iconst X13.here hx rfl (hb hby d10_41) (XS.goto X13.here hx rfl (pc0 := 42) (pc' := 46) rfl (hb hby d10_42) (by decide) (by decide) k_))
          · rw [if_neg hm38] at k_; exact XS.icmpYes X13.here hx rfl (pc0 := 38) (pc' := 45) rfl (hb hby d10_38) rfl (feq hm38).2 (by decide) (by decide) (XS.iconst X13.here hx rfl (hb hby d10_45) k_)
        show OwnFin p e below s _ _ _ (T13.setTop (mkF m 46 #[rv lo_, iv pc] [(.int (if pc = (13 : Int32) then (1 : Int32) else (0 : Int32))), (.ref lo_)]))
        obtain ⟨T14, h14, X14, e14, W14, st14⟩ := putFN X13 hx hZ hown (hw _ (List.mem_of_getElem? (i := 97) rfl)) Via.refl e13 F_acr_13 E_lo__13 (Or.inl (hw _ (List.mem_of_getElem? (i := 98) rfl))) (hw _ (List.mem_of_getElem? (i := 6) rfl)) (ty := .boolean) (v' := (.int (nar .boolean (if pc = (13 : Int32) then (1 : Int32) else (0 : Int32))))) (by decide) rfl (fits_nar_bool _) (g := (mkF m 46 #[rv lo_, iv pc] [(.int (if pc = (13 : Int32) then (1 : Int32) else (0 : Int32))), (.ref lo_)])) rfl rfl (hb hby d10_46)
        have E_lo__14 := E_lo__13.wr W14
        have F_line_14 := F_line_13.other W14 (Or.inr (slot_ne (Or.inl (hw _ (List.mem_of_getElem? (i := 42) rfl))) (Or.inl (hw _ (List.mem_of_getElem? (i := 98) rfl))) (by decide) (t := .int) (t' := .boolean) (by decide) (by decide)))
        have F_col_14 := F_col_13.other W14 (Or.inr (slot_ne (Or.inl (hw _ (List.mem_of_getElem? (i := 44) rfl))) (Or.inl (hw _ (List.mem_of_getElem? (i := 98) rfl))) (by decide) (t := .int) (t' := .boolean) (by decide) (by decide)))
        have F_brk_14 := F_brk_13.other W14 (Or.inr (slot_ne (Or.inr (hw _ (List.mem_of_getElem? (i := 46) rfl))) (Or.inl (hw _ (List.mem_of_getElem? (i := 98) rfl))) (by decide) (t := (.object "java/lang/String")) (t' := .boolean) (by decide) (by decide)))
        have F_acr_14 := F_acr_13.same W14
        have E_so_14 := E_so_13.wr W14
        have F_value_14 := F_value_13.other W14 (Or.inl (Ne.symm ne1))
        have F_coder_14 := F_coder_13.other W14 (Or.inl (Ne.symm ne1))
        have V_bs_14 := V_bs_13.other W14 (Ne.symm ne2)
        have OL_14 := OL_13.wr W14 g_lo_
        have Z14 : n0 ≤ h14.size := Nat.le_trans Z13 (Keep.of_wr W14).1
        have K14 : Keep h0 h14 [lo_] := K13.wr W14 (Or.inl (List.mem_of_getElem? (i := 0) rfl))
        have N14 := Fr.snoc X14 N13 g_lo_
        refine own_go st14 ?_
        show OwnFin p e below s _ _ _ (T14.setTop (mkF m 49 #[rv lo_, iv pc] []))
        refine own_ret X14 (v := none) hlk (fun _ => rfl) (fun fs hr => X14.returnOut hx hret (hb hby d10_49) hr) (by decide) (by decide) ?_
        rw [e14]
        have hstep : own_step pc pz px py = 1 := by unfold own_step; rw [if_neg (fun z => z.2 qe), if_neg (fun z => z.2 hc21)]
        refine ⟨rfl, N14, K14, ?_, F_col_14, F_brk_14, ?_⟩
        · rw [hstep]; exact F_line_14
        · rw [← own_nb (pc = 13)]; exact F_acr_14
      · refine own_go (fun t_ k_ => XS.ifYes X11.here hx rfl (pc0 := 21) (pc' := 34) rfl (hb hby d10_21) rfl ((if0 _ _).trans (feq hc21).2) (by decide) (by decide) k_) ?_
        show OwnFin p e below s _ _ _ (T11.setTop (mkF m 34 #[rv lo_, iv pc] []))
        have qe : pc = py := q2.symm
        refine own_go (fun t_ k_ => XS.aloadN X11.here hx rfl (hb hby d10_34) rfl rfl k_) ?_
        show OwnFin p e below s _ _ _ (T11.setTop (mkF m 35 #[rv lo_, iv pc] [(.ref lo_)]))
        refine own_go (fun t_ k_ => XS.iloadN X11.here hx rfl (hb hby d10_35) rfl k_) ?_
        show OwnFin p e below s _ _ _ (T11.setTop (mkF m 36 #[rv lo_, iv pc] [(.int pc), (.ref lo_)]))
        refine own_go (fun t_ k_ => XS.bipush X11.here hx rfl (hb hby d10_36) k_) ?_
        show OwnFin p e below s _ _ _ (T11.setTop (mkF m 38 #[rv lo_, iv pc] [(.int (13 : Int32)), (.int pc), (.ref lo_)]))
        refine own_go (B := T11.setTop (mkF m 46 #[rv lo_, iv pc] [(.int (if pc = (13 : Int32) then (1 : Int32) else (0 : Int32))), (.ref lo_)])) (fun t_ k_ => ?_) ?_
        · by_cases hm38 : pc = (13 : Int32)
          · rw [if_pos hm38] at k_; exact XS.icmpNo X11.here hx rfl (hb hby d10_38) rfl (teq hm38).2 (XS.iconst X11.here hx rfl (hb hby d10_41) (XS.goto X11.here hx rfl (pc0 := 42) (pc' := 46) rfl (hb hby d10_42) (by decide) (by decide) k_))
          · rw [if_neg hm38] at k_; exact XS.icmpYes X11.here hx rfl (pc0 := 38) (pc' := 45) rfl (hb hby d10_38) rfl (feq hm38).2 (by decide) (by decide) (XS.iconst X11.here hx rfl (hb hby d10_45) k_)
        show OwnFin p e below s _ _ _ (T11.setTop (mkF m 46 #[rv lo_, iv pc] [(.int (if pc = (13 : Int32) then (1 : Int32) else (0 : Int32))), (.ref lo_)]))
        obtain ⟨T15, h15, X15, e15, W15, st15⟩ := putFN X11 hx hZ hown (hw _ (List.mem_of_getElem? (i := 97) rfl)) Via.refl e11 F_acr E_lo_ (Or.inl (hw _ (List.mem_of_getElem? (i := 98) rfl))) (hw _ (List.mem_of_getElem? (i := 6) rfl)) (ty := .boolean) (v' := (.int (nar .boolean (if pc = (13 : Int32) then (1 : Int32) else (0 : Int32))))) (by decide) rfl (fits_nar_bool _) (g := (mkF m 46 #[rv lo_, iv pc] [(.int (if pc = (13 : Int32) then (1 : Int32) else (0 : Int32))), (.ref lo_)])) rfl rfl (hb hby d10_46)
        have E_lo__15 := E_lo_.wr W15
        have F_line_15 := F_line.other W15 (Or.inr (slot_ne (Or.inl (hw _ (List.mem_of_getElem? (i := 42) rfl))) (Or.inl (hw _ (List.mem_of_getElem? (i := 98) rfl))) (by decide) (t := .int) (t' := .boolean) (by decide) (by decide)))
        have F_col_15 := F_col.other W15 (Or.inr (slot_ne (Or.inl (hw _ (List.mem_of_getElem? (i := 44) rfl))) (Or.inl (hw _ (List.mem_of_getElem? (i := 98) rfl))) (by decide) (t := .int) (t' := .boolean) (by decide) (by decide)))
        have F_brk_15 := F_brk.other W15 (Or.inr (slot_ne (Or.inr (hw _ (List.mem_of_getElem? (i := 46) rfl))) (Or.inl (hw _ (List.mem_of_getElem? (i := 98) rfl))) (by decide) (t := (.object "java/lang/String")) (t' := .boolean) (by decide) (by decide)))
        have F_acr_15 := F_acr.same W15
        have E_so_15 := E_so.wr W15
        have F_value_15 := F_value.other W15 (Or.inl (Ne.symm ne1))
        have F_coder_15 := F_coder.other W15 (Or.inl (Ne.symm ne1))
        have V_bs_15 := V_bs.other W15 (Ne.symm ne2)
        have OL_15 := OL.wr W15 g_lo_
        have Z15 : n0 ≤ h15.size := Nat.le_trans Z0 (Keep.of_wr W15).1
        have K15 : Keep h0 h15 [lo_] := K0.wr W15 (Or.inl (List.mem_of_getElem? (i := 0) rfl))
        have N15 := Fr.snoc X15 N2 g_lo_
        refine own_go st15 ?_
        show OwnFin p e below s _ _ _ (T15.setTop (mkF m 49 #[rv lo_, iv pc] []))
        refine own_ret X15 (v := none) hlk (fun _ => rfl) (fun fs hr => X15.returnOut hx hret (hb hby d10_49) hr) (by decide) (by decide) ?_
        rw [e15]
        have hstep : own_step pc pz px py = 0 := by unfold own_step; rw [if_neg (fun z => z.2 qe), if_pos ⟨hc14, hc21⟩]
        refine ⟨rfl, N15, K15, ?_, F_col_15, F_brk_15, ?_⟩
        · rw [hstep, Int32.add_zero]; exact F_line_15
        · rw [← own_nb (pc = 13)]; exact F_acr_15
    · refine own_go (fun t_ k_ => XS.icmpYes X2.here hx rfl (pc0 := 14) (pc' := 24) rfl (hb hby d10_14) rfl (feq hc14).2 (by decide) (by decide) k_) ?_
      show OwnFin p e below s _ _ _ (T2.setTop (mkF m 24 #[rv lo_, iv pc] []))
      refine own_go (fun t_ k_ => XS.aloadN X2.here hx rfl (hb hby d10_24) rfl rfl k_) ?_
      show OwnFin p e below s _ _ _ (T2.setTop (mkF m 25 #[rv lo_, iv pc] [(.ref lo_)]))
      refine own_go (fun t_ k_ => XS.dup X2.here hx rfl (hb hby d10_25) rfl rfl k_) ?_
      show OwnFin p e below s _ _ _ (T2.setTop (mkF m 26 #[rv lo_, iv pc] [(.ref lo_), (.ref lo_)]))
      obtain ⟨T16, X16, e16, st16⟩ := getF X2 hx hZ hown (host := "") (Or.inl (hw _ (List.mem_of_getElem? (i := 41) rfl))) Via.refl e2 F_line (g := (mkF m 26 #[rv lo_, iv pc] [(.ref lo_), (.ref lo_)])) rfl rfl (hb hby d10_26)
      refine own_go st16 ?_
      show OwnFin p e below s _ _ _ (T16.setTop (mkF m 29 #[rv lo_, iv pc] [(.int pl), (.ref lo_)]))
      refine own_go (fun t_ k_ => XS.iconst X16.here hx rfl (hb hby d10_29) k_) ?_
      show OwnFin p e below s _ _ _ (T16.setTop (mkF m 30 #[rv lo_, iv pc] [(.int (1 : Int32)), (.int pl), (.ref lo_)]))
      refine own_go (fun t_ k_ => XS.iadd X16.here hx rfl (hb hby d10_30) rfl k_) ?_
      show OwnFin p e below s _ _ _ (T16.setTop (mkF m 31 #[rv lo_, iv pc] [(.int (pl + (1 : Int32))), (.ref lo_)]))
      obtain ⟨T17, h17, X17, e17, W17, st17⟩ := putF X16 hx hZ hown (host := "") (Or.inl (hw _ (List.mem_of_getElem? (i := 41) rfl))) Via.refl e16 F_line E_lo_ (Or.inl (hw _ (List.mem_of_getElem? (i := 42) rfl))) (hw _ (List.mem_of_getElem? (i := 6) rfl)) (ty := .int) (by decide) rfl rfl (g := (mkF m 31 #[rv lo_, iv pc] [(.int (pl + (1 : Int32))), (.ref lo_)])) rfl rfl (hb hby d10_31)
      have E_lo__17 := E_lo_.wr W17
      have F_line_17 := F_line.same W17
      have F_col_17 := F_col.other W17 (Or.inr (slot_ne (Or.inl (hw _ (List.mem_of_getElem? (i := 44) rfl))) (Or.inl (hw _ (List.mem_of_getElem? (i := 42) rfl))) (by decide) (t := .int) (t' := .int) (by decide) (by decide)))
      have F_brk_17 := F_brk.other W17 (Or.inr (slot_ne (Or.inr (hw _ (List.mem_of_getElem? (i := 46) rfl))) (Or.inl (hw _ (List.mem_of_getElem? (i := 42) rfl))) (by decide) (t := (.object "java/lang/String")) (t' := .int) (by decide) (by decide)))
      have F_acr_17 := F_acr.other W17 (Or.inr (slot_ne (Or.inl (hw _ (List.mem_of_getElem? (i := 98) rfl))) (Or.inl (hw _ (List.mem_of_getElem? (i := 42) rfl))) (by decide) (t := .boolean) (t' := .int) (by decide) (by decide)))
      have E_so_17 := E_so.wr W17
      have F_value_17 := F_value.other W17 (Or.inl (Ne.symm ne1))
      have F_coder_17 := F_coder.other W17 (Or.inl (Ne.symm ne1))
      have V_bs_17 := V_bs.other W17 (Ne.symm ne2)
      have OL_17 := OL.wr W17 g_lo_
      have Z17 : n0 ≤ h17.size := Nat.le_trans Z0 (Keep.of_wr W17).1
      have K17 : Keep h0 h17 [lo_] := K0.wr W17 (Or.inl (List.mem_of_getElem? (i := 0) rfl))
      have N17 := Fr.snoc X17 N2 g_lo_
      refine own_go st17 ?_
      show OwnFin p e below s _ _ _ (T17.setTop (mkF m 34 #[rv lo_, iv pc] []))
      have qe : pc = py := q2.symm
      refine own_go (fun t_ k_ => XS.aloadN X17.here hx rfl (hb hby d10_34) rfl rfl k_) ?_
      show OwnFin p e below s _ _ _ (T17.setTop (mkF m 35 #[rv lo_, iv pc] [(.ref lo_)]))
      refine own_go (fun t_ k_ => XS.iloadN X17.here hx rfl (hb hby d10_35) rfl k_) ?_
      show OwnFin p e below s _ _ _ (T17.setTop (mkF m 36 #[rv lo_, iv pc] [(.int pc), (.ref lo_)]))
      refine own_go (fun t_ k_ => XS.bipush X17.here hx rfl (hb hby d10_36) k_) ?_
      show OwnFin p e below s _ _ _ (T17.setTop (mkF m 38 #[rv lo_, iv pc] [(.int (13 : Int32)), (.int pc), (.ref lo_)]))
      refine own_go (B := T17.setTop (mkF m 46 #[rv lo_, iv pc] [(.int (if pc = (13 : Int32) then (1 : Int32) else (0 : Int32))), (.ref lo_)])) (fun t_ k_ => ?_) ?_
      · by_cases hm38 : pc = (13 : Int32)
        · rw [if_pos hm38] at k_; exact XS.icmpNo X17.here hx rfl (hb hby d10_38) rfl (teq hm38).2 (XS.iconst X17.here hx rfl (hb hby d10_41) (XS.goto X17.here hx rfl (pc0 := 42) (pc' := 46) rfl (hb hby d10_42) (by decide) (by decide) k_))
        · rw [if_neg hm38] at k_; exact XS.icmpYes X17.here hx rfl (pc0 := 38) (pc' := 45) rfl (hb hby d10_38) rfl (feq hm38).2 (by decide) (by decide) (XS.iconst X17.here hx rfl (hb hby d10_45) k_)
      show OwnFin p e below s _ _ _ (T17.setTop (mkF m 46 #[rv lo_, iv pc] [(.int (if pc = (13 : Int32) then (1 : Int32) else (0 : Int32))), (.ref lo_)]))
      obtain ⟨T18, h18, X18, e18, W18, st18⟩ := putFN X17 hx hZ hown (hw _ (List.mem_of_getElem? (i := 97) rfl)) Via.refl e17 F_acr_17 E_lo__17 (Or.inl (hw _ (List.mem_of_getElem? (i := 98) rfl))) (hw _ (List.mem_of_getElem? (i := 6) rfl)) (ty := .boolean) (v' := (.int (nar .boolean (if pc = (13 : Int32) then (1 : Int32) else (0 : Int32))))) (by decide) rfl (fits_nar_bool _) (g := (mkF m 46 #[rv lo_, iv pc] [(.int (if pc = (13 : Int32) then (1 : Int32) else (0 : Int32))), (.ref lo_)])) rfl rfl (hb hby d10_46)
      have E_lo__18 := E_lo__17.wr W18
      have F_line_18 := F_line_17.other W18 (Or.inr (slot_ne (Or.inl (hw _ (List.mem_of_getElem? (i := 42) rfl))) (Or.inl (hw _ (List.mem_of_getElem? (i := 98) rfl))) (by decide) (t := .int) (t' := .boolean) (by decide) (by decide)))
      have F_col_18 := F_col_17.other W18 (Or.inr (slot_ne (Or.inl (hw _ (List.mem_of_getElem? (i := 44) rfl))) (Or.inl (hw _ (List.mem_of_getElem? (i := 98) rfl))) (by decide) (t := .int) (t' := .boolean) (by decide) (by decide)))
      have F_brk_18 := F_brk_17.other W18 (Or.inr (slot_ne (Or.inr (hw _ (List.mem_of_getElem? (i := 46) rfl))) (Or.inl (hw _ (List.mem_of_getElem? (i := 98) rfl))) (by decide) (t := (.object "java/lang/String")) (t' := .boolean) (by decide) (by decide)))
      have F_acr_18 := F_acr_17.same W18
      have E_so_18 := E_so_17.wr W18
      have F_value_18 := F_value_17.other W18 (Or.inl (Ne.symm ne1))
      have F_coder_18 := F_coder_17.other W18 (Or.inl (Ne.symm ne1))
      have V_bs_18 := V_bs_17.other W18 (Ne.symm ne2)
      have OL_18 := OL_17.wr W18 g_lo_
      have Z18 : n0 ≤ h18.size := Nat.le_trans Z17 (Keep.of_wr W18).1
      have K18 : Keep h0 h18 [lo_] := K17.wr W18 (Or.inl (List.mem_of_getElem? (i := 0) rfl))
      have N18 := Fr.snoc X18 N17 g_lo_
      refine own_go st18 ?_
      show OwnFin p e below s _ _ _ (T18.setTop (mkF m 49 #[rv lo_, iv pc] []))
      refine own_ret X18 (v := none) hlk (fun _ => rfl) (fun fs hr => X18.returnOut hx hret (hb hby d10_49) hr) (by decide) (by decide) ?_
      rw [e18]
      have hstep : own_step pc pz px py = 1 := by unfold own_step; rw [if_neg (fun z => z.2 qe), if_neg (fun z => hc14 z.1)]
      refine ⟨rfl, N18, K18, ?_, F_col_18, F_brk_18, ?_⟩
      · rw [hstep]; exact F_line_18
      · rw [← own_nb (pc = 13)]; exact F_acr_18
  · rw [show own_idx pc px py = -1 by simp [own_idx, q1, q2]]
    show OwnFin p e below s _ _ _ (T2.setTop (mkF m 8 #[rv lo_, iv pc] [(.int (-1 : Int32))]))
    refine own_go (fun t_ k_ => XS.ifYes X2.here hx rfl (pc0 := 8) (pc' := 34) rfl (hb hby d10_8) rfl ((if0 _ _).trans (tlt (by decide)).1) (by decide) (by decide) k_) ?_
    show OwnFin p e below s _ _ _ (T2.setTop (mkF m 34 #[rv lo_, iv pc] []))
    refine own_go (fun t_ k_ => XS.aloadN X2.here hx rfl (hb hby d10_34) rfl rfl k_) ?_
    show OwnFin p e below s _ _ _ (T2.setTop (mkF m 35 #[rv lo_, iv pc] [(.ref lo_)]))
    refine own_go (fun t_ k_ => XS.iloadN X2.here hx rfl (hb hby d10_35) rfl k_) ?_
    show OwnFin p e below s _ _ _ (T2.setTop (mkF m 36 #[rv lo_, iv pc] [(.int pc), (.ref lo_)]))
    refine own_go (fun t_ k_ => XS.bipush X2.here hx rfl (hb hby d10_36) k_) ?_
    show OwnFin p e below s _ _ _ (T2.setTop (mkF m 38 #[rv lo_, iv pc] [(.int (13 : Int32)), (.int pc), (.ref lo_)]))
    refine own_go (B := T2.setTop (mkF m 46 #[rv lo_, iv pc] [(.int (if pc = (13 : Int32) then (1 : Int32) else (0 : Int32))), (.ref lo_)])) (fun t_ k_ => ?_) ?_
    · by_cases hm38 : pc = (13 : Int32)
      · rw [if_pos hm38] at k_; exact XS.icmpNo X2.here hx rfl (hb hby d10_38) rfl (teq hm38).2 (XS.iconst X2.here hx rfl (hb hby d10_41) (XS.goto X2.here hx rfl (pc0 := 42) (pc' := 46) rfl (hb hby d10_42) (by decide) (by decide) k_))
      · rw [if_neg hm38] at k_; exact XS.icmpYes X2.here hx rfl (pc0 := 38) (pc' := 45) rfl (hb hby d10_38) rfl (feq hm38).2 (by decide) (by decide) (XS.iconst X2.here hx rfl (hb hby d10_45) k_)
    show OwnFin p e below s _ _ _ (T2.setTop (mkF m 46 #[rv lo_, iv pc] [(.int (if pc = (13 : Int32) then (1 : Int32) else (0 : Int32))), (.ref lo_)]))
    obtain ⟨T19, h19, X19, e19, W19, st19⟩ := putFN X2 hx hZ hown (hw _ (List.mem_of_getElem? (i := 97) rfl)) Via.refl e2 F_acr E_lo_ (Or.inl (hw _ (List.mem_of_getElem? (i := 98) rfl))) (hw _ (List.mem_of_getElem? (i := 6) rfl)) (ty := .boolean) (v' := (.int (nar .boolean (if pc = (13 : Int32) then (1 : Int32) else (0 : Int32))))) (by decide) rfl (fits_nar_bool _) (g := (mkF m 46 #[rv lo_, iv pc] [(.int (if pc = (13 : Int32) then (1 : Int32) else (0 : Int32))), (.ref lo_)])) rfl rfl (hb hby d10_46)
    have E_lo__19 := E_lo_.wr W19
    have F_line_19 := F_line.other W19 (Or.inr (slot_ne (Or.inl (hw _ (List.mem_of_getElem? (i := 42) rfl))) (Or.inl (hw _ (List.mem_of_getElem? (i := 98) rfl))) (by decide) (t := .int) (t' := .boolean) (by decide) (by decide)))
    have F_col_19 := F_col.other W19 (Or.inr (slot_ne (Or.inl (hw _ (List.mem_of_getElem? (i := 44) rfl))) (Or.inl (hw _ (List.mem_of_getElem? (i := 98) rfl))) (by decide) (t := .int) (t' := .boolean) (by decide) (by decide)))
    have F_brk_19 := F_brk.other W19 (Or.inr (slot_ne (Or.inr (hw _ (List.mem_of_getElem? (i := 46) rfl))) (Or.inl (hw _ (List.mem_of_getElem? (i := 98) rfl))) (by decide) (t := (.object "java/lang/String")) (t' := .boolean) (by decide) (by decide)))
    have F_acr_19 := F_acr.same W19
    have E_so_19 := E_so.wr W19
    have F_value_19 := F_value.other W19 (Or.inl (Ne.symm ne1))
    have F_coder_19 := F_coder.other W19 (Or.inl (Ne.symm ne1))
    have V_bs_19 := V_bs.other W19 (Ne.symm ne2)
    have OL_19 := OL.wr W19 g_lo_
    have Z19 : n0 ≤ h19.size := Nat.le_trans Z0 (Keep.of_wr W19).1
    have K19 : Keep h0 h19 [lo_] := K0.wr W19 (Or.inl (List.mem_of_getElem? (i := 0) rfl))
    have N19 := Fr.snoc X19 N2 g_lo_
    refine own_go st19 ?_
    show OwnFin p e below s _ _ _ (T19.setTop (mkF m 49 #[rv lo_, iv pc] []))
    refine own_ret X19 (v := none) hlk (fun _ => rfl) (fun fs hr => X19.returnOut hx hret (hb hby d10_49) hr) (by decide) (by decide) ?_
    rw [e19]
    have hstep : own_step pc pz px py = 0 := own_step0 q1 q2
    refine ⟨rfl, N19, K19, ?_, F_col_19, F_brk_19, ?_⟩
    · rw [hstep, Int32.add_zero]; exact F_line_19
    · rw [← own_nb (pc = 13)]; exact F_acr_19
theorem d21_0 : decode prog_32_method_5_code 0 = .ok (.aload_n 0, 1) := by decide +kernel
theorem d21_1 : decode prog_32_method_5_code 1 = .ok (.getfield 7, 3) := by decide +kernel
theorem d21_4 : decode prog_32_method_5_code 4 = .ok (.ireturn, 1) := by decide +kernel
theorem pn_21 : plainFor (⟨"com/example/argweave/argweave/LineCounter", "line", "()I"⟩ : MethodName) = true := plainFor_of_name (by first | (simp [plainName, overriddenIn]; done) | decide +kernel)
theorem ef_21 (m : MethodId) (a1 : Addr) : entryFrame m #[(.ref a1)] 1 = mkF m 0 #[rv a1] [] := by first | (simp [entryFrame, mkF, argsToLocals, Value.category]; done) | rfl
set_option maxRecDepth 65536 in
set_option maxHeartbeats 40000000 in
theorem rm21 (l : Launch) (Z : State) (a0 : Array Value) (hw : ∀ d ∈ tables_1, d.before a0 Z = true) (ws : List Jvm.Cond) (a1 : Addr) {w : Int32} (h0 : Heap) (n0 : Nat) (Z0 : n0 ≤ h0.size) (F_a1 : Fld Z h0 a1 "com/example/argweave/argweave/LineCounter" "line" "I" (.int w)) :
    OwnCtr l Z (⟨"com/example/argweave/argweave/LineCounter", "line", "()I"⟩ : MethodName) ws prog_32_method_5_code 1 (some .int) ({ frames := 0, cells := 0, slots := 0, locals := 0 } : Room) #[(.ref a1)] h0 (fun v h L => v = some (.int w) ∧ Fr n0 L ∧ h = h0) := by
  refine own_body (g0 := fun m => mkF m 0 #[rv a1] []) pn_21 (fun m => ef_21 m a1) ?_
  intro p e s m below meth c s₁ X0 hx hby hml hown hnm hZ e0 hret hlk
  have hml : c.maxLocals = 1 := hml
  have hown : s.vm.findClass "com/example/argweave/argweave/LineCounter" = some m.cls := hown
  have hnm : meth.name = "line" := hnm
  have hret : meth.sig.returnType = (some .int) := hret
  have N0 := Fr.nil n0
  show OwnFin p e below s _ _ _ (s₁.setTop (mkF m 0 #[rv a1] []))
  refine own_go (fun t_ k_ => XS.aloadN X0.here hx rfl (hb hby d21_0) rfl rfl k_) ?_
  show OwnFin p e below s _ _ _ (s₁.setTop (mkF m 1 #[rv a1] [(.ref a1)]))
  obtain ⟨T1, X1, e1, st1⟩ := getF X0 hx hZ hown (host := "") (Or.inl (hw _ (List.mem_of_getElem? (i := 41) rfl))) Via.refl e0 F_a1 (g := (mkF m 1 #[rv a1] [(.ref a1)])) rfl rfl (hb hby d21_1)
  refine own_go st1 ?_
  show OwnFin p e below s _ _ _ (T1.setTop (mkF m 4 #[rv a1] [(.int w)]))
  refine own_ret X1 (v := some (.int w)) hlk (fun hh => by rw [hret] at hh; cases hh) (fun fs hr => own_retI X1 hx hret (hb hby d21_4) hr) (by decide) (by decide) ?_
  rw [e1]
  exact ⟨rfl, N0, rfl⟩
theorem d22_0 : decode prog_32_method_6_code 0 = .ok (.aload_n 0, 1) := by decide +kernel
theorem d22_1 : decode prog_32_method_6_code 1 = .ok (.getfield 13, 3) := by decide +kernel
theorem d22_4 : decode prog_32_method_6_code 4 = .ok (.ireturn, 1) := by decide +kernel
theorem pn_22 : plainFor (⟨"com/example/argweave/argweave/LineCounter", "column", "()I"⟩ : MethodName) = true := plainFor_of_name (by first | (simp [plainName, overriddenIn]; done) | decide +kernel)
theorem ef_22 (m : MethodId) (a1 : Addr) : entryFrame m #[(.ref a1)] 1 = mkF m 0 #[rv a1] [] := by first | (simp [entryFrame, mkF, argsToLocals, Value.category]; done) | rfl
set_option maxRecDepth 65536 in
set_option maxHeartbeats 40000000 in
theorem rm22 (l : Launch) (Z : State) (a0 : Array Value) (hw : ∀ d ∈ tables_1, d.before a0 Z = true) (ws : List Jvm.Cond) (a1 : Addr) {w : Int32} (h0 : Heap) (n0 : Nat) (Z0 : n0 ≤ h0.size) (F_a1 : Fld Z h0 a1 "com/example/argweave/argweave/LineCounter" "column" "I" (.int w)) :
    OwnCtr l Z (⟨"com/example/argweave/argweave/LineCounter", "column", "()I"⟩ : MethodName) ws prog_32_method_6_code 1 (some .int) ({ frames := 0, cells := 0, slots := 0, locals := 0 } : Room) #[(.ref a1)] h0 (fun v h L => v = some (.int w) ∧ Fr n0 L ∧ h = h0) := by
  refine own_body (g0 := fun m => mkF m 0 #[rv a1] []) pn_22 (fun m => ef_22 m a1) ?_
  intro p e s m below meth c s₁ X0 hx hby hml hown hnm hZ e0 hret hlk
  have hml : c.maxLocals = 1 := hml
  have hown : s.vm.findClass "com/example/argweave/argweave/LineCounter" = some m.cls := hown
  have hnm : meth.name = "column" := hnm
  have hret : meth.sig.returnType = (some .int) := hret
  have N0 := Fr.nil n0
  show OwnFin p e below s _ _ _ (s₁.setTop (mkF m 0 #[rv a1] []))
  refine own_go (fun t_ k_ => XS.aloadN X0.here hx rfl (hb hby d22_0) rfl rfl k_) ?_
  show OwnFin p e below s _ _ _ (s₁.setTop (mkF m 1 #[rv a1] [(.ref a1)]))
  obtain ⟨T1, X1, e1, st1⟩ := getF X0 hx hZ hown (host := "") (Or.inl (hw _ (List.mem_of_getElem? (i := 43) rfl))) Via.refl e0 F_a1 (g := (mkF m 1 #[rv a1] [(.ref a1)])) rfl rfl (hb hby d22_1)
  refine own_go st1 ?_
  show OwnFin p e below s _ _ _ (T1.setTop (mkF m 4 #[rv a1] [(.int w)]))
  refine own_ret X1 (v := some (.int w)) hlk (fun hh => by rw [hret] at hh; cases hh) (fun fs hr => own_retI X1 hx hret (hb hby d22_4) hr) (by decide) (by decide) ?_
  rw [e1]
  exact ⟨rfl, N0, rfl⟩
theorem pn_0 : plainFor (⟨"com/example/argweave/argweave/LineCounterPassPinLaw", "law", "(IIIII)Z"⟩ : MethodName) = true := plainFor_of_name (by first | (simp [plainName, overriddenIn]; done) | decide +kernel)
theorem pd_0_0 : parseMethodDescriptor "(I)C" = some ⟨[.int], some .char⟩ := by decide +kernel
theorem pd_0_1 : parseMethodDescriptor "([C)V" = some ⟨[(.array .char)], none⟩ := by decide +kernel
theorem pd_0_7 : parseMethodDescriptor "(Ljava/lang/String;)V" = some ⟨[(.object "java/lang/String")], none⟩ := by decide +kernel
theorem pd_0_8 : parseMethodDescriptor "(CZCC)I" = some ⟨[.char, .boolean, .char, .char], some .int⟩ := by decide +kernel
theorem pd_0_9 : parseMethodDescriptor "(C)V" = some ⟨[.char], none⟩ := by decide +kernel
theorem pd_0_13 : parseMethodDescriptor "()I" = some ⟨[], some .int⟩ := by decide +kernel
theorem ef_0 (m : MethodId) (pb1 : Int32) (pb2 : Int32) (pc1 : Int32) (pc2 : Int32) (pc3 : Int32) : entryFrame m #[(.int pb1), (.int pb2), (.int pc1), (.int pc2), (.int pc3)] maxLocals = mkF m 0 #[iv pb1, iv pb2, iv pc1, iv pc2, iv pc3, .unset, .unset, .unset, .unset, .unset, .unset, .unset, .unset, .unset, .unset, .unset, .unset, .unset] [] := by first | (simp [entryFrame, mkF, argsToLocals, Value.category, maxLocals]; done) | rfl
set_option maxRecDepth 65536 in
set_option maxHeartbeats 40000000 in
theorem rm0 (l : Launch) (Z : State) (a0 : Array Value) (hw : ∀ d ∈ tables_1, d.before a0 Z = true) (ws : List Jvm.Cond) (pb1 : Int32) (pb2 : Int32) (pc1 : Int32) (pc2 : Int32) (pc3 : Int32) (zc : Int32) (fm : Value) (h0 : Heap) (n0 : Nat) (Z0 : n0 ≤ h0.size) (hzc : ¬ zc = (0 : Int32)) (hfm : fm.isRef = true) (S_cs : Sta Z Z.heap "java/lang/String" "COMPACT_STRINGS" "Z" (.int zc)) (S_as : Sta Z Z.heap "java/lang/StringUTF16" "$assertionsDisabled" "Z" (.int (1 : Int32))) (S_hi : Sta Z Z.heap "java/lang/StringUTF16" "HI_BYTE_SHIFT" "I" (.int (0 : Int32))) (S_lo : Sta Z Z.heap "java/lang/StringUTF16" "LO_BYTE_SHIFT" "I" (.int (8 : Int32))) (S_fm : Sta Z Z.heap "jdk/internal/util/Preconditions" "SIOOBE_FORMATTER" "Ljava/util/function/BiFunction;" fm) (OL : Old Z n0 h0) :
    OwnCtr l Z x ws code maxLocals ret room_1 #[(.int pb1), (.int pb2), (.int pc1), (.int pc2), (.int pc3)] h0 (fun v h L => v = some (.int 1) ∧ Fr n0 L) := by
  refine own_body (g0 := fun m => mkF m 0 #[iv pb1, iv pb2, iv pc1, iv pc2, iv pc3, .unset, .unset, .unset, .unset, .unset, .unset, .unset, .unset, .unset, .unset, .unset, .unset, .unset] []) pn_0 (fun m => ef_0 m pb1 pb2 pc1 pc2 pc3) ?_
  intro p e s m below meth c s₁ X0 hx hby hml hown hnm hZ e0 hret hlk
  have hml : c.maxLocals = 18 := hml
  have hown : s.vm.findClass "com/example/argweave/argweave/LineCounterPassPinLaw" = some m.cls := hown
  have hnm : meth.name = "law" := hnm
  have hret : meth.sig.returnType = (some .boolean) := hret
  have N0 := Fr.nil n0
  show OwnFin p e below s _ _ _ (s₁.setTop (mkF m 0 #[iv pb1, iv pb2, iv pc1, iv pc2, iv pc3, .unset, .unset, .unset, .unset, .unset, .unset, .unset, .unset, .unset, .unset, .unset, .unset, .unset] []))
  refine own_go (fun t_ k_ => XS.iloadN X0.here hx rfl (hb hby at_0) rfl k_) ?_
  show OwnFin p e below s _ _ _ (s₁.setTop (mkF m 1 #[iv pb1, iv pb2, iv pc1, iv pc2, iv pc3, .unset, .unset, .unset, .unset, .unset, .unset, .unset, .unset, .unset, .unset, .unset, .unset, .unset] [(.int pb1)]))
  obtain ⟨v1, T1, L1, X1, hQ1, st1⟩ := own_callS X0 hx hZ (y := (⟨"com/example/argweave/argweave/LineCounterPassPinLaw", "pick", "(I)C"⟩ : MethodName)) hown (hw _ (List.mem_of_getElem? (i := 0) rfl)) (hw _ (List.mem_of_getElem? (i := 1) rfl)) (hw _ (List.mem_of_getElem? (i := 2) rfl)) (hw _ (List.mem_of_getElem? (i := 3) rfl)) (by decide) (W := 0) (rm1 l Z a0 hw [] pb1 h0 n0 Z0) (by decide) (by decide) (g := (mkF m 1 #[iv pb1, iv pb2, iv pc1, iv pc2, iv pc3, .unset, .unset, .unset, .unset, .unset, .unset, .unset, .unset, .unset, .unset, .unset, .unset, .unset] [(.int pb1)])) rfl (by rw [hml]; rfl) (argsL := [(.int pb1)]) (rest := []) (lenOf pd_0_0 rfl) rfl (by show 2 * 0 + _ ≤ _; exact Nat.le_of_eq rfl) (hb hby at_1) e0 rfl (by decide) (by decide)
  obtain ⟨⟨z1, rfl, hz1⟩, Nq1, e1⟩ := hQ1
  have N1 := Fr.app N0 Nq1
  refine own_go st1 ?_
  show OwnFin p e below s _ _ _ (T1.setTop (mkF m 4 #[iv pb1, iv pb2, iv pc1, iv pc2, iv pc3, .unset, .unset, .unset, .unset, .unset, .unset, .unset, .unset, .unset, .unset, .unset, .unset, .unset] [(.int z1)]))
  refine own_go (fun t_ k_ => XS.istore X1.here hx rfl (hb hby at_4) rfl (l' := #[iv pb1, iv pb2, iv pc1, iv pc2, iv pc3, iv z1, .unset, .unset, .unset, .unset, .unset, .unset, .unset, .unset, .unset, .unset, .unset, .unset]) rfl k_) ?_
  show OwnFin p e below s _ _ _ (T1.setTop (mkF m 6 #[iv pb1, iv pb2, iv pc1, iv pc2, iv pc3, iv z1, .unset, .unset, .unset, .unset, .unset, .unset, .unset, .unset, .unset, .unset, .unset, .unset] []))
  refine own_go (fun t_ k_ => XS.iloadN X1.here hx rfl (hb hby at_6) rfl k_) ?_
  show OwnFin p e below s _ _ _ (T1.setTop (mkF m 7 #[iv pb1, iv pb2, iv pc1, iv pc2, iv pc3, iv z1, .unset, .unset, .unset, .unset, .unset, .unset, .unset, .unset, .unset, .unset, .unset, .unset] [(.int pb2)]))
  obtain ⟨v2, T2, L2, X2, hQ2, st2⟩ := own_callS X1 hx hZ (y := (⟨"com/example/argweave/argweave/LineCounterPassPinLaw", "pick", "(I)C"⟩ : MethodName)) hown (hw _ (List.mem_of_getElem? (i := 0) rfl)) (hw _ (List.mem_of_getElem? (i := 1) rfl)) (hw _ (List.mem_of_getElem? (i := 2) rfl)) (hw _ (List.mem_of_getElem? (i := 3) rfl)) (by decide) (W := 0) (rm1 l Z a0 hw [] pb2 h0 n0 Z0) (by decide) (by decide) (g := (mkF m 7 #[iv pb1, iv pb2, iv pc1, iv pc2, iv pc3, iv z1, .unset, .unset, .unset, .unset, .unset, .unset, .unset, .unset, .unset, .unset, .unset, .unset] [(.int pb2)])) rfl (by rw [hml]; rfl) (argsL := [(.int pb2)]) (rest := []) (lenOf pd_0_0 rfl) rfl (by show 2 * 0 + _ ≤ _; exact Nat.le_of_eq rfl) (hb hby at_7) e1 rfl (by decide) (by decide)
  obtain ⟨⟨z2, rfl, hz2⟩, Nq2, e2⟩ := hQ2
  have N2 := Fr.app N1 Nq2
  refine own_go st2 ?_
  show OwnFin p e below s _ _ _ (T2.setTop (mkF m 10 #[iv pb1, iv pb2, iv pc1, iv pc2, iv pc3, iv z1, .unset, .unset, .unset, .unset, .unset, .unset, .unset, .unset, .unset, .unset, .unset, .unset] [(.int z2)]))
  refine own_go (fun t_ k_ => XS.istore X2.here hx rfl (hb hby at_10) rfl (l' := #[iv pb1, iv pb2, iv pc1, iv pc2, iv pc3, iv z1, iv z2, .unset, .unset, .unset, .unset, .unset, .unset, .unset, .unset, .unset, .unset, .unset]) rfl k_) ?_
  show OwnFin p e below s _ _ _ (T2.setTop (mkF m 12 #[iv pb1, iv pb2, iv pc1, iv pc2, iv pc3, iv z1, iv z2, .unset, .unset, .unset, .unset, .unset, .unset, .unset, .unset, .unset, .unset, .unset] []))
  refine own_go (fun t_ k_ => XS.iconst X2.here hx rfl (hb hby at_12) k_) ?_
  show OwnFin p e below s _ _ _ (T2.setTop (mkF m 13 #[iv pb1, iv pb2, iv pc1, iv pc2, iv pc3, iv z1, iv z2, .unset, .unset, .unset, .unset, .unset, .unset, .unset, .unset, .unset, .unset, .unset] [(.int (2 : Int32))]))
  obtain ⟨T3, h3, X3, e3, E3, A3, st3⟩ := own_newarr X2 hx hZ (hw _ (List.mem_of_getElem? (i := 4) rfl)) e2 (g := (mkF m 13 #[iv pb1, iv pb2, iv pc1, iv pc2, iv pc3, iv z1, iv z2, .unset, .unset, .unset, .unset, .unset, .unset, .unset, .unset, .unset, .unset, .unset] [(.int (2 : Int32))])) rfl (hb hby at_13) rfl (n := 2) (cap := 2) (by decide) (by decide) (by decide) (by decide) (by decide)
  obtain ⟨b3, g3⟩ : ∃ z, z = h0.size := ⟨_, rfl⟩
  rw [← g3] at A3 st3
  have g_b3 : n0 ≤ b3 := Nat.le_trans Z0 (Nat.le_of_eq g3.symm)
  have OL_3 := OL.ext E3
  have Z3 : n0 ≤ h3.size := Nat.le_trans Z0 E3.1
  have V_b3 : OwnArr Z h3 b3 .char 2 (fun _ => (.int (0 : Int32))) := A3
  refine own_go st3 ?_
  show OwnFin p e below s _ _ _ (T3.setTop (mkF m 15 #[iv pb1, iv pb2, iv pc1, iv pc2, iv pc3, iv z1, iv z2, .unset, .unset, .unset, .unset, .unset, .unset, .unset, .unset, .unset, .unset, .unset] [(.ref b3)]))
  refine own_go (fun t_ k_ => XS.astore X3.here hx rfl (hb hby at_15) rfl rfl (l' := #[iv pb1, iv pb2, iv pc1, iv pc2, iv pc3, iv z1, iv z2, rv b3, .unset, .unset, .unset, .unset, .unset, .unset, .unset, .unset, .unset, .unset]) rfl k_) ?_
  show OwnFin p e below s _ _ _ (T3.setTop (mkF m 17 #[iv pb1, iv pb2, iv pc1, iv pc2, iv pc3, iv z1, iv z2, rv b3, .unset, .unset, .unset, .unset, .unset, .unset, .unset, .unset, .unset, .unset] []))
  refine own_go (fun t_ k_ => XS.aload X3.here hx rfl (hb hby at_17) rfl rfl k_) ?_
  show OwnFin p e below s _ _ _ (T3.setTop (mkF m 19 #[iv pb1, iv pb2, iv pc1, iv pc2, iv pc3, iv z1, iv z2, rv b3, .unset, .unset, .unset, .unset, .unset, .unset, .unset, .unset, .unset, .unset] [(.ref b3)]))
  refine own_go (fun t_ k_ => XS.iconst X3.here hx rfl (hb hby at_19) k_) ?_
  show OwnFin p e below s _ _ _ (T3.setTop (mkF m 20 #[iv pb1, iv pb2, iv pc1, iv pc2, iv pc3, iv z1, iv z2, rv b3, .unset, .unset, .unset, .unset, .unset, .unset, .unset, .unset, .unset, .unset] [(.int (0 : Int32)), (.ref b3)]))
  refine own_go (fun t_ k_ => XS.iload X3.here hx rfl (hb hby at_20) rfl k_) ?_
  show OwnFin p e below s _ _ _ (T3.setTop (mkF m 22 #[iv pb1, iv pb2, iv pc1, iv pc2, iv pc3, iv z1, iv z2, rv b3, .unset, .unset, .unset, .unset, .unset, .unset, .unset, .unset, .unset, .unset] [(.int z1), (.int (0 : Int32)), (.ref b3)]))
  obtain ⟨T4, h4, X4, e4, W4, A4, st4⟩ := own_castore X3 hx hZ e3 V_b3 (i := 0) (by decide) (by decide) (g := (mkF m 22 #[iv pb1, iv pb2, iv pc1, iv pc2, iv pc3, iv z1, iv z2, rv b3, .unset, .unset, .unset, .unset, .unset, .unset, .unset, .unset, .unset, .unset] [(.int z1), (.int (0 : Int32)), (.ref b3)])) rfl rfl (hb hby at_22)
  have OL_4 := OL_3.wr W4 g_b3
  have Z4 : n0 ≤ h4.size := Nat.le_trans Z3 (Keep.of_wr W4).1
  have N4 := Fr.snoc X4 N2 g_b3
  refine own_go st4 ?_
  show OwnFin p e below s _ _ _ (T4.setTop (mkF m 23 #[iv pb1, iv pb2, iv pc1, iv pc2, iv pc3, iv z1, iv z2, rv b3, .unset, .unset, .unset, .unset, .unset, .unset, .unset, .unset, .unset, .unset] []))
  refine own_go (fun t_ k_ => XS.aload X4.here hx rfl (hb hby at_23) rfl rfl k_) ?_
  show OwnFin p e below s _ _ _ (T4.setTop (mkF m 25 #[iv pb1, iv pb2, iv pc1, iv pc2, iv pc3, iv z1, iv z2, rv b3, .unset, .unset, .unset, .unset, .unset, .unset, .unset, .unset, .unset, .unset] [(.ref b3)]))
  refine own_go (fun t_ k_ => XS.iconst X4.here hx rfl (hb hby at_25) k_) ?_
  show OwnFin p e below s _ _ _ (T4.setTop (mkF m 26 #[iv pb1, iv pb2, iv pc1, iv pc2, iv pc3, iv z1, iv z2, rv b3, .unset, .unset, .unset, .unset, .unset, .unset, .unset, .unset, .unset, .unset] [(.int (1 : Int32)), (.ref b3)]))
  refine own_go (fun t_ k_ => XS.iload X4.here hx rfl (hb hby at_26) rfl k_) ?_
  show OwnFin p e below s _ _ _ (T4.setTop (mkF m 28 #[iv pb1, iv pb2, iv pc1, iv pc2, iv pc3, iv z1, iv z2, rv b3, .unset, .unset, .unset, .unset, .unset, .unset, .unset, .unset, .unset, .unset] [(.int z2), (.int (1 : Int32)), (.ref b3)]))
  obtain ⟨T5, h5, X5, e5, W5, A5, st5⟩ := own_castore X4 hx hZ e4 A4 (i := 1) (by decide) (by decide) (g := (mkF m 28 #[iv pb1, iv pb2, iv pc1, iv pc2, iv pc3, iv z1, iv z2, rv b3, .unset, .unset, .unset, .unset, .unset, .unset, .unset, .unset, .unset, .unset] [(.int z2), (.int (1 : Int32)), (.ref b3)])) rfl rfl (hb hby at_28)
  have OL_5 := OL_4.wr W5 g_b3
  have Z5 : n0 ≤ h5.size := Nat.le_trans Z4 (Keep.of_wr W5).1
  have N5 := Fr.snoc X5 N4 g_b3
  refine own_go st5 ?_
  show OwnFin p e below s _ _ _ (T5.setTop (mkF m 29 #[iv pb1, iv pb2, iv pc1, iv pc2, iv pc3, iv z1, iv z2, rv b3, .unset, .unset, .unset, .unset, .unset, .unset, .unset, .unset, .unset, .unset] []))
  obtain ⟨T6, h6, X6, e6, E6, A6, D6, -, st6⟩ := newO X5 hx hZ hown (hw _ (List.mem_of_getElem? (i := 5) rfl)) (hw _ (List.mem_of_getElem? (i := 6) rfl)) (hw _ (List.mem_of_getElem? (i := 7) rfl)) e5 (g := (mkF m 29 #[iv pb1, iv pb2, iv pc1, iv pc2, iv pc3, iv z1, iv z2, rv b3, .unset, .unset, .unset, .unset, .unset, .unset, .unset, .unset, .unset, .unset] [])) rfl (hb hby at_29) (by decide) (by decide)
  obtain ⟨b6, g6⟩ : ∃ z, z = h5.size := ⟨_, rfl⟩
  rw [← g6] at A6 D6 st6
  have g_b6 : n0 ≤ b6 := Nat.le_trans Z5 (Nat.le_of_eq g6.symm)
  have ne_b3_b6 : b3 ≠ b6 := Nat.ne_of_lt (Nat.lt_of_lt_of_le A5.lt (Nat.le_of_eq g6.symm))
  have OL_6 := OL_5.ext E6
  have V_b3_6 := A5.ext E6
  have Z6 : n0 ≤ h6.size := Nat.le_trans Z5 E6.1
  have E_b6 := A6
  have F_line_b6 : Fld Z h6 b6 "com/example/argweave/argweave/LineCounter" "line" "I" (.int (0 : Int32)) := D6 (Or.inl (hw _ (List.mem_of_getElem? (i := 42) rfl))) (ty := .int) (by decide)
  have F_column_b6 : Fld Z h6 b6 "com/example/argweave/argweave/LineCounter" "column" "I" (.int (0 : Int32)) := D6 (Or.inl (hw _ (List.mem_of_getElem? (i := 44) rfl))) (ty := .int) (by decide)
  have F_breaks_b6 : Fld Z h6 b6 "com/example/argweave/argweave/LineCounter" "breaks" "Ljava/lang/String;" .null := D6 (Or.inr (hw _ (List.mem_of_getElem? (i := 46) rfl))) (ty := (.object "java/lang/String")) (by decide)
  have F_afterCr_b6 : Fld Z h6 b6 "com/example/argweave/argweave/LineCounter" "afterCr" "Z" (.int (0 : Int32)) := D6 (Or.inl (hw _ (List.mem_of_getElem? (i := 98) rfl))) (ty := .boolean) (by decide)
  refine own_go st6 ?_
  show OwnFin p e below s _ _ _ (T6.setTop (mkF m 32 #[iv pb1, iv pb2, iv pc1, iv pc2, iv pc3, iv z1, iv z2, rv b3, .unset, .unset, .unset, .unset, .unset, .unset, .unset, .unset, .unset, .unset] [(.ref b6)]))
  refine own_go (fun t_ k_ => XS.dup X6.here hx rfl (hb hby at_32) rfl rfl k_) ?_
  show OwnFin p e below s _ _ _ (T6.setTop (mkF m 33 #[iv pb1, iv pb2, iv pc1, iv pc2, iv pc3, iv z1, iv z2, rv b3, .unset, .unset, .unset, .unset, .unset, .unset, .unset, .unset, .unset, .unset] [(.ref b6), (.ref b6)]))
  obtain ⟨T7, h7, X7, e7, E7, A7, D7, -, st7⟩ := newO X6 hx hZ hown (hw _ (List.mem_of_getElem? (i := 8) rfl)) (hw _ (List.mem_of_getElem? (i := 9) rfl)) (hw _ (List.mem_of_getElem? (i := 10) rfl)) e6 (g := (mkF m 33 #[iv pb1, iv pb2, iv pc1, iv pc2, iv pc3, iv z1, iv z2, rv b3, .unset, .unset, .unset, .unset, .unset, .unset, .unset, .unset, .unset, .unset] [(.ref b6), (.ref b6)])) rfl (hb hby at_33) (by decide) (by decide)
  obtain ⟨b7, g7⟩ : ∃ z, z = h6.size := ⟨_, rfl⟩
  rw [← g7] at A7 D7 st7
  have g_b7 : n0 ≤ b7 := Nat.le_trans Z6 (Nat.le_of_eq g7.symm)
  have ne_b3_b7 : b3 ≠ b7 := Nat.ne_of_lt (Nat.lt_of_lt_of_le V_b3_6.lt (Nat.le_of_eq g7.symm))
  have ne_b6_b7 : b6 ≠ b7 := Nat.ne_of_lt (Nat.lt_of_lt_of_le E_b6.lt (Nat.le_of_eq g7.symm))
  have OL_7 := OL_6.ext E7
  have V_b3_7 := V_b3_6.ext E7
  have E_b6_7 := E_b6.ext E7
  have F_line_b6_7 := F_line_b6.ext E7
  have F_column_b6_7 := F_column_b6.ext E7
  have F_breaks_b6_7 := F_breaks_b6.ext E7
  have F_afterCr_b6_7 := F_afterCr_b6.ext E7
  have Z7 : n0 ≤ h7.size := Nat.le_trans Z6 E7.1
  have E_b7 := A7
  have F_coder_b7 : Fld Z h7 b7 "java/lang/String" "coder" "B" (.int (0 : Int32)) := D7 (Or.inr (hw _ (List.mem_of_getElem? (i := 34) rfl))) (ty := .byte) (by decide)
  have F_value_b7 : Fld Z h7 b7 "java/lang/String" "value" "[B" .null := D7 (Or.inr (hw _ (List.mem_of_getElem? (i := 36) rfl))) (ty := (.array .byte)) (by decide)
  refine own_go st7 ?_
  show OwnFin p e below s _ _ _ (T7.setTop (mkF m 36 #[iv pb1, iv pb2, iv pc1, iv pc2, iv pc3, iv z1, iv z2, rv b3, .unset, .unset, .unset, .unset, .unset, .unset, .unset, .unset, .unset, .unset] [(.ref b7), (.ref b6), (.ref b6)]))
  refine own_go (fun t_ k_ => XS.dup X7.here hx rfl (hb hby at_36) rfl rfl k_) ?_
  show OwnFin p e below s _ _ _ (T7.setTop (mkF m 37 #[iv pb1, iv pb2, iv pc1, iv pc2, iv pc3, iv z1, iv z2, rv b3, .unset, .unset, .unset, .unset, .unset, .unset, .unset, .unset, .unset, .unset] [(.ref b7), (.ref b7), (.ref b6), (.ref b6)]))
  refine own_go (fun t_ k_ => XS.aload X7.here hx rfl (hb hby at_37) rfl rfl k_) ?_
  show OwnFin p e below s _ _ _ (T7.setTop (mkF m 39 #[iv pb1, iv pb2, iv pc1, iv pc2, iv pc3, iv z1, iv z2, rv b3, .unset, .unset, .unset, .unset, .unset, .unset, .unset, .unset, .unset, .unset] [(.ref b3), (.ref b7), (.ref b7), (.ref b6), (.ref b6)]))
  have hpx := hz1
  have hpy := hz2
  have V_chars : OwnArr Z h7 b3 .char 2 (fun k => .int (own_two z1 z2 k)) := V_b3_7.congr (fun z hz => by
    have hz' : z = 0 ∨ z = 1 := by omega
    rcases hz' with rfl | rfl
    · exact congrArg Value.int (own_nc hpx)
    · exact congrArg Value.int (own_nc hpy))
  by_cases hL : ¬ (255 : Int32) < z1 ∧ ¬ (255 : Int32) < z2
  · obtain ⟨hl1, hl2⟩ := hL
    obtain ⟨v8, T8, L8, X8, hQ8, st8⟩ := own_callI X7 hx hZ (y := (⟨"java/lang/String", "<init>", "([C)V"⟩ : MethodName)) rfl hown (hw _ (List.mem_of_getElem? (i := 11) rfl)) (hw _ (List.mem_of_getElem? (i := 12) rfl)) (hw _ (List.mem_of_getElem? (i := 10) rfl)) (hw _ (List.mem_of_getElem? (i := 13) rfl)) (by decide) (W := 3) (rm2_L l Z a0 hw [] b7 b3 z1 z2 zc h7 n0 Z7 E_b7 F_value_b7 F_coder_b7 V_chars g_b7 (Ne.symm ne_b3_b7) hzc S_cs S_as S_hi S_lo OL_7 hpx hpy hl1 hl2) (by decide) (by decide) (g := (mkF m 39 #[iv pb1, iv pb2, iv pc1, iv pc2, iv pc3, iv z1, iv z2, rv b3, .unset, .unset, .unset, .unset, .unset, .unset, .unset, .unset, .unset, .unset] [(.ref b3), (.ref b7), (.ref b7), (.ref b6), (.ref b6)])) rfl (by rw [hml]; rfl) (a := b7) (argsL := [(.ref b3)]) (rest := [(.ref b7), (.ref b6), (.ref b6)]) (lenOf pd_0_1 rfl) rfl (by show 2 * 0 + _ ≤ _; exact Nat.le_of_eq rfl) (hb hby at_39) e7 rfl (by decide) (by decide)
    obtain ⟨rfl, Nq8, Kq8, Eq8, Fc8, bs8, sq8, Fv8, Vq8⟩ := hQ8
    have N8 := Fr.app N5 Nq8
    have g_bs8 : n0 ≤ bs8 := Nat.le_trans Z7 sq8
    have ne_b3_bs8 : b3 ≠ bs8 := Nat.ne_of_lt (Nat.lt_of_lt_of_le V_chars.lt sq8)
    have ne_b6_bs8 : b6 ≠ bs8 := Nat.ne_of_lt (Nat.lt_of_lt_of_le E_b6_7.lt sq8)
    have ne_b7_bs8 : b7 ≠ bs8 := Nat.ne_of_lt (Nat.lt_of_lt_of_le E_b7.lt sq8)
    have OL_8 := OL_7.keep Kq8 (allS g_b7 all0)
    have V_b3_8 := V_chars.keep Kq8 (ninS ne_b3_b7 nin0)
    have E_b6_8 := E_b6_7.keep Kq8
    have F_line_b6_8 := F_line_b6_7.keep Kq8 (ninS ne_b6_b7 nin0)
    have F_column_b6_8 := F_column_b6_7.keep Kq8 (ninS ne_b6_b7 nin0)
    have F_breaks_b6_8 := F_breaks_b6_7.keep Kq8 (ninS ne_b6_b7 nin0)
    have F_afterCr_b6_8 := F_afterCr_b6_7.keep Kq8 (ninS ne_b6_b7 nin0)
    have E_b7_8 := E_b7.keep Kq8
    have Z8 : n0 ≤ T8.heap.size := Nat.le_trans Z7 Kq8.1
    refine own_go st8 ?_
    show OwnFin p e below s _ _ _ (T8.setTop (mkF m 42 #[iv pb1, iv pb2, iv pc1, iv pc2, iv pc3, iv z1, iv z2, rv b3, .unset, .unset, .unset, .unset, .unset, .unset, .unset, .unset, .unset, .unset] [(.ref b7), (.ref b6), (.ref b6)]))
    obtain ⟨v9, T9, L9, X9, hQ9, st9⟩ := own_callI X8 hx hZ (y := (⟨"com/example/argweave/argweave/LineCounter", "<init>", "(Ljava/lang/String;)V"⟩ : MethodName)) rfl hown (hw _ (List.mem_of_getElem? (i := 37) rfl)) (hw _ (List.mem_of_getElem? (i := 38) rfl)) (hw _ (List.mem_of_getElem? (i := 7) rfl)) (hw _ (List.mem_of_getElem? (i := 39) rfl)) (by decide) (W := 1) (rm8 l Z a0 hw [] b6 b7 T8.heap n0 Z8 E_b6_8 g_b6 F_line_b6_8 F_column_b6_8 F_breaks_b6_8 F_afterCr_b6_8) (by decide) (by decide) (g := (mkF m 42 #[iv pb1, iv pb2, iv pc1, iv pc2, iv pc3, iv z1, iv z2, rv b3, .unset, .unset, .unset, .unset, .unset, .unset, .unset, .unset, .unset, .unset] [(.ref b7), (.ref b6), (.ref b6)])) rfl (by rw [hml]; rfl) (a := b6) (argsL := [(.ref b7)]) (rest := [(.ref b6)]) (lenOf pd_0_7 rfl) rfl (by show 2 * 0 + _ ≤ _; exact Nat.le_of_eq rfl) (hb hby at_42) rfl rfl (by decide) (by decide)
    obtain ⟨rfl, Nq9, Kq9, Eq9, Fq9_0, Fq9_1, Fq9_2, Fq9_3⟩ := hQ9
    have N9 := Fr.app N8 Nq9
    have OL_9 := OL_8.keep Kq9 (allS g_b6 all0)
    have V_b3_9 := V_b3_8.keep Kq9 (ninS ne_b3_b6 nin0)
    have E_b6_9 := E_b6_8.keep Kq9
    have E_b7_9 := E_b7_8.keep Kq9
    have Fc8_9 := Fc8.keep Kq9 (ninS (Ne.symm ne_b6_b7) nin0)
    have Fv8_9 := Fv8.keep Kq9 (ninS (Ne.symm ne_b6_b7) nin0)
    have Vq8_9 := Vq8.keep Kq9 (ninS (Ne.symm ne_b6_bs8) nin0)
    have Z9 : n0 ≤ T9.heap.size := Nat.le_trans Z8 Kq9.1
    refine own_go st9 ?_
    show OwnFin p e below s _ _ _ (T9.setTop (mkF m 45 #[iv pb1, iv pb2, iv pc1, iv pc2, iv pc3, iv z1, iv z2, rv b3, .unset, .unset, .unset, .unset, .unset, .unset, .unset, .unset, .unset, .unset] [(.ref b6)]))
    refine own_go (fun t_ k_ => XS.astore X9.here hx rfl (hb hby at_45) rfl rfl (l' := #[iv pb1, iv pb2, iv pc1, iv pc2, iv pc3, iv z1, iv z2, rv b3, rv b6, .unset, .unset, .unset, .unset, .unset, .unset, .unset, .unset, .unset]) rfl k_) ?_
    show OwnFin p e below s _ _ _ (T9.setTop (mkF m 47 #[iv pb1, iv pb2, iv pc1, iv pc2, iv pc3, iv z1, iv z2, rv b3, rv b6, .unset, .unset, .unset, .unset, .unset, .unset, .unset, .unset, .unset] []))
    refine own_go (fun t_ k_ => XS.iloadN X9.here hx rfl (hb hby at_47) rfl k_) ?_
    show OwnFin p e below s _ _ _ (T9.setTop (mkF m 48 #[iv pb1, iv pb2, iv pc1, iv pc2, iv pc3, iv z1, iv z2, rv b3, rv b6, .unset, .unset, .unset, .unset, .unset, .unset, .unset, .unset, .unset] [(.int pc1)]))
    obtain ⟨v10, T10, L10, X10, hQ10, st10⟩ := own_callS X9 hx hZ (y := (⟨"com/example/argweave/argweave/LineCounterPassPinLaw", "pick", "(I)C"⟩ : MethodName)) hown (hw _ (List.mem_of_getElem? (i := 0) rfl)) (hw _ (List.mem_of_getElem? (i := 1) rfl)) (hw _ (List.mem_of_getElem? (i := 2) rfl)) (hw _ (List.mem_of_getElem? (i := 3) rfl)) (by decide) (W := 0) (rm1 l Z a0 hw [] pc1 T9.heap n0 Z9) (by decide) (by decide) (g := (mkF m 48 #[iv pb1, iv pb2, iv pc1, iv pc2, iv pc3, iv z1, iv z2, rv b3, rv b6, .unset, .unset, .unset, .unset, .unset, .unset, .unset, .unset, .unset] [(.int pc1)])) rfl (by rw [hml]; rfl) (argsL := [(.int pc1)]) (rest := []) (lenOf pd_0_0 rfl) rfl (by show 2 * 0 + _ ≤ _; exact Nat.le_of_eq rfl) (hb hby at_48) rfl rfl (by decide) (by decide)
    obtain ⟨⟨z10, rfl, hz10⟩, Nq10, e10⟩ := hQ10
    have N10 := Fr.app N9 Nq10
    refine own_go st10 ?_
    show OwnFin p e below s _ _ _ (T10.setTop (mkF m 51 #[iv pb1, iv pb2, iv pc1, iv pc2, iv pc3, iv z1, iv z2, rv b3, rv b6, .unset, .unset, .unset, .unset, .unset, .unset, .unset, .unset, .unset] [(.int z10)]))
    refine own_go (fun t_ k_ => XS.istore X10.here hx rfl (hb hby at_51) rfl (l' := #[iv pb1, iv pb2, iv pc1, iv pc2, iv pc3, iv z1, iv z2, rv b3, rv b6, iv z10, .unset, .unset, .unset, .unset, .unset, .unset, .unset, .unset]) rfl k_) ?_
    show OwnFin p e below s _ _ _ (T10.setTop (mkF m 53 #[iv pb1, iv pb2, iv pc1, iv pc2, iv pc3, iv z1, iv z2, rv b3, rv b6, iv z10, .unset, .unset, .unset, .unset, .unset, .unset, .unset, .unset] []))
    refine own_go (fun t_ k_ => XS.iloadN X10.here hx rfl (hb hby at_53) rfl k_) ?_
    show OwnFin p e below s _ _ _ (T10.setTop (mkF m 54 #[iv pb1, iv pb2, iv pc1, iv pc2, iv pc3, iv z1, iv z2, rv b3, rv b6, iv z10, .unset, .unset, .unset, .unset, .unset, .unset, .unset, .unset] [(.int pc2)]))
    obtain ⟨v11, T11, L11, X11, hQ11, st11⟩ := own_callS X10 hx hZ (y := (⟨"com/example/argweave/argweave/LineCounterPassPinLaw", "pick", "(I)C"⟩ : MethodName)) hown (hw _ (List.mem_of_getElem? (i := 0) rfl)) (hw _ (List.mem_of_getElem? (i := 1) rfl)) (hw _ (List.mem_of_getElem? (i := 2) rfl)) (hw _ (List.mem_of_getElem? (i := 3) rfl)) (by decide) (W := 0) (rm1 l Z a0 hw [] pc2 T9.heap n0 Z9) (by decide) (by decide) (g := (mkF m 54 #[iv pb1, iv pb2, iv pc1, iv pc2, iv pc3, iv z1, iv z2, rv b3, rv b6, iv z10, .unset, .unset, .unset, .unset, .unset, .unset, .unset, .unset] [(.int pc2)])) rfl (by rw [hml]; rfl) (argsL := [(.int pc2)]) (rest := []) (lenOf pd_0_0 rfl) rfl (by show 2 * 0 + _ ≤ _; exact Nat.le_of_eq rfl) (hb hby at_54) e10 rfl (by decide) (by decide)
    obtain ⟨⟨z11, rfl, hz11⟩, Nq11, e11⟩ := hQ11
    have N11 := Fr.app N10 Nq11
    refine own_go st11 ?_
    show OwnFin p e below s _ _ _ (T11.setTop (mkF m 57 #[iv pb1, iv pb2, iv pc1, iv pc2, iv pc3, iv z1, iv z2, rv b3, rv b6, iv z10, .unset, .unset, .unset, .unset, .unset, .unset, .unset, .unset] [(.int z11)]))
    refine own_go (fun t_ k_ => XS.istore X11.here hx rfl (hb hby at_57) rfl (l' := #[iv pb1, iv pb2, iv pc1, iv pc2, iv pc3, iv z1, iv z2, rv b3, rv b6, iv z10, iv z11, .unset, .unset, .unset, .unset, .unset, .unset, .unset]) rfl k_) ?_
    show OwnFin p e below s _ _ _ (T11.setTop (mkF m 59 #[iv pb1, iv pb2, iv pc1, iv pc2, iv pc3, iv z1, iv z2, rv b3, rv b6, iv z10, iv z11, .unset, .unset, .unset, .unset, .unset, .unset, .unset] []))
    refine own_go (fun t_ k_ => XS.iload X11.here hx rfl (hb hby at_59) rfl k_) ?_
    show OwnFin p e below s _ _ _ (T11.setTop (mkF m 61 #[iv pb1, iv pb2, iv pc1, iv pc2, iv pc3, iv z1, iv z2, rv b3, rv b6, iv z10, iv z11, .unset, .unset, .unset, .unset, .unset, .unset, .unset] [(.int pc3)]))
    obtain ⟨v12, T12, L12, X12, hQ12, st12⟩ := own_callS X11 hx hZ (y := (⟨"com/example/argweave/argweave/LineCounterPassPinLaw", "pick", "(I)C"⟩ : MethodName)) hown (hw _ (List.mem_of_getElem? (i := 0) rfl)) (hw _ (List.mem_of_getElem? (i := 1) rfl)) (hw _ (List.mem_of_getElem? (i := 2) rfl)) (hw _ (List.mem_of_getElem? (i := 3) rfl)) (by decide) (W := 0) (rm1 l Z a0 hw [] pc3 T9.heap n0 Z9) (by decide) (by decide) (g := (mkF m 61 #[iv pb1, iv pb2, iv pc1, iv pc2, iv pc3, iv z1, iv z2, rv b3, rv b6, iv z10, iv z11, .unset, .unset, .unset, .unset, .unset, .unset, .unset] [(.int pc3)])) rfl (by rw [hml]; rfl) (argsL := [(.int pc3)]) (rest := []) (lenOf pd_0_0 rfl) rfl (by show 2 * 0 + _ ≤ _; exact Nat.le_of_eq rfl) (hb hby at_61) e11 rfl (by decide) (by decide)
    obtain ⟨⟨z12, rfl, hz12⟩, Nq12, e12⟩ := hQ12
    have N12 := Fr.app N11 Nq12
    refine own_go st12 ?_
    show OwnFin p e below s _ _ _ (T12.setTop (mkF m 64 #[iv pb1, iv pb2, iv pc1, iv pc2, iv pc3, iv z1, iv z2, rv b3, rv b6, iv z10, iv z11, .unset, .unset, .unset, .unset, .unset, .unset, .unset] [(.int z12)]))
    refine own_go (fun t_ k_ => XS.istore X12.here hx rfl (hb hby at_64) rfl (l' := #[iv pb1, iv pb2, iv pc1, iv pc2, iv pc3, iv z1, iv z2, rv b3, rv b6, iv z10, iv z11, iv z12, .unset, .unset, .unset, .unset, .unset, .unset]) rfl k_) ?_
    show OwnFin p e below s _ _ _ (T12.setTop (mkF m 66 #[iv pb1, iv pb2, iv pc1, iv pc2, iv pc3, iv z1, iv z2, rv b3, rv b6, iv z10, iv z11, iv z12, .unset, .unset, .unset, .unset, .unset, .unset] []))
    refine own_go (fun t_ k_ => XS.iconst X12.here hx rfl (hb hby at_66) k_) ?_
    show OwnFin p e below s _ _ _ (T12.setTop (mkF m 67 #[iv pb1, iv pb2, iv pc1, iv pc2, iv pc3, iv z1, iv z2, rv b3, rv b6, iv z10, iv z11, iv z12, .unset, .unset, .unset, .unset, .unset, .unset] [(.int (1 : Int32))]))
    refine own_go (fun t_ k_ => XS.iload X12.here hx rfl (hb hby at_67) rfl k_) ?_
    show OwnFin p e below s _ _ _ (T12.setTop (mkF m 69 #[iv pb1, iv pb2, iv pc1, iv pc2, iv pc3, iv z1, iv z2, rv b3, rv b6, iv z10, iv z11, iv z12, .unset, .unset, .unset, .unset, .unset, .unset] [(.int z10), (.int (1 : Int32))]))
    refine own_go (fun t_ k_ => XS.iconst X12.here hx rfl (hb hby at_69) k_) ?_
    show OwnFin p e below s _ _ _ (T12.setTop (mkF m 70 #[iv pb1, iv pb2, iv pc1, iv pc2, iv pc3, iv z1, iv z2, rv b3, rv b6, iv z10, iv z11, iv z12, .unset, .unset, .unset, .unset, .unset, .unset] [(.int (0 : Int32)), (.int z10), (.int (1 : Int32))]))
    refine own_go (fun t_ k_ => XS.iload X12.here hx rfl (hb hby at_70) rfl k_) ?_
    show OwnFin p e below s _ _ _ (T12.setTop (mkF m 72 #[iv pb1, iv pb2, iv pc1, iv pc2, iv pc3, iv z1, iv z2, rv b3, rv b6, iv z10, iv z11, iv z12, .unset, .unset, .unset, .unset, .unset, .unset] [(.int z1), (.int (0 : Int32)), (.int z10), (.int (1 : Int32))]))
    refine own_go (fun t_ k_ => XS.iload X12.here hx rfl (hb hby at_72) rfl k_) ?_
    show OwnFin p e below s _ _ _ (T12.setTop (mkF m 74 #[iv pb1, iv pb2, iv pc1, iv pc2, iv pc3, iv z1, iv z2, rv b3, rv b6, iv z10, iv z11, iv z12, .unset, .unset, .unset, .unset, .unset, .unset] [(.int z2), (.int z1), (.int (0 : Int32)), (.int z10), (.int (1 : Int32))]))
    obtain ⟨v13, T13, L13, X13, hQ13, st13⟩ := own_callS X12 hx hZ (y := (⟨"com/example/argweave/argweave/LineCounterPassPinLaw", "step", "(CZCC)I"⟩ : MethodName)) hown (hw _ (List.mem_of_getElem? (i := 47) rfl)) (hw _ (List.mem_of_getElem? (i := 48) rfl)) (hw _ (List.mem_of_getElem? (i := 2) rfl)) (hw _ (List.mem_of_getElem? (i := 49) rfl)) (by decide) (W := 1) (rm9 l Z a0 hw [] z10 (0 : Int32) z1 z2 T9.heap n0 Z9) (by decide) (by decide) (g := (mkF m 74 #[iv pb1, iv pb2, iv pc1, iv pc2, iv pc3, iv z1, iv z2, rv b3, rv b6, iv z10, iv z11, iv z12, .unset, .unset, .unset, .unset, .unset, .unset] [(.int z2), (.int z1), (.int (0 : Int32)), (.int z10), (.int (1 : Int32))])) rfl (by rw [hml]; rfl) (argsL := [(.int z10), (.int (0 : Int32)), (.int z1), (.int z2)]) (rest := [(.int (1 : Int32))]) (lenOf pd_0_8 rfl) rfl (by show 2 * 0 + _ ≤ _; exact Nat.le_of_eq rfl) (hb hby at_74) e12 rfl (by decide) (by decide)
    obtain ⟨rfl, Nq13, e13⟩ := hQ13
    have N13 := Fr.app N12 Nq13
    refine own_go st13 ?_
    show OwnFin p e below s _ _ _ (T13.setTop (mkF m 77 #[iv pb1, iv pb2, iv pc1, iv pc2, iv pc3, iv z1, iv z2, rv b3, rv b6, iv z10, iv z11, iv z12, .unset, .unset, .unset, .unset, .unset, .unset] [(.int (own_step z10 (0 : Int32) z1 z2)), (.int (1 : Int32))]))
    refine own_go (fun t_ k_ => XS.iadd X13.here hx rfl (hb hby at_77) rfl k_) ?_
    show OwnFin p e below s _ _ _ (T13.setTop (mkF m 78 #[iv pb1, iv pb2, iv pc1, iv pc2, iv pc3, iv z1, iv z2, rv b3, rv b6, iv z10, iv z11, iv z12, .unset, .unset, .unset, .unset, .unset, .unset] [(.int ((1 : Int32) + (own_step z10 (0 : Int32) z1 z2)))]))
    refine own_go (fun t_ k_ => XS.istore X13.here hx rfl (hb hby at_78) rfl (l' := #[iv pb1, iv pb2, iv pc1, iv pc2, iv pc3, iv z1, iv z2, rv b3, rv b6, iv z10, iv z11, iv z12, iv ((1 : Int32) + (own_step z10 (0 : Int32) z1 z2)), .unset, .unset, .unset, .unset, .unset]) rfl k_) ?_
    show OwnFin p e below s _ _ _ (T13.setTop (mkF m 80 #[iv pb1, iv pb2, iv pc1, iv pc2, iv pc3, iv z1, iv z2, rv b3, rv b6, iv z10, iv z11, iv z12, iv ((1 : Int32) + (own_step z10 (0 : Int32) z1 z2)), .unset, .unset, .unset, .unset, .unset] []))
    refine own_go (fun t_ k_ => XS.iload X13.here hx rfl (hb hby at_80) rfl k_) ?_
    show OwnFin p e below s _ _ _ (T13.setTop (mkF m 82 #[iv pb1, iv pb2, iv pc1, iv pc2, iv pc3, iv z1, iv z2, rv b3, rv b6, iv z10, iv z11, iv z12, iv ((1 : Int32) + (own_step z10 (0 : Int32) z1 z2)), .unset, .unset, .unset, .unset, .unset] [(.int ((1 : Int32) + (own_step z10 (0 : Int32) z1 z2)))]))
    refine own_go (fun t_ k_ => XS.iload X13.here hx rfl (hb hby at_82) rfl k_) ?_
    show OwnFin p e below s _ _ _ (T13.setTop (mkF m 84 #[iv pb1, iv pb2, iv pc1, iv pc2, iv pc3, iv z1, iv z2, rv b3, rv b6, iv z10, iv z11, iv z12, iv ((1 : Int32) + (own_step z10 (0 : Int32) z1 z2)), .unset, .unset, .unset, .unset, .unset] [(.int z11), (.int ((1 : Int32) + (own_step z10 (0 : Int32) z1 z2)))]))
    refine own_go (fun t_ k_ => XS.iload X13.here hx rfl (hb hby at_84) rfl k_) ?_
    show OwnFin p e below s _ _ _ (T13.setTop (mkF m 86 #[iv pb1, iv pb2, iv pc1, iv pc2, iv pc3, iv z1, iv z2, rv b3, rv b6, iv z10, iv z11, iv z12, iv ((1 : Int32) + (own_step z10 (0 : Int32) z1 z2)), .unset, .unset, .unset, .unset, .unset] [(.int z10), (.int z11), (.int ((1 : Int32) + (own_step z10 (0 : Int32) z1 z2)))]))
    refine own_go (fun t_ k_ => XS.bipush X13.here hx rfl (hb hby at_86) k_) ?_
    show OwnFin p e below s _ _ _ (T13.setTop (mkF m 88 #[iv pb1, iv pb2, iv pc1, iv pc2, iv pc3, iv z1, iv z2, rv b3, rv b6, iv z10, iv z11, iv z12, iv ((1 : Int32) + (own_step z10 (0 : Int32) z1 z2)), .unset, .unset, .unset, .unset, .unset] [(.int (13 : Int32)), (.int z10), (.int z11), (.int ((1 : Int32) + (own_step z10 (0 : Int32) z1 z2)))]))
    refine own_go (B := T13.setTop (mkF m 96 #[iv pb1, iv pb2, iv pc1, iv pc2, iv pc3, iv z1, iv z2, rv b3, rv b6, iv z10, iv z11, iv z12, iv ((1 : Int32) + (own_step z10 (0 : Int32) z1 z2)), .unset, .unset, .unset, .unset, .unset] [(.int (if z10 = (13 : Int32) then (1 : Int32) else (0 : Int32))), (.int z11), (.int ((1 : Int32) + (own_step z10 (0 : Int32) z1 z2)))])) (fun t_ k_ => ?_) ?_
    · by_cases hm88 : z10 = (13 : Int32)
      · rw [if_pos hm88] at k_; exact XS.icmpNo X13.here hx rfl (hb hby at_88) rfl (teq hm88).2 (XS.iconst X13.here hx rfl (hb hby at_91) (XS.goto X13.here hx rfl (pc0 := 92) (pc' := 96) rfl (hb hby at_92) (by decide) (by decide) k_))
      · rw [if_neg hm88] at k_; exact XS.icmpYes X13.here hx rfl (pc0 := 88) (pc' := 95) rfl (hb hby at_88) rfl (feq hm88).2 (by decide) (by decide) (XS.iconst X13.here hx rfl (hb hby at_95) k_)
    show OwnFin p e below s _ _ _ (T13.setTop (mkF m 96 #[iv pb1, iv pb2, iv pc1, iv pc2, iv pc3, iv z1, iv z2, rv b3, rv b6, iv z10, iv z11, iv z12, iv ((1 : Int32) + (own_step z10 (0 : Int32) z1 z2)), .unset, .unset, .unset, .unset, .unset] [(.int (if z10 = (13 : Int32) then (1 : Int32) else (0 : Int32))), (.int z11), (.int ((1 : Int32) + (own_step z10 (0 : Int32) z1 z2)))]))
    refine own_go (fun t_ k_ => XS.iload X13.here hx rfl (hb hby at_96) rfl k_) ?_
    show OwnFin p e below s _ _ _ (T13.setTop (mkF m 98 #[iv pb1, iv pb2, iv pc1, iv pc2, iv pc3, iv z1, iv z2, rv b3, rv b6, iv z10, iv z11, iv z12, iv ((1 : Int32) + (own_step z10 (0 : Int32) z1 z2)), .unset, .unset, .unset, .unset, .unset] [(.int z1), (.int (if z10 = (13 : Int32) then (1 : Int32) else (0 : Int32))), (.int z11), (.int ((1 : Int32) + (own_step z10 (0 : Int32) z1 z2)))]))
    refine own_go (fun t_ k_ => XS.iload X13.here hx rfl (hb hby at_98) rfl k_) ?_
    show OwnFin p e below s _ _ _ (T13.setTop (mkF m 100 #[iv pb1, iv pb2, iv pc1, iv pc2, iv pc3, iv z1, iv z2, rv b3, rv b6, iv z10, iv z11, iv z12, iv ((1 : Int32) + (own_step z10 (0 : Int32) z1 z2)), .unset, .unset, .unset, .unset, .unset] [(.int z2), (.int z1), (.int (if z10 = (13 : Int32) then (1 : Int32) else (0 : Int32))), (.int z11), (.int ((1 : Int32) + (own_step z10 (0 : Int32) z1 z2)))]))
    obtain ⟨v14, T14, L14, X14, hQ14, st14⟩ := own_callS X13 hx hZ (y := (⟨"com/example/argweave/argweave/LineCounterPassPinLaw", "step", "(CZCC)I"⟩ : MethodName)) hown (hw _ (List.mem_of_getElem? (i := 47) rfl)) (hw _ (List.mem_of_getElem? (i := 48) rfl)) (hw _ (List.mem_of_getElem? (i := 2) rfl)) (hw _ (List.mem_of_getElem? (i := 49) rfl)) (by decide) (W := 1) (rm9 l Z a0 hw [] z11 (if z10 = (13 : Int32) then (1 : Int32) else (0 : Int32)) z1 z2 T9.heap n0 Z9) (by decide) (by decide) (g := (mkF m 100 #[iv pb1, iv pb2, iv pc1, iv pc2, iv pc3, iv z1, iv z2, rv b3, rv b6, iv z10, iv z11, iv z12, iv ((1 : Int32) + (own_step z10 (0 : Int32) z1 z2)), .unset, .unset, .unset, .unset, .unset] [(.int z2), (.int z1), (.int (if z10 = (13 : Int32) then (1 : Int32) else (0 : Int32))), (.int z11), (.int ((1 : Int32) + (own_step z10 (0 : Int32) z1 z2)))])) rfl (by rw [hml]; rfl) (argsL := [(.int z11), (.int (if z10 = (13 : Int32) then (1 : Int32) else (0 : Int32))), (.int z1), (.int z2)]) (rest := [(.int ((1 : Int32) + (own_step z10 (0 : Int32) z1 z2)))]) (lenOf pd_0_8 rfl) rfl (by show 2 * 0 + _ ≤ _; exact Nat.le_of_eq rfl) (hb hby at_100) e13 rfl (by decide) (by decide)
    obtain ⟨rfl, Nq14, e14⟩ := hQ14
    have N14 := Fr.app N13 Nq14
    refine own_go st14 ?_
    show OwnFin p e below s _ _ _ (T14.setTop (mkF m 103 #[iv pb1, iv pb2, iv pc1, iv pc2, iv pc3, iv z1, iv z2, rv b3, rv b6, iv z10, iv z11, iv z12, iv ((1 : Int32) + (own_step z10 (0 : Int32) z1 z2)), .unset, .unset, .unset, .unset, .unset] [(.int (own_step z11 (if z10 = (13 : Int32) then (1 : Int32) else (0 : Int32)) z1 z2)), (.int ((1 : Int32) + (own_step z10 (0 : Int32) z1 z2)))]))
    refine own_go (fun t_ k_ => XS.iadd X14.here hx rfl (hb hby at_103) rfl k_) ?_
    show OwnFin p e below s _ _ _ (T14.setTop (mkF m 104 #[iv pb1, iv pb2, iv pc1, iv pc2, iv pc3, iv z1, iv z2, rv b3, rv b6, iv z10, iv z11, iv z12, iv ((1 : Int32) + (own_step z10 (0 : Int32) z1 z2)), .unset, .unset, .unset, .unset, .unset] [(.int (((1 : Int32) + (own_step z10 (0 : Int32) z1 z2)) + (own_step z11 (if z10 = (13 : Int32) then (1 : Int32) else (0 : Int32)) z1 z2)))]))
    refine own_go (fun t_ k_ => XS.istore X14.here hx rfl (hb hby at_104) rfl (l' := #[iv pb1, iv pb2, iv pc1, iv pc2, iv pc3, iv z1, iv z2, rv b3, rv b6, iv z10, iv z11, iv z12, iv ((1 : Int32) + (own_step z10 (0 : Int32) z1 z2)), iv (((1 : Int32) + (own_step z10 (0 : Int32) z1 z2)) + (own_step z11 (if z10 = (13 : Int32) then (1 : Int32) else (0 : Int32)) z1 z2)), .unset, .unset, .unset, .unset]) rfl k_) ?_
    show OwnFin p e below s _ _ _ (T14.setTop (mkF m 106 #[iv pb1, iv pb2, iv pc1, iv pc2, iv pc3, iv z1, iv z2, rv b3, rv b6, iv z10, iv z11, iv z12, iv ((1 : Int32) + (own_step z10 (0 : Int32) z1 z2)), iv (((1 : Int32) + (own_step z10 (0 : Int32) z1 z2)) + (own_step z11 (if z10 = (13 : Int32) then (1 : Int32) else (0 : Int32)) z1 z2)), .unset, .unset, .unset, .unset] []))
    refine own_go (fun t_ k_ => XS.iload X14.here hx rfl (hb hby at_106) rfl k_) ?_
    show OwnFin p e below s _ _ _ (T14.setTop (mkF m 108 #[iv pb1, iv pb2, iv pc1, iv pc2, iv pc3, iv z1, iv z2, rv b3, rv b6, iv z10, iv z11, iv z12, iv ((1 : Int32) + (own_step z10 (0 : Int32) z1 z2)), iv (((1 : Int32) + (own_step z10 (0 : Int32) z1 z2)) + (own_step z11 (if z10 = (13 : Int32) then (1 : Int32) else (0 : Int32)) z1 z2)), .unset, .unset, .unset, .unset] [(.int (((1 : Int32) + (own_step z10 (0 : Int32) z1 z2)) + (own_step z11 (if z10 = (13 : Int32) then (1 : Int32) else (0 : Int32)) z1 z2)))]))
    refine own_go (fun t_ k_ => XS.iload X14.here hx rfl (hb hby at_108) rfl k_) ?_
    show OwnFin p e below s _ _ _ (T14.setTop (mkF m 110 #[iv pb1, iv pb2, iv pc1, iv pc2, iv pc3, iv z1, iv z2, rv b3, rv b6, iv z10, iv z11, iv z12, iv ((1 : Int32) + (own_step z10 (0 : Int32) z1 z2)), iv (((1 : Int32) + (own_step z10 (0 : Int32) z1 z2)) + (own_step z11 (if z10 = (13 : Int32) then (1 : Int32) else (0 : Int32)) z1 z2)), .unset, .unset, .unset, .unset] [(.int z12), (.int (((1 : Int32) + (own_step z10 (0 : Int32) z1 z2)) + (own_step z11 (if z10 = (13 : Int32) then (1 : Int32) else (0 : Int32)) z1 z2)))]))
    refine own_go (fun t_ k_ => XS.iload X14.here hx rfl (hb hby at_110) rfl k_) ?_
    show OwnFin p e below s _ _ _ (T14.setTop (mkF m 112 #[iv pb1, iv pb2, iv pc1, iv pc2, iv pc3, iv z1, iv z2, rv b3, rv b6, iv z10, iv z11, iv z12, iv ((1 : Int32) + (own_step z10 (0 : Int32) z1 z2)), iv (((1 : Int32) + (own_step z10 (0 : Int32) z1 z2)) + (own_step z11 (if z10 = (13 : Int32) then (1 : Int32) else (0 : Int32)) z1 z2)), .unset, .unset, .unset, .unset] [(.int z11), (.int z12), (.int (((1 : Int32) + (own_step z10 (0 : Int32) z1 z2)) + (own_step z11 (if z10 = (13 : Int32) then (1 : Int32) else (0 : Int32)) z1 z2)))]))
    refine own_go (fun t_ k_ => XS.bipush X14.here hx rfl (hb hby at_112) k_) ?_
    show OwnFin p e below s _ _ _ (T14.setTop (mkF m 114 #[iv pb1, iv pb2, iv pc1, iv pc2, iv pc3, iv z1, iv z2, rv b3, rv b6, iv z10, iv z11, iv z12, iv ((1 : Int32) + (own_step z10 (0 : Int32) z1 z2)), iv (((1 : Int32) + (own_step z10 (0 : Int32) z1 z2)) + (own_step z11 (if z10 = (13 : Int32) then (1 : Int32) else (0 : Int32)) z1 z2)), .unset, .unset, .unset, .unset] [(.int (13 : Int32)), (.int z11), (.int z12), (.int (((1 : Int32) + (own_step z10 (0 : Int32) z1 z2)) + (own_step z11 (if z10 = (13 : Int32) then (1 : Int32) else (0 : Int32)) z1 z2)))]))
    refine own_go (B := T14.setTop (mkF m 122 #[iv pb1, iv pb2, iv pc1, iv pc2, iv pc3, iv z1, iv z2, rv b3, rv b6, iv z10, iv z11, iv z12, iv ((1 : Int32) + (own_step z10 (0 : Int32) z1 z2)), iv (((1 : Int32) + (own_step z10 (0 : Int32) z1 z2)) + (own_step z11 (if z10 = (13 : Int32) then (1 : Int32) else (0 : Int32)) z1 z2)), .unset, .unset, .unset, .unset] [(.int (if z11 = (13 : Int32) then (1 : Int32) else (0 : Int32))), (.int z12), (.int (((1 : Int32) + (own_step z10 (0 : Int32) z1 z2)) + (own_step z11 (if z10 = (13 : Int32) then (1 : Int32) else (0 : Int32)) z1 z2)))])) (fun t_ k_ => ?_) ?_
    · by_cases hm114 : z11 = (13 : Int32)
      · rw [if_pos hm114] at k_; exact XS.icmpNo X14.here hx rfl (hb hby at_114) rfl (teq hm114).2 (XS.iconst X14.here hx rfl (hb hby at_117) (XS.goto X14.here hx rfl (pc0 := 118) (pc' := 122) rfl (hb hby at_118) (by decide) (by decide) k_))
      · rw [if_neg hm114] at k_; exact XS.icmpYes X14.here hx rfl (pc0 := 114) (pc' := 121) rfl (hb hby at_114) rfl (feq hm114).2 (by decide) (by decide) (XS.iconst X14.here hx rfl (hb hby at_121) k_)
    show OwnFin p e below s _ _ _ (T14.setTop (mkF m 122 #[iv pb1, iv pb2, iv pc1, iv pc2, iv pc3, iv z1, iv z2, rv b3, rv b6, iv z10, iv z11, iv z12, iv ((1 : Int32) + (own_step z10 (0 : Int32) z1 z2)), iv (((1 : Int32) + (own_step z10 (0 : Int32) z1 z2)) + (own_step z11 (if z10 = (13 : Int32) then (1 : Int32) else (0 : Int32)) z1 z2)), .unset, .unset, .unset, .unset] [(.int (if z11 = (13 : Int32) then (1 : Int32) else (0 : Int32))), (.int z12), (.int (((1 : Int32) + (own_step z10 (0 : Int32) z1 z2)) + (own_step z11 (if z10 = (13 : Int32) then (1 : Int32) else (0 : Int32)) z1 z2)))]))
    refine own_go (fun t_ k_ => XS.iload X14.here hx rfl (hb hby at_122) rfl k_) ?_
    show OwnFin p e below s _ _ _ (T14.setTop (mkF m 124 #[iv pb1, iv pb2, iv pc1, iv pc2, iv pc3, iv z1, iv z2, rv b3, rv b6, iv z10, iv z11, iv z12, iv ((1 : Int32) + (own_step z10 (0 : Int32) z1 z2)), iv (((1 : Int32) + (own_step z10 (0 : Int32) z1 z2)) + (own_step z11 (if z10 = (13 : Int32) then (1 : Int32) else (0 : Int32)) z1 z2)), .unset, .unset, .unset, .unset] [(.int z1), (.int (if z11 = (13 : Int32) then (1 : Int32) else (0 : Int32))), (.int z12), (.int (((1 : Int32) + (own_step z10 (0 : Int32) z1 z2)) + (own_step z11 (if z10 = (13 : Int32) then (1 : Int32) else (0 : Int32)) z1 z2)))]))
    refine own_go (fun t_ k_ => XS.iload X14.here hx rfl (hb hby at_124) rfl k_) ?_
    show OwnFin p e below s _ _ _ (T14.setTop (mkF m 126 #[iv pb1, iv pb2, iv pc1, iv pc2, iv pc3, iv z1, iv z2, rv b3, rv b6, iv z10, iv z11, iv z12, iv ((1 : Int32) + (own_step z10 (0 : Int32) z1 z2)), iv (((1 : Int32) + (own_step z10 (0 : Int32) z1 z2)) + (own_step z11 (if z10 = (13 : Int32) then (1 : Int32) else (0 : Int32)) z1 z2)), .unset, .unset, .unset, .unset] [(.int z2), (.int z1), (.int (if z11 = (13 : Int32) then (1 : Int32) else (0 : Int32))), (.int z12), (.int (((1 : Int32) + (own_step z10 (0 : Int32) z1 z2)) + (own_step z11 (if z10 = (13 : Int32) then (1 : Int32) else (0 : Int32)) z1 z2)))]))
    obtain ⟨v15, T15, L15, X15, hQ15, st15⟩ := own_callS X14 hx hZ (y := (⟨"com/example/argweave/argweave/LineCounterPassPinLaw", "step", "(CZCC)I"⟩ : MethodName)) hown (hw _ (List.mem_of_getElem? (i := 47) rfl)) (hw _ (List.mem_of_getElem? (i := 48) rfl)) (hw _ (List.mem_of_getElem? (i := 2) rfl)) (hw _ (List.mem_of_getElem? (i := 49) rfl)) (by decide) (W := 1) (rm9 l Z a0 hw [] z12 (if z11 = (13 : Int32) then (1 : Int32) else (0 : Int32)) z1 z2 T9.heap n0 Z9) (by decide) (by decide) (g := (mkF m 126 #[iv pb1, iv pb2, iv pc1, iv pc2, iv pc3, iv z1, iv z2, rv b3, rv b6, iv z10, iv z11, iv z12, iv ((1 : Int32) + (own_step z10 (0 : Int32) z1 z2)), iv (((1 : Int32) + (own_step z10 (0 : Int32) z1 z2)) + (own_step z11 (if z10 = (13 : Int32) then (1 : Int32) else (0 : Int32)) z1 z2)), .unset, .unset, .unset, .unset] [(.int z2), (.int z1), (.int (if z11 = (13 : Int32) then (1 : Int32) else (0 : Int32))), (.int z12), (.int (((1 : Int32) + (own_step z10 (0 : Int32) z1 z2)) + (own_step z11 (if z10 = (13 : Int32) then (1 : Int32) else (0 : Int32)) z1 z2)))])) rfl (by rw [hml]; rfl) (argsL := [(.int z12), (.int (if z11 = (13 : Int32) then (1 : Int32) else (0 : Int32))), (.int z1), (.int z2)]) (rest := [(.int (((1 : Int32) + (own_step z10 (0 : Int32) z1 z2)) + (own_step z11 (if z10 = (13 : Int32) then (1 : Int32) else (0 : Int32)) z1 z2)))]) (lenOf pd_0_8 rfl) rfl (by show 2 * 0 + _ ≤ _; exact Nat.le_of_eq rfl) (hb hby at_126) e14 rfl (by decide) (by decide)
    obtain ⟨rfl, Nq15, e15⟩ := hQ15
    have N15 := Fr.app N14 Nq15
    refine own_go st15 ?_
    show OwnFin p e below s _ _ _ (T15.setTop (mkF m 129 #[iv pb1, iv pb2, iv pc1, iv pc2, iv pc3, iv z1, iv z2, rv b3, rv b6, iv z10, iv z11, iv z12, iv ((1 : Int32) + (own_step z10 (0 : Int32) z1 z2)), iv (((1 : Int32) + (own_step z10 (0 : Int32) z1 z2)) + (own_step z11 (if z10 = (13 : Int32) then (1 : Int32) else (0 : Int32)) z1 z2)), .unset, .unset, .unset, .unset] [(.int (own_step z12 (if z11 = (13 : Int32) then (1 : Int32) else (0 : Int32)) z1 z2)), (.int (((1 : Int32) + (own_step z10 (0 : Int32) z1 z2)) + (own_step z11 (if z10 = (13 : Int32) then (1 : Int32) else (0 : Int32)) z1 z2)))]))
    refine own_go (fun t_ k_ => XS.iadd X15.here hx rfl (hb hby at_129) rfl k_) ?_
    show OwnFin p e below s _ _ _ (T15.setTop (mkF m 130 #[iv pb1, iv pb2, iv pc1, iv pc2, iv pc3, iv z1, iv z2, rv b3, rv b6, iv z10, iv z11, iv z12, iv ((1 : Int32) + (own_step z10 (0 : Int32) z1 z2)), iv (((1 : Int32) + (own_step z10 (0 : Int32) z1 z2)) + (own_step z11 (if z10 = (13 : Int32) then (1 : Int32) else (0 : Int32)) z1 z2)), .unset, .unset, .unset, .unset] [(.int ((((1 : Int32) + (own_step z10 (0 : Int32) z1 z2)) + (own_step z11 (if z10 = (13 : Int32) then (1 : Int32) else (0 : Int32)) z1 z2)) + (own_step z12 (if z11 = (13 : Int32) then (1 : Int32) else (0 : Int32)) z1 z2)))]))
    refine own_go (fun t_ k_ => XS.istore X15.here hx rfl (hb hby at_130) rfl (l' := #[iv pb1, iv pb2, iv pc1, iv pc2, iv pc3, iv z1, iv z2, rv b3, rv b6, iv z10, iv z11, iv z12, iv ((1 : Int32) + (own_step z10 (0 : Int32) z1 z2)), iv (((1 : Int32) + (own_step z10 (0 : Int32) z1 z2)) + (own_step z11 (if z10 = (13 : Int32) then (1 : Int32) else (0 : Int32)) z1 z2)), iv ((((1 : Int32) + (own_step z10 (0 : Int32) z1 z2)) + (own_step z11 (if z10 = (13 : Int32) then (1 : Int32) else (0 : Int32)) z1 z2)) + (own_step z12 (if z11 = (13 : Int32) then (1 : Int32) else (0 : Int32)) z1 z2)), .unset, .unset, .unset]) rfl k_) ?_
    show OwnFin p e below s _ _ _ (T15.setTop (mkF m 132 #[iv pb1, iv pb2, iv pc1, iv pc2, iv pc3, iv z1, iv z2, rv b3, rv b6, iv z10, iv z11, iv z12, iv ((1 : Int32) + (own_step z10 (0 : Int32) z1 z2)), iv (((1 : Int32) + (own_step z10 (0 : Int32) z1 z2)) + (own_step z11 (if z10 = (13 : Int32) then (1 : Int32) else (0 : Int32)) z1 z2)), iv ((((1 : Int32) + (own_step z10 (0 : Int32) z1 z2)) + (own_step z11 (if z10 = (13 : Int32) then (1 : Int32) else (0 : Int32)) z1 z2)) + (own_step z12 (if z11 = (13 : Int32) then (1 : Int32) else (0 : Int32)) z1 z2)), .unset, .unset, .unset] []))
    refine own_go (fun t_ k_ => XS.aload X15.here hx rfl (hb hby at_132) rfl rfl k_) ?_
    show OwnFin p e below s _ _ _ (T15.setTop (mkF m 134 #[iv pb1, iv pb2, iv pc1, iv pc2, iv pc3, iv z1, iv z2, rv b3, rv b6, iv z10, iv z11, iv z12, iv ((1 : Int32) + (own_step z10 (0 : Int32) z1 z2)), iv (((1 : Int32) + (own_step z10 (0 : Int32) z1 z2)) + (own_step z11 (if z10 = (13 : Int32) then (1 : Int32) else (0 : Int32)) z1 z2)), iv ((((1 : Int32) + (own_step z10 (0 : Int32) z1 z2)) + (own_step z11 (if z10 = (13 : Int32) then (1 : Int32) else (0 : Int32)) z1 z2)) + (own_step z12 (if z11 = (13 : Int32) then (1 : Int32) else (0 : Int32)) z1 z2)), .unset, .unset, .unset] [(.ref b6)]))
    refine own_go (fun t_ k_ => XS.iload X15.here hx rfl (hb hby at_134) rfl k_) ?_
    show OwnFin p e below s _ _ _ (T15.setTop (mkF m 136 #[iv pb1, iv pb2, iv pc1, iv pc2, iv pc3, iv z1, iv z2, rv b3, rv b6, iv z10, iv z11, iv z12, iv ((1 : Int32) + (own_step z10 (0 : Int32) z1 z2)), iv (((1 : Int32) + (own_step z10 (0 : Int32) z1 z2)) + (own_step z11 (if z10 = (13 : Int32) then (1 : Int32) else (0 : Int32)) z1 z2)), iv ((((1 : Int32) + (own_step z10 (0 : Int32) z1 z2)) + (own_step z11 (if z10 = (13 : Int32) then (1 : Int32) else (0 : Int32)) z1 z2)) + (own_step z12 (if z11 = (13 : Int32) then (1 : Int32) else (0 : Int32)) z1 z2)), .unset, .unset, .unset] [(.int z10), (.ref b6)]))
    obtain ⟨v16, T16, L16, X16, hQ16, st16⟩ := own_callV X15 hx hZ (y := (⟨"com/example/argweave/argweave/LineCounter", "pass", "(C)V"⟩ : MethodName)) (z := (⟨"com/example/argweave/argweave/LineCounter", "pass", "(C)V"⟩ : MethodName)) hown (hw _ (List.mem_of_getElem? (i := 50) rfl)) (hw _ (List.mem_of_getElem? (i := 51) rfl)) (notFace_of_selects (args := #[]) (mvT hZ (hw _ (List.mem_of_getElem? (i := 53) rfl)))) (hw _ (List.mem_of_getElem? (i := 53) rfl)) (hw _ (List.mem_of_getElem? (i := 52) rfl)) (hw _ (List.mem_of_getElem? (i := 7) rfl)) (hw _ (List.mem_of_getElem? (i := 54) rfl)) (by decide) (W := 0) (rm10_L l Z a0 hw [] b6 z10 b7 bs8 z1 z2 (1 : Int32) (0 : Int32) zc T9.heap n0 Z9 Eq9 Fq9_0 Fq9_1 Fq9_2 Fq9_3 g_b6 E_b7_9 Fv8_9 Fc8_9 Vq8_9 hz10 hpx hpy hl1 hl2 ne_b6_b7 ne_b6_bs8 hzc S_cs OL_9) (by decide) (by decide) Eq9 (g := (mkF m 136 #[iv pb1, iv pb2, iv pc1, iv pc2, iv pc3, iv z1, iv z2, rv b3, rv b6, iv z10, iv z11, iv z12, iv ((1 : Int32) + (own_step z10 (0 : Int32) z1 z2)), iv (((1 : Int32) + (own_step z10 (0 : Int32) z1 z2)) + (own_step z11 (if z10 = (13 : Int32) then (1 : Int32) else (0 : Int32)) z1 z2)), iv ((((1 : Int32) + (own_step z10 (0 : Int32) z1 z2)) + (own_step z11 (if z10 = (13 : Int32) then (1 : Int32) else (0 : Int32)) z1 z2)) + (own_step z12 (if z11 = (13 : Int32) then (1 : Int32) else (0 : Int32)) z1 z2)), .unset, .unset, .unset] [(.int z10), (.ref b6)])) rfl (by rw [hml]; rfl) (argsL := [(.int z10)]) (rest := []) (lenOf pd_0_9 rfl) rfl (by show 2 * 0 + _ ≤ _; exact Nat.le_of_eq rfl) (hb hby at_136) e15 rfl (by decide) (by decide)
    obtain ⟨rfl, Nq16, Kq16, Fl16, Fc16, Fb16, Fa16⟩ := hQ16
    have N16 := Fr.app N15 Nq16
    have OL_16 := OL_9.keep Kq16 (allS g_b6 all0)
    have V_b3_16 := V_b3_9.keep Kq16 (ninS ne_b3_b6 nin0)
    have E_b6_16 := Eq9.keep Kq16
    have E_b7_16 := E_b7_9.keep Kq16
    have Fc8_16 := Fc8_9.keep Kq16 (ninS (Ne.symm ne_b6_b7) nin0)
    have Fv8_16 := Fv8_9.keep Kq16 (ninS (Ne.symm ne_b6_b7) nin0)
    have Vq8_16 := Vq8_9.keep Kq16 (ninS (Ne.symm ne_b6_bs8) nin0)
    have Z16 : n0 ≤ T16.heap.size := Nat.le_trans Z9 Kq16.1
    refine own_go st16 ?_
    show OwnFin p e below s _ _ _ (T16.setTop (mkF m 139 #[iv pb1, iv pb2, iv pc1, iv pc2, iv pc3, iv z1, iv z2, rv b3, rv b6, iv z10, iv z11, iv z12, iv ((1 : Int32) + (own_step z10 (0 : Int32) z1 z2)), iv (((1 : Int32) + (own_step z10 (0 : Int32) z1 z2)) + (own_step z11 (if z10 = (13 : Int32) then (1 : Int32) else (0 : Int32)) z1 z2)), iv ((((1 : Int32) + (own_step z10 (0 : Int32) z1 z2)) + (own_step z11 (if z10 = (13 : Int32) then (1 : Int32) else (0 : Int32)) z1 z2)) + (own_step z12 (if z11 = (13 : Int32) then (1 : Int32) else (0 : Int32)) z1 z2)), .unset, .unset, .unset] []))
    refine own_go (fun t_ k_ => XS.aload X16.here hx rfl (hb hby at_139) rfl rfl k_) ?_
    show OwnFin p e below s _ _ _ (T16.setTop (mkF m 141 #[iv pb1, iv pb2, iv pc1, iv pc2, iv pc3, iv z1, iv z2, rv b3, rv b6, iv z10, iv z11, iv z12, iv ((1 : Int32) + (own_step z10 (0 : Int32) z1 z2)), iv (((1 : Int32) + (own_step z10 (0 : Int32) z1 z2)) + (own_step z11 (if z10 = (13 : Int32) then (1 : Int32) else (0 : Int32)) z1 z2)), iv ((((1 : Int32) + (own_step z10 (0 : Int32) z1 z2)) + (own_step z11 (if z10 = (13 : Int32) then (1 : Int32) else (0 : Int32)) z1 z2)) + (own_step z12 (if z11 = (13 : Int32) then (1 : Int32) else (0 : Int32)) z1 z2)), .unset, .unset, .unset] [(.ref b6)]))
    obtain ⟨v17, T17, L17, X17, hQ17, st17⟩ := own_callV X16 hx hZ (y := (⟨"com/example/argweave/argweave/LineCounter", "line", "()I"⟩ : MethodName)) (z := (⟨"com/example/argweave/argweave/LineCounter", "line", "()I"⟩ : MethodName)) hown (hw _ (List.mem_of_getElem? (i := 99) rfl)) (hw _ (List.mem_of_getElem? (i := 100) rfl)) (notFace_of_selects (args := #[]) (mvT hZ (hw _ (List.mem_of_getElem? (i := 102) rfl)))) (hw _ (List.mem_of_getElem? (i := 102) rfl)) (hw _ (List.mem_of_getElem? (i := 101) rfl)) (hw _ (List.mem_of_getElem? (i := 7) rfl)) (hw _ (List.mem_of_getElem? (i := 103) rfl)) (by decide) (W := 0) (rm21 l Z a0 hw [] b6 T16.heap n0 Z16 Fl16) (by decide) (by decide) E_b6_16 (g := (mkF m 141 #[iv pb1, iv pb2, iv pc1, iv pc2, iv pc3, iv z1, iv z2, rv b3, rv b6, iv z10, iv z11, iv z12, iv ((1 : Int32) + (own_step z10 (0 : Int32) z1 z2)), iv (((1 : Int32) + (own_step z10 (0 : Int32) z1 z2)) + (own_step z11 (if z10 = (13 : Int32) then (1 : Int32) else (0 : Int32)) z1 z2)), iv ((((1 : Int32) + (own_step z10 (0 : Int32) z1 z2)) + (own_step z11 (if z10 = (13 : Int32) then (1 : Int32) else (0 : Int32)) z1 z2)) + (own_step z12 (if z11 = (13 : Int32) then (1 : Int32) else (0 : Int32)) z1 z2)), .unset, .unset, .unset] [(.ref b6)])) rfl (by rw [hml]; rfl) (argsL := []) (rest := []) (lenOf pd_0_13 rfl) rfl (by show 2 * 0 + _ ≤ _; exact Nat.le_of_eq rfl) (hb hby at_141) rfl rfl (by decide) (by decide)
    obtain ⟨rfl, Nq17, e17⟩ := hQ17
    have N17 := Fr.app N16 Nq17
    refine own_go st17 ?_
    show OwnFin p e below s _ _ _ (T17.setTop (mkF m 144 #[iv pb1, iv pb2, iv pc1, iv pc2, iv pc3, iv z1, iv z2, rv b3, rv b6, iv z10, iv z11, iv z12, iv ((1 : Int32) + (own_step z10 (0 : Int32) z1 z2)), iv (((1 : Int32) + (own_step z10 (0 : Int32) z1 z2)) + (own_step z11 (if z10 = (13 : Int32) then (1 : Int32) else (0 : Int32)) z1 z2)), iv ((((1 : Int32) + (own_step z10 (0 : Int32) z1 z2)) + (own_step z11 (if z10 = (13 : Int32) then (1 : Int32) else (0 : Int32)) z1 z2)) + (own_step z12 (if z11 = (13 : Int32) then (1 : Int32) else (0 : Int32)) z1 z2)), .unset, .unset, .unset] [(.int ((1 : Int32) + (own_step z10 (0 : Int32) z1 z2)))]))
    refine own_go (fun t_ k_ => XS.istore X17.here hx rfl (hb hby at_144) rfl (l' := #[iv pb1, iv pb2, iv pc1, iv pc2, iv pc3, iv z1, iv z2, rv b3, rv b6, iv z10, iv z11, iv z12, iv ((1 : Int32) + (own_step z10 (0 : Int32) z1 z2)), iv (((1 : Int32) + (own_step z10 (0 : Int32) z1 z2)) + (own_step z11 (if z10 = (13 : Int32) then (1 : Int32) else (0 : Int32)) z1 z2)), iv ((((1 : Int32) + (own_step z10 (0 : Int32) z1 z2)) + (own_step z11 (if z10 = (13 : Int32) then (1 : Int32) else (0 : Int32)) z1 z2)) + (own_step z12 (if z11 = (13 : Int32) then (1 : Int32) else (0 : Int32)) z1 z2)), iv ((1 : Int32) + (own_step z10 (0 : Int32) z1 z2)), .unset, .unset]) rfl k_) ?_
    show OwnFin p e below s _ _ _ (T17.setTop (mkF m 146 #[iv pb1, iv pb2, iv pc1, iv pc2, iv pc3, iv z1, iv z2, rv b3, rv b6, iv z10, iv z11, iv z12, iv ((1 : Int32) + (own_step z10 (0 : Int32) z1 z2)), iv (((1 : Int32) + (own_step z10 (0 : Int32) z1 z2)) + (own_step z11 (if z10 = (13 : Int32) then (1 : Int32) else (0 : Int32)) z1 z2)), iv ((((1 : Int32) + (own_step z10 (0 : Int32) z1 z2)) + (own_step z11 (if z10 = (13 : Int32) then (1 : Int32) else (0 : Int32)) z1 z2)) + (own_step z12 (if z11 = (13 : Int32) then (1 : Int32) else (0 : Int32)) z1 z2)), iv ((1 : Int32) + (own_step z10 (0 : Int32) z1 z2)), .unset, .unset] []))
    refine own_go (fun t_ k_ => XS.aload X17.here hx rfl (hb hby at_146) rfl rfl k_) ?_
    show OwnFin p e below s _ _ _ (T17.setTop (mkF m 148 #[iv pb1, iv pb2, iv pc1, iv pc2, iv pc3, iv z1, iv z2, rv b3, rv b6, iv z10, iv z11, iv z12, iv ((1 : Int32) + (own_step z10 (0 : Int32) z1 z2)), iv (((1 : Int32) + (own_step z10 (0 : Int32) z1 z2)) + (own_step z11 (if z10 = (13 : Int32) then (1 : Int32) else (0 : Int32)) z1 z2)), iv ((((1 : Int32) + (own_step z10 (0 : Int32) z1 z2)) + (own_step z11 (if z10 = (13 : Int32) then (1 : Int32) else (0 : Int32)) z1 z2)) + (own_step z12 (if z11 = (13 : Int32) then (1 : Int32) else (0 : Int32)) z1 z2)), iv ((1 : Int32) + (own_step z10 (0 : Int32) z1 z2)), .unset, .unset] [(.ref b6)]))
    refine own_go (fun t_ k_ => XS.iload X17.here hx rfl (hb hby at_148) rfl k_) ?_
    show OwnFin p e below s _ _ _ (T17.setTop (mkF m 150 #[iv pb1, iv pb2, iv pc1, iv pc2, iv pc3, iv z1, iv z2, rv b3, rv b6, iv z10, iv z11, iv z12, iv ((1 : Int32) + (own_step z10 (0 : Int32) z1 z2)), iv (((1 : Int32) + (own_step z10 (0 : Int32) z1 z2)) + (own_step z11 (if z10 = (13 : Int32) then (1 : Int32) else (0 : Int32)) z1 z2)), iv ((((1 : Int32) + (own_step z10 (0 : Int32) z1 z2)) + (own_step z11 (if z10 = (13 : Int32) then (1 : Int32) else (0 : Int32)) z1 z2)) + (own_step z12 (if z11 = (13 : Int32) then (1 : Int32) else (0 : Int32)) z1 z2)), iv ((1 : Int32) + (own_step z10 (0 : Int32) z1 z2)), .unset, .unset] [(.int z11), (.ref b6)]))
    obtain ⟨v18, T18, L18, X18, hQ18, st18⟩ := own_callV X17 hx hZ (y := (⟨"com/example/argweave/argweave/LineCounter", "pass", "(C)V"⟩ : MethodName)) (z := (⟨"com/example/argweave/argweave/LineCounter", "pass", "(C)V"⟩ : MethodName)) hown (hw _ (List.mem_of_getElem? (i := 50) rfl)) (hw _ (List.mem_of_getElem? (i := 51) rfl)) (notFace_of_selects (args := #[]) (mvT hZ (hw _ (List.mem_of_getElem? (i := 53) rfl)))) (hw _ (List.mem_of_getElem? (i := 53) rfl)) (hw _ (List.mem_of_getElem? (i := 52) rfl)) (hw _ (List.mem_of_getElem? (i := 7) rfl)) (hw _ (List.mem_of_getElem? (i := 54) rfl)) (by decide) (W := 0) (rm10_L l Z a0 hw [] b6 z11 b7 bs8 z1 z2 ((1 : Int32) + (own_step z10 (0 : Int32) z1 z2)) (if z10 = (13 : Int32) then (1 : Int32) else (0 : Int32)) zc T16.heap n0 Z16 E_b6_16 Fl16 Fc16 Fb16 Fa16 g_b6 E_b7_16 Fv8_16 Fc8_16 Vq8_16 hz11 hpx hpy hl1 hl2 ne_b6_b7 ne_b6_bs8 hzc S_cs OL_16) (by decide) (by decide) E_b6_16 (g := (mkF m 150 #[iv pb1, iv pb2, iv pc1, iv pc2, iv pc3, iv z1, iv z2, rv b3, rv b6, iv z10, iv z11, iv z12, iv ((1 : Int32) + (own_step z10 (0 : Int32) z1 z2)), iv (((1 : Int32) + (own_step z10 (0 : Int32) z1 z2)) + (own_step z11 (if z10 = (13 : Int32) then (1 : Int32) else (0 : Int32)) z1 z2)), iv ((((1 : Int32) + (own_step z10 (0 : Int32) z1 z2)) + (own_step z11 (if z10 = (13 : Int32) then (1 : Int32) else (0 : Int32)) z1 z2)) + (own_step z12 (if z11 = (13 : Int32) then (1 : Int32) else (0 : Int32)) z1 z2)), iv ((1 : Int32) + (own_step z10 (0 : Int32) z1 z2)), .unset, .unset] [(.int z11), (.ref b6)])) rfl (by rw [hml]; rfl) (argsL := [(.int z11)]) (rest := []) (lenOf pd_0_9 rfl) rfl (by show 2 * 0 + _ ≤ _; exact Nat.le_of_eq rfl) (hb hby at_150) e17 rfl (by decide) (by decide)
    obtain ⟨rfl, Nq18, Kq18, Fl18, Fc18, Fb18, Fa18⟩ := hQ18
    have N18 := Fr.app N17 Nq18
    have OL_18 := OL_16.keep Kq18 (allS g_b6 all0)
    have V_b3_18 := V_b3_16.keep Kq18 (ninS ne_b3_b6 nin0)
    have E_b6_18 := E_b6_16.keep Kq18
    have E_b7_18 := E_b7_16.keep Kq18
    have Fc8_18 := Fc8_16.keep Kq18 (ninS (Ne.symm ne_b6_b7) nin0)
    have Fv8_18 := Fv8_16.keep Kq18 (ninS (Ne.symm ne_b6_b7) nin0)
    have Vq8_18 := Vq8_16.keep Kq18 (ninS (Ne.symm ne_b6_bs8) nin0)
    have Z18 : n0 ≤ T18.heap.size := Nat.le_trans Z16 Kq18.1
    refine own_go st18 ?_
    show OwnFin p e below s _ _ _ (T18.setTop (mkF m 153 #[iv pb1, iv pb2, iv pc1, iv pc2, iv pc3, iv z1, iv z2, rv b3, rv b6, iv z10, iv z11, iv z12, iv ((1 : Int32) + (own_step z10 (0 : Int32) z1 z2)), iv (((1 : Int32) + (own_step z10 (0 : Int32) z1 z2)) + (own_step z11 (if z10 = (13 : Int32) then (1 : Int32) else (0 : Int32)) z1 z2)), iv ((((1 : Int32) + (own_step z10 (0 : Int32) z1 z2)) + (own_step z11 (if z10 = (13 : Int32) then (1 : Int32) else (0 : Int32)) z1 z2)) + (own_step z12 (if z11 = (13 : Int32) then (1 : Int32) else (0 : Int32)) z1 z2)), iv ((1 : Int32) + (own_step z10 (0 : Int32) z1 z2)), .unset, .unset] []))
    refine own_go (fun t_ k_ => XS.aload X18.here hx rfl (hb hby at_153) rfl rfl k_) ?_
    show OwnFin p e below s _ _ _ (T18.setTop (mkF m 155 #[iv pb1, iv pb2, iv pc1, iv pc2, iv pc3, iv z1, iv z2, rv b3, rv b6, iv z10, iv z11, iv z12, iv ((1 : Int32) + (own_step z10 (0 : Int32) z1 z2)), iv (((1 : Int32) + (own_step z10 (0 : Int32) z1 z2)) + (own_step z11 (if z10 = (13 : Int32) then (1 : Int32) else (0 : Int32)) z1 z2)), iv ((((1 : Int32) + (own_step z10 (0 : Int32) z1 z2)) + (own_step z11 (if z10 = (13 : Int32) then (1 : Int32) else (0 : Int32)) z1 z2)) + (own_step z12 (if z11 = (13 : Int32) then (1 : Int32) else (0 : Int32)) z1 z2)), iv ((1 : Int32) + (own_step z10 (0 : Int32) z1 z2)), .unset, .unset] [(.ref b6)]))
    obtain ⟨v19, T19, L19, X19, hQ19, st19⟩ := own_callV X18 hx hZ (y := (⟨"com/example/argweave/argweave/LineCounter", "line", "()I"⟩ : MethodName)) (z := (⟨"com/example/argweave/argweave/LineCounter", "line", "()I"⟩ : MethodName)) hown (hw _ (List.mem_of_getElem? (i := 99) rfl)) (hw _ (List.mem_of_getElem? (i := 100) rfl)) (notFace_of_selects (args := #[]) (mvT hZ (hw _ (List.mem_of_getElem? (i := 102) rfl)))) (hw _ (List.mem_of_getElem? (i := 102) rfl)) (hw _ (List.mem_of_getElem? (i := 101) rfl)) (hw _ (List.mem_of_getElem? (i := 7) rfl)) (hw _ (List.mem_of_getElem? (i := 103) rfl)) (by decide) (W := 0) (rm21 l Z a0 hw [] b6 T18.heap n0 Z18 Fl18) (by decide) (by decide) E_b6_18 (g := (mkF m 155 #[iv pb1, iv pb2, iv pc1, iv pc2, iv pc3, iv z1, iv z2, rv b3, rv b6, iv z10, iv z11, iv z12, iv ((1 : Int32) + (own_step z10 (0 : Int32) z1 z2)), iv (((1 : Int32) + (own_step z10 (0 : Int32) z1 z2)) + (own_step z11 (if z10 = (13 : Int32) then (1 : Int32) else (0 : Int32)) z1 z2)), iv ((((1 : Int32) + (own_step z10 (0 : Int32) z1 z2)) + (own_step z11 (if z10 = (13 : Int32) then (1 : Int32) else (0 : Int32)) z1 z2)) + (own_step z12 (if z11 = (13 : Int32) then (1 : Int32) else (0 : Int32)) z1 z2)), iv ((1 : Int32) + (own_step z10 (0 : Int32) z1 z2)), .unset, .unset] [(.ref b6)])) rfl (by rw [hml]; rfl) (argsL := []) (rest := []) (lenOf pd_0_13 rfl) rfl (by show 2 * 0 + _ ≤ _; exact Nat.le_of_eq rfl) (hb hby at_155) rfl rfl (by decide) (by decide)
    obtain ⟨rfl, Nq19, e19⟩ := hQ19
    have N19 := Fr.app N18 Nq19
    refine own_go st19 ?_
    show OwnFin p e below s _ _ _ (T19.setTop (mkF m 158 #[iv pb1, iv pb2, iv pc1, iv pc2, iv pc3, iv z1, iv z2, rv b3, rv b6, iv z10, iv z11, iv z12, iv ((1 : Int32) + (own_step z10 (0 : Int32) z1 z2)), iv (((1 : Int32) + (own_step z10 (0 : Int32) z1 z2)) + (own_step z11 (if z10 = (13 : Int32) then (1 : Int32) else (0 : Int32)) z1 z2)), iv ((((1 : Int32) + (own_step z10 (0 : Int32) z1 z2)) + (own_step z11 (if z10 = (13 : Int32) then (1 : Int32) else (0 : Int32)) z1 z2)) + (own_step z12 (if z11 = (13 : Int32) then (1 : Int32) else (0 : Int32)) z1 z2)), iv ((1 : Int32) + (own_step z10 (0 : Int32) z1 z2)), .unset, .unset] [(.int (((1 : Int32) + (own_step z10 (0 : Int32) z1 z2)) + (own_step z11 (if z10 = (13 : Int32) then (1 : Int32) else (0 : Int32)) z1 z2)))]))
    refine own_go (fun t_ k_ => XS.istore X19.here hx rfl (hb hby at_158) rfl (l' := #[iv pb1, iv pb2, iv pc1, iv pc2, iv pc3, iv z1, iv z2, rv b3, rv b6, iv z10, iv z11, iv z12, iv ((1 : Int32) + (own_step z10 (0 : Int32) z1 z2)), iv (((1 : Int32) + (own_step z10 (0 : Int32) z1 z2)) + (own_step z11 (if z10 = (13 : Int32) then (1 : Int32) else (0 : Int32)) z1 z2)), iv ((((1 : Int32) + (own_step z10 (0 : Int32) z1 z2)) + (own_step z11 (if z10 = (13 : Int32) then (1 : Int32) else (0 : Int32)) z1 z2)) + (own_step z12 (if z11 = (13 : Int32) then (1 : Int32) else (0 : Int32)) z1 z2)), iv ((1 : Int32) + (own_step z10 (0 : Int32) z1 z2)), iv (((1 : Int32) + (own_step z10 (0 : Int32) z1 z2)) + (own_step z11 (if z10 = (13 : Int32) then (1 : Int32) else (0 : Int32)) z1 z2)), .unset]) rfl k_) ?_
    show OwnFin p e below s _ _ _ (T19.setTop (mkF m 160 #[iv pb1, iv pb2, iv pc1, iv pc2, iv pc3, iv z1, iv z2, rv b3, rv b6, iv z10, iv z11, iv z12, iv ((1 : Int32) + (own_step z10 (0 : Int32) z1 z2)), iv (((1 : Int32) + (own_step z10 (0 : Int32) z1 z2)) + (own_step z11 (if z10 = (13 : Int32) then (1 : Int32) else (0 : Int32)) z1 z2)), iv ((((1 : Int32) + (own_step z10 (0 : Int32) z1 z2)) + (own_step z11 (if z10 = (13 : Int32) then (1 : Int32) else (0 : Int32)) z1 z2)) + (own_step z12 (if z11 = (13 : Int32) then (1 : Int32) else (0 : Int32)) z1 z2)), iv ((1 : Int32) + (own_step z10 (0 : Int32) z1 z2)), iv (((1 : Int32) + (own_step z10 (0 : Int32) z1 z2)) + (own_step z11 (if z10 = (13 : Int32) then (1 : Int32) else (0 : Int32)) z1 z2)), .unset] []))
    refine own_go (fun t_ k_ => XS.aload X19.here hx rfl (hb hby at_160) rfl rfl k_) ?_
    show OwnFin p e below s _ _ _ (T19.setTop (mkF m 162 #[iv pb1, iv pb2, iv pc1, iv pc2, iv pc3, iv z1, iv z2, rv b3, rv b6, iv z10, iv z11, iv z12, iv ((1 : Int32) + (own_step z10 (0 : Int32) z1 z2)), iv (((1 : Int32) + (own_step z10 (0 : Int32) z1 z2)) + (own_step z11 (if z10 = (13 : Int32) then (1 : Int32) else (0 : Int32)) z1 z2)), iv ((((1 : Int32) + (own_step z10 (0 : Int32) z1 z2)) + (own_step z11 (if z10 = (13 : Int32) then (1 : Int32) else (0 : Int32)) z1 z2)) + (own_step z12 (if z11 = (13 : Int32) then (1 : Int32) else (0 : Int32)) z1 z2)), iv ((1 : Int32) + (own_step z10 (0 : Int32) z1 z2)), iv (((1 : Int32) + (own_step z10 (0 : Int32) z1 z2)) + (own_step z11 (if z10 = (13 : Int32) then (1 : Int32) else (0 : Int32)) z1 z2)), .unset] [(.ref b6)]))
    refine own_go (fun t_ k_ => XS.iload X19.here hx rfl (hb hby at_162) rfl k_) ?_
    show OwnFin p e below s _ _ _ (T19.setTop (mkF m 164 #[iv pb1, iv pb2, iv pc1, iv pc2, iv pc3, iv z1, iv z2, rv b3, rv b6, iv z10, iv z11, iv z12, iv ((1 : Int32) + (own_step z10 (0 : Int32) z1 z2)), iv (((1 : Int32) + (own_step z10 (0 : Int32) z1 z2)) + (own_step z11 (if z10 = (13 : Int32) then (1 : Int32) else (0 : Int32)) z1 z2)), iv ((((1 : Int32) + (own_step z10 (0 : Int32) z1 z2)) + (own_step z11 (if z10 = (13 : Int32) then (1 : Int32) else (0 : Int32)) z1 z2)) + (own_step z12 (if z11 = (13 : Int32) then (1 : Int32) else (0 : Int32)) z1 z2)), iv ((1 : Int32) + (own_step z10 (0 : Int32) z1 z2)), iv (((1 : Int32) + (own_step z10 (0 : Int32) z1 z2)) + (own_step z11 (if z10 = (13 : Int32) then (1 : Int32) else (0 : Int32)) z1 z2)), .unset] [(.int z12), (.ref b6)]))
    obtain ⟨v20, T20, L20, X20, hQ20, st20⟩ := own_callV X19 hx hZ (y := (⟨"com/example/argweave/argweave/LineCounter", "pass", "(C)V"⟩ : MethodName)) (z := (⟨"com/example/argweave/argweave/LineCounter", "pass", "(C)V"⟩ : MethodName)) hown (hw _ (List.mem_of_getElem? (i := 50) rfl)) (hw _ (List.mem_of_getElem? (i := 51) rfl)) (notFace_of_selects (args := #[]) (mvT hZ (hw _ (List.mem_of_getElem? (i := 53) rfl)))) (hw _ (List.mem_of_getElem? (i := 53) rfl)) (hw _ (List.mem_of_getElem? (i := 52) rfl)) (hw _ (List.mem_of_getElem? (i := 7) rfl)) (hw _ (List.mem_of_getElem? (i := 54) rfl)) (by decide) (W := 0) (rm10_L l Z a0 hw [] b6 z12 b7 bs8 z1 z2 (((1 : Int32) + (own_step z10 (0 : Int32) z1 z2)) + (own_step z11 (if z10 = (13 : Int32) then (1 : Int32) else (0 : Int32)) z1 z2)) (if z11 = (13 : Int32) then (1 : Int32) else (0 : Int32)) zc T18.heap n0 Z18 E_b6_18 Fl18 Fc18 Fb18 Fa18 g_b6 E_b7_18 Fv8_18 Fc8_18 Vq8_18 hz12 hpx hpy hl1 hl2 ne_b6_b7 ne_b6_bs8 hzc S_cs OL_18) (by decide) (by decide) E_b6_18 (g := (mkF m 164 #[iv pb1, iv pb2, iv pc1, iv pc2, iv pc3, iv z1, iv z2, rv b3, rv b6, iv z10, iv z11, iv z12, iv ((1 : Int32) + (own_step z10 (0 : Int32) z1 z2)), iv (((1 : Int32) + (own_step z10 (0 : Int32) z1 z2)) + (own_step z11 (if z10 = (13 : Int32) then (1 : Int32) else (0 : Int32)) z1 z2)), iv ((((1 : Int32) + (own_step z10 (0 : Int32) z1 z2)) + (own_step z11 (if z10 = (13 : Int32) then (1 : Int32) else (0 : Int32)) z1 z2)) + (own_step z12 (if z11 = (13 : Int32) then (1 : Int32) else (0 : Int32)) z1 z2)), iv ((1 : Int32) + (own_step z10 (0 : Int32) z1 z2)), iv (((1 : Int32) + (own_step z10 (0 : Int32) z1 z2)) + (own_step z11 (if z10 = (13 : Int32) then (1 : Int32) else (0 : Int32)) z1 z2)), .unset] [(.int z12), (.ref b6)])) rfl (by rw [hml]; rfl) (argsL := [(.int z12)]) (rest := []) (lenOf pd_0_9 rfl) rfl (by show 2 * 0 + _ ≤ _; exact Nat.le_of_eq rfl) (hb hby at_164) e19 rfl (by decide) (by decide)
    obtain ⟨rfl, Nq20, Kq20, Fl20, Fc20, Fb20, Fa20⟩ := hQ20
    have N20 := Fr.app N19 Nq20
    have OL_20 := OL_18.keep Kq20 (allS g_b6 all0)
    have V_b3_20 := V_b3_18.keep Kq20 (ninS ne_b3_b6 nin0)
    have E_b6_20 := E_b6_18.keep Kq20
    have E_b7_20 := E_b7_18.keep Kq20
    have Fc8_20 := Fc8_18.keep Kq20 (ninS (Ne.symm ne_b6_b7) nin0)
    have Fv8_20 := Fv8_18.keep Kq20 (ninS (Ne.symm ne_b6_b7) nin0)
    have Vq8_20 := Vq8_18.keep Kq20 (ninS (Ne.symm ne_b6_bs8) nin0)
    have Z20 : n0 ≤ T20.heap.size := Nat.le_trans Z18 Kq20.1
    refine own_go st20 ?_
    show OwnFin p e below s _ _ _ (T20.setTop (mkF m 167 #[iv pb1, iv pb2, iv pc1, iv pc2, iv pc3, iv z1, iv z2, rv b3, rv b6, iv z10, iv z11, iv z12, iv ((1 : Int32) + (own_step z10 (0 : Int32) z1 z2)), iv (((1 : Int32) + (own_step z10 (0 : Int32) z1 z2)) + (own_step z11 (if z10 = (13 : Int32) then (1 : Int32) else (0 : Int32)) z1 z2)), iv ((((1 : Int32) + (own_step z10 (0 : Int32) z1 z2)) + (own_step z11 (if z10 = (13 : Int32) then (1 : Int32) else (0 : Int32)) z1 z2)) + (own_step z12 (if z11 = (13 : Int32) then (1 : Int32) else (0 : Int32)) z1 z2)), iv ((1 : Int32) + (own_step z10 (0 : Int32) z1 z2)), iv (((1 : Int32) + (own_step z10 (0 : Int32) z1 z2)) + (own_step z11 (if z10 = (13 : Int32) then (1 : Int32) else (0 : Int32)) z1 z2)), .unset] []))
    refine own_go (fun t_ k_ => XS.aload X20.here hx rfl (hb hby at_167) rfl rfl k_) ?_
    show OwnFin p e below s _ _ _ (T20.setTop (mkF m 169 #[iv pb1, iv pb2, iv pc1, iv pc2, iv pc3, iv z1, iv z2, rv b3, rv b6, iv z10, iv z11, iv z12, iv ((1 : Int32) + (own_step z10 (0 : Int32) z1 z2)), iv (((1 : Int32) + (own_step z10 (0 : Int32) z1 z2)) + (own_step z11 (if z10 = (13 : Int32) then (1 : Int32) else (0 : Int32)) z1 z2)), iv ((((1 : Int32) + (own_step z10 (0 : Int32) z1 z2)) + (own_step z11 (if z10 = (13 : Int32) then (1 : Int32) else (0 : Int32)) z1 z2)) + (own_step z12 (if z11 = (13 : Int32) then (1 : Int32) else (0 : Int32)) z1 z2)), iv ((1 : Int32) + (own_step z10 (0 : Int32) z1 z2)), iv (((1 : Int32) + (own_step z10 (0 : Int32) z1 z2)) + (own_step z11 (if z10 = (13 : Int32) then (1 : Int32) else (0 : Int32)) z1 z2)), .unset] [(.ref b6)]))
    obtain ⟨v21, T21, L21, X21, hQ21, st21⟩ := own_callV X20 hx hZ (y := (⟨"com/example/argweave/argweave/LineCounter", "line", "()I"⟩ : MethodName)) (z := (⟨"com/example/argweave/argweave/LineCounter", "line", "()I"⟩ : MethodName)) hown (hw _ (List.mem_of_getElem? (i := 99) rfl)) (hw _ (List.mem_of_getElem? (i := 100) rfl)) (notFace_of_selects (args := #[]) (mvT hZ (hw _ (List.mem_of_getElem? (i := 102) rfl)))) (hw _ (List.mem_of_getElem? (i := 102) rfl)) (hw _ (List.mem_of_getElem? (i := 101) rfl)) (hw _ (List.mem_of_getElem? (i := 7) rfl)) (hw _ (List.mem_of_getElem? (i := 103) rfl)) (by decide) (W := 0) (rm21 l Z a0 hw [] b6 T20.heap n0 Z20 Fl20) (by decide) (by decide) E_b6_20 (g := (mkF m 169 #[iv pb1, iv pb2, iv pc1, iv pc2, iv pc3, iv z1, iv z2, rv b3, rv b6, iv z10, iv z11, iv z12, iv ((1 : Int32) + (own_step z10 (0 : Int32) z1 z2)), iv (((1 : Int32) + (own_step z10 (0 : Int32) z1 z2)) + (own_step z11 (if z10 = (13 : Int32) then (1 : Int32) else (0 : Int32)) z1 z2)), iv ((((1 : Int32) + (own_step z10 (0 : Int32) z1 z2)) + (own_step z11 (if z10 = (13 : Int32) then (1 : Int32) else (0 : Int32)) z1 z2)) + (own_step z12 (if z11 = (13 : Int32) then (1 : Int32) else (0 : Int32)) z1 z2)), iv ((1 : Int32) + (own_step z10 (0 : Int32) z1 z2)), iv (((1 : Int32) + (own_step z10 (0 : Int32) z1 z2)) + (own_step z11 (if z10 = (13 : Int32) then (1 : Int32) else (0 : Int32)) z1 z2)), .unset] [(.ref b6)])) rfl (by rw [hml]; rfl) (argsL := []) (rest := []) (lenOf pd_0_13 rfl) rfl (by show 2 * 0 + _ ≤ _; exact Nat.le_of_eq rfl) (hb hby at_169) rfl rfl (by decide) (by decide)
    obtain ⟨rfl, Nq21, e21⟩ := hQ21
    have N21 := Fr.app N20 Nq21
    refine own_go st21 ?_
    show OwnFin p e below s _ _ _ (T21.setTop (mkF m 172 #[iv pb1, iv pb2, iv pc1, iv pc2, iv pc3, iv z1, iv z2, rv b3, rv b6, iv z10, iv z11, iv z12, iv ((1 : Int32) + (own_step z10 (0 : Int32) z1 z2)), iv (((1 : Int32) + (own_step z10 (0 : Int32) z1 z2)) + (own_step z11 (if z10 = (13 : Int32) then (1 : Int32) else (0 : Int32)) z1 z2)), iv ((((1 : Int32) + (own_step z10 (0 : Int32) z1 z2)) + (own_step z11 (if z10 = (13 : Int32) then (1 : Int32) else (0 : Int32)) z1 z2)) + (own_step z12 (if z11 = (13 : Int32) then (1 : Int32) else (0 : Int32)) z1 z2)), iv ((1 : Int32) + (own_step z10 (0 : Int32) z1 z2)), iv (((1 : Int32) + (own_step z10 (0 : Int32) z1 z2)) + (own_step z11 (if z10 = (13 : Int32) then (1 : Int32) else (0 : Int32)) z1 z2)), .unset] [(.int ((((1 : Int32) + (own_step z10 (0 : Int32) z1 z2)) + (own_step z11 (if z10 = (13 : Int32) then (1 : Int32) else (0 : Int32)) z1 z2)) + (own_step z12 (if z11 = (13 : Int32) then (1 : Int32) else (0 : Int32)) z1 z2)))]))
    refine own_go (fun t_ k_ => XS.istore X21.here hx rfl (hb hby at_172) rfl (l' := #[iv pb1, iv pb2, iv pc1, iv pc2, iv pc3, iv z1, iv z2, rv b3, rv b6, iv z10, iv z11, iv z12, iv ((1 : Int32) + (own_step z10 (0 : Int32) z1 z2)), iv (((1 : Int32) + (own_step z10 (0 : Int32) z1 z2)) + (own_step z11 (if z10 = (13 : Int32) then (1 : Int32) else (0 : Int32)) z1 z2)), iv ((((1 : Int32) + (own_step z10 (0 : Int32) z1 z2)) + (own_step z11 (if z10 = (13 : Int32) then (1 : Int32) else (0 : Int32)) z1 z2)) + (own_step z12 (if z11 = (13 : Int32) then (1 : Int32) else (0 : Int32)) z1 z2)), iv ((1 : Int32) + (own_step z10 (0 : Int32) z1 z2)), iv (((1 : Int32) + (own_step z10 (0 : Int32) z1 z2)) + (own_step z11 (if z10 = (13 : Int32) then (1 : Int32) else (0 : Int32)) z1 z2)), iv ((((1 : Int32) + (own_step z10 (0 : Int32) z1 z2)) + (own_step z11 (if z10 = (13 : Int32) then (1 : Int32) else (0 : Int32)) z1 z2)) + (own_step z12 (if z11 = (13 : Int32) then (1 : Int32) else (0 : Int32)) z1 z2))]) rfl k_) ?_
    show OwnFin p e below s _ _ _ (T21.setTop (mkF m 174 #[iv pb1, iv pb2, iv pc1, iv pc2, iv pc3, iv z1, iv z2, rv b3, rv b6, iv z10, iv z11, iv z12, iv ((1 : Int32) + (own_step z10 (0 : Int32) z1 z2)), iv (((1 : Int32) + (own_step z10 (0 : Int32) z1 z2)) + (own_step z11 (if z10 = (13 : Int32) then (1 : Int32) else (0 : Int32)) z1 z2)), iv ((((1 : Int32) + (own_step z10 (0 : Int32) z1 z2)) + (own_step z11 (if z10 = (13 : Int32) then (1 : Int32) else (0 : Int32)) z1 z2)) + (own_step z12 (if z11 = (13 : Int32) then (1 : Int32) else (0 : Int32)) z1 z2)), iv ((1 : Int32) + (own_step z10 (0 : Int32) z1 z2)), iv (((1 : Int32) + (own_step z10 (0 : Int32) z1 z2)) + (own_step z11 (if z10 = (13 : Int32) then (1 : Int32) else (0 : Int32)) z1 z2)), iv ((((1 : Int32) + (own_step z10 (0 : Int32) z1 z2)) + (own_step z11 (if z10 = (13 : Int32) then (1 : Int32) else (0 : Int32)) z1 z2)) + (own_step z12 (if z11 = (13 : Int32) then (1 : Int32) else (0 : Int32)) z1 z2))] []))
    refine own_go (fun t_ k_ => XS.iload X21.here hx rfl (hb hby at_174) rfl k_) ?_
    show OwnFin p e below s _ _ _ (T21.setTop (mkF m 176 #[iv pb1, iv pb2, iv pc1, iv pc2, iv pc3, iv z1, iv z2, rv b3, rv b6, iv z10, iv z11, iv z12, iv ((1 : Int32) + (own_step z10 (0 : Int32) z1 z2)), iv (((1 : Int32) + (own_step z10 (0 : Int32) z1 z2)) + (own_step z11 (if z10 = (13 : Int32) then (1 : Int32) else (0 : Int32)) z1 z2)), iv ((((1 : Int32) + (own_step z10 (0 : Int32) z1 z2)) + (own_step z11 (if z10 = (13 : Int32) then (1 : Int32) else (0 : Int32)) z1 z2)) + (own_step z12 (if z11 = (13 : Int32) then (1 : Int32) else (0 : Int32)) z1 z2)), iv ((1 : Int32) + (own_step z10 (0 : Int32) z1 z2)), iv (((1 : Int32) + (own_step z10 (0 : Int32) z1 z2)) + (own_step z11 (if z10 = (13 : Int32) then (1 : Int32) else (0 : Int32)) z1 z2)), iv ((((1 : Int32) + (own_step z10 (0 : Int32) z1 z2)) + (own_step z11 (if z10 = (13 : Int32) then (1 : Int32) else (0 : Int32)) z1 z2)) + (own_step z12 (if z11 = (13 : Int32) then (1 : Int32) else (0 : Int32)) z1 z2))] [(.int ((1 : Int32) + (own_step z10 (0 : Int32) z1 z2)))]))
    refine own_go (fun t_ k_ => XS.iload X21.here hx rfl (hb hby at_176) rfl k_) ?_
    show OwnFin p e below s _ _ _ (T21.setTop (mkF m 178 #[iv pb1, iv pb2, iv pc1, iv pc2, iv pc3, iv z1, iv z2, rv b3, rv b6, iv z10, iv z11, iv z12, iv ((1 : Int32) + (own_step z10 (0 : Int32) z1 z2)), iv (((1 : Int32) + (own_step z10 (0 : Int32) z1 z2)) + (own_step z11 (if z10 = (13 : Int32) then (1 : Int32) else (0 : Int32)) z1 z2)), iv ((((1 : Int32) + (own_step z10 (0 : Int32) z1 z2)) + (own_step z11 (if z10 = (13 : Int32) then (1 : Int32) else (0 : Int32)) z1 z2)) + (own_step z12 (if z11 = (13 : Int32) then (1 : Int32) else (0 : Int32)) z1 z2)), iv ((1 : Int32) + (own_step z10 (0 : Int32) z1 z2)), iv (((1 : Int32) + (own_step z10 (0 : Int32) z1 z2)) + (own_step z11 (if z10 = (13 : Int32) then (1 : Int32) else (0 : Int32)) z1 z2)), iv ((((1 : Int32) + (own_step z10 (0 : Int32) z1 z2)) + (own_step z11 (if z10 = (13 : Int32) then (1 : Int32) else (0 : Int32)) z1 z2)) + (own_step z12 (if z11 = (13 : Int32) then (1 : Int32) else (0 : Int32)) z1 z2))] [(.int ((1 : Int32) + (own_step z10 (0 : Int32) z1 z2))), (.int ((1 : Int32) + (own_step z10 (0 : Int32) z1 z2)))]))
    refine own_go (fun t_ k_ => XS.icmpNo X21.here hx rfl (hb hby at_178) rfl (teq rfl).2 k_) ?_
    show OwnFin p e below s _ _ _ (T21.setTop (mkF m 181 #[iv pb1, iv pb2, iv pc1, iv pc2, iv pc3, iv z1, iv z2, rv b3, rv b6, iv z10, iv z11, iv z12, iv ((1 : Int32) + (own_step z10 (0 : Int32) z1 z2)), iv (((1 : Int32) + (own_step z10 (0 : Int32) z1 z2)) + (own_step z11 (if z10 = (13 : Int32) then (1 : Int32) else (0 : Int32)) z1 z2)), iv ((((1 : Int32) + (own_step z10 (0 : Int32) z1 z2)) + (own_step z11 (if z10 = (13 : Int32) then (1 : Int32) else (0 : Int32)) z1 z2)) + (own_step z12 (if z11 = (13 : Int32) then (1 : Int32) else (0 : Int32)) z1 z2)), iv ((1 : Int32) + (own_step z10 (0 : Int32) z1 z2)), iv (((1 : Int32) + (own_step z10 (0 : Int32) z1 z2)) + (own_step z11 (if z10 = (13 : Int32) then (1 : Int32) else (0 : Int32)) z1 z2)), iv ((((1 : Int32) + (own_step z10 (0 : Int32) z1 z2)) + (own_step z11 (if z10 = (13 : Int32) then (1 : Int32) else (0 : Int32)) z1 z2)) + (own_step z12 (if z11 = (13 : Int32) then (1 : Int32) else (0 : Int32)) z1 z2))] []))
    refine own_go (fun t_ k_ => XS.iload X21.here hx rfl (hb hby at_181) rfl k_) ?_
    show OwnFin p e below s _ _ _ (T21.setTop (mkF m 183 #[iv pb1, iv pb2, iv pc1, iv pc2, iv pc3, iv z1, iv z2, rv b3, rv b6, iv z10, iv z11, iv z12, iv ((1 : Int32) + (own_step z10 (0 : Int32) z1 z2)), iv (((1 : Int32) + (own_step z10 (0 : Int32) z1 z2)) + (own_step z11 (if z10 = (13 : Int32) then (1 : Int32) else (0 : Int32)) z1 z2)), iv ((((1 : Int32) + (own_step z10 (0 : Int32) z1 z2)) + (own_step z11 (if z10 = (13 : Int32) then (1 : Int32) else (0 : Int32)) z1 z2)) + (own_step z12 (if z11 = (13 : Int32) then (1 : Int32) else (0 : Int32)) z1 z2)), iv ((1 : Int32) + (own_step z10 (0 : Int32) z1 z2)), iv (((1 : Int32) + (own_step z10 (0 : Int32) z1 z2)) + (own_step z11 (if z10 = (13 : Int32) then (1 : Int32) else (0 : Int32)) z1 z2)), iv ((((1 : Int32) + (own_step z10 (0 : Int32) z1 z2)) + (own_step z11 (if z10 = (13 : Int32) then (1 : Int32) else (0 : Int32)) z1 z2)) + (own_step z12 (if z11 = (13 : Int32) then (1 : Int32) else (0 : Int32)) z1 z2))] [(.int (((1 : Int32) + (own_step z10 (0 : Int32) z1 z2)) + (own_step z11 (if z10 = (13 : Int32) then (1 : Int32) else (0 : Int32)) z1 z2)))]))
    refine own_go (fun t_ k_ => XS.iload X21.here hx rfl (hb hby at_183) rfl k_) ?_
    show OwnFin p e below s _ _ _ (T21.setTop (mkF m 185 #[iv pb1, iv pb2, iv pc1, iv pc2, iv pc3, iv z1, iv z2, rv b3, rv b6, iv z10, iv z11, iv z12, iv ((1 : Int32) + (own_step z10 (0 : Int32) z1 z2)), iv (((1 : Int32) + (own_step z10 (0 : Int32) z1 z2)) + (own_step z11 (if z10 = (13 : Int32) then (1 : Int32) else (0 : Int32)) z1 z2)), iv ((((1 : Int32) + (own_step z10 (0 : Int32) z1 z2)) + (own_step z11 (if z10 = (13 : Int32) then (1 : Int32) else (0 : Int32)) z1 z2)) + (own_step z12 (if z11 = (13 : Int32) then (1 : Int32) else (0 : Int32)) z1 z2)), iv ((1 : Int32) + (own_step z10 (0 : Int32) z1 z2)), iv (((1 : Int32) + (own_step z10 (0 : Int32) z1 z2)) + (own_step z11 (if z10 = (13 : Int32) then (1 : Int32) else (0 : Int32)) z1 z2)), iv ((((1 : Int32) + (own_step z10 (0 : Int32) z1 z2)) + (own_step z11 (if z10 = (13 : Int32) then (1 : Int32) else (0 : Int32)) z1 z2)) + (own_step z12 (if z11 = (13 : Int32) then (1 : Int32) else (0 : Int32)) z1 z2))] [(.int (((1 : Int32) + (own_step z10 (0 : Int32) z1 z2)) + (own_step z11 (if z10 = (13 : Int32) then (1 : Int32) else (0 : Int32)) z1 z2))), (.int (((1 : Int32) + (own_step z10 (0 : Int32) z1 z2)) + (own_step z11 (if z10 = (13 : Int32) then (1 : Int32) else (0 : Int32)) z1 z2)))]))
    refine own_go (fun t_ k_ => XS.icmpNo X21.here hx rfl (hb hby at_185) rfl (teq rfl).2 k_) ?_
    show OwnFin p e below s _ _ _ (T21.setTop (mkF m 188 #[iv pb1, iv pb2, iv pc1, iv pc2, iv pc3, iv z1, iv z2, rv b3, rv b6, iv z10, iv z11, iv z12, iv ((1 : Int32) + (own_step z10 (0 : Int32) z1 z2)), iv (((1 : Int32) + (own_step z10 (0 : Int32) z1 z2)) + (own_step z11 (if z10 = (13 : Int32) then (1 : Int32) else (0 : Int32)) z1 z2)), iv ((((1 : Int32) + (own_step z10 (0 : Int32) z1 z2)) + (own_step z11 (if z10 = (13 : Int32) then (1 : Int32) else (0 : Int32)) z1 z2)) + (own_step z12 (if z11 = (13 : Int32) then (1 : Int32) else (0 : Int32)) z1 z2)), iv ((1 : Int32) + (own_step z10 (0 : Int32) z1 z2)), iv (((1 : Int32) + (own_step z10 (0 : Int32) z1 z2)) + (own_step z11 (if z10 = (13 : Int32) then (1 : Int32) else (0 : Int32)) z1 z2)), iv ((((1 : Int32) + (own_step z10 (0 : Int32) z1 z2)) + (own_step z11 (if z10 = (13 : Int32) then (1 : Int32) else (0 : Int32)) z1 z2)) + (own_step z12 (if z11 = (13 : Int32) then (1 : Int32) else (0 : Int32)) z1 z2))] []))
    refine own_go (fun t_ k_ => XS.iload X21.here hx rfl (hb hby at_188) rfl k_) ?_
    show OwnFin p e below s _ _ _ (T21.setTop (mkF m 190 #[iv pb1, iv pb2, iv pc1, iv pc2, iv pc3, iv z1, iv z2, rv b3, rv b6, iv z10, iv z11, iv z12, iv ((1 : Int32) + (own_step z10 (0 : Int32) z1 z2)), iv (((1 : Int32) + (own_step z10 (0 : Int32) z1 z2)) + (own_step z11 (if z10 = (13 : Int32) then (1 : Int32) else (0 : Int32)) z1 z2)), iv ((((1 : Int32) + (own_step z10 (0 : Int32) z1 z2)) + (own_step z11 (if z10 = (13 : Int32) then (1 : Int32) else (0 : Int32)) z1 z2)) + (own_step z12 (if z11 = (13 : Int32) then (1 : Int32) else (0 : Int32)) z1 z2)), iv ((1 : Int32) + (own_step z10 (0 : Int32) z1 z2)), iv (((1 : Int32) + (own_step z10 (0 : Int32) z1 z2)) + (own_step z11 (if z10 = (13 : Int32) then (1 : Int32) else (0 : Int32)) z1 z2)), iv ((((1 : Int32) + (own_step z10 (0 : Int32) z1 z2)) + (own_step z11 (if z10 = (13 : Int32) then (1 : Int32) else (0 : Int32)) z1 z2)) + (own_step z12 (if z11 = (13 : Int32) then (1 : Int32) else (0 : Int32)) z1 z2))] [(.int ((((1 : Int32) + (own_step z10 (0 : Int32) z1 z2)) + (own_step z11 (if z10 = (13 : Int32) then (1 : Int32) else (0 : Int32)) z1 z2)) + (own_step z12 (if z11 = (13 : Int32) then (1 : Int32) else (0 : Int32)) z1 z2)))]))
    refine own_go (fun t_ k_ => XS.iload X21.here hx rfl (hb hby at_190) rfl k_) ?_
    show OwnFin p e below s _ _ _ (T21.setTop (mkF m 192 #[iv pb1, iv pb2, iv pc1, iv pc2, iv pc3, iv z1, iv z2, rv b3, rv b6, iv z10, iv z11, iv z12, iv ((1 : Int32) + (own_step z10 (0 : Int32) z1 z2)), iv (((1 : Int32) + (own_step z10 (0 : Int32) z1 z2)) + (own_step z11 (if z10 = (13 : Int32) then (1 : Int32) else (0 : Int32)) z1 z2)), iv ((((1 : Int32) + (own_step z10 (0 : Int32) z1 z2)) + (own_step z11 (if z10 = (13 : Int32) then (1 : Int32) else (0 : Int32)) z1 z2)) + (own_step z12 (if z11 = (13 : Int32) then (1 : Int32) else (0 : Int32)) z1 z2)), iv ((1 : Int32) + (own_step z10 (0 : Int32) z1 z2)), iv (((1 : Int32) + (own_step z10 (0 : Int32) z1 z2)) + (own_step z11 (if z10 = (13 : Int32) then (1 : Int32) else (0 : Int32)) z1 z2)), iv ((((1 : Int32) + (own_step z10 (0 : Int32) z1 z2)) + (own_step z11 (if z10 = (13 : Int32) then (1 : Int32) else (0 : Int32)) z1 z2)) + (own_step z12 (if z11 = (13 : Int32) then (1 : Int32) else (0 : Int32)) z1 z2))] [(.int ((((1 : Int32) + (own_step z10 (0 : Int32) z1 z2)) + (own_step z11 (if z10 = (13 : Int32) then (1 : Int32) else (0 : Int32)) z1 z2)) + (own_step z12 (if z11 = (13 : Int32) then (1 : Int32) else (0 : Int32)) z1 z2))), (.int ((((1 : Int32) + (own_step z10 (0 : Int32) z1 z2)) + (own_step z11 (if z10 = (13 : Int32) then (1 : Int32) else (0 : Int32)) z1 z2)) + (own_step z12 (if z11 = (13 : Int32) then (1 : Int32) else (0 : Int32)) z1 z2)))]))
    refine own_go (fun t_ k_ => XS.icmpNo X21.here hx rfl (hb hby at_192) rfl (teq rfl).2 k_) ?_
    show OwnFin p e below s _ _ _ (T21.setTop (mkF m 195 #[iv pb1, iv pb2, iv pc1, iv pc2, iv pc3, iv z1, iv z2, rv b3, rv b6, iv z10, iv z11, iv z12, iv ((1 : Int32) + (own_step z10 (0 : Int32) z1 z2)), iv (((1 : Int32) + (own_step z10 (0 : Int32) z1 z2)) + (own_step z11 (if z10 = (13 : Int32) then (1 : Int32) else (0 : Int32)) z1 z2)), iv ((((1 : Int32) + (own_step z10 (0 : Int32) z1 z2)) + (own_step z11 (if z10 = (13 : Int32) then (1 : Int32) else (0 : Int32)) z1 z2)) + (own_step z12 (if z11 = (13 : Int32) then (1 : Int32) else (0 : Int32)) z1 z2)), iv ((1 : Int32) + (own_step z10 (0 : Int32) z1 z2)), iv (((1 : Int32) + (own_step z10 (0 : Int32) z1 z2)) + (own_step z11 (if z10 = (13 : Int32) then (1 : Int32) else (0 : Int32)) z1 z2)), iv ((((1 : Int32) + (own_step z10 (0 : Int32) z1 z2)) + (own_step z11 (if z10 = (13 : Int32) then (1 : Int32) else (0 : Int32)) z1 z2)) + (own_step z12 (if z11 = (13 : Int32) then (1 : Int32) else (0 : Int32)) z1 z2))] []))
    refine own_go (fun t_ k_ => XS.aload X21.here hx rfl (hb hby at_195) rfl rfl k_) ?_
    show OwnFin p e below s _ _ _ (T21.setTop (mkF m 197 #[iv pb1, iv pb2, iv pc1, iv pc2, iv pc3, iv z1, iv z2, rv b3, rv b6, iv z10, iv z11, iv z12, iv ((1 : Int32) + (own_step z10 (0 : Int32) z1 z2)), iv (((1 : Int32) + (own_step z10 (0 : Int32) z1 z2)) + (own_step z11 (if z10 = (13 : Int32) then (1 : Int32) else (0 : Int32)) z1 z2)), iv ((((1 : Int32) + (own_step z10 (0 : Int32) z1 z2)) + (own_step z11 (if z10 = (13 : Int32) then (1 : Int32) else (0 : Int32)) z1 z2)) + (own_step z12 (if z11 = (13 : Int32) then (1 : Int32) else (0 : Int32)) z1 z2)), iv ((1 : Int32) + (own_step z10 (0 : Int32) z1 z2)), iv (((1 : Int32) + (own_step z10 (0 : Int32) z1 z2)) + (own_step z11 (if z10 = (13 : Int32) then (1 : Int32) else (0 : Int32)) z1 z2)), iv ((((1 : Int32) + (own_step z10 (0 : Int32) z1 z2)) + (own_step z11 (if z10 = (13 : Int32) then (1 : Int32) else (0 : Int32)) z1 z2)) + (own_step z12 (if z11 = (13 : Int32) then (1 : Int32) else (0 : Int32)) z1 z2))] [(.ref b6)]))
    obtain ⟨v22, T22, L22, X22, hQ22, st22⟩ := own_callV X21 hx hZ (y := (⟨"com/example/argweave/argweave/LineCounter", "column", "()I"⟩ : MethodName)) (z := (⟨"com/example/argweave/argweave/LineCounter", "column", "()I"⟩ : MethodName)) hown (hw _ (List.mem_of_getElem? (i := 104) rfl)) (hw _ (List.mem_of_getElem? (i := 105) rfl)) (notFace_of_selects (args := #[]) (mvT hZ (hw _ (List.mem_of_getElem? (i := 107) rfl)))) (hw _ (List.mem_of_getElem? (i := 107) rfl)) (hw _ (List.mem_of_getElem? (i := 106) rfl)) (hw _ (List.mem_of_getElem? (i := 7) rfl)) (hw _ (List.mem_of_getElem? (i := 108) rfl)) (by decide) (W := 0) (rm22 l Z a0 hw [] b6 T20.heap n0 Z20 Fc20) (by decide) (by decide) E_b6_20 (g := (mkF m 197 #[iv pb1, iv pb2, iv pc1, iv pc2, iv pc3, iv z1, iv z2, rv b3, rv b6, iv z10, iv z11, iv z12, iv ((1 : Int32) + (own_step z10 (0 : Int32) z1 z2)), iv (((1 : Int32) + (own_step z10 (0 : Int32) z1 z2)) + (own_step z11 (if z10 = (13 : Int32) then (1 : Int32) else (0 : Int32)) z1 z2)), iv ((((1 : Int32) + (own_step z10 (0 : Int32) z1 z2)) + (own_step z11 (if z10 = (13 : Int32) then (1 : Int32) else (0 : Int32)) z1 z2)) + (own_step z12 (if z11 = (13 : Int32) then (1 : Int32) else (0 : Int32)) z1 z2)), iv ((1 : Int32) + (own_step z10 (0 : Int32) z1 z2)), iv (((1 : Int32) + (own_step z10 (0 : Int32) z1 z2)) + (own_step z11 (if z10 = (13 : Int32) then (1 : Int32) else (0 : Int32)) z1 z2)), iv ((((1 : Int32) + (own_step z10 (0 : Int32) z1 z2)) + (own_step z11 (if z10 = (13 : Int32) then (1 : Int32) else (0 : Int32)) z1 z2)) + (own_step z12 (if z11 = (13 : Int32) then (1 : Int32) else (0 : Int32)) z1 z2))] [(.ref b6)])) rfl (by rw [hml]; rfl) (argsL := []) (rest := []) (lenOf pd_0_13 rfl) rfl (by show 2 * 0 + _ ≤ _; exact Nat.le_of_eq rfl) (hb hby at_197) e21 rfl (by decide) (by decide)
    obtain ⟨rfl, Nq22, e22⟩ := hQ22
    have N22 := Fr.app N21 Nq22
    refine own_go st22 ?_
    show OwnFin p e below s _ _ _ (T22.setTop (mkF m 200 #[iv pb1, iv pb2, iv pc1, iv pc2, iv pc3, iv z1, iv z2, rv b3, rv b6, iv z10, iv z11, iv z12, iv ((1 : Int32) + (own_step z10 (0 : Int32) z1 z2)), iv (((1 : Int32) + (own_step z10 (0 : Int32) z1 z2)) + (own_step z11 (if z10 = (13 : Int32) then (1 : Int32) else (0 : Int32)) z1 z2)), iv ((((1 : Int32) + (own_step z10 (0 : Int32) z1 z2)) + (own_step z11 (if z10 = (13 : Int32) then (1 : Int32) else (0 : Int32)) z1 z2)) + (own_step z12 (if z11 = (13 : Int32) then (1 : Int32) else (0 : Int32)) z1 z2)), iv ((1 : Int32) + (own_step z10 (0 : Int32) z1 z2)), iv (((1 : Int32) + (own_step z10 (0 : Int32) z1 z2)) + (own_step z11 (if z10 = (13 : Int32) then (1 : Int32) else (0 : Int32)) z1 z2)), iv ((((1 : Int32) + (own_step z10 (0 : Int32) z1 z2)) + (own_step z11 (if z10 = (13 : Int32) then (1 : Int32) else (0 : Int32)) z1 z2)) + (own_step z12 (if z11 = (13 : Int32) then (1 : Int32) else (0 : Int32)) z1 z2))] [(.int (1 : Int32))]))
    refine own_go (fun t_ k_ => XS.iconst X22.here hx rfl (hb hby at_200) k_) ?_
    show OwnFin p e below s _ _ _ (T22.setTop (mkF m 201 #[iv pb1, iv pb2, iv pc1, iv pc2, iv pc3, iv z1, iv z2, rv b3, rv b6, iv z10, iv z11, iv z12, iv ((1 : Int32) + (own_step z10 (0 : Int32) z1 z2)), iv (((1 : Int32) + (own_step z10 (0 : Int32) z1 z2)) + (own_step z11 (if z10 = (13 : Int32) then (1 : Int32) else (0 : Int32)) z1 z2)), iv ((((1 : Int32) + (own_step z10 (0 : Int32) z1 z2)) + (own_step z11 (if z10 = (13 : Int32) then (1 : Int32) else (0 : Int32)) z1 z2)) + (own_step z12 (if z11 = (13 : Int32) then (1 : Int32) else (0 : Int32)) z1 z2)), iv ((1 : Int32) + (own_step z10 (0 : Int32) z1 z2)), iv (((1 : Int32) + (own_step z10 (0 : Int32) z1 z2)) + (own_step z11 (if z10 = (13 : Int32) then (1 : Int32) else (0 : Int32)) z1 z2)), iv ((((1 : Int32) + (own_step z10 (0 : Int32) z1 z2)) + (own_step z11 (if z10 = (13 : Int32) then (1 : Int32) else (0 : Int32)) z1 z2)) + (own_step z12 (if z11 = (13 : Int32) then (1 : Int32) else (0 : Int32)) z1 z2))] [(.int (1 : Int32)), (.int (1 : Int32))]))
    refine own_go (fun t_ k_ => XS.icmpNo X22.here hx rfl (hb hby at_201) rfl (teq (by decide)).2 k_) ?_
    show OwnFin p e below s _ _ _ (T22.setTop (mkF m 204 #[iv pb1, iv pb2, iv pc1, iv pc2, iv pc3, iv z1, iv z2, rv b3, rv b6, iv z10, iv z11, iv z12, iv ((1 : Int32) + (own_step z10 (0 : Int32) z1 z2)), iv (((1 : Int32) + (own_step z10 (0 : Int32) z1 z2)) + (own_step z11 (if z10 = (13 : Int32) then (1 : Int32) else (0 : Int32)) z1 z2)), iv ((((1 : Int32) + (own_step z10 (0 : Int32) z1 z2)) + (own_step z11 (if z10 = (13 : Int32) then (1 : Int32) else (0 : Int32)) z1 z2)) + (own_step z12 (if z11 = (13 : Int32) then (1 : Int32) else (0 : Int32)) z1 z2)), iv ((1 : Int32) + (own_step z10 (0 : Int32) z1 z2)), iv (((1 : Int32) + (own_step z10 (0 : Int32) z1 z2)) + (own_step z11 (if z10 = (13 : Int32) then (1 : Int32) else (0 : Int32)) z1 z2)), iv ((((1 : Int32) + (own_step z10 (0 : Int32) z1 z2)) + (own_step z11 (if z10 = (13 : Int32) then (1 : Int32) else (0 : Int32)) z1 z2)) + (own_step z12 (if z11 = (13 : Int32) then (1 : Int32) else (0 : Int32)) z1 z2))] []))
    refine own_go (fun t_ k_ => XS.iconst X22.here hx rfl (hb hby at_204) k_) ?_
    show OwnFin p e below s _ _ _ (T22.setTop (mkF m 205 #[iv pb1, iv pb2, iv pc1, iv pc2, iv pc3, iv z1, iv z2, rv b3, rv b6, iv z10, iv z11, iv z12, iv ((1 : Int32) + (own_step z10 (0 : Int32) z1 z2)), iv (((1 : Int32) + (own_step z10 (0 : Int32) z1 z2)) + (own_step z11 (if z10 = (13 : Int32) then (1 : Int32) else (0 : Int32)) z1 z2)), iv ((((1 : Int32) + (own_step z10 (0 : Int32) z1 z2)) + (own_step z11 (if z10 = (13 : Int32) then (1 : Int32) else (0 : Int32)) z1 z2)) + (own_step z12 (if z11 = (13 : Int32) then (1 : Int32) else (0 : Int32)) z1 z2)), iv ((1 : Int32) + (own_step z10 (0 : Int32) z1 z2)), iv (((1 : Int32) + (own_step z10 (0 : Int32) z1 z2)) + (own_step z11 (if z10 = (13 : Int32) then (1 : Int32) else (0 : Int32)) z1 z2)), iv ((((1 : Int32) + (own_step z10 (0 : Int32) z1 z2)) + (own_step z11 (if z10 = (13 : Int32) then (1 : Int32) else (0 : Int32)) z1 z2)) + (own_step z12 (if z11 = (13 : Int32) then (1 : Int32) else (0 : Int32)) z1 z2))] [(.int (1 : Int32))]))
    refine own_go (fun t_ k_ => XS.goto X22.here hx rfl (pc0 := 205) (pc' := 209) rfl (hb hby at_205) (by decide) (by decide) k_) ?_
    show OwnFin p e below s _ _ _ (T22.setTop (mkF m 209 #[iv pb1, iv pb2, iv pc1, iv pc2, iv pc3, iv z1, iv z2, rv b3, rv b6, iv z10, iv z11, iv z12, iv ((1 : Int32) + (own_step z10 (0 : Int32) z1 z2)), iv (((1 : Int32) + (own_step z10 (0 : Int32) z1 z2)) + (own_step z11 (if z10 = (13 : Int32) then (1 : Int32) else (0 : Int32)) z1 z2)), iv ((((1 : Int32) + (own_step z10 (0 : Int32) z1 z2)) + (own_step z11 (if z10 = (13 : Int32) then (1 : Int32) else (0 : Int32)) z1 z2)) + (own_step z12 (if z11 = (13 : Int32) then (1 : Int32) else (0 : Int32)) z1 z2)), iv ((1 : Int32) + (own_step z10 (0 : Int32) z1 z2)), iv (((1 : Int32) + (own_step z10 (0 : Int32) z1 z2)) + (own_step z11 (if z10 = (13 : Int32) then (1 : Int32) else (0 : Int32)) z1 z2)), iv ((((1 : Int32) + (own_step z10 (0 : Int32) z1 z2)) + (own_step z11 (if z10 = (13 : Int32) then (1 : Int32) else (0 : Int32)) z1 z2)) + (own_step z12 (if z11 = (13 : Int32) then (1 : Int32) else (0 : Int32)) z1 z2))] [(.int (1 : Int32))]))
    refine own_ret X22 (v := some (.int (1 : Int32))) hlk (fun hh => by rw [hret] at hh; cases hh) (fun fs hr => retN X22 hx (t := .boolean) hret (by simp) (hb hby at_209) hr) (by decide) (by decide) ?_
    exact ⟨rfl, N22⟩
  · have hl3 : (255 : Int32) < z1 ∨ (255 : Int32) < z2 := Classical.byContradiction (fun q => hL ⟨fun u => q (Or.inl u), fun u => q (Or.inr u)⟩)
    obtain ⟨v23, T23, L23, X23, hQ23, st23⟩ := own_callI X7 hx hZ (y := (⟨"java/lang/String", "<init>", "([C)V"⟩ : MethodName)) rfl hown (hw _ (List.mem_of_getElem? (i := 11) rfl)) (hw _ (List.mem_of_getElem? (i := 12) rfl)) (hw _ (List.mem_of_getElem? (i := 10) rfl)) (hw _ (List.mem_of_getElem? (i := 13) rfl)) (by decide) (W := 3) (rm2_U l Z a0 hw [] b7 b3 z1 z2 zc h7 n0 Z7 E_b7 F_value_b7 F_coder_b7 V_chars g_b7 (Ne.symm ne_b3_b7) hzc S_cs S_as S_hi S_lo OL_7 hpx hpy hl3) (by decide) (by decide) (g := (mkF m 39 #[iv pb1, iv pb2, iv pc1, iv pc2, iv pc3, iv z1, iv z2, rv b3, .unset, .unset, .unset, .unset, .unset, .unset, .unset, .unset, .unset, .unset] [(.ref b3), (.ref b7), (.ref b7), (.ref b6), (.ref b6)])) rfl (by rw [hml]; rfl) (a := b7) (argsL := [(.ref b3)]) (rest := [(.ref b7), (.ref b6), (.ref b6)]) (lenOf pd_0_1 rfl) rfl (by show 2 * 0 + _ ≤ _; exact Nat.le_of_eq rfl) (hb hby at_39) e7 rfl (by decide) (by decide)
    obtain ⟨rfl, Nq23, Kq23, Eq23, Fc23, bs23, sq23, Fv23, Vq23⟩ := hQ23
    have N23 := Fr.app N5 Nq23
    have g_bs23 : n0 ≤ bs23 := Nat.le_trans Z7 sq23
    have ne_b3_bs23 : b3 ≠ bs23 := Nat.ne_of_lt (Nat.lt_of_lt_of_le V_chars.lt sq23)
    have ne_b6_bs23 : b6 ≠ bs23 := Nat.ne_of_lt (Nat.lt_of_lt_of_le E_b6_7.lt sq23)
    have ne_b7_bs23 : b7 ≠ bs23 := Nat.ne_of_lt (Nat.lt_of_lt_of_le E_b7.lt sq23)
    have OL_23 := OL_7.keep Kq23 (allS g_b7 all0)
    have V_b3_23 := V_chars.keep Kq23 (ninS ne_b3_b7 nin0)
    have E_b6_23 := E_b6_7.keep Kq23
    have F_line_b6_23 := F_line_b6_7.keep Kq23 (ninS ne_b6_b7 nin0)
    have F_column_b6_23 := F_column_b6_7.keep Kq23 (ninS ne_b6_b7 nin0)
    have F_breaks_b6_23 := F_breaks_b6_7.keep Kq23 (ninS ne_b6_b7 nin0)
    have F_afterCr_b6_23 := F_afterCr_b6_7.keep Kq23 (ninS ne_b6_b7 nin0)
    have E_b7_23 := E_b7.keep Kq23
    have Z23 : n0 ≤ T23.heap.size := Nat.le_trans Z7 Kq23.1
    refine own_go st23 ?_
    show OwnFin p e below s _ _ _ (T23.setTop (mkF m 42 #[iv pb1, iv pb2, iv pc1, iv pc2, iv pc3, iv z1, iv z2, rv b3, .unset, .unset, .unset, .unset, .unset, .unset, .unset, .unset, .unset, .unset] [(.ref b7), (.ref b6), (.ref b6)]))
    obtain ⟨v24, T24, L24, X24, hQ24, st24⟩ := own_callI X23 hx hZ (y := (⟨"com/example/argweave/argweave/LineCounter", "<init>", "(Ljava/lang/String;)V"⟩ : MethodName)) rfl hown (hw _ (List.mem_of_getElem? (i := 37) rfl)) (hw _ (List.mem_of_getElem? (i := 38) rfl)) (hw _ (List.mem_of_getElem? (i := 7) rfl)) (hw _ (List.mem_of_getElem? (i := 39) rfl)) (by decide) (W := 1) (rm8 l Z a0 hw [] b6 b7 T23.heap n0 Z23 E_b6_23 g_b6 F_line_b6_23 F_column_b6_23 F_breaks_b6_23 F_afterCr_b6_23) (by decide) (by decide) (g := (mkF m 42 #[iv pb1, iv pb2, iv pc1, iv pc2, iv pc3, iv z1, iv z2, rv b3, .unset, .unset, .unset, .unset, .unset, .unset, .unset, .unset, .unset, .unset] [(.ref b7), (.ref b6), (.ref b6)])) rfl (by rw [hml]; rfl) (a := b6) (argsL := [(.ref b7)]) (rest := [(.ref b6)]) (lenOf pd_0_7 rfl) rfl (by show 2 * 0 + _ ≤ _; exact Nat.le_of_eq rfl) (hb hby at_42) rfl rfl (by decide) (by decide)
    obtain ⟨rfl, Nq24, Kq24, Eq24, Fq24_0, Fq24_1, Fq24_2, Fq24_3⟩ := hQ24
    have N24 := Fr.app N23 Nq24
    have OL_24 := OL_23.keep Kq24 (allS g_b6 all0)
    have V_b3_24 := V_b3_23.keep Kq24 (ninS ne_b3_b6 nin0)
    have E_b6_24 := E_b6_23.keep Kq24
    have E_b7_24 := E_b7_23.keep Kq24
    have Fc23_24 := Fc23.keep Kq24 (ninS (Ne.symm ne_b6_b7) nin0)
    have Fv23_24 := Fv23.keep Kq24 (ninS (Ne.symm ne_b6_b7) nin0)
    have Vq23_24 := Vq23.keep Kq24 (ninS (Ne.symm ne_b6_bs23) nin0)
    have Z24 : n0 ≤ T24.heap.size := Nat.le_trans Z23 Kq24.1
    refine own_go st24 ?_
    show OwnFin p e below s _ _ _ (T24.setTop (mkF m 45 #[iv pb1, iv pb2, iv pc1, iv pc2, iv pc3, iv z1, iv z2, rv b3, .unset, .unset, .unset, .unset, .unset, .unset, .unset, .unset, .unset, .unset] [(.ref b6)]))
    refine own_go (fun t_ k_ => XS.astore X24.here hx rfl (hb hby at_45) rfl rfl (l' := #[iv pb1, iv pb2, iv pc1, iv pc2, iv pc3, iv z1, iv z2, rv b3, rv b6, .unset, .unset, .unset, .unset, .unset, .unset, .unset, .unset, .unset]) rfl k_) ?_
    show OwnFin p e below s _ _ _ (T24.setTop (mkF m 47 #[iv pb1, iv pb2, iv pc1, iv pc2, iv pc3, iv z1, iv z2, rv b3, rv b6, .unset, .unset, .unset, .unset, .unset, .unset, .unset, .unset, .unset] []))
    refine own_go (fun t_ k_ => XS.iloadN X24.here hx rfl (hb hby at_47) rfl k_) ?_
    show OwnFin p e below s _ _ _ (T24.setTop (mkF m 48 #[iv pb1, iv pb2, iv pc1, iv pc2, iv pc3, iv z1, iv z2, rv b3, rv b6, .unset, .unset, .unset, .unset, .unset, .unset, .unset, .unset, .unset] [(.int pc1)]))
    obtain ⟨v25, T25, L25, X25, hQ25, st25⟩ := own_callS X24 hx hZ (y := (⟨"com/example/argweave/argweave/LineCounterPassPinLaw", "pick", "(I)C"⟩ : MethodName)) hown (hw _ (List.mem_of_getElem? (i := 0) rfl)) (hw _ (List.mem_of_getElem? (i := 1) rfl)) (hw _ (List.mem_of_getElem? (i := 2) rfl)) (hw _ (List.mem_of_getElem? (i := 3) rfl)) (by decide) (W := 0) (rm1 l Z a0 hw [] pc1 T24.heap n0 Z24) (by decide) (by decide) (g := (mkF m 48 #[iv pb1, iv pb2, iv pc1, iv pc2, iv pc3, iv z1, iv z2, rv b3, rv b6, .unset, .unset, .unset, .unset, .unset, .unset, .unset, .unset, .unset] [(.int pc1)])) rfl (by rw [hml]; rfl) (argsL := [(.int pc1)]) (rest := []) (lenOf pd_0_0 rfl) rfl (by show 2 * 0 + _ ≤ _; exact Nat.le_of_eq rfl) (hb hby at_48) rfl rfl (by decide) (by decide)
    obtain ⟨⟨z25, rfl, hz25⟩, Nq25, e25⟩ := hQ25
    have N25 := Fr.app N24 Nq25
    refine own_go st25 ?_
    show OwnFin p e below s _ _ _ (T25.setTop (mkF m 51 #[iv pb1, iv pb2, iv pc1, iv pc2, iv pc3, iv z1, iv z2, rv b3, rv b6, .unset, .unset, .unset, .unset, .unset, .unset, .unset, .unset, .unset] [(.int z25)]))
    refine own_go (fun t_ k_ => XS.istore X25.here hx rfl (hb hby at_51) rfl (l' := #[iv pb1, iv pb2, iv pc1, iv pc2, iv pc3, iv z1, iv z2, rv b3, rv b6, iv z25, .unset, .unset, .unset, .unset, .unset, .unset, .unset, .unset]) rfl k_) ?_
    show OwnFin p e below s _ _ _ (T25.setTop (mkF m 53 #[iv pb1, iv pb2, iv pc1, iv pc2, iv pc3, iv z1, iv z2, rv b3, rv b6, iv z25, .unset, .unset, .unset, .unset, .unset, .unset, .unset, .unset] []))
    refine own_go (fun t_ k_ => XS.iloadN X25.here hx rfl (hb hby at_53) rfl k_) ?_
    show OwnFin p e below s _ _ _ (T25.setTop (mkF m 54 #[iv pb1, iv pb2, iv pc1, iv pc2, iv pc3, iv z1, iv z2, rv b3, rv b6, iv z25, .unset, .unset, .unset, .unset, .unset, .unset, .unset, .unset] [(.int pc2)]))
    obtain ⟨v26, T26, L26, X26, hQ26, st26⟩ := own_callS X25 hx hZ (y := (⟨"com/example/argweave/argweave/LineCounterPassPinLaw", "pick", "(I)C"⟩ : MethodName)) hown (hw _ (List.mem_of_getElem? (i := 0) rfl)) (hw _ (List.mem_of_getElem? (i := 1) rfl)) (hw _ (List.mem_of_getElem? (i := 2) rfl)) (hw _ (List.mem_of_getElem? (i := 3) rfl)) (by decide) (W := 0) (rm1 l Z a0 hw [] pc2 T24.heap n0 Z24) (by decide) (by decide) (g := (mkF m 54 #[iv pb1, iv pb2, iv pc1, iv pc2, iv pc3, iv z1, iv z2, rv b3, rv b6, iv z25, .unset, .unset, .unset, .unset, .unset, .unset, .unset, .unset] [(.int pc2)])) rfl (by rw [hml]; rfl) (argsL := [(.int pc2)]) (rest := []) (lenOf pd_0_0 rfl) rfl (by show 2 * 0 + _ ≤ _; exact Nat.le_of_eq rfl) (hb hby at_54) e25 rfl (by decide) (by decide)
    obtain ⟨⟨z26, rfl, hz26⟩, Nq26, e26⟩ := hQ26
    have N26 := Fr.app N25 Nq26
    refine own_go st26 ?_
    show OwnFin p e below s _ _ _ (T26.setTop (mkF m 57 #[iv pb1, iv pb2, iv pc1, iv pc2, iv pc3, iv z1, iv z2, rv b3, rv b6, iv z25, .unset, .unset, .unset, .unset, .unset, .unset, .unset, .unset] [(.int z26)]))
    refine own_go (fun t_ k_ => XS.istore X26.here hx rfl (hb hby at_57) rfl (l' := #[iv pb1, iv pb2, iv pc1, iv pc2, iv pc3, iv z1, iv z2, rv b3, rv b6, iv z25, iv z26, .unset, .unset, .unset, .unset, .unset, .unset, .unset]) rfl k_) ?_
    show OwnFin p e below s _ _ _ (T26.setTop (mkF m 59 #[iv pb1, iv pb2, iv pc1, iv pc2, iv pc3, iv z1, iv z2, rv b3, rv b6, iv z25, iv z26, .unset, .unset, .unset, .unset, .unset, .unset, .unset] []))
    refine own_go (fun t_ k_ => XS.iload X26.here hx rfl (hb hby at_59) rfl k_) ?_
    show OwnFin p e below s _ _ _ (T26.setTop (mkF m 61 #[iv pb1, iv pb2, iv pc1, iv pc2, iv pc3, iv z1, iv z2, rv b3, rv b6, iv z25, iv z26, .unset, .unset, .unset, .unset, .unset, .unset, .unset] [(.int pc3)]))
    obtain ⟨v27, T27, L27, X27, hQ27, st27⟩ := own_callS X26 hx hZ (y := (⟨"com/example/argweave/argweave/LineCounterPassPinLaw", "pick", "(I)C"⟩ : MethodName)) hown (hw _ (List.mem_of_getElem? (i := 0) rfl)) (hw _ (List.mem_of_getElem? (i := 1) rfl)) (hw _ (List.mem_of_getElem? (i := 2) rfl)) (hw _ (List.mem_of_getElem? (i := 3) rfl)) (by decide) (W := 0) (rm1 l Z a0 hw [] pc3 T24.heap n0 Z24) (by decide) (by decide) (g := (mkF m 61 #[iv pb1, iv pb2, iv pc1, iv pc2, iv pc3, iv z1, iv z2, rv b3, rv b6, iv z25, iv z26, .unset, .unset, .unset, .unset, .unset, .unset, .unset] [(.int pc3)])) rfl (by rw [hml]; rfl) (argsL := [(.int pc3)]) (rest := []) (lenOf pd_0_0 rfl) rfl (by show 2 * 0 + _ ≤ _; exact Nat.le_of_eq rfl) (hb hby at_61) e26 rfl (by decide) (by decide)
    obtain ⟨⟨z27, rfl, hz27⟩, Nq27, e27⟩ := hQ27
    have N27 := Fr.app N26 Nq27
    refine own_go st27 ?_
    show OwnFin p e below s _ _ _ (T27.setTop (mkF m 64 #[iv pb1, iv pb2, iv pc1, iv pc2, iv pc3, iv z1, iv z2, rv b3, rv b6, iv z25, iv z26, .unset, .unset, .unset, .unset, .unset, .unset, .unset] [(.int z27)]))
    refine own_go (fun t_ k_ => XS.istore X27.here hx rfl (hb hby at_64) rfl (l' := #[iv pb1, iv pb2, iv pc1, iv pc2, iv pc3, iv z1, iv z2, rv b3, rv b6, iv z25, iv z26, iv z27, .unset, .unset, .unset, .unset, .unset, .unset]) rfl k_) ?_
    show OwnFin p e below s _ _ _ (T27.setTop (mkF m 66 #[iv pb1, iv pb2, iv pc1, iv pc2, iv pc3, iv z1, iv z2, rv b3, rv b6, iv z25, iv z26, iv z27, .unset, .unset, .unset, .unset, .unset, .unset] []))
    refine own_go (fun t_ k_ => XS.iconst X27.here hx rfl (hb hby at_66) k_) ?_
    show OwnFin p e below s _ _ _ (T27.setTop (mkF m 67 #[iv pb1, iv pb2, iv pc1, iv pc2, iv pc3, iv z1, iv z2, rv b3, rv b6, iv z25, iv z26, iv z27, .unset, .unset, .unset, .unset, .unset, .unset] [(.int (1 : Int32))]))
    refine own_go (fun t_ k_ => XS.iload X27.here hx rfl (hb hby at_67) rfl k_) ?_
    show OwnFin p e below s _ _ _ (T27.setTop (mkF m 69 #[iv pb1, iv pb2, iv pc1, iv pc2, iv pc3, iv z1, iv z2, rv b3, rv b6, iv z25, iv z26, iv z27, .unset, .unset, .unset, .unset, .unset, .unset] [(.int z25), (.int (1 : Int32))]))
    refine own_go (fun t_ k_ => XS.iconst X27.here hx rfl (hb hby at_69) k_) ?_
    show OwnFin p e below s _ _ _ (T27.setTop (mkF m 70 #[iv pb1, iv pb2, iv pc1, iv pc2, iv pc3, iv z1, iv z2, rv b3, rv b6, iv z25, iv z26, iv z27, .unset, .unset, .unset, .unset, .unset, .unset] [(.int (0 : Int32)), (.int z25), (.int (1 : Int32))]))
    refine own_go (fun t_ k_ => XS.iload X27.here hx rfl (hb hby at_70) rfl k_) ?_
    show OwnFin p e below s _ _ _ (T27.setTop (mkF m 72 #[iv pb1, iv pb2, iv pc1, iv pc2, iv pc3, iv z1, iv z2, rv b3, rv b6, iv z25, iv z26, iv z27, .unset, .unset, .unset, .unset, .unset, .unset] [(.int z1), (.int (0 : Int32)), (.int z25), (.int (1 : Int32))]))
    refine own_go (fun t_ k_ => XS.iload X27.here hx rfl (hb hby at_72) rfl k_) ?_
    show OwnFin p e below s _ _ _ (T27.setTop (mkF m 74 #[iv pb1, iv pb2, iv pc1, iv pc2, iv pc3, iv z1, iv z2, rv b3, rv b6, iv z25, iv z26, iv z27, .unset, .unset, .unset, .unset, .unset, .unset] [(.int z2), (.int z1), (.int (0 : Int32)), (.int z25), (.int (1 : Int32))]))
    obtain ⟨v28, T28, L28, X28, hQ28, st28⟩ := own_callS X27 hx hZ (y := (⟨"com/example/argweave/argweave/LineCounterPassPinLaw", "step", "(CZCC)I"⟩ : MethodName)) hown (hw _ (List.mem_of_getElem? (i := 47) rfl)) (hw _ (List.mem_of_getElem? (i := 48) rfl)) (hw _ (List.mem_of_getElem? (i := 2) rfl)) (hw _ (List.mem_of_getElem? (i := 49) rfl)) (by decide) (W := 1) (rm9 l Z a0 hw [] z25 (0 : Int32) z1 z2 T24.heap n0 Z24) (by decide) (by decide) (g := (mkF m 74 #[iv pb1, iv pb2, iv pc1, iv pc2, iv pc3, iv z1, iv z2, rv b3, rv b6, iv z25, iv z26, iv z27, .unset, .unset, .unset, .unset, .unset, .unset] [(.int z2), (.int z1), (.int (0 : Int32)), (.int z25), (.int (1 : Int32))])) rfl (by rw [hml]; rfl) (argsL := [(.int z25), (.int (0 : Int32)), (.int z1), (.int z2)]) (rest := [(.int (1 : Int32))]) (lenOf pd_0_8 rfl) rfl (by show 2 * 0 + _ ≤ _; exact Nat.le_of_eq rfl) (hb hby at_74) e27 rfl (by decide) (by decide)
    obtain ⟨rfl, Nq28, e28⟩ := hQ28
    have N28 := Fr.app N27 Nq28
    refine own_go st28 ?_
    show OwnFin p e below s _ _ _ (T28.setTop (mkF m 77 #[iv pb1, iv pb2, iv pc1, iv pc2, iv pc3, iv z1, iv z2, rv b3, rv b6, iv z25, iv z26, iv z27, .unset, .unset, .unset, .unset, .unset, .unset] [(.int (own_step z25 (0 : Int32) z1 z2)), (.int (1 : Int32))]))
    refine own_go (fun t_ k_ => XS.iadd X28.here hx rfl (hb hby at_77) rfl k_) ?_
    show OwnFin p e below s _ _ _ (T28.setTop (mkF m 78 #[iv pb1, iv pb2, iv pc1, iv pc2, iv pc3, iv z1, iv z2, rv b3, rv b6, iv z25, iv z26, iv z27, .unset, .unset, .unset, .unset, .unset, .unset] [(.int ((1 : Int32) + (own_step z25 (0 : Int32) z1 z2)))]))
    refine own_go (fun t_ k_ => XS.istore X28.here hx rfl (hb hby at_78) rfl (l' := #[iv pb1, iv pb2, iv pc1, iv pc2, iv pc3, iv z1, iv z2, rv b3, rv b6, iv z25, iv z26, iv z27, iv ((1 : Int32) + (own_step z25 (0 : Int32) z1 z2)), .unset, .unset, .unset, .unset, .unset]) rfl k_) ?_
    show OwnFin p e below s _ _ _ (T28.setTop (mkF m 80 #[iv pb1, iv pb2, iv pc1, iv pc2, iv pc3, iv z1, iv z2, rv b3, rv b6, iv z25, iv z26, iv z27, iv ((1 : Int32) + (own_step z25 (0 : Int32) z1 z2)), .unset, .unset, .unset, .unset, .unset] []))
    refine own_go (fun t_ k_ => XS.iload X28.here hx rfl (hb hby at_80) rfl k_) ?_
    show OwnFin p e below s _ _ _ (T28.setTop (mkF m 82 #[iv pb1, iv pb2, iv pc1, iv pc2, iv pc3, iv z1, iv z2, rv b3, rv b6, iv z25, iv z26, iv z27, iv ((1 : Int32) + (own_step z25 (0 : Int32) z1 z2)), .unset, .unset, .unset, .unset, .unset] [(.int ((1 : Int32) + (own_step z25 (0 : Int32) z1 z2)))]))
    refine own_go (fun t_ k_ => XS.iload X28.here hx rfl (hb hby at_82) rfl k_) ?_
    show OwnFin p e below s _ _ _ (T28.setTop (mkF m 84 #[iv pb1, iv pb2, iv pc1, iv pc2, iv pc3, iv z1, iv z2, rv b3, rv b6, iv z25, iv z26, iv z27, iv ((1 : Int32) + (own_step z25 (0 : Int32) z1 z2)), .unset, .unset, .unset, .unset, .unset] [(.int z26), (.int ((1 : Int32) + (own_step z25 (0 : Int32) z1 z2)))]))
    refine own_go (fun t_ k_ => XS.iload X28.here hx rfl (hb hby at_84) rfl k_) ?_
    show OwnFin p e below s _ _ _ (T28.setTop (mkF m 86 #[iv pb1, iv pb2, iv pc1, iv pc2, iv pc3, iv z1, iv z2, rv b3, rv b6, iv z25, iv z26, iv z27, iv ((1 : Int32) + (own_step z25 (0 : Int32) z1 z2)), .unset, .unset, .unset, .unset, .unset] [(.int z25), (.int z26), (.int ((1 : Int32) + (own_step z25 (0 : Int32) z1 z2)))]))
    refine own_go (fun t_ k_ => XS.bipush X28.here hx rfl (hb hby at_86) k_) ?_
    show OwnFin p e below s _ _ _ (T28.setTop (mkF m 88 #[iv pb1, iv pb2, iv pc1, iv pc2, iv pc3, iv z1, iv z2, rv b3, rv b6, iv z25, iv z26, iv z27, iv ((1 : Int32) + (own_step z25 (0 : Int32) z1 z2)), .unset, .unset, .unset, .unset, .unset] [(.int (13 : Int32)), (.int z25), (.int z26), (.int ((1 : Int32) + (own_step z25 (0 : Int32) z1 z2)))]))
    refine own_go (B := T28.setTop (mkF m 96 #[iv pb1, iv pb2, iv pc1, iv pc2, iv pc3, iv z1, iv z2, rv b3, rv b6, iv z25, iv z26, iv z27, iv ((1 : Int32) + (own_step z25 (0 : Int32) z1 z2)), .unset, .unset, .unset, .unset, .unset] [(.int (if z25 = (13 : Int32) then (1 : Int32) else (0 : Int32))), (.int z26), (.int ((1 : Int32) + (own_step z25 (0 : Int32) z1 z2)))])) (fun t_ k_ => ?_) ?_
    · by_cases hm88 : z25 = (13 : Int32)
      · rw [if_pos hm88] at k_; exact XS.icmpNo X28.here hx rfl (hb hby at_88) rfl (teq hm88).2 (XS.iconst X28.here hx rfl (hb hby at_91) (XS.goto X28.here hx rfl (pc0 := 92) (pc' := 96) rfl (hb hby at_92) (by decide) (by decide) k_))
      · rw [if_neg hm88] at k_; exact XS.icmpYes X28.here hx rfl (pc0 := 88) (pc' := 95) rfl (hb hby at_88) rfl (feq hm88).2 (by decide) (by decide) (XS.iconst X28.here hx rfl (hb hby at_95) k_)
    show OwnFin p e below s _ _ _ (T28.setTop (mkF m 96 #[iv pb1, iv pb2, iv pc1, iv pc2, iv pc3, iv z1, iv z2, rv b3, rv b6, iv z25, iv z26, iv z27, iv ((1 : Int32) + (own_step z25 (0 : Int32) z1 z2)), .unset, .unset, .unset, .unset, .unset] [(.int (if z25 = (13 : Int32) then (1 : Int32) else (0 : Int32))), (.int z26), (.int ((1 : Int32) + (own_step z25 (0 : Int32) z1 z2)))]))
    refine own_go (fun t_ k_ => XS.iload X28.here hx rfl (hb hby at_96) rfl k_) ?_
    show OwnFin p e below s _ _ _ (T28.setTop (mkF m 98 #[iv pb1, iv pb2, iv pc1, iv pc2, iv pc3, iv z1, iv z2, rv b3, rv b6, iv z25, iv z26, iv z27, iv ((1 : Int32) + (own_step z25 (0 : Int32) z1 z2)), .unset, .unset, .unset, .unset, .unset] [(.int z1), (.int (if z25 = (13 : Int32) then (1 : Int32) else (0 : Int32))), (.int z26), (.int ((1 : Int32) + (own_step z25 (0 : Int32) z1 z2)))]))
    refine own_go (fun t_ k_ => XS.iload X28.here hx rfl (hb hby at_98) rfl k_) ?_
    show OwnFin p e below s _ _ _ (T28.setTop (mkF m 100 #[iv pb1, iv pb2, iv pc1, iv pc2, iv pc3, iv z1, iv z2, rv b3, rv b6, iv z25, iv z26, iv z27, iv ((1 : Int32) + (own_step z25 (0 : Int32) z1 z2)), .unset, .unset, .unset, .unset, .unset] [(.int z2), (.int z1), (.int (if z25 = (13 : Int32) then (1 : Int32) else (0 : Int32))), (.int z26), (.int ((1 : Int32) + (own_step z25 (0 : Int32) z1 z2)))]))
    obtain ⟨v29, T29, L29, X29, hQ29, st29⟩ := own_callS X28 hx hZ (y := (⟨"com/example/argweave/argweave/LineCounterPassPinLaw", "step", "(CZCC)I"⟩ : MethodName)) hown (hw _ (List.mem_of_getElem? (i := 47) rfl)) (hw _ (List.mem_of_getElem? (i := 48) rfl)) (hw _ (List.mem_of_getElem? (i := 2) rfl)) (hw _ (List.mem_of_getElem? (i := 49) rfl)) (by decide) (W := 1) (rm9 l Z a0 hw [] z26 (if z25 = (13 : Int32) then (1 : Int32) else (0 : Int32)) z1 z2 T24.heap n0 Z24) (by decide) (by decide) (g := (mkF m 100 #[iv pb1, iv pb2, iv pc1, iv pc2, iv pc3, iv z1, iv z2, rv b3, rv b6, iv z25, iv z26, iv z27, iv ((1 : Int32) + (own_step z25 (0 : Int32) z1 z2)), .unset, .unset, .unset, .unset, .unset] [(.int z2), (.int z1), (.int (if z25 = (13 : Int32) then (1 : Int32) else (0 : Int32))), (.int z26), (.int ((1 : Int32) + (own_step z25 (0 : Int32) z1 z2)))])) rfl (by rw [hml]; rfl) (argsL := [(.int z26), (.int (if z25 = (13 : Int32) then (1 : Int32) else (0 : Int32))), (.int z1), (.int z2)]) (rest := [(.int ((1 : Int32) + (own_step z25 (0 : Int32) z1 z2)))]) (lenOf pd_0_8 rfl) rfl (by show 2 * 0 + _ ≤ _; exact Nat.le_of_eq rfl) (hb hby at_100) e28 rfl (by decide) (by decide)
    obtain ⟨rfl, Nq29, e29⟩ := hQ29
    have N29 := Fr.app N28 Nq29
    refine own_go st29 ?_
    show OwnFin p e below s _ _ _ (T29.setTop (mkF m 103 #[iv pb1, iv pb2, iv pc1, iv pc2, iv pc3, iv z1, iv z2, rv b3, rv b6, iv z25, iv z26, iv z27, iv ((1 : Int32) + (own_step z25 (0 : Int32) z1 z2)), .unset, .unset, .unset, .unset, .unset] [(.int (own_step z26 (if z25 = (13 : Int32) then (1 : Int32) else (0 : Int32)) z1 z2)), (.int ((1 : Int32) + (own_step z25 (0 : Int32) z1 z2)))]))
    refine own_go (fun t_ k_ => XS.iadd X29.here hx rfl (hb hby at_103) rfl k_) ?_
    show OwnFin p e below s _ _ _ (T29.setTop (mkF m 104 #[iv pb1, iv pb2, iv pc1, iv pc2, iv pc3, iv z1, iv z2, rv b3, rv b6, iv z25, iv z26, iv z27, iv ((1 : Int32) + (own_step z25 (0 : Int32) z1 z2)), .unset, .unset, .unset, .unset, .unset] [(.int (((1 : Int32) + (own_step z25 (0 : Int32) z1 z2)) + (own_step z26 (if z25 = (13 : Int32) then (1 : Int32) else (0 : Int32)) z1 z2)))]))
    refine own_go (fun t_ k_ => XS.istore X29.here hx rfl (hb hby at_104) rfl (l' := #[iv pb1, iv pb2, iv pc1, iv pc2, iv pc3, iv z1, iv z2, rv b3, rv b6, iv z25, iv z26, iv z27, iv ((1 : Int32) + (own_step z25 (0 : Int32) z1 z2)), iv (((1 : Int32) + (own_step z25 (0 : Int32) z1 z2)) + (own_step z26 (if z25 = (13 : Int32) then (1 : Int32) else (0 : Int32)) z1 z2)), .unset, .unset, .unset, .unset]) rfl k_) ?_
    show OwnFin p e below s _ _ _ (T29.setTop (mkF m 106 #[iv pb1, iv pb2, iv pc1, iv pc2, iv pc3, iv z1, iv z2, rv b3, rv b6, iv z25, iv z26, iv z27, iv ((1 : Int32) + (own_step z25 (0 : Int32) z1 z2)), iv (((1 : Int32) + (own_step z25 (0 : Int32) z1 z2)) + (own_step z26 (if z25 = (13 : Int32) then (1 : Int32) else (0 : Int32)) z1 z2)), .unset, .unset, .unset, .unset] []))
    refine own_go (fun t_ k_ => XS.iload X29.here hx rfl (hb hby at_106) rfl k_) ?_
    show OwnFin p e below s _ _ _ (T29.setTop (mkF m 108 #[iv pb1, iv pb2, iv pc1, iv pc2, iv pc3, iv z1, iv z2, rv b3, rv b6, iv z25, iv z26, iv z27, iv ((1 : Int32) + (own_step z25 (0 : Int32) z1 z2)), iv (((1 : Int32) + (own_step z25 (0 : Int32) z1 z2)) + (own_step z26 (if z25 = (13 : Int32) then (1 : Int32) else (0 : Int32)) z1 z2)), .unset, .unset, .unset, .unset] [(.int (((1 : Int32) + (own_step z25 (0 : Int32) z1 z2)) + (own_step z26 (if z25 = (13 : Int32) then (1 : Int32) else (0 : Int32)) z1 z2)))]))
    refine own_go (fun t_ k_ => XS.iload X29.here hx rfl (hb hby at_108) rfl k_) ?_
    show OwnFin p e below s _ _ _ (T29.setTop (mkF m 110 #[iv pb1, iv pb2, iv pc1, iv pc2, iv pc3, iv z1, iv z2, rv b3, rv b6, iv z25, iv z26, iv z27, iv ((1 : Int32) + (own_step z25 (0 : Int32) z1 z2)), iv (((1 : Int32) + (own_step z25 (0 : Int32) z1 z2)) + (own_step z26 (if z25 = (13 : Int32) then (1 : Int32) else (0 : Int32)) z1 z2)), .unset, .unset, .unset, .unset] [(.int z27), (.int (((1 : Int32) + (own_step z25 (0 : Int32) z1 z2)) + (own_step z26 (if z25 = (13 : Int32) then (1 : Int32) else (0 : Int32)) z1 z2)))]))
    refine own_go (fun t_ k_ => XS.iload X29.here hx rfl (hb hby at_110) rfl k_) ?_
    show OwnFin p e below s _ _ _ (T29.setTop (mkF m 112 #[iv pb1, iv pb2, iv pc1, iv pc2, iv pc3, iv z1, iv z2, rv b3, rv b6, iv z25, iv z26, iv z27, iv ((1 : Int32) + (own_step z25 (0 : Int32) z1 z2)), iv (((1 : Int32) + (own_step z25 (0 : Int32) z1 z2)) + (own_step z26 (if z25 = (13 : Int32) then (1 : Int32) else (0 : Int32)) z1 z2)), .unset, .unset, .unset, .unset] [(.int z26), (.int z27), (.int (((1 : Int32) + (own_step z25 (0 : Int32) z1 z2)) + (own_step z26 (if z25 = (13 : Int32) then (1 : Int32) else (0 : Int32)) z1 z2)))]))
    refine own_go (fun t_ k_ => XS.bipush X29.here hx rfl (hb hby at_112) k_) ?_
    show OwnFin p e below s _ _ _ (T29.setTop (mkF m 114 #[iv pb1, iv pb2, iv pc1, iv pc2, iv pc3, iv z1, iv z2, rv b3, rv b6, iv z25, iv z26, iv z27, iv ((1 : Int32) + (own_step z25 (0 : Int32) z1 z2)), iv (((1 : Int32) + (own_step z25 (0 : Int32) z1 z2)) + (own_step z26 (if z25 = (13 : Int32) then (1 : Int32) else (0 : Int32)) z1 z2)), .unset, .unset, .unset, .unset] [(.int (13 : Int32)), (.int z26), (.int z27), (.int (((1 : Int32) + (own_step z25 (0 : Int32) z1 z2)) + (own_step z26 (if z25 = (13 : Int32) then (1 : Int32) else (0 : Int32)) z1 z2)))]))
    refine own_go (B := T29.setTop (mkF m 122 #[iv pb1, iv pb2, iv pc1, iv pc2, iv pc3, iv z1, iv z2, rv b3, rv b6, iv z25, iv z26, iv z27, iv ((1 : Int32) + (own_step z25 (0 : Int32) z1 z2)), iv (((1 : Int32) + (own_step z25 (0 : Int32) z1 z2)) + (own_step z26 (if z25 = (13 : Int32) then (1 : Int32) else (0 : Int32)) z1 z2)), .unset, .unset, .unset, .unset] [(.int (if z26 = (13 : Int32) then (1 : Int32) else (0 : Int32))), (.int z27), (.int (((1 : Int32) + (own_step z25 (0 : Int32) z1 z2)) + (own_step z26 (if z25 = (13 : Int32) then (1 : Int32) else (0 : Int32)) z1 z2)))])) (fun t_ k_ => ?_) ?_
    · by_cases hm114 : z26 = (13 : Int32)
      · rw [if_pos hm114] at k_; exact XS.icmpNo X29.here hx rfl (hb hby at_114) rfl (teq hm114).2 (XS.iconst X29.here hx rfl (hb hby at_117) (XS.goto X29.here hx rfl (pc0 := 118) (pc' := 122) rfl (hb hby at_118) (by decide) (by decide) k_))
      · rw [if_neg hm114] at k_; exact XS.icmpYes X29.here hx rfl (pc0 := 114) (pc' := 121) rfl (hb hby at_114) rfl (feq hm114).2 (by decide) (by decide) (XS.iconst X29.here hx rfl (hb hby at_121) k_)
    show OwnFin p e below s _ _ _ (T29.setTop (mkF m 122 #[iv pb1, iv pb2, iv pc1, iv pc2, iv pc3, iv z1, iv z2, rv b3, rv b6, iv z25, iv z26, iv z27, iv ((1 : Int32) + (own_step z25 (0 : Int32) z1 z2)), iv (((1 : Int32) + (own_step z25 (0 : Int32) z1 z2)) + (own_step z26 (if z25 = (13 : Int32) then (1 : Int32) else (0 : Int32)) z1 z2)), .unset, .unset, .unset, .unset] [(.int (if z26 = (13 : Int32) then (1 : Int32) else (0 : Int32))), (.int z27), (.int (((1 : Int32) + (own_step z25 (0 : Int32) z1 z2)) + (own_step z26 (if z25 = (13 : Int32) then (1 : Int32) else (0 : Int32)) z1 z2)))]))
    refine own_go (fun t_ k_ => XS.iload X29.here hx rfl (hb hby at_122) rfl k_) ?_
    show OwnFin p e below s _ _ _ (T29.setTop (mkF m 124 #[iv pb1, iv pb2, iv pc1, iv pc2, iv pc3, iv z1, iv z2, rv b3, rv b6, iv z25, iv z26, iv z27, iv ((1 : Int32) + (own_step z25 (0 : Int32) z1 z2)), iv (((1 : Int32) + (own_step z25 (0 : Int32) z1 z2)) + (own_step z26 (if z25 = (13 : Int32) then (1 : Int32) else (0 : Int32)) z1 z2)), .unset, .unset, .unset, .unset] [(.int z1), (.int (if z26 = (13 : Int32) then (1 : Int32) else (0 : Int32))), (.int z27), (.int (((1 : Int32) + (own_step z25 (0 : Int32) z1 z2)) + (own_step z26 (if z25 = (13 : Int32) then (1 : Int32) else (0 : Int32)) z1 z2)))]))
    refine own_go (fun t_ k_ => XS.iload X29.here hx rfl (hb hby at_124) rfl k_) ?_
    show OwnFin p e below s _ _ _ (T29.setTop (mkF m 126 #[iv pb1, iv pb2, iv pc1, iv pc2, iv pc3, iv z1, iv z2, rv b3, rv b6, iv z25, iv z26, iv z27, iv ((1 : Int32) + (own_step z25 (0 : Int32) z1 z2)), iv (((1 : Int32) + (own_step z25 (0 : Int32) z1 z2)) + (own_step z26 (if z25 = (13 : Int32) then (1 : Int32) else (0 : Int32)) z1 z2)), .unset, .unset, .unset, .unset] [(.int z2), (.int z1), (.int (if z26 = (13 : Int32) then (1 : Int32) else (0 : Int32))), (.int z27), (.int (((1 : Int32) + (own_step z25 (0 : Int32) z1 z2)) + (own_step z26 (if z25 = (13 : Int32) then (1 : Int32) else (0 : Int32)) z1 z2)))]))
    obtain ⟨v30, T30, L30, X30, hQ30, st30⟩ := own_callS X29 hx hZ (y := (⟨"com/example/argweave/argweave/LineCounterPassPinLaw", "step", "(CZCC)I"⟩ : MethodName)) hown (hw _ (List.mem_of_getElem? (i := 47) rfl)) (hw _ (List.mem_of_getElem? (i := 48) rfl)) (hw _ (List.mem_of_getElem? (i := 2) rfl)) (hw _ (List.mem_of_getElem? (i := 49) rfl)) (by decide) (W := 1) (rm9 l Z a0 hw [] z27 (if z26 = (13 : Int32) then (1 : Int32) else (0 : Int32)) z1 z2 T24.heap n0 Z24) (by decide) (by decide) (g := (mkF m 126 #[iv pb1, iv pb2, iv pc1, iv pc2, iv pc3, iv z1, iv z2, rv b3, rv b6, iv z25, iv z26, iv z27, iv ((1 : Int32) + (own_step z25 (0 : Int32) z1 z2)), iv (((1 : Int32) + (own_step z25 (0 : Int32) z1 z2)) + (own_step z26 (if z25 = (13 : Int32) then (1 : Int32) else (0 : Int32)) z1 z2)), .unset, .unset, .unset, .unset] [(.int z2), (.int z1), (.int (if z26 = (13 : Int32) then (1 : Int32) else (0 : Int32))), (.int z27), (.int (((1 : Int32) + (own_step z25 (0 : Int32) z1 z2)) + (own_step z26 (if z25 = (13 : Int32) then (1 : Int32) else (0 : Int32)) z1 z2)))])) rfl (by rw [hml]; rfl) (argsL := [(.int z27), (.int (if z26 = (13 : Int32) then (1 : Int32) else (0 : Int32))), (.int z1), (.int z2)]) (rest := [(.int (((1 : Int32) + (own_step z25 (0 : Int32) z1 z2)) + (own_step z26 (if z25 = (13 : Int32) then (1 : Int32) else (0 : Int32)) z1 z2)))]) (lenOf pd_0_8 rfl) rfl (by show 2 * 0 + _ ≤ _; exact Nat.le_of_eq rfl) (hb hby at_126) e29 rfl (by decide) (by decide)
    obtain ⟨rfl, Nq30, e30⟩ := hQ30
    have N30 := Fr.app N29 Nq30
    refine own_go st30 ?_
    show OwnFin p e below s _ _ _ (T30.setTop (mkF m 129 #[iv pb1, iv pb2, iv pc1, iv pc2, iv pc3, iv z1, iv z2, rv b3, rv b6, iv z25, iv z26, iv z27, iv ((1 : Int32) + (own_step z25 (0 : Int32) z1 z2)), iv (((1 : Int32) + (own_step z25 (0 : Int32) z1 z2)) + (own_step z26 (if z25 = (13 : Int32) then (1 : Int32) else (0 : Int32)) z1 z2)), .unset, .unset, .unset, .unset] [(.int (own_step z27 (if z26 = (13 : Int32) then (1 : Int32) else (0 : Int32)) z1 z2)), (.int (((1 : Int32) + (own_step z25 (0 : Int32) z1 z2)) + (own_step z26 (if z25 = (13 : Int32) then (1 : Int32) else (0 : Int32)) z1 z2)))]))
    refine own_go (fun t_ k_ => XS.iadd X30.here hx rfl (hb hby at_129) rfl k_) ?_
    show OwnFin p e below s _ _ _ (T30.setTop (mkF m 130 #[iv pb1, iv pb2, iv pc1, iv pc2, iv pc3, iv z1, iv z2, rv b3, rv b6, iv z25, iv z26, iv z27, iv ((1 : Int32) + (own_step z25 (0 : Int32) z1 z2)), iv (((1 : Int32) + (own_step z25 (0 : Int32) z1 z2)) + (own_step z26 (if z25 = (13 : Int32) then (1 : Int32) else (0 : Int32)) z1 z2)), .unset, .unset, .unset, .unset] [(.int ((((1 : Int32) + (own_step z25 (0 : Int32) z1 z2)) + (own_step z26 (if z25 = (13 : Int32) then (1 : Int32) else (0 : Int32)) z1 z2)) + (own_step z27 (if z26 = (13 : Int32) then (1 : Int32) else (0 : Int32)) z1 z2)))]))
    refine own_go (fun t_ k_ => XS.istore X30.here hx rfl (hb hby at_130) rfl (l' := #[iv pb1, iv pb2, iv pc1, iv pc2, iv pc3, iv z1, iv z2, rv b3, rv b6, iv z25, iv z26, iv z27, iv ((1 : Int32) + (own_step z25 (0 : Int32) z1 z2)), iv (((1 : Int32) + (own_step z25 (0 : Int32) z1 z2)) + (own_step z26 (if z25 = (13 : Int32) then (1 : Int32) else (0 : Int32)) z1 z2)), iv ((((1 : Int32) + (own_step z25 (0 : Int32) z1 z2)) + (own_step z26 (if z25 = (13 : Int32) then (1 : Int32) else (0 : Int32)) z1 z2)) + (own_step z27 (if z26 = (13 : Int32) then (1 : Int32) else (0 : Int32)) z1 z2)), .unset, .unset, .unset]) rfl k_) ?_
    show OwnFin p e below s _ _ _ (T30.setTop (mkF m 132 #[iv pb1, iv pb2, iv pc1, iv pc2, iv pc3, iv z1, iv z2, rv b3, rv b6, iv z25, iv z26, iv z27, iv ((1 : Int32) + (own_step z25 (0 : Int32) z1 z2)), iv (((1 : Int32) + (own_step z25 (0 : Int32) z1 z2)) + (own_step z26 (if z25 = (13 : Int32) then (1 : Int32) else (0 : Int32)) z1 z2)), iv ((((1 : Int32) + (own_step z25 (0 : Int32) z1 z2)) + (own_step z26 (if z25 = (13 : Int32) then (1 : Int32) else (0 : Int32)) z1 z2)) + (own_step z27 (if z26 = (13 : Int32) then (1 : Int32) else (0 : Int32)) z1 z2)), .unset, .unset, .unset] []))
    refine own_go (fun t_ k_ => XS.aload X30.here hx rfl (hb hby at_132) rfl rfl k_) ?_
    show OwnFin p e below s _ _ _ (T30.setTop (mkF m 134 #[iv pb1, iv pb2, iv pc1, iv pc2, iv pc3, iv z1, iv z2, rv b3, rv b6, iv z25, iv z26, iv z27, iv ((1 : Int32) + (own_step z25 (0 : Int32) z1 z2)), iv (((1 : Int32) + (own_step z25 (0 : Int32) z1 z2)) + (own_step z26 (if z25 = (13 : Int32) then (1 : Int32) else (0 : Int32)) z1 z2)), iv ((((1 : Int32) + (own_step z25 (0 : Int32) z1 z2)) + (own_step z26 (if z25 = (13 : Int32) then (1 : Int32) else (0 : Int32)) z1 z2)) + (own_step z27 (if z26 = (13 : Int32) then (1 : Int32) else (0 : Int32)) z1 z2)), .unset, .unset, .unset] [(.ref b6)]))
    refine own_go (fun t_ k_ => XS.iload X30.here hx rfl (hb hby at_134) rfl k_) ?_
    show OwnFin p e below s _ _ _ (T30.setTop (mkF m 136 #[iv pb1, iv pb2, iv pc1, iv pc2, iv pc3, iv z1, iv z2, rv b3, rv b6, iv z25, iv z26, iv z27, iv ((1 : Int32) + (own_step z25 (0 : Int32) z1 z2)), iv (((1 : Int32) + (own_step z25 (0 : Int32) z1 z2)) + (own_step z26 (if z25 = (13 : Int32) then (1 : Int32) else (0 : Int32)) z1 z2)), iv ((((1 : Int32) + (own_step z25 (0 : Int32) z1 z2)) + (own_step z26 (if z25 = (13 : Int32) then (1 : Int32) else (0 : Int32)) z1 z2)) + (own_step z27 (if z26 = (13 : Int32) then (1 : Int32) else (0 : Int32)) z1 z2)), .unset, .unset, .unset] [(.int z25), (.ref b6)]))
    obtain ⟨v31, T31, L31, X31, hQ31, st31⟩ := own_callV X30 hx hZ (y := (⟨"com/example/argweave/argweave/LineCounter", "pass", "(C)V"⟩ : MethodName)) (z := (⟨"com/example/argweave/argweave/LineCounter", "pass", "(C)V"⟩ : MethodName)) hown (hw _ (List.mem_of_getElem? (i := 50) rfl)) (hw _ (List.mem_of_getElem? (i := 51) rfl)) (notFace_of_selects (args := #[]) (mvT hZ (hw _ (List.mem_of_getElem? (i := 53) rfl)))) (hw _ (List.mem_of_getElem? (i := 53) rfl)) (hw _ (List.mem_of_getElem? (i := 52) rfl)) (hw _ (List.mem_of_getElem? (i := 7) rfl)) (hw _ (List.mem_of_getElem? (i := 54) rfl)) (by decide) (W := 0) (rm10_U l Z a0 hw [] b6 z25 b7 bs23 z1 z2 (1 : Int32) (0 : Int32) zc fm T24.heap n0 Z24 Eq24 Fq24_0 Fq24_1 Fq24_2 Fq24_3 g_b6 E_b7_24 Fv23_24 Fc23_24 Vq23_24 hz25 hpx hpy  ne_b6_b7 ne_b6_bs23 hzc hfm S_cs S_as S_hi S_lo S_fm OL_24) (by decide) (by decide) Eq24 (g := (mkF m 136 #[iv pb1, iv pb2, iv pc1, iv pc2, iv pc3, iv z1, iv z2, rv b3, rv b6, iv z25, iv z26, iv z27, iv ((1 : Int32) + (own_step z25 (0 : Int32) z1 z2)), iv (((1 : Int32) + (own_step z25 (0 : Int32) z1 z2)) + (own_step z26 (if z25 = (13 : Int32) then (1 : Int32) else (0 : Int32)) z1 z2)), iv ((((1 : Int32) + (own_step z25 (0 : Int32) z1 z2)) + (own_step z26 (if z25 = (13 : Int32) then (1 : Int32) else (0 : Int32)) z1 z2)) + (own_step z27 (if z26 = (13 : Int32) then (1 : Int32) else (0 : Int32)) z1 z2)), .unset, .unset, .unset] [(.int z25), (.ref b6)])) rfl (by rw [hml]; rfl) (argsL := [(.int z25)]) (rest := []) (lenOf pd_0_9 rfl) rfl (by show 2 * 0 + _ ≤ _; exact Nat.le_of_eq rfl) (hb hby at_136) e30 rfl (by decide) (by decide)
    obtain ⟨rfl, Nq31, Kq31, Fl31, Fc31, Fb31, Fa31⟩ := hQ31
    have N31 := Fr.app N30 Nq31
    have OL_31 := OL_24.keep Kq31 (allS g_b6 all0)
    have V_b3_31 := V_b3_24.keep Kq31 (ninS ne_b3_b6 nin0)
    have E_b6_31 := Eq24.keep Kq31
    have E_b7_31 := E_b7_24.keep Kq31
    have Fc23_31 := Fc23_24.keep Kq31 (ninS (Ne.symm ne_b6_b7) nin0)
    have Fv23_31 := Fv23_24.keep Kq31 (ninS (Ne.symm ne_b6_b7) nin0)
    have Vq23_31 := Vq23_24.keep Kq31 (ninS (Ne.symm ne_b6_bs23) nin0)
    have Z31 : n0 ≤ T31.heap.size := Nat.le_trans Z24 Kq31.1
    refine own_go st31 ?_
    show OwnFin p e below s _ _ _ (T31.setTop (mkF m 139 #[iv pb1, iv pb2, iv pc1, iv pc2, iv pc3, iv z1, iv z2, rv b3, rv b6, iv z25, iv z26, iv z27, iv ((1 : Int32) + (own_step z25 (0 : Int32) z1 z2)), iv (((1 : Int32) + (own_step z25 (0 : Int32) z1 z2)) + (own_step z26 (if z25 = (13 : Int32) then (1 : Int32) else (0 : Int32)) z1 z2)), iv ((((1 : Int32) + (own_step z25 (0 : Int32) z1 z2)) + (own_step z26 (if z25 = (13 : Int32) then (1 : Int32) else (0 : Int32)) z1 z2)) + (own_step z27 (if z26 = (13 : Int32) then (1 : Int32) else (0 : Int32)) z1 z2)), .unset, .unset, .unset] []))
    refine own_go (fun t_ k_ => XS.aload X31.here hx rfl (hb hby at_139) rfl rfl k_) ?_
    show OwnFin p e below s _ _ _ (T31.setTop (mkF m 141 #[iv pb1, iv pb2, iv pc1, iv pc2, iv pc3, iv z1, iv z2, rv b3, rv b6, iv z25, iv z26, iv z27, iv ((1 : Int32) + (own_step z25 (0 : Int32) z1 z2)), iv (((1 : Int32) + (own_step z25 (0 : Int32) z1 z2)) + (own_step z26 (if z25 = (13 : Int32) then (1 : Int32) else (0 : Int32)) z1 z2)), iv ((((1 : Int32) + (own_step z25 (0 : Int32) z1 z2)) + (own_step z26 (if z25 = (13 : Int32) then (1 : Int32) else (0 : Int32)) z1 z2)) + (own_step z27 (if z26 = (13 : Int32) then (1 : Int32) else (0 : Int32)) z1 z2)), .unset, .unset, .unset] [(.ref b6)]))
    obtain ⟨v32, T32, L32, X32, hQ32, st32⟩ := own_callV X31 hx hZ (y := (⟨"com/example/argweave/argweave/LineCounter", "line", "()I"⟩ : MethodName)) (z := (⟨"com/example/argweave/argweave/LineCounter", "line", "()I"⟩ : MethodName)) hown (hw _ (List.mem_of_getElem? (i := 99) rfl)) (hw _ (List.mem_of_getElem? (i := 100) rfl)) (notFace_of_selects (args := #[]) (mvT hZ (hw _ (List.mem_of_getElem? (i := 102) rfl)))) (hw _ (List.mem_of_getElem? (i := 102) rfl)) (hw _ (List.mem_of_getElem? (i := 101) rfl)) (hw _ (List.mem_of_getElem? (i := 7) rfl)) (hw _ (List.mem_of_getElem? (i := 103) rfl)) (by decide) (W := 0) (rm21 l Z a0 hw [] b6 T31.heap n0 Z31 Fl31) (by decide) (by decide) E_b6_31 (g := (mkF m 141 #[iv pb1, iv pb2, iv pc1, iv pc2, iv pc3, iv z1, iv z2, rv b3, rv b6, iv z25, iv z26, iv z27, iv ((1 : Int32) + (own_step z25 (0 : Int32) z1 z2)), iv (((1 : Int32) + (own_step z25 (0 : Int32) z1 z2)) + (own_step z26 (if z25 = (13 : Int32) then (1 : Int32) else (0 : Int32)) z1 z2)), iv ((((1 : Int32) + (own_step z25 (0 : Int32) z1 z2)) + (own_step z26 (if z25 = (13 : Int32) then (1 : Int32) else (0 : Int32)) z1 z2)) + (own_step z27 (if z26 = (13 : Int32) then (1 : Int32) else (0 : Int32)) z1 z2)), .unset, .unset, .unset] [(.ref b6)])) rfl (by rw [hml]; rfl) (argsL := []) (rest := []) (lenOf pd_0_13 rfl) rfl (by show 2 * 0 + _ ≤ _; exact Nat.le_of_eq rfl) (hb hby at_141) rfl rfl (by decide) (by decide)
    obtain ⟨rfl, Nq32, e32⟩ := hQ32
    have N32 := Fr.app N31 Nq32
    refine own_go st32 ?_
    show OwnFin p e below s _ _ _ (T32.setTop (mkF m 144 #[iv pb1, iv pb2, iv pc1, iv pc2, iv pc3, iv z1, iv z2, rv b3, rv b6, iv z25, iv z26, iv z27, iv ((1 : Int32) + (own_step z25 (0 : Int32) z1 z2)), iv (((1 : Int32) + (own_step z25 (0 : Int32) z1 z2)) + (own_step z26 (if z25 = (13 : Int32) then (1 : Int32) else (0 : Int32)) z1 z2)), iv ((((1 : Int32) + (own_step z25 (0 : Int32) z1 z2)) + (own_step z26 (if z25 = (13 : Int32) then (1 : Int32) else (0 : Int32)) z1 z2)) + (own_step z27 (if z26 = (13 : Int32) then (1 : Int32) else (0 : Int32)) z1 z2)), .unset, .unset, .unset] [(.int ((1 : Int32) + (own_step z25 (0 : Int32) z1 z2)))]))
    refine own_go (fun t_ k_ => XS.istore X32.here hx rfl (hb hby at_144) rfl (l' := #[iv pb1, iv pb2, iv pc1, iv pc2, iv pc3, iv z1, iv z2, rv b3, rv b6, iv z25, iv z26, iv z27, iv ((1 : Int32) + (own_step z25 (0 : Int32) z1 z2)), iv (((1 : Int32) + (own_step z25 (0 : Int32) z1 z2)) + (own_step z26 (if z25 = (13 : Int32) then (1 : Int32) else (0 : Int32)) z1 z2)), iv ((((1 : Int32) + (own_step z25 (0 : Int32) z1 z2)) + (own_step z26 (if z25 = (13 : Int32) then (1 : Int32) else (0 : Int32)) z1 z2)) + (own_step z27 (if z26 = (13 : Int32) then (1 : Int32) else (0 : Int32)) z1 z2)), iv ((1 : Int32) + (own_step z25 (0 : Int32) z1 z2)), .unset, .unset]) rfl k_) ?_
    show OwnFin p e below s _ _ _ (T32.setTop (mkF m 146 #[iv pb1, iv pb2, iv pc1, iv pc2, iv pc3, iv z1, iv z2, rv b3, rv b6, iv z25, iv z26, iv z27, iv ((1 : Int32) + (own_step z25 (0 : Int32) z1 z2)), iv (((1 : Int32) + (own_step z25 (0 : Int32) z1 z2)) + (own_step z26 (if z25 = (13 : Int32) then (1 : Int32) else (0 : Int32)) z1 z2)), iv ((((1 : Int32) + (own_step z25 (0 : Int32) z1 z2)) + (own_step z26 (if z25 = (13 : Int32) then (1 : Int32) else (0 : Int32)) z1 z2)) + (own_step z27 (if z26 = (13 : Int32) then (1 : Int32) else (0 : Int32)) z1 z2)), iv ((1 : Int32) + (own_step z25 (0 : Int32) z1 z2)), .unset, .unset] []))
    refine own_go (fun t_ k_ => XS.aload X32.here hx rfl (hb hby at_146) rfl rfl k_) ?_
    show OwnFin p e below s _ _ _ (T32.setTop (mkF m 148 #[iv pb1, iv pb2, iv pc1, iv pc2, iv pc3, iv z1, iv z2, rv b3, rv b6, iv z25, iv z26, iv z27, iv ((1 : Int32) + (own_step z25 (0 : Int32) z1 z2)), iv (((1 : Int32) + (own_step z25 (0 : Int32) z1 z2)) + (own_step z26 (if z25 = (13 : Int32) then (1 : Int32) else (0 : Int32)) z1 z2)), iv ((((1 : Int32) + (own_step z25 (0 : Int32) z1 z2)) + (own_step z26 (if z25 = (13 : Int32) then (1 : Int32) else (0 : Int32)) z1 z2)) + (own_step z27 (if z26 = (13 : Int32) then (1 : Int32) else (0 : Int32)) z1 z2)), iv ((1 : Int32) + (own_step z25 (0 : Int32) z1 z2)), .unset, .unset] [(.ref b6)]))
    refine own_go (fun t_ k_ => XS.iload X32.here hx rfl (hb hby at_148) rfl k_) ?_
    show OwnFin p e below s _ _ _ (T32.setTop (mkF m 150 #[iv pb1, iv pb2, iv pc1, iv pc2, iv pc3, iv z1, iv z2, rv b3, rv b6, iv z25, iv z26, iv z27, iv ((1 : Int32) + (own_step z25 (0 : Int32) z1 z2)), iv (((1 : Int32) + (own_step z25 (0 : Int32) z1 z2)) + (own_step z26 (if z25 = (13 : Int32) then (1 : Int32) else (0 : Int32)) z1 z2)), iv ((((1 : Int32) + (own_step z25 (0 : Int32) z1 z2)) + (own_step z26 (if z25 = (13 : Int32) then (1 : Int32) else (0 : Int32)) z1 z2)) + (own_step z27 (if z26 = (13 : Int32) then (1 : Int32) else (0 : Int32)) z1 z2)), iv ((1 : Int32) + (own_step z25 (0 : Int32) z1 z2)), .unset, .unset] [(.int z26), (.ref b6)]))
    obtain ⟨v33, T33, L33, X33, hQ33, st33⟩ := own_callV X32 hx hZ (y := (⟨"com/example/argweave/argweave/LineCounter", "pass", "(C)V"⟩ : MethodName)) (z := (⟨"com/example/argweave/argweave/LineCounter", "pass", "(C)V"⟩ : MethodName)) hown (hw _ (List.mem_of_getElem? (i := 50) rfl)) (hw _ (List.mem_of_getElem? (i := 51) rfl)) (notFace_of_selects (args := #[]) (mvT hZ (hw _ (List.mem_of_getElem? (i := 53) rfl)))) (hw _ (List.mem_of_getElem? (i := 53) rfl)) (hw _ (List.mem_of_getElem? (i := 52) rfl)) (hw _ (List.mem_of_getElem? (i := 7) rfl)) (hw _ (List.mem_of_getElem? (i := 54) rfl)) (by decide) (W := 0) (rm10_U l Z a0 hw [] b6 z26 b7 bs23 z1 z2 ((1 : Int32) + (own_step z25 (0 : Int32) z1 z2)) (if z25 = (13 : Int32) then (1 : Int32) else (0 : Int32)) zc fm T31.heap n0 Z31 E_b6_31 Fl31 Fc31 Fb31 Fa31 g_b6 E_b7_31 Fv23_31 Fc23_31 Vq23_31 hz26 hpx hpy  ne_b6_b7 ne_b6_bs23 hzc hfm S_cs S_as S_hi S_lo S_fm OL_31) (by decide) (by decide) E_b6_31 (g := (mkF m 150 #[iv pb1, iv pb2, iv pc1, iv pc2, iv pc3, iv z1, iv z2, rv b3, rv b6, iv z25, iv z26, iv z27, iv ((1 : Int32) + (own_step z25 (0 : Int32) z1 z2)), iv (((1 : Int32) + (own_step z25 (0 : Int32) z1 z2)) + (own_step z26 (if z25 = (13 : Int32) then (1 : Int32) else (0 : Int32)) z1 z2)), iv ((((1 : Int32) + (own_step z25 (0 : Int32) z1 z2)) + (own_step z26 (if z25 = (13 : Int32) then (1 : Int32) else (0 : Int32)) z1 z2)) + (own_step z27 (if z26 = (13 : Int32) then (1 : Int32) else (0 : Int32)) z1 z2)), iv ((1 : Int32) + (own_step z25 (0 : Int32) z1 z2)), .unset, .unset] [(.int z26), (.ref b6)])) rfl (by rw [hml]; rfl) (argsL := [(.int z26)]) (rest := []) (lenOf pd_0_9 rfl) rfl (by show 2 * 0 + _ ≤ _; exact Nat.le_of_eq rfl) (hb hby at_150) e32 rfl (by decide) (by decide)
    obtain ⟨rfl, Nq33, Kq33, Fl33, Fc33, Fb33, Fa33⟩ := hQ33
    have N33 := Fr.app N32 Nq33
    have OL_33 := OL_31.keep Kq33 (allS g_b6 all0)
    have V_b3_33 := V_b3_31.keep Kq33 (ninS ne_b3_b6 nin0)
    have E_b6_33 := E_b6_31.keep Kq33
    have E_b7_33 := E_b7_31.keep Kq33
    have Fc23_33 := Fc23_31.keep Kq33 (ninS (Ne.symm ne_b6_b7) nin0)
    have Fv23_33 := Fv23_31.keep Kq33 (ninS (Ne.symm ne_b6_b7) nin0)
    have Vq23_33 := Vq23_31.keep Kq33 (ninS (Ne.symm ne_b6_bs23) nin0)
    have Z33 : n0 ≤ T33.heap.size := Nat.le_trans Z31 Kq33.1
    refine own_go st33 ?_
    show OwnFin p e below s _ _ _ (T33.setTop (mkF m 153 #[iv pb1, iv pb2, iv pc1, iv pc2, iv pc3, iv z1, iv z2, rv b3, rv b6, iv z25, iv z26, iv z27, iv ((1 : Int32) + (own_step z25 (0 : Int32) z1 z2)), iv (((1 : Int32) + (own_step z25 (0 : Int32) z1 z2)) + (own_step z26 (if z25 = (13 : Int32) then (1 : Int32) else (0 : Int32)) z1 z2)), iv ((((1 : Int32) + (own_step z25 (0 : Int32) z1 z2)) + (own_step z26 (if z25 = (13 : Int32) then (1 : Int32) else (0 : Int32)) z1 z2)) + (own_step z27 (if z26 = (13 : Int32) then (1 : Int32) else (0 : Int32)) z1 z2)), iv ((1 : Int32) + (own_step z25 (0 : Int32) z1 z2)), .unset, .unset] []))
    refine own_go (fun t_ k_ => XS.aload X33.here hx rfl (hb hby at_153) rfl rfl k_) ?_
    show OwnFin p e below s _ _ _ (T33.setTop (mkF m 155 #[iv pb1, iv pb2, iv pc1, iv pc2, iv pc3, iv z1, iv z2, rv b3, rv b6, iv z25, iv z26, iv z27, iv ((1 : Int32) + (own_step z25 (0 : Int32) z1 z2)), iv (((1 : Int32) + (own_step z25 (0 : Int32) z1 z2)) + (own_step z26 (if z25 = (13 : Int32) then (1 : Int32) else (0 : Int32)) z1 z2)), iv ((((1 : Int32) + (own_step z25 (0 : Int32) z1 z2)) + (own_step z26 (if z25 = (13 : Int32) then (1 : Int32) else (0 : Int32)) z1 z2)) + (own_step z27 (if z26 = (13 : Int32) then (1 : Int32) else (0 : Int32)) z1 z2)), iv ((1 : Int32) + (own_step z25 (0 : Int32) z1 z2)), .unset, .unset] [(.ref b6)]))
    obtain ⟨v34, T34, L34, X34, hQ34, st34⟩ := own_callV X33 hx hZ (y := (⟨"com/example/argweave/argweave/LineCounter", "line", "()I"⟩ : MethodName)) (z := (⟨"com/example/argweave/argweave/LineCounter", "line", "()I"⟩ : MethodName)) hown (hw _ (List.mem_of_getElem? (i := 99) rfl)) (hw _ (List.mem_of_getElem? (i := 100) rfl)) (notFace_of_selects (args := #[]) (mvT hZ (hw _ (List.mem_of_getElem? (i := 102) rfl)))) (hw _ (List.mem_of_getElem? (i := 102) rfl)) (hw _ (List.mem_of_getElem? (i := 101) rfl)) (hw _ (List.mem_of_getElem? (i := 7) rfl)) (hw _ (List.mem_of_getElem? (i := 103) rfl)) (by decide) (W := 0) (rm21 l Z a0 hw [] b6 T33.heap n0 Z33 Fl33) (by decide) (by decide) E_b6_33 (g := (mkF m 155 #[iv pb1, iv pb2, iv pc1, iv pc2, iv pc3, iv z1, iv z2, rv b3, rv b6, iv z25, iv z26, iv z27, iv ((1 : Int32) + (own_step z25 (0 : Int32) z1 z2)), iv (((1 : Int32) + (own_step z25 (0 : Int32) z1 z2)) + (own_step z26 (if z25 = (13 : Int32) then (1 : Int32) else (0 : Int32)) z1 z2)), iv ((((1 : Int32) + (own_step z25 (0 : Int32) z1 z2)) + (own_step z26 (if z25 = (13 : Int32) then (1 : Int32) else (0 : Int32)) z1 z2)) + (own_step z27 (if z26 = (13 : Int32) then (1 : Int32) else (0 : Int32)) z1 z2)), iv ((1 : Int32) + (own_step z25 (0 : Int32) z1 z2)), .unset, .unset] [(.ref b6)])) rfl (by rw [hml]; rfl) (argsL := []) (rest := []) (lenOf pd_0_13 rfl) rfl (by show 2 * 0 + _ ≤ _; exact Nat.le_of_eq rfl) (hb hby at_155) rfl rfl (by decide) (by decide)
    obtain ⟨rfl, Nq34, e34⟩ := hQ34
    have N34 := Fr.app N33 Nq34
    refine own_go st34 ?_
    show OwnFin p e below s _ _ _ (T34.setTop (mkF m 158 #[iv pb1, iv pb2, iv pc1, iv pc2, iv pc3, iv z1, iv z2, rv b3, rv b6, iv z25, iv z26, iv z27, iv ((1 : Int32) + (own_step z25 (0 : Int32) z1 z2)), iv (((1 : Int32) + (own_step z25 (0 : Int32) z1 z2)) + (own_step z26 (if z25 = (13 : Int32) then (1 : Int32) else (0 : Int32)) z1 z2)), iv ((((1 : Int32) + (own_step z25 (0 : Int32) z1 z2)) + (own_step z26 (if z25 = (13 : Int32) then (1 : Int32) else (0 : Int32)) z1 z2)) + (own_step z27 (if z26 = (13 : Int32) then (1 : Int32) else (0 : Int32)) z1 z2)), iv ((1 : Int32) + (own_step z25 (0 : Int32) z1 z2)), .unset, .unset] [(.int (((1 : Int32) + (own_step z25 (0 : Int32) z1 z2)) + (own_step z26 (if z25 = (13 : Int32) then (1 : Int32) else (0 : Int32)) z1 z2)))]))
    refine own_go (fun t_ k_ => XS.istore X34.here hx rfl (hb hby at_158) rfl (l' := #[iv pb1, iv pb2, iv pc1, iv pc2, iv pc3, iv z1, iv z2, rv b3, rv b6, iv z25, iv z26, iv z27, iv ((1 : Int32) + (own_step z25 (0 : Int32) z1 z2)), iv (((1 : Int32) + (own_step z25 (0 : Int32) z1 z2)) + (own_step z26 (if z25 = (13 : Int32) then (1 : Int32) else (0 : Int32)) z1 z2)), iv ((((1 : Int32) + (own_step z25 (0 : Int32) z1 z2)) + (own_step z26 (if z25 = (13 : Int32) then (1 : Int32) else (0 : Int32)) z1 z2)) + (own_step z27 (if z26 = (13 : Int32) then (1 : Int32) else (0 : Int32)) z1 z2)), iv ((1 : Int32) + (own_step z25 (0 : Int32) z1 z2)), iv (((1 : Int32) + (own_step z25 (0 : Int32) z1 z2)) + (own_step z26 (if z25 = (13 : Int32) then (1 : Int32) else (0 : Int32)) z1 z2)), .unset]) rfl k_) ?_
    show OwnFin p e below s _ _ _ (T34.setTop (mkF m 160 #[iv pb1, iv pb2, iv pc1, iv pc2, iv pc3, iv z1, iv z2, rv b3, rv b6, iv z25, iv z26, iv z27, iv ((1 : Int32) + (own_step z25 (0 : Int32) z1 z2)), iv (((1 : Int32) + (own_step z25 (0 : Int32) z1 z2)) + (own_step z26 (if z25 = (13 : Int32) then (1 : Int32) else (0 : Int32)) z1 z2)), iv ((((1 : Int32) + (own_step z25 (0 : Int32) z1 z2)) + (own_step z26 (if z25 = (13 : Int32) then (1 : Int32) else (0 : Int32)) z1 z2)) + (own_step z27 (if z26 = (13 : Int32) then (1 : Int32) else (0 : Int32)) z1 z2)), iv ((1 : Int32) + (own_step z25 (0 : Int32) z1 z2)), iv (((1 : Int32) + (own_step z25 (0 : Int32) z1 z2)) + (own_step z26 (if z25 = (13 : Int32) then (1 : Int32) else (0 : Int32)) z1 z2)), .unset] []))
    refine own_go (fun t_ k_ => XS.aload X34.here hx rfl (hb hby at_160) rfl rfl k_) ?_
    show OwnFin p e below s _ _ _ (T34.setTop (mkF m 162 #[iv pb1, iv pb2, iv pc1, iv pc2, iv pc3, iv z1, iv z2, rv b3, rv b6, iv z25, iv z26, iv z27, iv ((1 : Int32) + (own_step z25 (0 : Int32) z1 z2)), iv (((1 : Int32) + (own_step z25 (0 : Int32) z1 z2)) + (own_step z26 (if z25 = (13 : Int32) then (1 : Int32) else (0 : Int32)) z1 z2)), iv ((((1 : Int32) + (own_step z25 (0 : Int32) z1 z2)) + (own_step z26 (if z25 = (13 : Int32) then (1 : Int32) else (0 : Int32)) z1 z2)) + (own_step z27 (if z26 = (13 : Int32) then (1 : Int32) else (0 : Int32)) z1 z2)), iv ((1 : Int32) + (own_step z25 (0 : Int32) z1 z2)), iv (((1 : Int32) + (own_step z25 (0 : Int32) z1 z2)) + (own_step z26 (if z25 = (13 : Int32) then (1 : Int32) else (0 : Int32)) z1 z2)), .unset] [(.ref b6)]))
    refine own_go (fun t_ k_ => XS.iload X34.here hx rfl (hb hby at_162) rfl k_) ?_
    show OwnFin p e below s _ _ _ (T34.setTop (mkF m 164 #[iv pb1, iv pb2, iv pc1, iv pc2, iv pc3, iv z1, iv z2, rv b3, rv b6, iv z25, iv z26, iv z27, iv ((1 : Int32) + (own_step z25 (0 : Int32) z1 z2)), iv (((1 : Int32) + (own_step z25 (0 : Int32) z1 z2)) + (own_step z26 (if z25 = (13 : Int32) then (1 : Int32) else (0 : Int32)) z1 z2)), iv ((((1 : Int32) + (own_step z25 (0 : Int32) z1 z2)) + (own_step z26 (if z25 = (13 : Int32) then (1 : Int32) else (0 : Int32)) z1 z2)) + (own_step z27 (if z26 = (13 : Int32) then (1 : Int32) else (0 : Int32)) z1 z2)), iv ((1 : Int32) + (own_step z25 (0 : Int32) z1 z2)), iv (((1 : Int32) + (own_step z25 (0 : Int32) z1 z2)) + (own_step z26 (if z25 = (13 : Int32) then (1 : Int32) else (0 : Int32)) z1 z2)), .unset] [(.int z27), (.ref b6)]))
    obtain ⟨v35, T35, L35, X35, hQ35, st35⟩ := own_callV X34 hx hZ (y := (⟨"com/example/argweave/argweave/LineCounter", "pass", "(C)V"⟩ : MethodName)) (z := (⟨"com/example/argweave/argweave/LineCounter", "pass", "(C)V"⟩ : MethodName)) hown (hw _ (List.mem_of_getElem? (i := 50) rfl)) (hw _ (List.mem_of_getElem? (i := 51) rfl)) (notFace_of_selects (args := #[]) (mvT hZ (hw _ (List.mem_of_getElem? (i := 53) rfl)))) (hw _ (List.mem_of_getElem? (i := 53) rfl)) (hw _ (List.mem_of_getElem? (i := 52) rfl)) (hw _ (List.mem_of_getElem? (i := 7) rfl)) (hw _ (List.mem_of_getElem? (i := 54) rfl)) (by decide) (W := 0) (rm10_U l Z a0 hw [] b6 z27 b7 bs23 z1 z2 (((1 : Int32) + (own_step z25 (0 : Int32) z1 z2)) + (own_step z26 (if z25 = (13 : Int32) then (1 : Int32) else (0 : Int32)) z1 z2)) (if z26 = (13 : Int32) then (1 : Int32) else (0 : Int32)) zc fm T33.heap n0 Z33 E_b6_33 Fl33 Fc33 Fb33 Fa33 g_b6 E_b7_33 Fv23_33 Fc23_33 Vq23_33 hz27 hpx hpy  ne_b6_b7 ne_b6_bs23 hzc hfm S_cs S_as S_hi S_lo S_fm OL_33) (by decide) (by decide) E_b6_33 (g := (mkF m 164 #[iv pb1, iv pb2, iv pc1, iv pc2, iv pc3, iv z1, iv z2, rv b3, rv b6, iv z25, iv z26, iv z27, iv ((1 : Int32) + (own_step z25 (0 : Int32) z1 z2)), iv (((1 : Int32) + (own_step z25 (0 : Int32) z1 z2)) + (own_step z26 (if z25 = (13 : Int32) then (1 : Int32) else (0 : Int32)) z1 z2)), iv ((((1 : Int32) + (own_step z25 (0 : Int32) z1 z2)) + (own_step z26 (if z25 = (13 : Int32) then (1 : Int32) else (0 : Int32)) z1 z2)) + (own_step z27 (if z26 = (13 : Int32) then (1 : Int32) else (0 : Int32)) z1 z2)), iv ((1 : Int32) + (own_step z25 (0 : Int32) z1 z2)), iv (((1 : Int32) + (own_step z25 (0 : Int32) z1 z2)) + (own_step z26 (if z25 = (13 : Int32) then (1 : Int32) else (0 : Int32)) z1 z2)), .unset] [(.int z27), (.ref b6)])) rfl (by rw [hml]; rfl) (argsL := [(.int z27)]) (rest := []) (lenOf pd_0_9 rfl) rfl (by show 2 * 0 + _ ≤ _; exact Nat.le_of_eq rfl) (hb hby at_164) e34 rfl (by decide) (by decide)
    obtain ⟨rfl, Nq35, Kq35, Fl35, Fc35, Fb35, Fa35⟩ := hQ35
    have N35 := Fr.app N34 Nq35
    have OL_35 := OL_33.keep Kq35 (allS g_b6 all0)
    have V_b3_35 := V_b3_33.keep Kq35 (ninS ne_b3_b6 nin0)
    have E_b6_35 := E_b6_33.keep Kq35
    have E_b7_35 := E_b7_33.keep Kq35
    have Fc23_35 := Fc23_33.keep Kq35 (ninS (Ne.symm ne_b6_b7) nin0)
    have Fv23_35 := Fv23_33.keep Kq35 (ninS (Ne.symm ne_b6_b7) nin0)
    have Vq23_35 := Vq23_33.keep Kq35 (ninS (Ne.symm ne_b6_bs23) nin0)
    have Z35 : n0 ≤ T35.heap.size := Nat.le_trans Z33 Kq35.1
    refine own_go st35 ?_
    show OwnFin p e below s _ _ _ (T35.setTop (mkF m 167 #[iv pb1, iv pb2, iv pc1, iv pc2, iv pc3, iv z1, iv z2, rv b3, rv b6, iv z25, iv z26, iv z27, iv ((1 : Int32) + (own_step z25 (0 : Int32) z1 z2)), iv (((1 : Int32) + (own_step z25 (0 : Int32) z1 z2)) + (own_step z26 (if z25 = (13 : Int32) then (1 : Int32) else (0 : Int32)) z1 z2)), iv ((((1 : Int32) + (own_step z25 (0 : Int32) z1 z2)) + (own_step z26 (if z25 = (13 : Int32) then (1 : Int32) else (0 : Int32)) z1 z2)) + (own_step z27 (if z26 = (13 : Int32) then (1 : Int32) else (0 : Int32)) z1 z2)), iv ((1 : Int32) + (own_step z25 (0 : Int32) z1 z2)), iv (((1 : Int32) + (own_step z25 (0 : Int32) z1 z2)) + (own_step z26 (if z25 = (13 : Int32) then (1 : Int32) else (0 : Int32)) z1 z2)), .unset] []))
    refine own_go (fun t_ k_ => XS.aload X35.here hx rfl (hb hby at_167) rfl rfl k_) ?_
    show OwnFin p e below s _ _ _ (T35.setTop (mkF m 169 #[iv pb1, iv pb2, iv pc1, iv pc2, iv pc3, iv z1, iv z2, rv b3, rv b6, iv z25, iv z26, iv z27, iv ((1 : Int32) + (own_step z25 (0 : Int32) z1 z2)), iv (((1 : Int32) + (own_step z25 (0 : Int32) z1 z2)) + (own_step z26 (if z25 = (13 : Int32) then (1 : Int32) else (0 : Int32)) z1 z2)), iv ((((1 : Int32) + (own_step z25 (0 : Int32) z1 z2)) + (own_step z26 (if z25 = (13 : Int32) then (1 : Int32) else (0 : Int32)) z1 z2)) + (own_step z27 (if z26 = (13 : Int32) then (1 : Int32) else (0 : Int32)) z1 z2)), iv ((1 : Int32) + (own_step z25 (0 : Int32) z1 z2)), iv (((1 : Int32) + (own_step z25 (0 : Int32) z1 z2)) + (own_step z26 (if z25 = (13 : Int32) then (1 : Int32) else (0 : Int32)) z1 z2)), .unset] [(.ref b6)]))
    obtain ⟨v36, T36, L36, X36, hQ36, st36⟩ := own_callV X35 hx hZ (y := (⟨"com/example/argweave/argweave/LineCounter", "line", "()I"⟩ : MethodName)) (z := (⟨"com/example/argweave/argweave/LineCounter", "line", "()I"⟩ : MethodName)) hown (hw _ (List.mem_of_getElem? (i := 99) rfl)) (hw _ (List.mem_of_getElem? (i := 100) rfl)) (notFace_of_selects (args := #[]) (mvT hZ (hw _ (List.mem_of_getElem? (i := 102) rfl)))) (hw _ (List.mem_of_getElem? (i := 102) rfl)) (hw _ (List.mem_of_getElem? (i := 101) rfl)) (hw _ (List.mem_of_getElem? (i := 7) rfl)) (hw _ (List.mem_of_getElem? (i := 103) rfl)) (by decide) (W := 0) (rm21 l Z a0 hw [] b6 T35.heap n0 Z35 Fl35) (by decide) (by decide) E_b6_35 (g := (mkF m 169 #[iv pb1, iv pb2, iv pc1, iv pc2, iv pc3, iv z1, iv z2, rv b3, rv b6, iv z25, iv z26, iv z27, iv ((1 : Int32) + (own_step z25 (0 : Int32) z1 z2)), iv (((1 : Int32) + (own_step z25 (0 : Int32) z1 z2)) + (own_step z26 (if z25 = (13 : Int32) then (1 : Int32) else (0 : Int32)) z1 z2)), iv ((((1 : Int32) + (own_step z25 (0 : Int32) z1 z2)) + (own_step z26 (if z25 = (13 : Int32) then (1 : Int32) else (0 : Int32)) z1 z2)) + (own_step z27 (if z26 = (13 : Int32) then (1 : Int32) else (0 : Int32)) z1 z2)), iv ((1 : Int32) + (own_step z25 (0 : Int32) z1 z2)), iv (((1 : Int32) + (own_step z25 (0 : Int32) z1 z2)) + (own_step z26 (if z25 = (13 : Int32) then (1 : Int32) else (0 : Int32)) z1 z2)), .unset] [(.ref b6)])) rfl (by rw [hml]; rfl) (argsL := []) (rest := []) (lenOf pd_0_13 rfl) rfl (by show 2 * 0 + _ ≤ _; exact Nat.le_of_eq rfl) (hb hby at_169) rfl rfl (by decide) (by decide)
    obtain ⟨rfl, Nq36, e36⟩ := hQ36
    have N36 := Fr.app N35 Nq36
    refine own_go st36 ?_
    show OwnFin p e below s _ _ _ (T36.setTop (mkF m 172 #[iv pb1, iv pb2, iv pc1, iv pc2, iv pc3, iv z1, iv z2, rv b3, rv b6, iv z25, iv z26, iv z27, iv ((1 : Int32) + (own_step z25 (0 : Int32) z1 z2)), iv (((1 : Int32) + (own_step z25 (0 : Int32) z1 z2)) + (own_step z26 (if z25 = (13 : Int32) then (1 : Int32) else (0 : Int32)) z1 z2)), iv ((((1 : Int32) + (own_step z25 (0 : Int32) z1 z2)) + (own_step z26 (if z25 = (13 : Int32) then (1 : Int32) else (0 : Int32)) z1 z2)) + (own_step z27 (if z26 = (13 : Int32) then (1 : Int32) else (0 : Int32)) z1 z2)), iv ((1 : Int32) + (own_step z25 (0 : Int32) z1 z2)), iv (((1 : Int32) + (own_step z25 (0 : Int32) z1 z2)) + (own_step z26 (if z25 = (13 : Int32) then (1 : Int32) else (0 : Int32)) z1 z2)), .unset] [(.int ((((1 : Int32) + (own_step z25 (0 : Int32) z1 z2)) + (own_step z26 (if z25 = (13 : Int32) then (1 : Int32) else (0 : Int32)) z1 z2)) + (own_step z27 (if z26 = (13 : Int32) then (1 : Int32) else (0 : Int32)) z1 z2)))]))
    refine own_go (fun t_ k_ => XS.istore X36.here hx rfl (hb hby at_172) rfl (l' := #[iv pb1, iv pb2, iv pc1, iv pc2, iv pc3, iv z1, iv z2, rv b3, rv b6, iv z25, iv z26, iv z27, iv ((1 : Int32) + (own_step z25 (0 : Int32) z1 z2)), iv (((1 : Int32) + (own_step z25 (0 : Int32) z1 z2)) + (own_step z26 (if z25 = (13 : Int32) then (1 : Int32) else (0 : Int32)) z1 z2)), iv ((((1 : Int32) + (own_step z25 (0 : Int32) z1 z2)) + (own_step z26 (if z25 = (13 : Int32) then (1 : Int32) else (0 : Int32)) z1 z2)) + (own_step z27 (if z26 = (13 : Int32) then (1 : Int32) else (0 : Int32)) z1 z2)), iv ((1 : Int32) + (own_step z25 (0 : Int32) z1 z2)), iv (((1 : Int32) + (own_step z25 (0 : Int32) z1 z2)) + (own_step z26 (if z25 = (13 : Int32) then (1 : Int32) else (0 : Int32)) z1 z2)), iv ((((1 : Int32) + (own_step z25 (0 : Int32) z1 z2)) + (own_step z26 (if z25 = (13 : Int32) then (1 : Int32) else (0 : Int32)) z1 z2)) + (own_step z27 (if z26 = (13 : Int32) then (1 : Int32) else (0 : Int32)) z1 z2))]) rfl k_) ?_
    show OwnFin p e below s _ _ _ (T36.setTop (mkF m 174 #[iv pb1, iv pb2, iv pc1, iv pc2, iv pc3, iv z1, iv z2, rv b3, rv b6, iv z25, iv z26, iv z27, iv ((1 : Int32) + (own_step z25 (0 : Int32) z1 z2)), iv (((1 : Int32) + (own_step z25 (0 : Int32) z1 z2)) + (own_step z26 (if z25 = (13 : Int32) then (1 : Int32) else (0 : Int32)) z1 z2)), iv ((((1 : Int32) + (own_step z25 (0 : Int32) z1 z2)) + (own_step z26 (if z25 = (13 : Int32) then (1 : Int32) else (0 : Int32)) z1 z2)) + (own_step z27 (if z26 = (13 : Int32) then (1 : Int32) else (0 : Int32)) z1 z2)), iv ((1 : Int32) + (own_step z25 (0 : Int32) z1 z2)), iv (((1 : Int32) + (own_step z25 (0 : Int32) z1 z2)) + (own_step z26 (if z25 = (13 : Int32) then (1 : Int32) else (0 : Int32)) z1 z2)), iv ((((1 : Int32) + (own_step z25 (0 : Int32) z1 z2)) + (own_step z26 (if z25 = (13 : Int32) then (1 : Int32) else (0 : Int32)) z1 z2)) + (own_step z27 (if z26 = (13 : Int32) then (1 : Int32) else (0 : Int32)) z1 z2))] []))
    refine own_go (fun t_ k_ => XS.iload X36.here hx rfl (hb hby at_174) rfl k_) ?_
    show OwnFin p e below s _ _ _ (T36.setTop (mkF m 176 #[iv pb1, iv pb2, iv pc1, iv pc2, iv pc3, iv z1, iv z2, rv b3, rv b6, iv z25, iv z26, iv z27, iv ((1 : Int32) + (own_step z25 (0 : Int32) z1 z2)), iv (((1 : Int32) + (own_step z25 (0 : Int32) z1 z2)) + (own_step z26 (if z25 = (13 : Int32) then (1 : Int32) else (0 : Int32)) z1 z2)), iv ((((1 : Int32) + (own_step z25 (0 : Int32) z1 z2)) + (own_step z26 (if z25 = (13 : Int32) then (1 : Int32) else (0 : Int32)) z1 z2)) + (own_step z27 (if z26 = (13 : Int32) then (1 : Int32) else (0 : Int32)) z1 z2)), iv ((1 : Int32) + (own_step z25 (0 : Int32) z1 z2)), iv (((1 : Int32) + (own_step z25 (0 : Int32) z1 z2)) + (own_step z26 (if z25 = (13 : Int32) then (1 : Int32) else (0 : Int32)) z1 z2)), iv ((((1 : Int32) + (own_step z25 (0 : Int32) z1 z2)) + (own_step z26 (if z25 = (13 : Int32) then (1 : Int32) else (0 : Int32)) z1 z2)) + (own_step z27 (if z26 = (13 : Int32) then (1 : Int32) else (0 : Int32)) z1 z2))] [(.int ((1 : Int32) + (own_step z25 (0 : Int32) z1 z2)))]))
    refine own_go (fun t_ k_ => XS.iload X36.here hx rfl (hb hby at_176) rfl k_) ?_
    show OwnFin p e below s _ _ _ (T36.setTop (mkF m 178 #[iv pb1, iv pb2, iv pc1, iv pc2, iv pc3, iv z1, iv z2, rv b3, rv b6, iv z25, iv z26, iv z27, iv ((1 : Int32) + (own_step z25 (0 : Int32) z1 z2)), iv (((1 : Int32) + (own_step z25 (0 : Int32) z1 z2)) + (own_step z26 (if z25 = (13 : Int32) then (1 : Int32) else (0 : Int32)) z1 z2)), iv ((((1 : Int32) + (own_step z25 (0 : Int32) z1 z2)) + (own_step z26 (if z25 = (13 : Int32) then (1 : Int32) else (0 : Int32)) z1 z2)) + (own_step z27 (if z26 = (13 : Int32) then (1 : Int32) else (0 : Int32)) z1 z2)), iv ((1 : Int32) + (own_step z25 (0 : Int32) z1 z2)), iv (((1 : Int32) + (own_step z25 (0 : Int32) z1 z2)) + (own_step z26 (if z25 = (13 : Int32) then (1 : Int32) else (0 : Int32)) z1 z2)), iv ((((1 : Int32) + (own_step z25 (0 : Int32) z1 z2)) + (own_step z26 (if z25 = (13 : Int32) then (1 : Int32) else (0 : Int32)) z1 z2)) + (own_step z27 (if z26 = (13 : Int32) then (1 : Int32) else (0 : Int32)) z1 z2))] [(.int ((1 : Int32) + (own_step z25 (0 : Int32) z1 z2))), (.int ((1 : Int32) + (own_step z25 (0 : Int32) z1 z2)))]))
    refine own_go (fun t_ k_ => XS.icmpNo X36.here hx rfl (hb hby at_178) rfl (teq rfl).2 k_) ?_
    show OwnFin p e below s _ _ _ (T36.setTop (mkF m 181 #[iv pb1, iv pb2, iv pc1, iv pc2, iv pc3, iv z1, iv z2, rv b3, rv b6, iv z25, iv z26, iv z27, iv ((1 : Int32) + (own_step z25 (0 : Int32) z1 z2)), iv (((1 : Int32) + (own_step z25 (0 : Int32) z1 z2)) + (own_step z26 (if z25 = (13 : Int32) then (1 : Int32) else (0 : Int32)) z1 z2)), iv ((((1 : Int32) + (own_step z25 (0 : Int32) z1 z2)) + (own_step z26 (if z25 = (13 : Int32) then (1 : Int32) else (0 : Int32)) z1 z2)) + (own_step z27 (if z26 = (13 : Int32) then (1 : Int32) else (0 : Int32)) z1 z2)), iv ((1 : Int32) + (own_step z25 (0 : Int32) z1 z2)), iv (((1 : Int32) + (own_step z25 (0 : Int32) z1 z2)) + (own_step z26 (if z25 = (13 : Int32) then (1 : Int32) else (0 : Int32)) z1 z2)), iv ((((1 : Int32) + (own_step z25 (0 : Int32) z1 z2)) + (own_step z26 (if z25 = (13 : Int32) then (1 : Int32) else (0 : Int32)) z1 z2)) + (own_step z27 (if z26 = (13 : Int32) then (1 : Int32) else (0 : Int32)) z1 z2))] []))
    refine own_go (fun t_ k_ => XS.iload X36.here hx rfl (hb hby at_181) rfl k_) ?_
    show OwnFin p e below s _ _ _ (T36.setTop (mkF m 183 #[iv pb1, iv pb2, iv pc1, iv pc2, iv pc3, iv z1, iv z2, rv b3, rv b6, iv z25, iv z26, iv z27, iv ((1 : Int32) + (own_step z25 (0 : Int32) z1 z2)), iv (((1 : Int32) + (own_step z25 (0 : Int32) z1 z2)) + (own_step z26 (if z25 = (13 : Int32) then (1 : Int32) else (0 : Int32)) z1 z2)), iv ((((1 : Int32) + (own_step z25 (0 : Int32) z1 z2)) + (own_step z26 (if z25 = (13 : Int32) then (1 : Int32) else (0 : Int32)) z1 z2)) + (own_step z27 (if z26 = (13 : Int32) then (1 : Int32) else (0 : Int32)) z1 z2)), iv ((1 : Int32) + (own_step z25 (0 : Int32) z1 z2)), iv (((1 : Int32) + (own_step z25 (0 : Int32) z1 z2)) + (own_step z26 (if z25 = (13 : Int32) then (1 : Int32) else (0 : Int32)) z1 z2)), iv ((((1 : Int32) + (own_step z25 (0 : Int32) z1 z2)) + (own_step z26 (if z25 = (13 : Int32) then (1 : Int32) else (0 : Int32)) z1 z2)) + (own_step z27 (if z26 = (13 : Int32) then (1 : Int32) else (0 : Int32)) z1 z2))] [(.int (((1 : Int32) + (own_step z25 (0 : Int32) z1 z2)) + (own_step z26 (if z25 = (13 : Int32) then (1 : Int32) else (0 : Int32)) z1 z2)))]))
    refine own_go (fun t_ k_ => XS.iload X36.here hx rfl (hb hby at_183) rfl k_) ?_
    show OwnFin p e below s _ _ _ (T36.setTop (mkF m 185 #[iv pb1, iv pb2, iv pc1, iv pc2, iv pc3, iv z1, iv z2, rv b3, rv b6, iv z25, iv z26, iv z27, iv ((1 : Int32) + (own_step z25 (0 : Int32) z1 z2)), iv (((1 : Int32) + (own_step z25 (0 : Int32) z1 z2)) + (own_step z26 (if z25 = (13 : Int32) then (1 : Int32) else (0 : Int32)) z1 z2)), iv ((((1 : Int32) + (own_step z25 (0 : Int32) z1 z2)) + (own_step z26 (if z25 = (13 : Int32) then (1 : Int32) else (0 : Int32)) z1 z2)) + (own_step z27 (if z26 = (13 : Int32) then (1 : Int32) else (0 : Int32)) z1 z2)), iv ((1 : Int32) + (own_step z25 (0 : Int32) z1 z2)), iv (((1 : Int32) + (own_step z25 (0 : Int32) z1 z2)) + (own_step z26 (if z25 = (13 : Int32) then (1 : Int32) else (0 : Int32)) z1 z2)), iv ((((1 : Int32) + (own_step z25 (0 : Int32) z1 z2)) + (own_step z26 (if z25 = (13 : Int32) then (1 : Int32) else (0 : Int32)) z1 z2)) + (own_step z27 (if z26 = (13 : Int32) then (1 : Int32) else (0 : Int32)) z1 z2))] [(.int (((1 : Int32) + (own_step z25 (0 : Int32) z1 z2)) + (own_step z26 (if z25 = (13 : Int32) then (1 : Int32) else (0 : Int32)) z1 z2))), (.int (((1 : Int32) + (own_step z25 (0 : Int32) z1 z2)) + (own_step z26 (if z25 = (13 : Int32) then (1 : Int32) else (0 : Int32)) z1 z2)))]))
    refine own_go (fun t_ k_ => XS.icmpNo X36.here hx rfl (hb hby at_185) rfl (teq rfl).2 k_) ?_
    show OwnFin p e below s _ _ _ (T36.setTop (mkF m 188 #[iv pb1, iv pb2, iv pc1, iv pc2, iv pc3, iv z1, iv z2, rv b3, rv b6, iv z25, iv z26, iv z27, iv ((1 : Int32) + (own_step z25 (0 : Int32) z1 z2)), iv (((1 : Int32) + (own_step z25 (0 : Int32) z1 z2)) + (own_step z26 (if z25 = (13 : Int32) then (1 : Int32) else (0 : Int32)) z1 z2)), iv ((((1 : Int32) + (own_step z25 (0 : Int32) z1 z2)) + (own_step z26 (if z25 = (13 : Int32) then (1 : Int32) else (0 : Int32)) z1 z2)) + (own_step z27 (if z26 = (13 : Int32) then (1 : Int32) else (0 : Int32)) z1 z2)), iv ((1 : Int32) + (own_step z25 (0 : Int32) z1 z2)), iv (((1 : Int32) + (own_step z25 (0 : Int32) z1 z2)) + (own_step z26 (if z25 = (13 : Int32) then (1 : Int32) else (0 : Int32)) z1 z2)), iv ((((1 : Int32) + (own_step z25 (0 : Int32) z1 z2)) + (own_step z26 (if z25 = (13 : Int32) then (1 : Int32) else (0 : Int32)) z1 z2)) + (own_step z27 (if z26 = (13 : Int32) then (1 : Int32) else (0 : Int32)) z1 z2))] []))
    refine own_go (fun t_ k_ => XS.iload X36.here hx rfl (hb hby at_188) rfl k_) ?_
    show OwnFin p e below s _ _ _ (T36.setTop (mkF m 190 #[iv pb1, iv pb2, iv pc1, iv pc2, iv pc3, iv z1, iv z2, rv b3, rv b6, iv z25, iv z26, iv z27, iv ((1 : Int32) + (own_step z25 (0 : Int32) z1 z2)), iv (((1 : Int32) + (own_step z25 (0 : Int32) z1 z2)) + (own_step z26 (if z25 = (13 : Int32) then (1 : Int32) else (0 : Int32)) z1 z2)), iv ((((1 : Int32) + (own_step z25 (0 : Int32) z1 z2)) + (own_step z26 (if z25 = (13 : Int32) then (1 : Int32) else (0 : Int32)) z1 z2)) + (own_step z27 (if z26 = (13 : Int32) then (1 : Int32) else (0 : Int32)) z1 z2)), iv ((1 : Int32) + (own_step z25 (0 : Int32) z1 z2)), iv (((1 : Int32) + (own_step z25 (0 : Int32) z1 z2)) + (own_step z26 (if z25 = (13 : Int32) then (1 : Int32) else (0 : Int32)) z1 z2)), iv ((((1 : Int32) + (own_step z25 (0 : Int32) z1 z2)) + (own_step z26 (if z25 = (13 : Int32) then (1 : Int32) else (0 : Int32)) z1 z2)) + (own_step z27 (if z26 = (13 : Int32) then (1 : Int32) else (0 : Int32)) z1 z2))] [(.int ((((1 : Int32) + (own_step z25 (0 : Int32) z1 z2)) + (own_step z26 (if z25 = (13 : Int32) then (1 : Int32) else (0 : Int32)) z1 z2)) + (own_step z27 (if z26 = (13 : Int32) then (1 : Int32) else (0 : Int32)) z1 z2)))]))
    refine own_go (fun t_ k_ => XS.iload X36.here hx rfl (hb hby at_190) rfl k_) ?_
    show OwnFin p e below s _ _ _ (T36.setTop (mkF m 192 #[iv pb1, iv pb2, iv pc1, iv pc2, iv pc3, iv z1, iv z2, rv b3, rv b6, iv z25, iv z26, iv z27, iv ((1 : Int32) + (own_step z25 (0 : Int32) z1 z2)), iv (((1 : Int32) + (own_step z25 (0 : Int32) z1 z2)) + (own_step z26 (if z25 = (13 : Int32) then (1 : Int32) else (0 : Int32)) z1 z2)), iv ((((1 : Int32) + (own_step z25 (0 : Int32) z1 z2)) + (own_step z26 (if z25 = (13 : Int32) then (1 : Int32) else (0 : Int32)) z1 z2)) + (own_step z27 (if z26 = (13 : Int32) then (1 : Int32) else (0 : Int32)) z1 z2)), iv ((1 : Int32) + (own_step z25 (0 : Int32) z1 z2)), iv (((1 : Int32) + (own_step z25 (0 : Int32) z1 z2)) + (own_step z26 (if z25 = (13 : Int32) then (1 : Int32) else (0 : Int32)) z1 z2)), iv ((((1 : Int32) + (own_step z25 (0 : Int32) z1 z2)) + (own_step z26 (if z25 = (13 : Int32) then (1 : Int32) else (0 : Int32)) z1 z2)) + (own_step z27 (if z26 = (13 : Int32) then (1 : Int32) else (0 : Int32)) z1 z2))] [(.int ((((1 : Int32) + (own_step z25 (0 : Int32) z1 z2)) + (own_step z26 (if z25 = (13 : Int32) then (1 : Int32) else (0 : Int32)) z1 z2)) + (own_step z27 (if z26 = (13 : Int32) then (1 : Int32) else (0 : Int32)) z1 z2))), (.int ((((1 : Int32) + (own_step z25 (0 : Int32) z1 z2)) + (own_step z26 (if z25 = (13 : Int32) then (1 : Int32) else (0 : Int32)) z1 z2)) + (own_step z27 (if z26 = (13 : Int32) then (1 : Int32) else (0 : Int32)) z1 z2)))]))
    refine own_go (fun t_ k_ => XS.icmpNo X36.here hx rfl (hb hby at_192) rfl (teq rfl).2 k_) ?_
    show OwnFin p e below s _ _ _ (T36.setTop (mkF m 195 #[iv pb1, iv pb2, iv pc1, iv pc2, iv pc3, iv z1, iv z2, rv b3, rv b6, iv z25, iv z26, iv z27, iv ((1 : Int32) + (own_step z25 (0 : Int32) z1 z2)), iv (((1 : Int32) + (own_step z25 (0 : Int32) z1 z2)) + (own_step z26 (if z25 = (13 : Int32) then (1 : Int32) else (0 : Int32)) z1 z2)), iv ((((1 : Int32) + (own_step z25 (0 : Int32) z1 z2)) + (own_step z26 (if z25 = (13 : Int32) then (1 : Int32) else (0 : Int32)) z1 z2)) + (own_step z27 (if z26 = (13 : Int32) then (1 : Int32) else (0 : Int32)) z1 z2)), iv ((1 : Int32) + (own_step z25 (0 : Int32) z1 z2)), iv (((1 : Int32) + (own_step z25 (0 : Int32) z1 z2)) + (own_step z26 (if z25 = (13 : Int32) then (1 : Int32) else (0 : Int32)) z1 z2)), iv ((((1 : Int32) + (own_step z25 (0 : Int32) z1 z2)) + (own_step z26 (if z25 = (13 : Int32) then (1 : Int32) else (0 : Int32)) z1 z2)) + (own_step z27 (if z26 = (13 : Int32) then (1 : Int32) else (0 : Int32)) z1 z2))] []))
    refine own_go (fun t_ k_ => XS.aload X36.here hx rfl (hb hby at_195) rfl rfl k_) ?_
    show OwnFin p e below s _ _ _ (T36.setTop (mkF m 197 #[iv pb1, iv pb2, iv pc1, iv pc2, iv pc3, iv z1, iv z2, rv b3, rv b6, iv z25, iv z26, iv z27, iv ((1 : Int32) + (own_step z25 (0 : Int32) z1 z2)), iv (((1 : Int32) + (own_step z25 (0 : Int32) z1 z2)) + (own_step z26 (if z25 = (13 : Int32) then (1 : Int32) else (0 : Int32)) z1 z2)), iv ((((1 : Int32) + (own_step z25 (0 : Int32) z1 z2)) + (own_step z26 (if z25 = (13 : Int32) then (1 : Int32) else (0 : Int32)) z1 z2)) + (own_step z27 (if z26 = (13 : Int32) then (1 : Int32) else (0 : Int32)) z1 z2)), iv ((1 : Int32) + (own_step z25 (0 : Int32) z1 z2)), iv (((1 : Int32) + (own_step z25 (0 : Int32) z1 z2)) + (own_step z26 (if z25 = (13 : Int32) then (1 : Int32) else (0 : Int32)) z1 z2)), iv ((((1 : Int32) + (own_step z25 (0 : Int32) z1 z2)) + (own_step z26 (if z25 = (13 : Int32) then (1 : Int32) else (0 : Int32)) z1 z2)) + (own_step z27 (if z26 = (13 : Int32) then (1 : Int32) else (0 : Int32)) z1 z2))] [(.ref b6)]))
    obtain ⟨v37, T37, L37, X37, hQ37, st37⟩ := own_callV X36 hx hZ (y := (⟨"com/example/argweave/argweave/LineCounter", "column", "()I"⟩ : MethodName)) (z := (⟨"com/example/argweave/argweave/LineCounter", "column", "()I"⟩ : MethodName)) hown (hw _ (List.mem_of_getElem? (i := 104) rfl)) (hw _ (List.mem_of_getElem? (i := 105) rfl)) (notFace_of_selects (args := #[]) (mvT hZ (hw _ (List.mem_of_getElem? (i := 107) rfl)))) (hw _ (List.mem_of_getElem? (i := 107) rfl)) (hw _ (List.mem_of_getElem? (i := 106) rfl)) (hw _ (List.mem_of_getElem? (i := 7) rfl)) (hw _ (List.mem_of_getElem? (i := 108) rfl)) (by decide) (W := 0) (rm22 l Z a0 hw [] b6 T35.heap n0 Z35 Fc35) (by decide) (by decide) E_b6_35 (g := (mkF m 197 #[iv pb1, iv pb2, iv pc1, iv pc2, iv pc3, iv z1, iv z2, rv b3, rv b6, iv z25, iv z26, iv z27, iv ((1 : Int32) + (own_step z25 (0 : Int32) z1 z2)), iv (((1 : Int32) + (own_step z25 (0 : Int32) z1 z2)) + (own_step z26 (if z25 = (13 : Int32) then (1 : Int32) else (0 : Int32)) z1 z2)), iv ((((1 : Int32) + (own_step z25 (0 : Int32) z1 z2)) + (own_step z26 (if z25 = (13 : Int32) then (1 : Int32) else (0 : Int32)) z1 z2)) + (own_step z27 (if z26 = (13 : Int32) then (1 : Int32) else (0 : Int32)) z1 z2)), iv ((1 : Int32) + (own_step z25 (0 : Int32) z1 z2)), iv (((1 : Int32) + (own_step z25 (0 : Int32) z1 z2)) + (own_step z26 (if z25 = (13 : Int32) then (1 : Int32) else (0 : Int32)) z1 z2)), iv ((((1 : Int32) + (own_step z25 (0 : Int32) z1 z2)) + (own_step z26 (if z25 = (13 : Int32) then (1 : Int32) else (0 : Int32)) z1 z2)) + (own_step z27 (if z26 = (13 : Int32) then (1 : Int32) else (0 : Int32)) z1 z2))] [(.ref b6)])) rfl (by rw [hml]; rfl) (argsL := []) (rest := []) (lenOf pd_0_13 rfl) rfl (by show 2 * 0 + _ ≤ _; exact Nat.le_of_eq rfl) (hb hby at_197) e36 rfl (by decide) (by decide)
    obtain ⟨rfl, Nq37, e37⟩ := hQ37
    have N37 := Fr.app N36 Nq37
    refine own_go st37 ?_
    show OwnFin p e below s _ _ _ (T37.setTop (mkF m 200 #[iv pb1, iv pb2, iv pc1, iv pc2, iv pc3, iv z1, iv z2, rv b3, rv b6, iv z25, iv z26, iv z27, iv ((1 : Int32) + (own_step z25 (0 : Int32) z1 z2)), iv (((1 : Int32) + (own_step z25 (0 : Int32) z1 z2)) + (own_step z26 (if z25 = (13 : Int32) then (1 : Int32) else (0 : Int32)) z1 z2)), iv ((((1 : Int32) + (own_step z25 (0 : Int32) z1 z2)) + (own_step z26 (if z25 = (13 : Int32) then (1 : Int32) else (0 : Int32)) z1 z2)) + (own_step z27 (if z26 = (13 : Int32) then (1 : Int32) else (0 : Int32)) z1 z2)), iv ((1 : Int32) + (own_step z25 (0 : Int32) z1 z2)), iv (((1 : Int32) + (own_step z25 (0 : Int32) z1 z2)) + (own_step z26 (if z25 = (13 : Int32) then (1 : Int32) else (0 : Int32)) z1 z2)), iv ((((1 : Int32) + (own_step z25 (0 : Int32) z1 z2)) + (own_step z26 (if z25 = (13 : Int32) then (1 : Int32) else (0 : Int32)) z1 z2)) + (own_step z27 (if z26 = (13 : Int32) then (1 : Int32) else (0 : Int32)) z1 z2))] [(.int (1 : Int32))]))
    refine own_go (fun t_ k_ => XS.iconst X37.here hx rfl (hb hby at_200) k_) ?_
    show OwnFin p e below s _ _ _ (T37.setTop (mkF m 201 #[iv pb1, iv pb2, iv pc1, iv pc2, iv pc3, iv z1, iv z2, rv b3, rv b6, iv z25, iv z26, iv z27, iv ((1 : Int32) + (own_step z25 (0 : Int32) z1 z2)), iv (((1 : Int32) + (own_step z25 (0 : Int32) z1 z2)) + (own_step z26 (if z25 = (13 : Int32) then (1 : Int32) else (0 : Int32)) z1 z2)), iv ((((1 : Int32) + (own_step z25 (0 : Int32) z1 z2)) + (own_step z26 (if z25 = (13 : Int32) then (1 : Int32) else (0 : Int32)) z1 z2)) + (own_step z27 (if z26 = (13 : Int32) then (1 : Int32) else (0 : Int32)) z1 z2)), iv ((1 : Int32) + (own_step z25 (0 : Int32) z1 z2)), iv (((1 : Int32) + (own_step z25 (0 : Int32) z1 z2)) + (own_step z26 (if z25 = (13 : Int32) then (1 : Int32) else (0 : Int32)) z1 z2)), iv ((((1 : Int32) + (own_step z25 (0 : Int32) z1 z2)) + (own_step z26 (if z25 = (13 : Int32) then (1 : Int32) else (0 : Int32)) z1 z2)) + (own_step z27 (if z26 = (13 : Int32) then (1 : Int32) else (0 : Int32)) z1 z2))] [(.int (1 : Int32)), (.int (1 : Int32))]))
    refine own_go (fun t_ k_ => XS.icmpNo X37.here hx rfl (hb hby at_201) rfl (teq (by decide)).2 k_) ?_
    show OwnFin p e below s _ _ _ (T37.setTop (mkF m 204 #[iv pb1, iv pb2, iv pc1, iv pc2, iv pc3, iv z1, iv z2, rv b3, rv b6, iv z25, iv z26, iv z27, iv ((1 : Int32) + (own_step z25 (0 : Int32) z1 z2)), iv (((1 : Int32) + (own_step z25 (0 : Int32) z1 z2)) + (own_step z26 (if z25 = (13 : Int32) then (1 : Int32) else (0 : Int32)) z1 z2)), iv ((((1 : Int32) + (own_step z25 (0 : Int32) z1 z2)) + (own_step z26 (if z25 = (13 : Int32) then (1 : Int32) else (0 : Int32)) z1 z2)) + (own_step z27 (if z26 = (13 : Int32) then (1 : Int32) else (0 : Int32)) z1 z2)), iv ((1 : Int32) + (own_step z25 (0 : Int32) z1 z2)), iv (((1 : Int32) + (own_step z25 (0 : Int32) z1 z2)) + (own_step z26 (if z25 = (13 : Int32) then (1 : Int32) else (0 : Int32)) z1 z2)), iv ((((1 : Int32) + (own_step z25 (0 : Int32) z1 z2)) + (own_step z26 (if z25 = (13 : Int32) then (1 : Int32) else (0 : Int32)) z1 z2)) + (own_step z27 (if z26 = (13 : Int32) then (1 : Int32) else (0 : Int32)) z1 z2))] []))
    refine own_go (fun t_ k_ => XS.iconst X37.here hx rfl (hb hby at_204) k_) ?_
    show OwnFin p e below s _ _ _ (T37.setTop (mkF m 205 #[iv pb1, iv pb2, iv pc1, iv pc2, iv pc3, iv z1, iv z2, rv b3, rv b6, iv z25, iv z26, iv z27, iv ((1 : Int32) + (own_step z25 (0 : Int32) z1 z2)), iv (((1 : Int32) + (own_step z25 (0 : Int32) z1 z2)) + (own_step z26 (if z25 = (13 : Int32) then (1 : Int32) else (0 : Int32)) z1 z2)), iv ((((1 : Int32) + (own_step z25 (0 : Int32) z1 z2)) + (own_step z26 (if z25 = (13 : Int32) then (1 : Int32) else (0 : Int32)) z1 z2)) + (own_step z27 (if z26 = (13 : Int32) then (1 : Int32) else (0 : Int32)) z1 z2)), iv ((1 : Int32) + (own_step z25 (0 : Int32) z1 z2)), iv (((1 : Int32) + (own_step z25 (0 : Int32) z1 z2)) + (own_step z26 (if z25 = (13 : Int32) then (1 : Int32) else (0 : Int32)) z1 z2)), iv ((((1 : Int32) + (own_step z25 (0 : Int32) z1 z2)) + (own_step z26 (if z25 = (13 : Int32) then (1 : Int32) else (0 : Int32)) z1 z2)) + (own_step z27 (if z26 = (13 : Int32) then (1 : Int32) else (0 : Int32)) z1 z2))] [(.int (1 : Int32))]))
    refine own_go (fun t_ k_ => XS.goto X37.here hx rfl (pc0 := 205) (pc' := 209) rfl (hb hby at_205) (by decide) (by decide) k_) ?_
    show OwnFin p e below s _ _ _ (T37.setTop (mkF m 209 #[iv pb1, iv pb2, iv pc1, iv pc2, iv pc3, iv z1, iv z2, rv b3, rv b6, iv z25, iv z26, iv z27, iv ((1 : Int32) + (own_step z25 (0 : Int32) z1 z2)), iv (((1 : Int32) + (own_step z25 (0 : Int32) z1 z2)) + (own_step z26 (if z25 = (13 : Int32) then (1 : Int32) else (0 : Int32)) z1 z2)), iv ((((1 : Int32) + (own_step z25 (0 : Int32) z1 z2)) + (own_step z26 (if z25 = (13 : Int32) then (1 : Int32) else (0 : Int32)) z1 z2)) + (own_step z27 (if z26 = (13 : Int32) then (1 : Int32) else (0 : Int32)) z1 z2)), iv ((1 : Int32) + (own_step z25 (0 : Int32) z1 z2)), iv (((1 : Int32) + (own_step z25 (0 : Int32) z1 z2)) + (own_step z26 (if z25 = (13 : Int32) then (1 : Int32) else (0 : Int32)) z1 z2)), iv ((((1 : Int32) + (own_step z25 (0 : Int32) z1 z2)) + (own_step z26 (if z25 = (13 : Int32) then (1 : Int32) else (0 : Int32)) z1 z2)) + (own_step z27 (if z26 = (13 : Int32) then (1 : Int32) else (0 : Int32)) z1 z2))] [(.int (1 : Int32))]))
    refine own_ret X37 (v := some (.int (1 : Int32))) hlk (fun hh => by rw [hret] at hh; cases hh) (fun fs hr => retN X37 hx (t := .boolean) hret (by simp) (hb hby at_209) hr) (by decide) (by decide) ?_
    exact ⟨rfl, N37⟩
theorem own_stI {args : Array Value} {s : State} {t : Term} {z : Int32} (h : (Jvm.Cond.eq t (.int z)).value args s none s [] = some true) : t.eval args s none [] s = some (.int z) := by
  obtain ⟨x, y, hl1, hl2, -, k2⟩ := cmp_v (Or.inl h)
  cases (Term.int_eval (args := args) (first := s) (o := none) (idx := []) (s := s) z).symm.trans hl2
  obtain ⟨w, rfl⟩ := k2
  have q : w = z := by
    simp only [Jvm.Cond.value, hl1, hl2] at h
    simpa using h
  rw [hl1, q]
set_option maxRecDepth 65536 in
set_option maxHeartbeats 40000000 in
theorem comes_1 {Post : Tables → Env → Array Value → State → Outcome → State → Prop} (hpost : ∀ tb e args s v u, (limb_1_1.after args s (.returned v) u = true ∧ limb_1_2.after args s (.returned v) u = true ∧ True) → FrameEnd s (.returned v) u (Jvm.fieldLocs frame_1_writes args s ++ Jvm.arrayLocs frame_1_arrays args s ++ Jvm.staticLocs frame_1_statics s) 24 128 → Post tb e args s (.returned v) u) :
    ArmFor flags0 classFile x code maxLocals ret World_1 tables_1 room_1 Calls_1 rest_1 Pre_1 Post := by
  intro l hfl _ _ p e ha hc hk s m args below hf hA hF happ hP
  obtain ⟨hcalls, hrest, hpre⟩ := hP
  obtain ⟨-, -, -, hnamed, -, -, -, hat⟩ := (Spec.applies_iff hf).mp happ
  obtain ⟨hg, hn⟩ := and_e (Cond.before_iff.mp (show (Jvm.Cond.and given_1 narrow_1).before args s = true from hpre))
  obtain ⟨g1, g2⟩ := and_e hg
  obtain ⟨g3, g4⟩ := and_e g2
  obtain ⟨g5, g6⟩ := and_e g4
  obtain ⟨g7, g8⟩ := and_e g6
  obtain ⟨g9, g10⟩ := and_e g8
  obtain ⟨w0, w1, w2, w3, w4, rfl⟩ : ∃ w0 w1 w2 w3 w4 : Value, args = #[w0, w1, w2, w3, w4] := by
    have hs : args.size = 5 := by simpa [Cond.value, given_1] using g1
    obtain ⟨L⟩ := args
    match L, hs with
    | [w0, w1, w2, w3, w4], _ => exact ⟨w0, w1, w2, w3, w4, rfl⟩
  have hw := fun d (hd : d ∈ tables_1) => atoms_spec (ws := Jvm.Cond.code x code maxLocals ret :: tables_1) hat d (List.mem_cons_of_mem _ hd)
  have hfit : Fit s := fun {y c} hc i hi => by
    obtain ⟨ha, rfl⟩ := Array.getElem?_eq_some_iff.mp hc
    have q := List.all_eq_true.mp ((Array.all_eq_true_iff_forall_mem.mp hF) _ (Array.getElem_mem ha)) i (List.mem_range.mpr hi)
    simpa [Array.getElem?_eq_getElem hi] using q
  obtain ⟨hsets, hown0⟩ := atoms_of _ (rest_1_c_eq ▸ (show rest_1_c.before _ s = true from hrest))
  have hr0 := Cond.before_iff.mp hown0
  obtain ⟨i0, ei0⟩ := is_v g3
  obtain rfl : w0 = (.int i0) := Option.some.inj ei0
  obtain ⟨i1, ei1⟩ := is_v g5
  obtain rfl : w1 = (.int i1) := Option.some.inj ei1
  obtain ⟨i2, ei2⟩ := is_v g7
  obtain rfl : w2 = (.int i2) := Option.some.inj ei2
  obtain ⟨i3, ei3⟩ := is_v g9
  obtain rfl : w3 = (.int i3) := Option.some.inj ei3
  obtain ⟨i4, ei4⟩ := is_v g10
  obtain rfl : w4 = (.int i4) := Option.some.inj ei4
  have n3 := not_v (Cond.before_iff.mp (hsets _ (List.mem_of_getElem? (i := 2) rfl)))
  obtain ⟨zc, ezc⟩ := is_v (Cond.before_iff.mp (hsets _ (List.mem_of_getElem? (i := 1) rfl)))
  have S_cs := Sta.start ezc (Or.inl (hsets _ (List.mem_of_getElem? (i := 0) rfl)))
  have hzc : ¬ zc = 0 := fun q => by
    have h := Jvm.RoadKit.eq_i ezc (Term.int_eval 0) (by rw [q])
    rw [n3] at h
    cases h
  have OL := Old.start s
  obtain ⟨fm, efm, hfm⟩ := isR_v (Cond.before_iff.mp (hsets _ (List.mem_of_getElem? (i := 8) rfl)))
  have S_fm := Sta.start efm (Or.inl (hsets _ (List.mem_of_getElem? (i := 7) rfl)))
  have e_as := own_stI (Cond.before_iff.mp (hsets _ (List.mem_of_getElem? (i := 12) rfl)))
  have S_as := Sta.start e_as (Or.inl (hsets _ (List.mem_of_getElem? (i := 11) rfl)))
  have e_hi := own_stI (Cond.before_iff.mp (hsets _ (List.mem_of_getElem? (i := 15) rfl)))
  have S_hi := Sta.start e_hi (Or.inl (hsets _ (List.mem_of_getElem? (i := 14) rfl)))
  have e_lo := own_stI (Cond.before_iff.mp (hsets _ (List.mem_of_getElem? (i := 18) rfl)))
  have S_lo := Sta.start e_lo (Or.inl (hsets _ (List.mem_of_getElem? (i := 17) rfl)))
  obtain ⟨n, o, h1, h2, h3, _, L, rfl, ⟨rfl, N⟩, hq⟩ := rm0 l s _ hw tables_1 i0 i1 i2 i3 i4 zc fm s.heap s.heap.size (Nat.le_refl _) hzc hfm S_cs S_as S_hi S_lo S_fm OL p e ha hc hk s m _ below hf ((Spec.applies_iff_loose hf).mp happ).1 ⟨rfl, State.Warmed39.refl s, rfl⟩ trivial
  refine ⟨n, _, h1, h2, h3, hpost _ _ _ _ _ _ ⟨Cond.after_iff.mpr rfl, Cond.after_iff.mpr (eq_i res_at (Term.int_eval (1)) rfl), trivial⟩ ⟨hq.1, hq.2.1, (hq.2.2.sift fun y hy => Or.inr (N y hy)).mono (by decide) (by decide)⟩⟩
theorem main_1_1 : Claimed_1_1 := comes_1 fun _ _ _ _ _ _ h hF => ⟨h.1, hF⟩
theorem main_1_2 : Claimed_1_2 := comes_1 fun _ _ _ _ _ _ h hF => ⟨h.2.1, hF⟩
end Jvm.Pilot.@@N@@
namespace Jvm.Pilot.@@N@@
open Jvm Jvm.ClassFile Sem Op Lib Jvm.Free Jvm.Stand Jvm.Pilot.@@N@@.Jvm.D
/-! MADE BY PROGRAM (witnessworld.py) out of the Statement's table words and the real class files: 21 classes; the members and pool entries that the words name. The judged class is class 1, her method 1. -/
namespace start1
open Jvm.ClassFile
def u (s : String) : CpInfo := .utf8 (stringToUtf16 s)
/-- a pool by its gaps: so many unusable entries, then the entry; so many at the end -/
def gap : Nat → List CpInfo → List CpInfo
  | 0, r => r
  | n + 1, r => .unusable :: gap n r
def poolList (es : List (Nat × CpInfo)) (last : Nat) : List CpInfo := es.foldr (fun e r => gap e.1 (e.2 :: r)) (gap last [])
def pool (es : List (Nat × CpInfo)) (last : Nat) : Array CpInfo := ⟨poolList es last⟩
def fileOf (pool : Array CpInfo) (this : Nat) (attrs : Array Attribute := #[]) (ms : Array MethodInfo := #[]) (fl : Nat := 33) (sup : Nat := 0) (ifs : Array Nat := #[]) (fds : Array FieldInfo := #[]) : ClassFile where
  minorVersion := 0
  majorVersion := 65
  constantPool := pool
  accessFlags := fl
  thisClass := this
  superClass := sup
  interfaces := ifs
  fields := fds
  methods := ms
  attributes := attrs
def plain (name : String) (sup : Option ClassId) : Class where
  name := name
  kind := .ordinary
  loader := none
  accessFlags := 33
  super := sup
  interfaces := #[]
  cf := none
  fields := #[]
  methods := #[]
  instanceTypes := #[]
  staticTypes := #[]
  resolved := #[]
  callSites := []
  init := .initialized
  statics := none
  mirror := none

def pool0 : Array CpInfo := pool [(5, u "<init>"), (0, u "()V"), (1, .class_ 10), (1, u "java/lang/Object")] 113

def k0c0 : Code := { maxStack := 0, maxLocals := 1, code := object_method_1_code, exceptionTable := #[], attributes := #[] }
def k0m0 : Method := { name := "<init>", desc := "()V", sig := { parameters := [], returnType := none }, accessFlags := 1, code := some k0c0 }
/-- java/lang/Object -/
def k0 : Class := { plain "java/lang/Object" none with
  accessFlags := 33
  interfaces := #[]
  cf := some (fileOf pool0 8 #[] #[{ accessFlags := 1, nameIndex := 5, descriptorIndex := 6, attributes := #[] }] 33 0 #[] #[])
  fields := #[]
  methods := #[k0m0]
  instanceTypes := #[]
  staticTypes := #[]
  resolved := Array.replicate 124 none
  statics := none }

def pool1 : Array CpInfo := pool [(2, .class_ 4), (1, u "java/lang/Object"), (0, u "<init>"), (0, u "()V"), (0, .methodref 8 9), (0, .class_ 10), (0, .nameAndType 11 12), (0, u "com/example/argweave/argweave/LineCounterPassPinLaw"), (0, u "pick"), (0, u "(I)C"), (0, .class_ 14), (0, u "com/example/argweave/argweave/LineCounter"), (0, .class_ 16), (0, u "java/lang/String"), (0, .methodref 15 18), (0, .nameAndType 5 19), (0, u "([C)V"), (0, .methodref 13 21), (0, .nameAndType 5 22), (0, u "(Ljava/lang/String;)V"), (0, .methodref 8 24), (0, .nameAndType 25 26), (0, u "step"), (0, u "(CZCC)I"), (0, .methodref 13 28), (0, .nameAndType 29 30), (0, u "pass"), (0, u "(C)V"), (0, .methodref 13 32), (0, .nameAndType 33 34), (0, u "line"), (0, u "()I"), (0, .methodref 13 36), (0, .nameAndType 37 34), (0, u "column"), (2, u "law"), (0, u "(IIIII)Z")] 5

def k1m0 : Method := { name := "<init>", desc := "()V", sig := { parameters := [], returnType := none }, accessFlags := 1, code := none }
def k1c1 : Code := { maxStack := 5, maxLocals := 18, code := code, exceptionTable := #[], attributes := #[] }
def k1m1 : Method := { name := "law", desc := "(IIIII)Z", sig := { parameters := [.int, .int, .int, .int, .int], returnType := some .boolean }, accessFlags := 9, code := some k1c1 }
def k1c2 : Code := { maxStack := 2, maxLocals := 2, code := method_3_code, exceptionTable := #[], attributes := #[] }
def k1m2 : Method := { name := "pick", desc := "(I)C", sig := { parameters := [.int], returnType := some .char }, accessFlags := 10, code := some k1c2 }
def k1c3 : Code := { maxStack := 2, maxLocals := 4, code := method_4_code, exceptionTable := #[], attributes := #[] }
def k1m3 : Method := { name := "step", desc := "(CZCC)I", sig := { parameters := [.char, .boolean, .char, .char], returnType := some .int }, accessFlags := 10, code := some k1c3 }
/-- com/example/argweave/argweave/LineCounterPassPinLaw -/
def k1 : Class := { plain "com/example/argweave/argweave/LineCounterPassPinLaw" (some 0) with
  accessFlags := 49
  interfaces := #[]
  cf := some (fileOf pool1 8 #[] #[{ accessFlags := 1, nameIndex := 5, descriptorIndex := 6, attributes := #[] }, { accessFlags := 9, nameIndex := 40, descriptorIndex := 41, attributes := #[] }, { accessFlags := 10, nameIndex := 11, descriptorIndex := 12, attributes := #[] }, { accessFlags := 10, nameIndex := 25, descriptorIndex := 26, attributes := #[] }] 49 2 #[] #[])
  fields := #[]
  methods := #[k1m0, k1m1, k1m2, k1m3]
  instanceTypes := #[]
  staticTypes := #[]
  resolved := Array.replicate 47 none
  statics := none }

def pool2 : Array CpInfo := pool [(1, .methodref 2 3), (0, .class_ 4), (0, .nameAndType 5 6), (0, u "java/lang/Object"), (0, u "<init>"), (0, u "()V"), (0, .fieldref 8 9), (0, .class_ 10), (0, .nameAndType 11 12), (0, u "com/example/argweave/argweave/LineCounter"), (0, u "line"), (0, u "I"), (0, .fieldref 8 14), (0, .nameAndType 15 12), (0, u "column"), (0, .fieldref 8 17), (0, .nameAndType 18 19), (0, u "breaks"), (0, u "Ljava/lang/String;"), (0, .methodref 21 22), (0, .class_ 23), (0, .nameAndType 24 25), (0, u "java/lang/String"), (0, u "indexOf"), (0, u "(I)I"), (0, .fieldref 8 27), (0, .nameAndType 28 29), (0, u "afterCr"), (0, u "Z"), (6, u "LF_OR_CR"), (3, u "(Ljava/lang/String;)V"), (2, u "pass"), (0, u "(C)V"), (7, u "()I")] 2

def k2c0 : Code := { maxStack := 2, maxLocals := 2, code := prog_32_method_1_code, exceptionTable := #[], attributes := #[] }
def k2m0 : Method := { name := "<init>", desc := "(Ljava/lang/String;)V", sig := { parameters := [(.object "java/lang/String")], returnType := none }, accessFlags := 0, code := some k2c0 }
def k2c1 : Code := { maxStack := 3, maxLocals := 2, code := prog_32_method_2_code, exceptionTable := #[], attributes := #[] }
def k2m1 : Method := { name := "pass", desc := "(C)V", sig := { parameters := [.char], returnType := none }, accessFlags := 0, code := some k2c1 }
def k2c2 : Code := { maxStack := 1, maxLocals := 1, code := prog_32_method_5_code, exceptionTable := #[], attributes := #[] }
def k2m2 : Method := { name := "line", desc := "()I", sig := { parameters := [], returnType := some .int }, accessFlags := 0, code := some k2c2 }
def k2c3 : Code := { maxStack := 1, maxLocals := 1, code := prog_32_method_6_code, exceptionTable := #[], attributes := #[] }
def k2m3 : Method := { name := "column", desc := "()I", sig := { parameters := [], returnType := some .int }, accessFlags := 0, code := some k2c3 }
/-- com/example/argweave/argweave/LineCounter -/
def k2 : Class := { plain "com/example/argweave/argweave/LineCounter" (some 0) with
  accessFlags := 48
  interfaces := #[]
  cf := some (fileOf pool2 8 #[] #[{ accessFlags := 0, nameIndex := 5, descriptorIndex := 40, attributes := #[] }, { accessFlags := 0, nameIndex := 43, descriptorIndex := 44, attributes := #[] }, { accessFlags := 0, nameIndex := 11, descriptorIndex := 52, attributes := #[] }, { accessFlags := 0, nameIndex := 15, descriptorIndex := 52, attributes := #[] }] 48 2 #[] #[{ accessFlags := 24, nameIndex := 36, descriptorIndex := 19, attributes := #[] }, { accessFlags := 18, nameIndex := 18, descriptorIndex := 19, attributes := #[] }, { accessFlags := 2, nameIndex := 11, descriptorIndex := 12, attributes := #[] }, { accessFlags := 2, nameIndex := 15, descriptorIndex := 12, attributes := #[] }, { accessFlags := 2, nameIndex := 28, descriptorIndex := 29, attributes := #[] }])
  fields := #[{ name := "LF_OR_CR", type := (.object "java/lang/String"), accessFlags := 24, slot := 0, constantValue := 0 }, { name := "breaks", type := (.object "java/lang/String"), accessFlags := 18, slot := 0, constantValue := 0 }, { name := "line", type := .int, accessFlags := 2, slot := 1, constantValue := 0 }, { name := "column", type := .int, accessFlags := 2, slot := 2, constantValue := 0 }, { name := "afterCr", type := .boolean, accessFlags := 2, slot := 3, constantValue := 0 }]
  methods := #[k2m0, k2m1, k2m2, k2m3]
  instanceTypes := #[(.object "java/lang/String"), .int, .int, .boolean]
  staticTypes := #[(.object "java/lang/String")]
  resolved := Array.replicate 55 none
  statics := none }

def pool3 : Array CpInfo := pool [(1, .class_ 2), (0, u "java/io/Serializable"), (0, .class_ 4), (0, u "java/lang/Object")] 2

/-- java/io/Serializable -/
def k3 : Class := { plain "java/io/Serializable" (some 0) with
  accessFlags := 1537
  interfaces := #[]
  cf := some (fileOf pool3 1 #[] #[] 1537 3 #[] #[])
  fields := #[]
  methods := #[]
  instanceTypes := #[]
  staticTypes := #[]
  resolved := Array.replicate 7 none
  statics := none }

def pool4 : Array CpInfo := pool [(1, .class_ 2), (0, u "java/lang/Comparable"), (0, .class_ 4), (0, u "java/lang/Object")] 7

/-- java/lang/Comparable -/
def k4 : Class := { plain "java/lang/Comparable" (some 0) with
  accessFlags := 1537
  interfaces := #[]
  cf := some (fileOf pool4 1 #[] #[] 1537 3 #[] #[])
  fields := #[]
  methods := #[]
  instanceTypes := #[]
  staticTypes := #[]
  resolved := Array.replicate 12 none
  statics := none }

def pool5 : Array CpInfo := pool [(2, .class_ 4), (1, u "java/lang/CharSequence"), (42, .class_ 48), (0, u "java/lang/CharSequence$1CodePointIterator"), (10, .class_ 60), (0, u "java/lang/CharSequence$1CharIterator"), (5, .class_ 67), (0, u "java/lang/Object")] 63

/-- java/lang/CharSequence -/
def k5 : Class := { plain "java/lang/CharSequence" (some 0) with
  accessFlags := 1537
  interfaces := #[]
  cf := some (fileOf pool5 2 #[.nestMembers #[47, 59]] #[] 1537 66 #[] #[])
  fields := #[]
  methods := #[]
  instanceTypes := #[]
  staticTypes := #[]
  resolved := Array.replicate 131 none
  statics := none }

def pool6 : Array CpInfo := pool [(1, .class_ 2), (0, u "java/lang/constant/Constable"), (0, .class_ 4), (0, u "java/lang/Object")] 6

/-- java/lang/constant/Constable -/
def k6 : Class := { plain "java/lang/constant/Constable" (some 0) with
  accessFlags := 1537
  interfaces := #[]
  cf := some (fileOf pool6 1 #[] #[] 1537 3 #[] #[])
  fields := #[]
  methods := #[]
  instanceTypes := #[]
  staticTypes := #[]
  resolved := Array.replicate 11 none
  statics := none }

def pool7 : Array CpInfo := pool [(1, .class_ 2), (0, u "java/lang/constant/ConstantDesc"), (0, .class_ 4), (0, u "java/lang/Object")] 32

/-- java/lang/constant/ConstantDesc -/
def k7 : Class := { plain "java/lang/constant/ConstantDesc" (some 0) with
  accessFlags := 1537
  interfaces := #[]
  cf := some (fileOf pool7 1 #[] #[] 1537 3 #[] #[])
  fields := #[]
  methods := #[]
  instanceTypes := #[]
  staticTypes := #[]
  resolved := Array.replicate 37 none
  statics := none }

def pool8 : Array CpInfo := pool [(1, .methodref 2 3), (0, .class_ 4), (0, .nameAndType 5 6), (0, u "java/lang/Object"), (0, u "<init>"), (0, u "()V"), (2, .fieldref 10 11), (0, .class_ 12), (0, .nameAndType 13 14), (0, u "java/lang/String"), (0, u "value"), (0, u "[B"), (0, .fieldref 10 16), (0, .nameAndType 17 18), (0, u "coder"), (0, u "B"), (2, u "hash"), (0, u "I"), (2, u "hashIsZero"), (0, u "Z"), (0, .methodref 10 28), (0, .nameAndType 5 29), (0, u "([CIILjava/lang/Void;)V"), (8, .fieldref 10 39), (0, .nameAndType 40 26), (0, u "COMPACT_STRINGS"), (1, .class_ 44), (1, u "java/lang/StringUTF16"), (0, u "compress"), (1, .methodref 42 48), (0, .nameAndType 49 50), (0, u "coderFromArrayLen"), (0, u "([BI)B"), (56, .class_ 109), (1, u "java/lang/StringLatin1"), (32, u "()Z"), (34, .methodref 42 178), (0, .nameAndType 45 179), (0, u "([CII)[B"), (154, u "()I"), (0, .methodref 10 336), (0, .nameAndType 17 337), (0, u "()B"), (154, .methodref 10 493), (0, .nameAndType 494 142), (0, u "isLatin1"), (10, .methodref 10 506), (0, .nameAndType 507 334), (0, u "length"), (5, u "checkFromToIndex"), (9, u "checkBoundsBeginEnd"), (0, u "(III)V"), (50, .class_ 576), (0, u "java/lang/CharSequence"), (22, u "CASE_INSENSITIVE_ORDER"), (0, u "Ljava/util/Comparator;"), (32, .methodref 10 634), (0, .nameAndType 635 636), (0, u "indexOf"), (0, u "(II)I"), (0, .methodref 107 638), (0, .nameAndType 635 639), (0, u "([BIII)I"), (0, .methodref 42 638), (124, u "(I)I"), (244, u "([C)V"), (42, .fieldref 1054 1055), (0, .class_ 1056), (0, .nameAndType 1057 1058), (0, u "jdk/internal/util/Preconditions"), (0, u "SIOOBE_FORMATTER"), (0, u "Ljava/util/function/BiFunction;"), (3, .methodref 1054 1063), (0, .nameAndType 513 1064), (0, u "(IIILjava/util/function/BiFunction;)I"), (36, u "serialPersistentFields"), (0, u "[Ljava/io/ObjectStreamField;"), (0, .class_ 1104), (0, u "java/lang/String$CaseInsensitiveComparator"), (1, .class_ 1107), (0, u "java/io/Serializable"), (0, .class_ 1109), (0, u "java/lang/Comparable"), (0, .class_ 1111), (0, u "java/lang/constant/Constable"), (0, .class_ 1113), (0, u "java/lang/constant/ConstantDesc"), (2, u "serialVersionUID"), (0, u "J"), (3, u "REPL"), (0, u "C"), (2, u "LATIN1"), (1, u "UTF16")] 323

def k8m0 : Method := { name := "<init>", desc := "()V", sig := { parameters := [], returnType := none }, accessFlags := 1, code := none }
def k8c1 : Code := { maxStack := 5, maxLocals := 2, code := jdk_42_method_3_code, exceptionTable := #[], attributes := #[] }
def k8m1 : Method := { name := "<init>", desc := "([C)V", sig := { parameters := [(.array .char)], returnType := none }, accessFlags := 1, code := some k8c1 }
def k8c2 : Code := { maxStack := 2, maxLocals := 1, code := jdk_42_method_54_code, exceptionTable := #[], attributes := #[] }
def k8m2 : Method := { name := "length", desc := "()I", sig := { parameters := [], returnType := some .int }, accessFlags := 1, code := some k8c2 }
def k8c3 : Code := { maxStack := 3, maxLocals := 2, code := jdk_42_method_79_code, exceptionTable := #[], attributes := #[] }
def k8m3 : Method := { name := "indexOf", desc := "(I)I", sig := { parameters := [.int], returnType := some .int }, accessFlags := 1, code := some k8c3 }
def k8c4 : Code := { maxStack := 4, maxLocals := 3, code := jdk_42_method_80_code, exceptionTable := #[], attributes := #[] }
def k8m4 : Method := { name := "indexOf", desc := "(II)I", sig := { parameters := [.int, .int], returnType := some .int }, accessFlags := 1, code := some k8c4 }
def k8c5 : Code := { maxStack := 4, maxLocals := 6, code := jdk_42_method_149_code, exceptionTable := #[], attributes := #[] }
def k8m5 : Method := { name := "<init>", desc := "([CIILjava/lang/Void;)V", sig := { parameters := [(.array .char), .int, .int, (.object "java/lang/Void")], returnType := none }, accessFlags := 2, code := some k8c5 }
def k8c6 : Code := { maxStack := 1, maxLocals := 1, code := jdk_42_method_152_code, exceptionTable := #[], attributes := #[] }
def k8m6 : Method := { name := "coder", desc := "()B", sig := { parameters := [], returnType := some .byte }, accessFlags := 0, code := some k8c6 }
def k8c7 : Code := { maxStack := 1, maxLocals := 1, code := jdk_42_method_154_code, exceptionTable := #[], attributes := #[] }
def k8m7 : Method := { name := "isLatin1", desc := "()Z", sig := { parameters := [], returnType := some .boolean }, accessFlags := 0, code := some k8c7 }
def k8c8 : Code := { maxStack := 4, maxLocals := 3, code := jdk_42_method_158_code, exceptionTable := #[], attributes := #[] }
def k8m8 : Method := { name := "checkBoundsBeginEnd", desc := "(III)V", sig := { parameters := [.int, .int, .int], returnType := none }, accessFlags := 8, code := some k8c8 }
/-- java/lang/String -/
def k8 : Class := { plain "java/lang/String" (some 0) with
  accessFlags := 49
  interfaces := #[3, 4, 5, 6, 7]
  cf := some (fileOf pool8 10 #[.nestMembers #[1103]] #[{ accessFlags := 1, nameIndex := 5, descriptorIndex := 6, attributes := #[] }, { accessFlags := 1, nameIndex := 5, descriptorIndex := 1010, attributes := #[] }, { accessFlags := 1, nameIndex := 507, descriptorIndex := 334, attributes := #[] }, { accessFlags := 1, nameIndex := 635, descriptorIndex := 765, attributes := #[] }, { accessFlags := 1, nameIndex := 635, descriptorIndex := 636, attributes := #[] }, { accessFlags := 2, nameIndex := 5, descriptorIndex := 29, attributes := #[] }, { accessFlags := 0, nameIndex := 17, descriptorIndex := 337, attributes := #[] }, { accessFlags := 0, nameIndex := 494, descriptorIndex := 142, attributes := #[] }, { accessFlags := 8, nameIndex := 523, descriptorIndex := 524, attributes := #[] }] 49 2 #[1106, 1108, 575, 1110, 1112] #[{ accessFlags := 18, nameIndex := 13, descriptorIndex := 14, attributes := #[] }, { accessFlags := 18, nameIndex := 17, descriptorIndex := 18, attributes := #[] }, { accessFlags := 2, nameIndex := 21, descriptorIndex := 22, attributes := #[] }, { accessFlags := 2, nameIndex := 25, descriptorIndex := 26, attributes := #[] }, { accessFlags := 26, nameIndex := 1116, descriptorIndex := 1117, attributes := #[] }, { accessFlags := 24, nameIndex := 40, descriptorIndex := 26, attributes := #[] }, { accessFlags := 26, nameIndex := 1101, descriptorIndex := 1102, attributes := #[] }, { accessFlags := 26, nameIndex := 1121, descriptorIndex := 1122, attributes := #[] }, { accessFlags := 25, nameIndex := 599, descriptorIndex := 600, attributes := #[] }, { accessFlags := 24, nameIndex := 1125, descriptorIndex := 18, attributes := #[] }, { accessFlags := 24, nameIndex := 1127, descriptorIndex := 18, attributes := #[] }])
  fields := #[{ name := "value", type := (.array .byte), accessFlags := 18, slot := 0, constantValue := 0 }, { name := "coder", type := .byte, accessFlags := 18, slot := 1, constantValue := 0 }, { name := "hash", type := .int, accessFlags := 2, slot := 2, constantValue := 0 }, { name := "hashIsZero", type := .boolean, accessFlags := 2, slot := 3, constantValue := 0 }, { name := "serialVersionUID", type := .long, accessFlags := 26, slot := 0, constantValue := 0 }, { name := "COMPACT_STRINGS", type := .boolean, accessFlags := 24, slot := 1, constantValue := 0 }, { name := "serialPersistentFields", type := (.array (.object "java/io/ObjectStreamField")), accessFlags := 26, slot := 2, constantValue := 0 }, { name := "REPL", type := .char, accessFlags := 26, slot := 3, constantValue := 0 }, { name := "CASE_INSENSITIVE_ORDER", type := (.object "java/util/Comparator"), accessFlags := 25, slot := 4, constantValue := 0 }, { name := "LATIN1", type := .byte, accessFlags := 24, slot := 5, constantValue := 0 }, { name := "UTF16", type := .byte, accessFlags := 24, slot := 6, constantValue := 0 }]
  methods := #[k8m0, k8m1, k8m2, k8m3, k8m4, k8m5, k8m6, k8m7, k8m8]
  instanceTypes := #[(.array .byte), .byte, .int, .boolean]
  staticTypes := #[.long, .boolean, (.array (.object "java/io/ObjectStreamField")), .char, (.object "java/util/Comparator"), .byte, .byte]
  resolved := Array.replicate 1451 none
  statics := some 0 }

def pool9 : Array CpInfo := pool [(3, .class_ 4), (0, u "java/lang/String"), (1, .class_ 8), (1, u "java/lang/Object"), (0, u "<init>"), (0, u "()V"), (0, .methodref 12 13), (0, .class_ 14), (0, .nameAndType 15 16), (0, u "java/lang/StringUTF16"), (0, u "newBytesLength"), (0, u "(I)I"), (3, .integer 1073741823), (23, .fieldref 12 45), (0, .nameAndType 46 47), (0, u "$assertionsDisabled"), (0, u "Z"), (0, .methodref 12 49), (0, .nameAndType 50 51), (0, u "length"), (0, u "([B)I"), (7, .fieldref 12 60), (0, .nameAndType 61 62), (0, u "HI_BYTE_SHIFT"), (0, u "I"), (0, .fieldref 12 64), (0, .nameAndType 65 62), (0, u "LO_BYTE_SHIFT"), (5, .methodref 12 72), (0, .nameAndType 73 74), (0, u "getChar"), (0, u "([BI)C"), (21, .methodref 12 97), (0, .nameAndType 98 99), (0, u "checkBoundsBeginEnd"), (0, u "(II[B)V"), (7, .methodref 12 108), (0, .nameAndType 109 110), (0, u "newBytesFor"), (0, u "(I)[B"), (0, .methodref 12 112), (0, .nameAndType 113 114), (0, u "putChar"), (0, u "([BII)V"), (0, .methodref 12 116), (0, .nameAndType 117 118), (0, u "compress"), (0, u "([CI[BII)I"), (0, .methodref 12 120), (0, .nameAndType 121 122), (0, u "toBytes"), (0, u "([CII)[B"), (60, .methodref 184 185), (0, .class_ 186), (0, .nameAndType 187 188), (0, u "java/lang/Math"), (0, u "min"), (0, u "(II)I"), (35, .methodref 184 225), (0, .nameAndType 226 188), (0, u "max"), (0, .integer 65536), (0, .methodref 12 229), (0, .nameAndType 230 231), (0, u "indexOfChar"), (0, u "([BIII)I"), (9, .methodref 3 242), (0, .nameAndType 98 243), (0, u "(III)V"), (0, .methodref 12 245), (0, .nameAndType 246 231), (0, u "indexOfCharUnsafe"), (14, u "coderFromArrayLen"), (0, u "([BI)B"), (5, u "indexOf"), (100, .class_ 371), (1, u "java/lang/StringUTF16$LinesSpliterator"), (58, u "MAX_LENGTH"), (196, .class_ 628), (0, u "java/lang/StringUTF16$CodePointsSpliterator"), (0, .class_ 630), (0, u "java/lang/StringUTF16$CharsSpliterator")] 4

def k9m0 : Method := { name := "<init>", desc := "()V", sig := { parameters := [], returnType := none }, accessFlags := 0, code := none }
def k9c1 : Code := { maxStack := 1, maxLocals := 1, code := jdk_52_method_2_code, exceptionTable := #[], attributes := #[] }
def k9m1 : Method := { name := "newBytesFor", desc := "(I)[B", sig := { parameters := [.int], returnType := some (.array .byte) }, accessFlags := 9, code := some k9c1 }
def k9c2 : Code := { maxStack := 4, maxLocals := 1, code := jdk_52_method_3_code, exceptionTable := #[], attributes := #[] }
def k9m2 : Method := { name := "newBytesLength", desc := "(I)I", sig := { parameters := [.int], returnType := some .int }, accessFlags := 9, code := some k9c2 }
def k9c3 : Code := { maxStack := 4, maxLocals := 3, code := jdk_52_method_4_code, exceptionTable := #[], attributes := #[] }
def k9m3 : Method := { name := "putChar", desc := "([BII)V", sig := { parameters := [(.array .byte), .int, .int], returnType := none }, accessFlags := 8, code := some k9c3 }
def k9c4 : Code := { maxStack := 3, maxLocals := 2, code := jdk_52_method_5_code, exceptionTable := #[], attributes := #[] }
def k9m4 : Method := { name := "getChar", desc := "([BI)C", sig := { parameters := [(.array .byte), .int], returnType := some .char }, accessFlags := 8, code := some k9c4 }
def k9c5 : Code := { maxStack := 2, maxLocals := 1, code := jdk_52_method_6_code, exceptionTable := #[], attributes := #[] }
def k9m5 : Method := { name := "length", desc := "([B)I", sig := { parameters := [(.array .byte)], returnType := some .int }, accessFlags := 9, code := some k9c5 }
def k9c6 : Code := { maxStack := 4, maxLocals := 5, code := jdk_52_method_14_code, exceptionTable := #[], attributes := #[] }
def k9m6 : Method := { name := "toBytes", desc := "([CII)[B", sig := { parameters := [(.array .char), .int, .int], returnType := some (.array .byte) }, accessFlags := 9, code := some k9c6 }
def k9c7 : Code := { maxStack := 2, maxLocals := 2, code := jdk_52_method_15_code, exceptionTable := #[], attributes := #[] }
def k9m7 : Method := { name := "coderFromArrayLen", desc := "([BI)B", sig := { parameters := [(.array .byte), .int], returnType := some .byte }, accessFlags := 8, code := some k9c7 }
def k9c8 : Code := { maxStack := 5, maxLocals := 6, code := jdk_52_method_16_code, exceptionTable := #[], attributes := #[] }
def k9m8 : Method := { name := "compress", desc := "([CII)[B", sig := { parameters := [(.array .char), .int, .int], returnType := some (.array .byte) }, accessFlags := 9, code := some k9c8 }
def k9c9 : Code := { maxStack := 3, maxLocals := 7, code := jdk_52_method_21_code, exceptionTable := #[], attributes := #[] }
def k9m9 : Method := { name := "compress", desc := "([CI[BII)I", sig := { parameters := [(.array .char), .int, (.array .byte), .int, .int], returnType := some .int }, accessFlags := 9, code := some k9c9 }
def k9c10 : Code := { maxStack := 4, maxLocals := 4, code := jdk_52_method_40_code, exceptionTable := #[], attributes := #[] }
def k9m10 : Method := { name := "indexOf", desc := "([BIII)I", sig := { parameters := [(.array .byte), .int, .int, .int], returnType := some .int }, accessFlags := 9, code := some k9c10 }
def k9c11 : Code := { maxStack := 4, maxLocals := 4, code := jdk_52_method_47_code, exceptionTable := #[], attributes := #[] }
def k9m11 : Method := { name := "indexOfChar", desc := "([BIII)I", sig := { parameters := [(.array .byte), .int, .int, .int], returnType := some .int }, accessFlags := 10, code := some k9c11 }
def k9c12 : Code := { maxStack := 2, maxLocals := 5, code := jdk_52_method_48_code, exceptionTable := #[], attributes := #[] }
def k9m12 : Method := { name := "indexOfCharUnsafe", desc := "([BIII)I", sig := { parameters := [(.array .byte), .int, .int, .int], returnType := some .int }, accessFlags := 10, code := some k9c12 }
def k9c13 : Code := { maxStack := 3, maxLocals := 3, code := jdk_52_method_93_code, exceptionTable := #[], attributes := #[] }
def k9m13 : Method := { name := "checkBoundsBeginEnd", desc := "(II[B)V", sig := { parameters := [.int, .int, (.array .byte)], returnType := none }, accessFlags := 9, code := some k9c13 }
/-- java/lang/StringUTF16 -/
def k9 : Class := { plain "java/lang/StringUTF16" (some 0) with
  accessFlags := 48
  interfaces := #[]
  cf := some (fileOf pool9 12 #[.nestMembers #[627, 629, 369]] #[{ accessFlags := 0, nameIndex := 9, descriptorIndex := 10, attributes := #[] }, { accessFlags := 9, nameIndex := 109, descriptorIndex := 110, attributes := #[] }, { accessFlags := 9, nameIndex := 15, descriptorIndex := 16, attributes := #[] }, { accessFlags := 8, nameIndex := 113, descriptorIndex := 114, attributes := #[] }, { accessFlags := 8, nameIndex := 73, descriptorIndex := 74, attributes := #[] }, { accessFlags := 9, nameIndex := 50, descriptorIndex := 51, attributes := #[] }, { accessFlags := 9, nameIndex := 121, descriptorIndex := 122, attributes := #[] }, { accessFlags := 8, nameIndex := 261, descriptorIndex := 262, attributes := #[] }, { accessFlags := 9, nameIndex := 117, descriptorIndex := 122, attributes := #[] }, { accessFlags := 9, nameIndex := 117, descriptorIndex := 118, attributes := #[] }, { accessFlags := 9, nameIndex := 268, descriptorIndex := 231, attributes := #[] }, { accessFlags := 10, nameIndex := 230, descriptorIndex := 231, attributes := #[] }, { accessFlags := 10, nameIndex := 246, descriptorIndex := 231, attributes := #[] }, { accessFlags := 9, nameIndex := 98, descriptorIndex := 99, attributes := #[] }] 48 6 #[] #[{ accessFlags := 26, nameIndex := 61, descriptorIndex := 62, attributes := #[] }, { accessFlags := 26, nameIndex := 65, descriptorIndex := 62, attributes := #[] }, { accessFlags := 24, nameIndex := 430, descriptorIndex := 62, attributes := #[] }, { accessFlags := 4120, nameIndex := 46, descriptorIndex := 47, attributes := #[] }])
  fields := #[{ name := "HI_BYTE_SHIFT", type := .int, accessFlags := 26, slot := 0, constantValue := 0 }, { name := "LO_BYTE_SHIFT", type := .int, accessFlags := 26, slot := 1, constantValue := 0 }, { name := "MAX_LENGTH", type := .int, accessFlags := 24, slot := 2, constantValue := 0 }, { name := "$assertionsDisabled", type := .boolean, accessFlags := 4120, slot := 3, constantValue := 0 }]
  methods := #[k9m0, k9m1, k9m2, k9m3, k9m4, k9m5, k9m6, k9m7, k9m8, k9m9, k9m10, k9m11, k9m12, k9m13]
  instanceTypes := #[]
  staticTypes := #[.int, .int, .int, .boolean]
  resolved := Array.replicate 635 none
  statics := some 1 }

def pool10 : Array CpInfo := pool [(4, .class_ 6), (1, u "java/lang/Object"), (0, u "<init>"), (0, u "()V"), (5, .class_ 16), (1, u "java/lang/StringLatin1"), (21, .methodref 39 40), (0, .class_ 41), (0, .nameAndType 42 43), (0, u "java/lang/Math"), (0, u "min"), (0, u "(II)I"), (44, .methodref 14 89), (0, .nameAndType 90 91), (0, u "canEncode"), (0, u "(I)Z"), (0, .methodref 39 93), (0, .nameAndType 94 43), (0, u "max"), (0, .methodref 14 96), (0, .nameAndType 97 98), (0, u "indexOfChar"), (0, u "([BIII)I"), (2, u "indexOf"), (19, u "$assertionsDisabled"), (0, u "Z"), (98, .class_ 223), (1, u "java/lang/StringLatin1$LinesSpliterator"), (166, .class_ 391), (0, u "java/lang/StringLatin1$CharsSpliterator")] 3

def k10m0 : Method := { name := "<init>", desc := "()V", sig := { parameters := [], returnType := none }, accessFlags := 0, code := none }
def k10c1 : Code := { maxStack := 2, maxLocals := 1, code := jdk_43_method_4_code, exceptionTable := #[], attributes := #[] }
def k10m1 : Method := { name := "canEncode", desc := "(I)Z", sig := { parameters := [.int], returnType := some .boolean }, accessFlags := 9, code := some k10c1 }
def k10c2 : Code := { maxStack := 4, maxLocals := 4, code := jdk_43_method_22_code, exceptionTable := #[], attributes := #[] }
def k10m2 : Method := { name := "indexOf", desc := "([BIII)I", sig := { parameters := [(.array .byte), .int, .int, .int], returnType := some .int }, accessFlags := 9, code := some k10c2 }
def k10c3 : Code := { maxStack := 2, maxLocals := 6, code := jdk_43_method_23_code, exceptionTable := #[], attributes := #[] }
def k10m3 : Method := { name := "indexOfChar", desc := "([BIII)I", sig := { parameters := [(.array .byte), .int, .int, .int], returnType := some .int }, accessFlags := 10, code := some k10c3 }
/-- java/lang/StringLatin1 -/
def k10 : Class := { plain "java/lang/StringLatin1" (some 0) with
  accessFlags := 48
  interfaces := #[]
  cf := some (fileOf pool10 14 #[.nestMembers #[390, 221]] #[{ accessFlags := 0, nameIndex := 7, descriptorIndex := 8, attributes := #[] }, { accessFlags := 9, nameIndex := 90, descriptorIndex := 91, attributes := #[] }, { accessFlags := 9, nameIndex := 101, descriptorIndex := 98, attributes := #[] }, { accessFlags := 10, nameIndex := 97, descriptorIndex := 98, attributes := #[] }] 48 4 #[] #[{ accessFlags := 4120, nameIndex := 121, descriptorIndex := 122, attributes := #[] }])
  fields := #[{ name := "$assertionsDisabled", type := .boolean, accessFlags := 4120, slot := 0, constantValue := 0 }]
  methods := #[k10m0, k10m1, k10m2, k10m3]
  instanceTypes := #[]
  staticTypes := #[.boolean]
  resolved := Array.replicate 395 none
  statics := none }

def pool11 : Array CpInfo := pool [(1, .class_ 2), (0, u "java/lang/Math"), (1, .class_ 6), (1, u "java/lang/Object"), (0, u "<init>"), (0, u "()V"), (89, .class_ 100), (1, u "java/lang/Math$RandomNumberGeneratorHolder"), (71, u "negativeZeroFloatBits"), (0, u "J"), (2, u "negativeZeroDoubleBits"), (21, u "max"), (2, u "min"), (43, u "$assertionsDisabled"), (0, u "Z"), (88, u "(II)I"), (2, u "twoToTheDoubleScaleDown"), (0, u "D"), (4, u "twoToTheDoubleScaleUp"), (9, u "E"), (3, u "PI"), (2, u "TAU"), (2, u "DEGREES_TO_RADIANS"), (0, u "RADIANS_TO_DEGREES")] 94

def k11m0 : Method := { name := "<init>", desc := "()V", sig := { parameters := [], returnType := none }, accessFlags := 2, code := none }
def k11c1 : Code := { maxStack := 2, maxLocals := 2, code := jdk_29_method_65_code, exceptionTable := #[], attributes := #[] }
def k11m1 : Method := { name := "max", desc := "(II)I", sig := { parameters := [.int, .int], returnType := some .int }, accessFlags := 9, code := some k11c1 }
def k11c2 : Code := { maxStack := 2, maxLocals := 2, code := jdk_29_method_69_code, exceptionTable := #[], attributes := #[] }
def k11m2 : Method := { name := "min", desc := "(II)I", sig := { parameters := [.int, .int], returnType := some .int }, accessFlags := 9, code := some k11c2 }
/-- java/lang/Math -/
def k11 : Class := { plain "java/lang/Math" (some 0) with
  accessFlags := 49
  interfaces := #[]
  cf := some (fileOf pool11 1 #[.nestMembers #[98]] #[{ accessFlags := 2, nameIndex := 7, descriptorIndex := 8, attributes := #[] }, { accessFlags := 9, nameIndex := 198, descriptorIndex := 335, attributes := #[] }, { accessFlags := 9, nameIndex := 201, descriptorIndex := 335, attributes := #[] }] 49 4 #[] #[{ accessFlags := 25, nameIndex := 354, descriptorIndex := 339, attributes := #[] }, { accessFlags := 25, nameIndex := 358, descriptorIndex := 339, attributes := #[] }, { accessFlags := 25, nameIndex := 361, descriptorIndex := 339, attributes := #[] }, { accessFlags := 26, nameIndex := 364, descriptorIndex := 339, attributes := #[] }, { accessFlags := 26, nameIndex := 365, descriptorIndex := 339, attributes := #[] }, { accessFlags := 26, nameIndex := 172, descriptorIndex := 173, attributes := #[] }, { accessFlags := 26, nameIndex := 176, descriptorIndex := 173, attributes := #[] }, { accessFlags := 8, nameIndex := 344, descriptorIndex := 339, attributes := #[] }, { accessFlags := 8, nameIndex := 338, descriptorIndex := 339, attributes := #[] }, { accessFlags := 4120, nameIndex := 245, descriptorIndex := 246, attributes := #[] }])
  fields := #[{ name := "E", type := .double, accessFlags := 25, slot := 0, constantValue := 0 }, { name := "PI", type := .double, accessFlags := 25, slot := 1, constantValue := 0 }, { name := "TAU", type := .double, accessFlags := 25, slot := 2, constantValue := 0 }, { name := "DEGREES_TO_RADIANS", type := .double, accessFlags := 26, slot := 3, constantValue := 0 }, { name := "RADIANS_TO_DEGREES", type := .double, accessFlags := 26, slot := 4, constantValue := 0 }, { name := "negativeZeroFloatBits", type := .long, accessFlags := 26, slot := 5, constantValue := 0 }, { name := "negativeZeroDoubleBits", type := .long, accessFlags := 26, slot := 6, constantValue := 0 }, { name := "twoToTheDoubleScaleUp", type := .double, accessFlags := 8, slot := 7, constantValue := 0 }, { name := "twoToTheDoubleScaleDown", type := .double, accessFlags := 8, slot := 8, constantValue := 0 }, { name := "$assertionsDisabled", type := .boolean, accessFlags := 4120, slot := 9, constantValue := 0 }]
  methods := #[k11m0, k11m1, k11m2]
  instanceTypes := #[]
  staticTypes := #[.double, .double, .double, .double, .double, .long, .long, .double, .double, .boolean]
  resolved := Array.replicate 460 none
  statics := none }

def pool12 : Array CpInfo := pool [(2, .class_ 4), (1, u "java/lang/Object"), (0, u "<init>"), (0, u "()V"), (17, .class_ 26), (1, u "jdk/internal/util/Preconditions"), (20, u "checkFromToIndex"), (7, .class_ 56), (0, u "jdk/internal/util/Preconditions$4"), (57, .class_ 115), (0, u "jdk/internal/util/Preconditions$1"), (7, u "SIOOBE_FORMATTER"), (0, u "Ljava/util/function/BiFunction;"), (0, .class_ 126), (0, u "jdk/internal/util/Preconditions$2"), (3, u "AIOOBE_FORMATTER"), (0, .class_ 132), (0, u "jdk/internal/util/Preconditions$3"), (3, u "IOOBE_FORMATTER"), (46, u "(IIILjava/util/function/BiFunction;)I")] 10

def k12m0 : Method := { name := "<init>", desc := "()V", sig := { parameters := [], returnType := none }, accessFlags := 1, code := none }
def k12c1 : Code := { maxStack := 4, maxLocals := 4, code := jdk_41_method_12_code, exceptionTable := #[], attributes := #[] }
def k12m1 : Method := { name := "checkFromToIndex", desc := "(IIILjava/util/function/BiFunction;)I", sig := { parameters := [.int, .int, .int, (.object "java/util/function/BiFunction")], returnType := some .int }, accessFlags := 9, code := some k12c1 }
/-- jdk/internal/util/Preconditions -/
def k12 : Class := { plain "jdk/internal/util/Preconditions" (some 0) with
  accessFlags := 33
  interfaces := #[]
  cf := some (fileOf pool12 24 #[.nestMembers #[55, 131, 125, 114]] #[{ accessFlags := 1, nameIndex := 5, descriptorIndex := 6, attributes := #[] }, { accessFlags := 9, nameIndex := 47, descriptorIndex := 183, attributes := #[] }] 33 2 #[] #[{ accessFlags := 25, nameIndex := 123, descriptorIndex := 124, attributes := #[] }, { accessFlags := 25, nameIndex := 130, descriptorIndex := 124, attributes := #[] }, { accessFlags := 25, nameIndex := 136, descriptorIndex := 124, attributes := #[] }])
  fields := #[{ name := "SIOOBE_FORMATTER", type := (.object "java/util/function/BiFunction"), accessFlags := 25, slot := 0, constantValue := 0 }, { name := "AIOOBE_FORMATTER", type := (.object "java/util/function/BiFunction"), accessFlags := 25, slot := 1, constantValue := 0 }, { name := "IOOBE_FORMATTER", type := (.object "java/util/function/BiFunction"), accessFlags := 25, slot := 2, constantValue := 0 }]
  methods := #[k12m0, k12m1]
  instanceTypes := #[]
  staticTypes := #[(.object "java/util/function/BiFunction"), (.object "java/util/function/BiFunction"), (.object "java/util/function/BiFunction")]
  resolved := Array.replicate 194 none
  statics := some 2 }

def pool13 : Array CpInfo := pool [(9, u "<init>"), (6, .class_ 18), (1, u "java/lang/Object"), (0, u "()V"), (1, .class_ 23), (1, u "jdk/internal/util/ArraysSupport"), (0, u "LOG2_ARRAY_LONG_INDEX_SCALE"), (0, u "I"), (2, u "U"), (0, u "Ljdk/internal/misc/Unsafe;"), (8, u "BIG_ENDIAN"), (0, u "Z"), (8, u "LOG2_BYTE_BIT_SIZE"), (4, u "LOG2_ARRAY_INT_INDEX_SCALE"), (54, u "JLA"), (0, u "Ljdk/internal/access/JavaLangAccess;"), (11, u "LOG2_ARRAY_BOOLEAN_INDEX_SCALE"), (9, u "LOG2_ARRAY_BYTE_INDEX_SCALE"), (5, u "LOG2_ARRAY_CHAR_INDEX_SCALE"), (5, u "LOG2_ARRAY_SHORT_INDEX_SCALE"), (18, u "LOG2_ARRAY_FLOAT_INDEX_SCALE"), (24, u "LOG2_ARRAY_DOUBLE_INDEX_SCALE"), (89, u "T_BOOLEAN"), (2, u "T_CHAR"), (1, u "T_FLOAT"), (1, u "T_DOUBLE"), (1, u "T_BYTE"), (1, u "T_SHORT"), (1, u "T_INT"), (1, u "T_LONG"), (1, u "SOFT_MAX_ARRAY_LENGTH")] 83

def k13m0 : Method := { name := "<init>", desc := "()V", sig := { parameters := [], returnType := none }, accessFlags := 2, code := none }
/-- jdk/internal/util/ArraysSupport -/
def k13 : Class := { plain "jdk/internal/util/ArraysSupport" (some 0) with
  accessFlags := 33
  interfaces := #[]
  cf := some (fileOf pool13 21 #[] #[{ accessFlags := 2, nameIndex := 9, descriptorIndex := 19, attributes := #[] }] 33 16 #[] #[{ accessFlags := 24, nameIndex := 28, descriptorIndex := 29, attributes := #[] }, { accessFlags := 26, nameIndex := 38, descriptorIndex := 39, attributes := #[] }, { accessFlags := 25, nameIndex := 121, descriptorIndex := 25, attributes := #[] }, { accessFlags := 25, nameIndex := 131, descriptorIndex := 25, attributes := #[] }, { accessFlags := 25, nameIndex := 137, descriptorIndex := 25, attributes := #[] }, { accessFlags := 25, nameIndex := 143, descriptorIndex := 25, attributes := #[] }, { accessFlags := 25, nameIndex := 53, descriptorIndex := 25, attributes := #[] }, { accessFlags := 25, nameIndex := 24, descriptorIndex := 25, attributes := #[] }, { accessFlags := 25, nameIndex := 162, descriptorIndex := 25, attributes := #[] }, { accessFlags := 25, nameIndex := 187, descriptorIndex := 25, attributes := #[] }, { accessFlags := 26, nameIndex := 48, descriptorIndex := 25, attributes := #[] }, { accessFlags := 25, nameIndex := 277, descriptorIndex := 25, attributes := #[] }, { accessFlags := 25, nameIndex := 280, descriptorIndex := 25, attributes := #[] }, { accessFlags := 25, nameIndex := 282, descriptorIndex := 25, attributes := #[] }, { accessFlags := 25, nameIndex := 284, descriptorIndex := 25, attributes := #[] }, { accessFlags := 25, nameIndex := 286, descriptorIndex := 25, attributes := #[] }, { accessFlags := 25, nameIndex := 288, descriptorIndex := 25, attributes := #[] }, { accessFlags := 25, nameIndex := 290, descriptorIndex := 25, attributes := #[] }, { accessFlags := 25, nameIndex := 292, descriptorIndex := 25, attributes := #[] }, { accessFlags := 26, nameIndex := 108, descriptorIndex := 109, attributes := #[] }, { accessFlags := 25, nameIndex := 294, descriptorIndex := 25, attributes := #[] }])
  fields := #[{ name := "U", type := (.object "jdk/internal/misc/Unsafe"), accessFlags := 24, slot := 0, constantValue := 0 }, { name := "BIG_ENDIAN", type := .boolean, accessFlags := 26, slot := 1, constantValue := 0 }, { name := "LOG2_ARRAY_BOOLEAN_INDEX_SCALE", type := .int, accessFlags := 25, slot := 2, constantValue := 0 }, { name := "LOG2_ARRAY_BYTE_INDEX_SCALE", type := .int, accessFlags := 25, slot := 3, constantValue := 0 }, { name := "LOG2_ARRAY_CHAR_INDEX_SCALE", type := .int, accessFlags := 25, slot := 4, constantValue := 0 }, { name := "LOG2_ARRAY_SHORT_INDEX_SCALE", type := .int, accessFlags := 25, slot := 5, constantValue := 0 }, { name := "LOG2_ARRAY_INT_INDEX_SCALE", type := .int, accessFlags := 25, slot := 6, constantValue := 0 }, { name := "LOG2_ARRAY_LONG_INDEX_SCALE", type := .int, accessFlags := 25, slot := 7, constantValue := 0 }, { name := "LOG2_ARRAY_FLOAT_INDEX_SCALE", type := .int, accessFlags := 25, slot := 8, constantValue := 0 }, { name := "LOG2_ARRAY_DOUBLE_INDEX_SCALE", type := .int, accessFlags := 25, slot := 9, constantValue := 0 }, { name := "LOG2_BYTE_BIT_SIZE", type := .int, accessFlags := 26, slot := 10, constantValue := 0 }, { name := "T_BOOLEAN", type := .int, accessFlags := 25, slot := 11, constantValue := 0 }, { name := "T_CHAR", type := .int, accessFlags := 25, slot := 12, constantValue := 0 }, { name := "T_FLOAT", type := .int, accessFlags := 25, slot := 13, constantValue := 0 }, { name := "T_DOUBLE", type := .int, accessFlags := 25, slot := 14, constantValue := 0 }, { name := "T_BYTE", type := .int, accessFlags := 25, slot := 15, constantValue := 0 }, { name := "T_SHORT", type := .int, accessFlags := 25, slot := 16, constantValue := 0 }, { name := "T_INT", type := .int, accessFlags := 25, slot := 17, constantValue := 0 }, { name := "T_LONG", type := .int, accessFlags := 25, slot := 18, constantValue := 0 }, { name := "JLA", type := (.object "jdk/internal/access/JavaLangAccess"), accessFlags := 26, slot := 19, constantValue := 0 }, { name := "SOFT_MAX_ARRAY_LENGTH", type := .int, accessFlags := 25, slot := 20, constantValue := 0 }]
  methods := #[k13m0]
  instanceTypes := #[]
  staticTypes := #[(.object "jdk/internal/misc/Unsafe"), .boolean, .int, .int, .int, .int, .int, .int, .int, .int, .int, .int, .int, .int, .int, .int, .int, .int, .int, (.object "jdk/internal/access/JavaLangAccess"), .int]
  resolved := Array.replicate 378 none
  statics := none }

def pool14 : Array CpInfo := pool [(1, u "java/lang/Cloneable"), (0, .class_ 1), (0, u "java/lang/Object"), (0, .class_ 3)] 3

/-- java/lang/Cloneable -/
def k14 : Class := { plain "java/lang/Cloneable" (some 0) with
  accessFlags := 1537
  interfaces := #[]
  cf := some (fileOf pool14 2 #[] #[] 1537 4 #[] #[])
  fields := #[]
  methods := #[]
  instanceTypes := #[]
  staticTypes := #[]
  resolved := Array.replicate 8 none
  statics := none }

/-- the primitive byte -/
def k15 : Class := { plain "byte" none with kind := .primitive 'B', accessFlags := 0x411 }
/-- [B -/
def k16 : Class := { plain "[B" (some 0) with kind := .array 15 .byte, interfaces := #[14, 3], accessFlags := 1041 }

/-- the primitive char -/
def k17 : Class := { plain "char" none with kind := .primitive 'C', accessFlags := 0x411 }
/-- [C -/
def k18 : Class := { plain "[C" (some 0) with kind := .array 17 .char, interfaces := #[14, 3], accessFlags := 1041 }

/-- the primitive int -/
def k19 : Class := { plain "int" none with kind := .primitive 'I', accessFlags := 0x411 }
/-- [I -/
def k20 : Class := { plain "[I" (some 0) with kind := .array 19 .int, interfaces := #[14, 3], accessFlags := 1041 }

def heap : Heap := #[{ cls := 8, slots := #[.long 0, .int 1, .null, .int 0, .null, .int 0, .int 0], vm := .statics 8 },
  { cls := 9, slots := #[.int 0, .int 8, .int 0, .int 1], vm := .statics 9 },
  { cls := 12, slots := #[.null, .null, .null], vm := .statics 12 }]
def classes : Array Class := #[k0, k1, k2, k3, k4, k5, k6, k7, k8, k9, k10, k11, k12, k13, k14, k15, k16, k17, k18, k19, k20]
def interned : List (Array UInt16 × Addr) := []
def slotsUsed : Nat := 14
def theMethod : MethodId := ⟨1, 1⟩
def args0 : Array Value := #[.int 5, .int 0, .int 5, .int 0, .int 1]
def aboutOver (below : List Frame) : State where
  vm := { classes := classes, interned := interned.toArray }
  heap := heap
  slotsUsed := slotsUsed
  threads := #[{ frames := .invoking theMethod args0 :: below }]
def below0 : List Frame := [.native { method := ⟨0, 0⟩, args := #[] }]
def about1 : State := aboutOver below0
def p0 : Program := .bare "" "" ""
def e0 : Env := launch0.env 0 0 0
theorem w_frames : about1.frames = Frame.invoking theMethod args0 :: below0 := rfl
set_option maxRecDepth 65536 in
theorem w_args : argsFit about1.vm theMethod args0 = true := by decide +kernel
set_option maxRecDepth 65536 in
theorem w_heap : heapFits about1 = true := by decide +kernel
set_option maxRecDepth 65536 in
theorem w_runnable : about1.curStatus? = some .runnable := by decide +kernel
set_option maxRecDepth 65536 in
theorem w_alone : about1.alone = true := by decide +kernel
set_option maxRecDepth 65536 in
theorem w_named : about1.methodNamed? x = some theMethod := by decide +kernel
set_option maxRecDepth 65536 in
theorem w_hears : about1.hears theMethod below0 = true := by decide +kernel
set_option maxRecDepth 65536 in
theorem w_ripe : about1.ripe theMethod args0 below0 = true := by decide +kernel
theorem w_running : about1.status = .running := rfl
set_option maxRecDepth 65536 in
theorem w_room : about1.hasRoom e0.platform room_1 = true :=
  launch0.hasRoom_least _ room_1 (by decide +kernel) (by decide +kernel) (by decide +kernel) (by decide +kernel) (by decide +kernel) (by decide +kernel)
theorem allAtoms_all (ts : List Jvm.Cond) (a : Array Jvm.Value) (st : Jvm.State) : (allAtoms ts).before a st = ts.all (fun c => c.before a st) := by
  induction ts with
  | nil => rfl
  | cons c t ih =>
    show (Jvm.Cond.and c (allAtoms t)).before a st = _
    rw [Jvm.Cond.before_and, ih, List.all_cons]
def words1 : List Jvm.Cond := Jvm.Cond.code x code maxLocals ret :: tables_1
/-- a 'code' word, met by the world's own term for the bytes: nothing is compared byte by byte -/
theorem code_word {y : MethodName} {bytes : ByteArray} {mx : Nat} {rt : Option FieldType} {a : Array Value} {s : State} {m : MethodId} {meth : Method} {c : Code} (h1 : s.methodNamed? y = some m) (h2 : s.vm.method? m = some meth) (h3 : meth.code = some c) (h4 : c.code = bytes)
    (h5 : (c.maxLocals == mx && c.exceptionTable.isEmpty && decide (c.maxStack ≤ mostOperands) && decide (meth.sig.returnType = rt) && !meth.locks && decide (parseMethodDescriptor y.desc = some meth.sig)) = true) : (Jvm.Cond.code y bytes mx rt).before a s = true := by
  simp only [Bool.and_eq_true, beq_iff_eq, Bool.not_eq_true', decide_eq_true_eq] at h5
  obtain ⟨⟨⟨⟨⟨g1, g2⟩, g3⟩, g4⟩, g5⟩, g6⟩ := h5
  simp [Cond.before, Cond.holds, Cond.value, h1, h2, h3, h4, g1, g2, g3, g4, g5, g6]
def isCode : Jvm.Cond → Bool
  | .code _ _ _ _ => true
  | _ => false
theorem all_split {L : List Jvm.Cond} {P : Jvm.Cond → Bool} (h1 : L.all (fun c => isCode c || P c) = true) (h2 : ∀ c ∈ L.filter isCode, P c = true) : L.all P = true := by
  refine List.all_eq_true.mpr fun c hc => ?_
  have h := List.all_eq_true.mp h1 c hc
  rcases Bool.eq_false_or_eq_true (isCode c) with hi | hi
  · exact h2 c (List.mem_filter.mpr ⟨hc, hi⟩)
  · simpa [hi] using h
set_option maxRecDepth 65536 in
theorem w_c0 : (Jvm.Cond.code x code maxLocals ret).before args0 about1 = true := code_word (m := ⟨1, 1⟩) (meth := k1m1) (c := k1c1) (by decide +kernel) rfl rfl rfl (by decide +kernel)
set_option maxRecDepth 65536 in
theorem w_c1 : (Jvm.Cond.code ({ cls := "com/example/argweave/argweave/LineCounterPassPinLaw", name := "pick", desc := "(I)C" } : Jvm.MethodName) method_3_code (2 : Nat) (Option.some Jvm.ClassFile.FieldType.char)).before args0 about1 = true := code_word (m := ⟨1, 2⟩) (meth := k1m2) (c := k1c2) (by decide +kernel) rfl rfl rfl (by decide +kernel)
set_option maxRecDepth 65536 in
theorem w_c2 : (Jvm.Cond.code ({ cls := "java/lang/String", name := "<init>", desc := "([C)V" } : Jvm.MethodName) jdk_42_method_3_code (2 : Nat) (Option.none : Option Jvm.ClassFile.FieldType)).before args0 about1 = true := code_word (m := ⟨8, 1⟩) (meth := k8m1) (c := k8c1) (by decide +kernel) rfl rfl rfl (by decide +kernel)
set_option maxRecDepth 65536 in
theorem w_c3 : (Jvm.Cond.code ({ cls := "java/lang/String", name := "<init>", desc := "([CIILjava/lang/Void;)V" } : Jvm.MethodName) jdk_42_method_149_code (6 : Nat) (Option.none : Option Jvm.ClassFile.FieldType)).before args0 about1 = true := code_word (m := ⟨8, 5⟩) (meth := k8m5) (c := k8c5) (by decide +kernel) rfl rfl rfl (by decide +kernel)
set_option maxRecDepth 65536 in
theorem w_c4 : (Jvm.Cond.code ({ cls := "java/lang/Object", name := "<init>", desc := "()V" } : Jvm.MethodName) object_method_1_code (1 : Nat) (Option.none : Option Jvm.ClassFile.FieldType)).before args0 about1 = true := code_word (m := ⟨0, 0⟩) (meth := k0m0) (c := k0c0) (by decide +kernel) rfl rfl rfl (by decide +kernel)
set_option maxRecDepth 65536 in
theorem w_c5 : (Jvm.Cond.code ({ cls := "java/lang/StringUTF16", name := "compress", desc := "([CII)[B" } : Jvm.MethodName) jdk_52_method_16_code (6 : Nat) (Option.some (Jvm.ClassFile.FieldType.array Jvm.ClassFile.FieldType.byte))).before args0 about1 = true := code_word (m := ⟨9, 8⟩) (meth := k9m8) (c := k9c8) (by decide +kernel) rfl rfl rfl (by decide +kernel)
set_option maxRecDepth 65536 in
theorem w_c6 : (Jvm.Cond.code ({ cls := "java/lang/StringUTF16", name := "compress", desc := "([CI[BII)I" } : Jvm.MethodName) jdk_52_method_21_code (7 : Nat) (Option.some Jvm.ClassFile.FieldType.int)).before args0 about1 = true := code_word (m := ⟨9, 9⟩) (meth := k9m9) (c := k9c9) (by decide +kernel) rfl rfl rfl (by decide +kernel)
set_option maxRecDepth 65536 in
theorem w_c7 : (Jvm.Cond.code ({ cls := "java/lang/StringUTF16", name := "coderFromArrayLen", desc := "([BI)B" } : Jvm.MethodName) jdk_52_method_15_code (2 : Nat) (Option.some Jvm.ClassFile.FieldType.byte)).before args0 about1 = true := code_word (m := ⟨9, 7⟩) (meth := k9m7) (c := k9c7) (by decide +kernel) rfl rfl rfl (by decide +kernel)
set_option maxRecDepth 65536 in
theorem w_c8 : (Jvm.Cond.code ({ cls := "com/example/argweave/argweave/LineCounter", name := "<init>", desc := "(Ljava/lang/String;)V" } : Jvm.MethodName) prog_32_method_1_code (2 : Nat) (Option.none : Option Jvm.ClassFile.FieldType)).before args0 about1 = true := code_word (m := ⟨2, 0⟩) (meth := k2m0) (c := k2c0) (by decide +kernel) rfl rfl rfl (by decide +kernel)
set_option maxRecDepth 65536 in
theorem w_c9 : (Jvm.Cond.code ({ cls := "com/example/argweave/argweave/LineCounterPassPinLaw", name := "step", desc := "(CZCC)I" } : Jvm.MethodName) method_4_code (4 : Nat) (Option.some Jvm.ClassFile.FieldType.int)).before args0 about1 = true := code_word (m := ⟨1, 3⟩) (meth := k1m3) (c := k1c3) (by decide +kernel) rfl rfl rfl (by decide +kernel)
set_option maxRecDepth 65536 in
theorem w_c10 : (Jvm.Cond.code ({ cls := "com/example/argweave/argweave/LineCounter", name := "pass", desc := "(C)V" } : Jvm.MethodName) prog_32_method_2_code (2 : Nat) (Option.none : Option Jvm.ClassFile.FieldType)).before args0 about1 = true := code_word (m := ⟨2, 1⟩) (meth := k2m1) (c := k2c1) (by decide +kernel) rfl rfl rfl (by decide +kernel)
set_option maxRecDepth 65536 in
theorem w_c11 : (Jvm.Cond.code ({ cls := "java/lang/String", name := "indexOf", desc := "(I)I" } : Jvm.MethodName) jdk_42_method_79_code (2 : Nat) (Option.some Jvm.ClassFile.FieldType.int)).before args0 about1 = true := code_word (m := ⟨8, 3⟩) (meth := k8m3) (c := k8c3) (by decide +kernel) rfl rfl rfl (by decide +kernel)
set_option maxRecDepth 65536 in
theorem w_c12 : (Jvm.Cond.code ({ cls := "java/lang/String", name := "indexOf", desc := "(II)I" } : Jvm.MethodName) jdk_42_method_80_code (3 : Nat) (Option.some Jvm.ClassFile.FieldType.int)).before args0 about1 = true := code_word (m := ⟨8, 4⟩) (meth := k8m4) (c := k8c4) (by decide +kernel) rfl rfl rfl (by decide +kernel)
set_option maxRecDepth 65536 in
theorem w_c13 : (Jvm.Cond.code ({ cls := "java/lang/String", name := "isLatin1", desc := "()Z" } : Jvm.MethodName) jdk_42_method_154_code (1 : Nat) (Option.some Jvm.ClassFile.FieldType.boolean)).before args0 about1 = true := code_word (m := ⟨8, 7⟩) (meth := k8m7) (c := k8c7) (by decide +kernel) rfl rfl rfl (by decide +kernel)
set_option maxRecDepth 65536 in
theorem w_c14 : (Jvm.Cond.code ({ cls := "java/lang/String", name := "length", desc := "()I" } : Jvm.MethodName) jdk_42_method_54_code (1 : Nat) (Option.some Jvm.ClassFile.FieldType.int)).before args0 about1 = true := code_word (m := ⟨8, 2⟩) (meth := k8m2) (c := k8c2) (by decide +kernel) rfl rfl rfl (by decide +kernel)
set_option maxRecDepth 65536 in
theorem w_c15 : (Jvm.Cond.code ({ cls := "java/lang/String", name := "coder", desc := "()B" } : Jvm.MethodName) jdk_42_method_152_code (1 : Nat) (Option.some Jvm.ClassFile.FieldType.byte)).before args0 about1 = true := code_word (m := ⟨8, 6⟩) (meth := k8m6) (c := k8c6) (by decide +kernel) rfl rfl rfl (by decide +kernel)
set_option maxRecDepth 65536 in
theorem w_c16 : (Jvm.Cond.code ({ cls := "java/lang/StringLatin1", name := "indexOf", desc := "([BIII)I" } : Jvm.MethodName) jdk_43_method_22_code (4 : Nat) (Option.some Jvm.ClassFile.FieldType.int)).before args0 about1 = true := code_word (m := ⟨10, 2⟩) (meth := k10m2) (c := k10c2) (by decide +kernel) rfl rfl rfl (by decide +kernel)
set_option maxRecDepth 65536 in
theorem w_c17 : (Jvm.Cond.code ({ cls := "java/lang/StringLatin1", name := "canEncode", desc := "(I)Z" } : Jvm.MethodName) jdk_43_method_4_code (1 : Nat) (Option.some Jvm.ClassFile.FieldType.boolean)).before args0 about1 = true := code_word (m := ⟨10, 1⟩) (meth := k10m1) (c := k10c1) (by decide +kernel) rfl rfl rfl (by decide +kernel)
set_option maxRecDepth 65536 in
theorem w_c18 : (Jvm.Cond.code ({ cls := "java/lang/Math", name := "max", desc := "(II)I" } : Jvm.MethodName) jdk_29_method_65_code (2 : Nat) (Option.some Jvm.ClassFile.FieldType.int)).before args0 about1 = true := code_word (m := ⟨11, 1⟩) (meth := k11m1) (c := k11c1) (by decide +kernel) rfl rfl rfl (by decide +kernel)
set_option maxRecDepth 65536 in
theorem w_c19 : (Jvm.Cond.code ({ cls := "java/lang/Math", name := "min", desc := "(II)I" } : Jvm.MethodName) jdk_29_method_69_code (2 : Nat) (Option.some Jvm.ClassFile.FieldType.int)).before args0 about1 = true := code_word (m := ⟨11, 2⟩) (meth := k11m2) (c := k11c2) (by decide +kernel) rfl rfl rfl (by decide +kernel)
set_option maxRecDepth 65536 in
theorem w_c20 : (Jvm.Cond.code ({ cls := "java/lang/StringLatin1", name := "indexOfChar", desc := "([BIII)I" } : Jvm.MethodName) jdk_43_method_23_code (6 : Nat) (Option.some Jvm.ClassFile.FieldType.int)).before args0 about1 = true := code_word (m := ⟨10, 3⟩) (meth := k10m3) (c := k10c3) (by decide +kernel) rfl rfl rfl (by decide +kernel)
set_option maxRecDepth 65536 in
theorem w_c21 : (Jvm.Cond.code ({ cls := "com/example/argweave/argweave/LineCounter", name := "line", desc := "()I" } : Jvm.MethodName) prog_32_method_5_code (1 : Nat) (Option.some Jvm.ClassFile.FieldType.int)).before args0 about1 = true := code_word (m := ⟨2, 2⟩) (meth := k2m2) (c := k2c2) (by decide +kernel) rfl rfl rfl (by decide +kernel)
set_option maxRecDepth 65536 in
theorem w_c22 : (Jvm.Cond.code ({ cls := "com/example/argweave/argweave/LineCounter", name := "column", desc := "()I" } : Jvm.MethodName) prog_32_method_6_code (1 : Nat) (Option.some Jvm.ClassFile.FieldType.int)).before args0 about1 = true := code_word (m := ⟨2, 3⟩) (meth := k2m3) (c := k2c3) (by decide +kernel) rfl rfl rfl (by decide +kernel)
set_option maxRecDepth 65536 in
theorem w_c23 : (Jvm.Cond.code ({ cls := "java/lang/StringUTF16", name := "toBytes", desc := "([CII)[B" } : Jvm.MethodName) jdk_52_method_14_code (5 : Nat) (Option.some (Jvm.ClassFile.FieldType.array Jvm.ClassFile.FieldType.byte))).before args0 about1 = true := code_word (m := ⟨9, 6⟩) (meth := k9m6) (c := k9c6) (by decide +kernel) rfl rfl rfl (by decide +kernel)
set_option maxRecDepth 65536 in
theorem w_c24 : (Jvm.Cond.code ({ cls := "java/lang/StringUTF16", name := "newBytesFor", desc := "(I)[B" } : Jvm.MethodName) jdk_52_method_2_code (1 : Nat) (Option.some (Jvm.ClassFile.FieldType.array Jvm.ClassFile.FieldType.byte))).before args0 about1 = true := code_word (m := ⟨9, 1⟩) (meth := k9m1) (c := k9c1) (by decide +kernel) rfl rfl rfl (by decide +kernel)
set_option maxRecDepth 65536 in
theorem w_c25 : (Jvm.Cond.code ({ cls := "java/lang/StringUTF16", name := "newBytesLength", desc := "(I)I" } : Jvm.MethodName) jdk_52_method_3_code (1 : Nat) (Option.some Jvm.ClassFile.FieldType.int)).before args0 about1 = true := code_word (m := ⟨9, 2⟩) (meth := k9m2) (c := k9c2) (by decide +kernel) rfl rfl rfl (by decide +kernel)
set_option maxRecDepth 65536 in
theorem w_c26 : (Jvm.Cond.code ({ cls := "java/lang/StringUTF16", name := "putChar", desc := "([BII)V" } : Jvm.MethodName) jdk_52_method_4_code (3 : Nat) (Option.none : Option Jvm.ClassFile.FieldType)).before args0 about1 = true := code_word (m := ⟨9, 3⟩) (meth := k9m3) (c := k9c3) (by decide +kernel) rfl rfl rfl (by decide +kernel)
set_option maxRecDepth 65536 in
theorem w_c27 : (Jvm.Cond.code ({ cls := "java/lang/StringUTF16", name := "getChar", desc := "([BI)C" } : Jvm.MethodName) jdk_52_method_5_code (2 : Nat) (Option.some Jvm.ClassFile.FieldType.char)).before args0 about1 = true := code_word (m := ⟨9, 4⟩) (meth := k9m4) (c := k9c4) (by decide +kernel) rfl rfl rfl (by decide +kernel)
set_option maxRecDepth 65536 in
theorem w_c28 : (Jvm.Cond.code ({ cls := "java/lang/StringUTF16", name := "indexOf", desc := "([BIII)I" } : Jvm.MethodName) jdk_52_method_40_code (4 : Nat) (Option.some Jvm.ClassFile.FieldType.int)).before args0 about1 = true := code_word (m := ⟨9, 10⟩) (meth := k9m10) (c := k9c10) (by decide +kernel) rfl rfl rfl (by decide +kernel)
set_option maxRecDepth 65536 in
theorem w_c29 : (Jvm.Cond.code ({ cls := "java/lang/StringUTF16", name := "indexOfChar", desc := "([BIII)I" } : Jvm.MethodName) jdk_52_method_47_code (4 : Nat) (Option.some Jvm.ClassFile.FieldType.int)).before args0 about1 = true := code_word (m := ⟨9, 11⟩) (meth := k9m11) (c := k9c11) (by decide +kernel) rfl rfl rfl (by decide +kernel)
set_option maxRecDepth 65536 in
theorem w_c30 : (Jvm.Cond.code ({ cls := "java/lang/StringUTF16", name := "checkBoundsBeginEnd", desc := "(II[B)V" } : Jvm.MethodName) jdk_52_method_93_code (3 : Nat) (Option.none : Option Jvm.ClassFile.FieldType)).before args0 about1 = true := code_word (m := ⟨9, 13⟩) (meth := k9m13) (c := k9c13) (by decide +kernel) rfl rfl rfl (by decide +kernel)
set_option maxRecDepth 65536 in
theorem w_c31 : (Jvm.Cond.code ({ cls := "java/lang/StringUTF16", name := "length", desc := "([B)I" } : Jvm.MethodName) jdk_52_method_6_code (1 : Nat) (Option.some Jvm.ClassFile.FieldType.int)).before args0 about1 = true := code_word (m := ⟨9, 5⟩) (meth := k9m5) (c := k9c5) (by decide +kernel) rfl rfl rfl (by decide +kernel)
set_option maxRecDepth 65536 in
theorem w_c32 : (Jvm.Cond.code ({ cls := "java/lang/String", name := "checkBoundsBeginEnd", desc := "(III)V" } : Jvm.MethodName) jdk_42_method_158_code (3 : Nat) (Option.none : Option Jvm.ClassFile.FieldType)).before args0 about1 = true := code_word (m := ⟨8, 8⟩) (meth := k8m8) (c := k8c8) (by decide +kernel) rfl rfl rfl (by decide +kernel)
set_option maxRecDepth 65536 in
theorem w_c33 : (Jvm.Cond.code ({ cls := "jdk/internal/util/Preconditions", name := "checkFromToIndex", desc := "(IIILjava/util/function/BiFunction;)I" } : Jvm.MethodName) jdk_41_method_12_code (4 : Nat) (Option.some Jvm.ClassFile.FieldType.int)).before args0 about1 = true := code_word (m := ⟨12, 1⟩) (meth := k12m1) (c := k12c1) (by decide +kernel) rfl rfl rfl (by decide +kernel)
set_option maxRecDepth 65536 in
theorem w_c34 : (Jvm.Cond.code ({ cls := "java/lang/StringUTF16", name := "indexOfCharUnsafe", desc := "([BIII)I" } : Jvm.MethodName) jdk_52_method_48_code (5 : Nat) (Option.some Jvm.ClassFile.FieldType.int)).before args0 about1 = true := code_word (m := ⟨9, 12⟩) (meth := k9m12) (c := k9c12) (by decide +kernel) rfl rfl rfl (by decide +kernel)
def codes1 : List Jvm.Cond := [Jvm.Cond.code x code maxLocals ret, Jvm.Cond.code ({ cls := "com/example/argweave/argweave/LineCounterPassPinLaw", name := "pick", desc := "(I)C" } : Jvm.MethodName) method_3_code (2 : Nat) (Option.some Jvm.ClassFile.FieldType.char), Jvm.Cond.code ({ cls := "java/lang/String", name := "<init>", desc := "([C)V" } : Jvm.MethodName) jdk_42_method_3_code (2 : Nat) (Option.none : Option Jvm.ClassFile.FieldType), Jvm.Cond.code ({ cls := "java/lang/String", name := "<init>", desc := "([CIILjava/lang/Void;)V" } : Jvm.MethodName) jdk_42_method_149_code (6 : Nat) (Option.none : Option Jvm.ClassFile.FieldType), Jvm.Cond.code ({ cls := "java/lang/Object", name := "<init>", desc := "()V" } : Jvm.MethodName) object_method_1_code (1 : Nat) (Option.none : Option Jvm.ClassFile.FieldType), Jvm.Cond.code ({ cls := "java/lang/StringUTF16", name := "compress", desc := "([CII)[B" } : Jvm.MethodName) jdk_52_method_16_code (6 : Nat) (Option.some (Jvm.ClassFile.FieldType.array Jvm.ClassFile.FieldType.byte)), Jvm.Cond.code ({ cls := "java/lang/StringUTF16", name := "compress", desc := "([CI[BII)I" } : Jvm.MethodName) jdk_52_method_21_code (7 : Nat) (Option.some Jvm.ClassFile.FieldType.int), Jvm.Cond.code ({ cls := "java/lang/StringUTF16", name := "coderFromArrayLen", desc := "([BI)B" } : Jvm.MethodName) jdk_52_method_15_code (2 : Nat) (Option.some Jvm.ClassFile.FieldType.byte), Jvm.Cond.code ({ cls := "com/example/argweave/argweave/LineCounter", name := "<init>", desc := "(Ljava/lang/String;)V" } : Jvm.MethodName) prog_32_method_1_code (2 : Nat) (Option.none : Option Jvm.ClassFile.FieldType), Jvm.Cond.code ({ cls := "com/example/argweave/argweave/LineCounterPassPinLaw", name := "step", desc := "(CZCC)I" } : Jvm.MethodName) method_4_code (4 : Nat) (Option.some Jvm.ClassFile.FieldType.int), Jvm.Cond.code ({ cls := "com/example/argweave/argweave/LineCounter", name := "pass", desc := "(C)V" } : Jvm.MethodName) prog_32_method_2_code (2 : Nat) (Option.none : Option Jvm.ClassFile.FieldType), Jvm.Cond.code ({ cls := "java/lang/String", name := "indexOf", desc := "(I)I" } : Jvm.MethodName) jdk_42_method_79_code (2 : Nat) (Option.some Jvm.ClassFile.FieldType.int), Jvm.Cond.code ({ cls := "java/lang/String", name := "indexOf", desc := "(II)I" } : Jvm.MethodName) jdk_42_method_80_code (3 : Nat) (Option.some Jvm.ClassFile.FieldType.int), Jvm.Cond.code ({ cls := "java/lang/String", name := "isLatin1", desc := "()Z" } : Jvm.MethodName) jdk_42_method_154_code (1 : Nat) (Option.some Jvm.ClassFile.FieldType.boolean), Jvm.Cond.code ({ cls := "java/lang/String", name := "length", desc := "()I" } : Jvm.MethodName) jdk_42_method_54_code (1 : Nat) (Option.some Jvm.ClassFile.FieldType.int), Jvm.Cond.code ({ cls := "java/lang/String", name := "coder", desc := "()B" } : Jvm.MethodName) jdk_42_method_152_code (1 : Nat) (Option.some Jvm.ClassFile.FieldType.byte), Jvm.Cond.code ({ cls := "java/lang/StringLatin1", name := "indexOf", desc := "([BIII)I" } : Jvm.MethodName) jdk_43_method_22_code (4 : Nat) (Option.some Jvm.ClassFile.FieldType.int), Jvm.Cond.code ({ cls := "java/lang/StringLatin1", name := "canEncode", desc := "(I)Z" } : Jvm.MethodName) jdk_43_method_4_code (1 : Nat) (Option.some Jvm.ClassFile.FieldType.boolean), Jvm.Cond.code ({ cls := "java/lang/Math", name := "max", desc := "(II)I" } : Jvm.MethodName) jdk_29_method_65_code (2 : Nat) (Option.some Jvm.ClassFile.FieldType.int), Jvm.Cond.code ({ cls := "java/lang/Math", name := "min", desc := "(II)I" } : Jvm.MethodName) jdk_29_method_69_code (2 : Nat) (Option.some Jvm.ClassFile.FieldType.int), Jvm.Cond.code ({ cls := "java/lang/StringLatin1", name := "indexOfChar", desc := "([BIII)I" } : Jvm.MethodName) jdk_43_method_23_code (6 : Nat) (Option.some Jvm.ClassFile.FieldType.int), Jvm.Cond.code ({ cls := "com/example/argweave/argweave/LineCounter", name := "line", desc := "()I" } : Jvm.MethodName) prog_32_method_5_code (1 : Nat) (Option.some Jvm.ClassFile.FieldType.int), Jvm.Cond.code ({ cls := "com/example/argweave/argweave/LineCounter", name := "column", desc := "()I" } : Jvm.MethodName) prog_32_method_6_code (1 : Nat) (Option.some Jvm.ClassFile.FieldType.int), Jvm.Cond.code ({ cls := "java/lang/StringUTF16", name := "toBytes", desc := "([CII)[B" } : Jvm.MethodName) jdk_52_method_14_code (5 : Nat) (Option.some (Jvm.ClassFile.FieldType.array Jvm.ClassFile.FieldType.byte)), Jvm.Cond.code ({ cls := "java/lang/StringUTF16", name := "newBytesFor", desc := "(I)[B" } : Jvm.MethodName) jdk_52_method_2_code (1 : Nat) (Option.some (Jvm.ClassFile.FieldType.array Jvm.ClassFile.FieldType.byte)), Jvm.Cond.code ({ cls := "java/lang/StringUTF16", name := "newBytesLength", desc := "(I)I" } : Jvm.MethodName) jdk_52_method_3_code (1 : Nat) (Option.some Jvm.ClassFile.FieldType.int), Jvm.Cond.code ({ cls := "java/lang/StringUTF16", name := "putChar", desc := "([BII)V" } : Jvm.MethodName) jdk_52_method_4_code (3 : Nat) (Option.none : Option Jvm.ClassFile.FieldType), Jvm.Cond.code ({ cls := "java/lang/StringUTF16", name := "getChar", desc := "([BI)C" } : Jvm.MethodName) jdk_52_method_5_code (2 : Nat) (Option.some Jvm.ClassFile.FieldType.char), Jvm.Cond.code ({ cls := "java/lang/StringUTF16", name := "indexOf", desc := "([BIII)I" } : Jvm.MethodName) jdk_52_method_40_code (4 : Nat) (Option.some Jvm.ClassFile.FieldType.int), Jvm.Cond.code ({ cls := "java/lang/StringUTF16", name := "indexOfChar", desc := "([BIII)I" } : Jvm.MethodName) jdk_52_method_47_code (4 : Nat) (Option.some Jvm.ClassFile.FieldType.int), Jvm.Cond.code ({ cls := "java/lang/StringUTF16", name := "checkBoundsBeginEnd", desc := "(II[B)V" } : Jvm.MethodName) jdk_52_method_93_code (3 : Nat) (Option.none : Option Jvm.ClassFile.FieldType), Jvm.Cond.code ({ cls := "java/lang/StringUTF16", name := "length", desc := "([B)I" } : Jvm.MethodName) jdk_52_method_6_code (1 : Nat) (Option.some Jvm.ClassFile.FieldType.int), Jvm.Cond.code ({ cls := "java/lang/String", name := "checkBoundsBeginEnd", desc := "(III)V" } : Jvm.MethodName) jdk_42_method_158_code (3 : Nat) (Option.none : Option Jvm.ClassFile.FieldType), Jvm.Cond.code ({ cls := "jdk/internal/util/Preconditions", name := "checkFromToIndex", desc := "(IIILjava/util/function/BiFunction;)I" } : Jvm.MethodName) jdk_41_method_12_code (4 : Nat) (Option.some Jvm.ClassFile.FieldType.int), Jvm.Cond.code ({ cls := "java/lang/StringUTF16", name := "indexOfCharUnsafe", desc := "([BIII)I" } : Jvm.MethodName) jdk_52_method_48_code (5 : Nat) (Option.some Jvm.ClassFile.FieldType.int)]
set_option maxRecDepth 65536 in
theorem codes_eq : words1.filter isCode = codes1 := rfl
theorem w_codes : ∀ c ∈ words1.filter isCode, c.before args0 about1 = true := by
  rw [codes_eq]
  intro c hc
  simp only [codes1, List.mem_cons, List.not_mem_nil, or_false] at hc
  rcases hc with rfl | rfl | rfl | rfl | rfl | rfl | rfl | rfl | rfl | rfl | rfl | rfl | rfl | rfl | rfl | rfl | rfl | rfl | rfl | rfl | rfl | rfl | rfl | rfl | rfl | rfl | rfl | rfl | rfl | rfl | rfl | rfl | rfl | rfl | rfl
  · exact w_c0
  · exact w_c1
  · exact w_c2
  · exact w_c3
  · exact w_c4
  · exact w_c5
  · exact w_c6
  · exact w_c7
  · exact w_c8
  · exact w_c9
  · exact w_c10
  · exact w_c11
  · exact w_c12
  · exact w_c13
  · exact w_c14
  · exact w_c15
  · exact w_c16
  · exact w_c17
  · exact w_c18
  · exact w_c19
  · exact w_c20
  · exact w_c21
  · exact w_c22
  · exact w_c23
  · exact w_c24
  · exact w_c25
  · exact w_c26
  · exact w_c27
  · exact w_c28
  · exact w_c29
  · exact w_c30
  · exact w_c31
  · exact w_c32
  · exact w_c33
  · exact w_c34
set_option maxRecDepth 65536 in
theorem w_t1 : (words1.take 24).all (fun c => isCode c || c.before args0 about1) = true := by decide +kernel
set_option maxRecDepth 65536 in
theorem w_t2 : ((words1.drop 24).take 24).all (fun c => isCode c || c.before args0 about1) = true := by decide +kernel
set_option maxRecDepth 65536 in
theorem w_t3 : (((words1.drop 24).drop 24).take 24).all (fun c => isCode c || c.before args0 about1) = true := by decide +kernel
set_option maxRecDepth 65536 in
theorem w_t4 : ((((words1.drop 24).drop 24).drop 24).take 24).all (fun c => isCode c || c.before args0 about1) = true := by decide +kernel
set_option maxRecDepth 65536 in
theorem w_t5 : (((((words1.drop 24).drop 24).drop 24).drop 24).take 24).all (fun c => isCode c || c.before args0 about1) = true := by decide +kernel
set_option maxRecDepth 65536 in
theorem w_t6 : ((((((words1.drop 24).drop 24).drop 24).drop 24).drop 24).take 24).all (fun c => isCode c || c.before args0 about1) = true := by decide +kernel
set_option maxRecDepth 65536 in
theorem w_t7 : ((((((words1.drop 24).drop 24).drop 24).drop 24).drop 24).drop 24).all (fun c => isCode c || c.before args0 about1) = true := by decide +kernel
theorem w_tables : (allAtoms (Jvm.Cond.code x code maxLocals ret :: tables_1)).before args0 about1 = true := by
  rw [allAtoms_all]
  show words1.all (fun c => c.before args0 about1) = true
  refine all_split ?_ w_codes
  rw [← List.take_append_drop 24 words1, List.all_append, w_t1, ← List.take_append_drop 24 (words1.drop 24), List.all_append, w_t2, ← List.take_append_drop 24 ((words1.drop 24).drop 24), List.all_append, w_t3, ← List.take_append_drop 24 (((words1.drop 24).drop 24).drop 24), List.all_append, w_t4, ← List.take_append_drop 24 ((((words1.drop 24).drop 24).drop 24).drop 24), List.all_append, w_t5, ← List.take_append_drop 24 (((((words1.drop 24).drop 24).drop 24).drop 24).drop 24), List.all_append, w_t6, w_t7]
  rfl
set_option maxRecDepth 65536 in
theorem w_rest : rest_1_c.before args0 about1 = true := by decide +kernel
set_option maxRecDepth 65536 in
theorem w_case : (Jvm.Cond.and given_1 narrow_1).before args0 about1 = true := by decide +kernel
theorem w_applies : (headSpec (Jvm.Cond.code x code maxLocals ret :: tables_1) room_1).applies x e0.platform about1 = true :=
  (Spec.applies_iff w_frames).mpr ⟨w_running, w_runnable, w_alone, w_named, w_hears, w_ripe, w_room, w_tables⟩
theorem atStart : AtStart classFile x code maxLocals ret World_1 tables_1 room_1 Calls_1 rest_1 Pre_1 launch0 p0 e0 about1 theMethod args0 below0 :=
  ⟨lists_1, trivial, launch0.admits_env _ _ _, launch0.least_env, fairChoices_fair.cas, fairChoices_fair.clock, w_frames, w_args, w_heap, w_applies, trivial, w_rest, w_case⟩
end start1
theorem witness_1 : WitnessClaimed_1 := ⟨start1.p0, start1.e0, start1.about1, start1.theMethod, start1.args0, start1.below0, start1.atStart⟩
end Jvm.Pilot.@@N@@
