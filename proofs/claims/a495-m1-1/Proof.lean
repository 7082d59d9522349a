import JvmDerived
import JvmDerived.Pilot.@@N@@Statement
import JvmDerived.Pilot.@@N@@Code
set_option linter.unusedVariables false
set_option linter.unusedSimpArgs false
@@BLOCK:NumsL.lean.txt@@
namespace Jvm.Pilot.@@N@@
open Jvm Jvm.ClassFile Sem Op Lib Jvm.Free Jvm.Stand Jvm.LawKit Jvm.RoadKit Bundle Jvm.Pilot.@@N@@.Jvm.D
section Own
variable {p : Program} {l : Launch} {e : Env} {R : Room} {s : State} {m : MethodId} {args : Array Value} {below : List Frame} {meth : Method} {c : Code} {T : State} {locs : List Loc} {cells slots : Nat} {Z : State} {a0 : Array Value} {h : Heap}
/-- from the state A the run comes to the method's end, and Q says what it leaves -/
def OwnFin (p : Program) (e : Env) (below : List Frame) (s : State) (Q : Option Value → Heap → List Loc → Prop) (C S : Nat) (A : State) : Prop :=
  ∃ s₂ o, Steps p.tables e below A s₂ ∧ s₂.status = .running ∧ Ended s₂ below o ∧ ∃ v L, o = .returned v ∧ Q v s₂.heap L ∧ FrameEnd s o s₂ L C S
variable {Q : Option Value → Heap → List Loc → Prop} {C S : Nat}
theorem own_go {A B : State} (h : ∀ t, Steps p.tables e below B t → Steps p.tables e below A t) (k : OwnFin p e below s Q C S B) : OwnFin p e below s Q C S A := by
  obtain ⟨s₂, o, h1, r⟩ := k
  exact ⟨s₂, o, h _ h1, r⟩
theorem own_ret (X : Stand p l e R s m args below meth c T locs cells slots) {v : Option Value} (hlk : meth.locks = false) (hv : meth.sig.returnType = none → v = none) {g : JFrame}
    (hstep : ∀ fs, (∀ (f : JFrame) (acts : List Action), f.method = m → f.locked = none → f.entered = [] → (doReturn e (T.setTop f) acts v).1 = T.setFrames fs) → Steps p.tables e below (T.setTop g) (T.setFrames fs))
    (hc : cells ≤ C) (hs : slots ≤ S) (hQ : Q v T.heap locs) : OwnFin p e below s Q C S (T.setTop g) := by
  obtain ⟨fs, hr, hrun, hended, hW, hsame⟩ := X.leave hv hlk
  exact ⟨_, _, hstep fs hr, hrun, hended, _, _, rfl, hQ, ⟨_, rfl⟩, hW, hsame.mono hc hs⟩
/-- a method's contract, in the form that backOf takes -/
abbrev OwnCtr (l : Launch) (Z : State) (y : MethodName) (ws : List Jvm.Cond) (bytes : ByteArray) (maxL : Nat) (ret : Option FieldType) (rm : Room) (as' : Array Value) (h0 : Heap) (Q : Option Value → Heap → List Loc → Prop) : Prop :=
  MetFree l y (head1 (Jvm.Cond.code y bytes maxL ret :: ws) rm) (fun a U => a = as' ∧ Z.Warmed39 U.vm ∧ U.heap = h0) (fun _ _ _ _ _ => True) (fun _ U o U' => ∃ v L, o = .returned v ∧ Q v U'.heap L ∧ FrameEnd U o U' L rm.cells rm.slots)
theorem own_body {l : Launch} {Z : State} {y : MethodName} {ws : List Jvm.Cond} {bytes : ByteArray} {maxL : Nat} {ret : Option FieldType} {rm : Room} {as' : Array Value} {h0 : Heap} {g0 : MethodId → JFrame}
    (hpl : plainFor y = true) (hef : ∀ m, entryFrame m as' maxL = g0 m)
    (body : ∀ (p : Program) (e : Env) (s : State) (m : MethodId) (below : List Frame) (meth : Method) (c : Code) (s₁ : State), Stand p l e rm s m as' below meth c s₁ [] 0 0 → p.tables.exec = Jvm.exec → c.code = bytes → c.maxLocals = maxL →
      s.vm.findClass y.cls = some m.cls → meth.name = y.name → Z.Warmed39 s.vm → s₁.heap = h0 → meth.sig.returnType = ret → meth.locks = false → OwnFin p e below s Q rm.cells rm.slots (s₁.setTop (g0 m))) :
    OwnCtr l Z y ws bytes maxL ret rm as' h0 Q := by
  refine MetFree.of_bodySF hpl hisR ?_
  intro p e s m args below meth c s₁ Bd hml0 hP hK
  obtain ⟨rfl, hZ, hh⟩ := hP
  have e0 : s₁.heap = h0 := by rw [← hh, Bd.state]; rfl
  have k := body p e s m below meth c s₁ (Stand.of_body Bd) Bd.exec Bd.bytes hml0 (findClass_of_methodNamed Bd.named) (name_of_methodNamed Bd.named Bd.method).1 hZ e0 Bd.returns Bd.notSynchronized
  rw [← hef m] at k
  exact k
/-- a static call by its contract -/
theorem own_callS (X : Stand p l e R s m args below meth c T locs cells slots) (hx : p.tables.exec = Jvm.exec) (hZ : Z.Warmed39 s.vm) {own : String} {index : Nat} {y : MethodName} {bytes : ByteArray} {maxL : Nat} {ret : Option FieldType} {rm : Room} {as' : Array Value} {Q : Option Value → Heap → List Loc → Prop}
    (hown : s.vm.findClass own = some m.cls) (hlink : (Cond.methodLink own index y).before a0 Z = true) (hstat : (Cond.static y).before a0 Z = true) (hinit : (Cond.initialized y.cls).before a0 Z = true) (hcode : (Cond.code y bytes maxL ret).before a0 Z = true)
    (hy : y.cls ≠ "java/lang/invoke/MethodHandle" ∧ y.cls ≠ "java/lang/invoke/VarHandle") {W : Nat} (hM : OwnCtr l Z y [] bytes maxL ret rm as' h Q) (hf : rm.frames + 1 ≤ R.frames) (hl : W + (maxL + 11) + rm.locals ≤ R.locals)
    {g : JFrame} (hg : g.method = m) (hsize : g.locals.size = c.maxLocals) {argsL rest : List Value} (hlen : ∀ sig, parseMethodDescriptor y.desc = some sig → argsL.length = sig.parameters.length)
    (hstack : g.stack = argsL.reverse ++ rest) (hW : 2 * g.monitorRoom + (rest.map fun v => v.category).sum ≤ W) (hdg : decode c.code g.pc = .ok (.invokestatic index, 3)) (eT : T.heap = h) (ha : argsL.toArray = as') (hc : cells + rm.cells ≤ R.cells) (hs : slots + rm.slots ≤ R.slots) :
    ∃ (v : Option Value) (T' : State) (L : List Loc), Stand p l e R s m args below meth c T' (locs ++ L) (cells + rm.cells) (slots + rm.slots) ∧ Q v T'.heap L ∧ ∀ target, Steps p.tables e below (T'.setTop { g with pc := g.pc + 3, stack := v.toList ++ rest }) target → Steps p.tables e below (T.setTop g) target := by
  obtain ⟨v, _, ⟨T', L', k, n⟩, -, X', ⟨L, hQ, l1, y1, z1⟩, st⟩ := Jvm.LawKit.callS X hx (y := y) hown (mvT hZ hlink) (mvT hZ hstat) (mvT hZ hinit) (mvT hZ hcode) hy (backOf (W := W) hM hZ hcode hinit hf hl) hg hsize hlen hstack hW hdg (fun _ _ => ⟨ha, eT, hc, hs⟩)
  dsimp only [Pt.U, Pt.locs, Pt.cells, Pt.slots] at X' l1 y1 z1 st hQ
  subst l1 y1 z1
  exact ⟨v, T', L, X', hQ, st⟩
/-- a constructor by its contract -/
theorem own_callI (X : Stand p l e R s m args below meth c T locs cells slots) (hx : p.tables.exec = Jvm.exec) (hZ : Z.Warmed39 s.vm) {own : String} {index : Nat} {y : MethodName} {bytes : ByteArray} {maxL : Nat} {rm : Room} {as' : Array Value} {Q : Option Value → Heap → List Loc → Prop}
    (hy1 : y.name = "<init>") (hown : s.vm.findClass own = some m.cls) (hlink : (Cond.methodLink own index y).before a0 Z = true) (hinst : (Cond.instanceMethod y).before a0 Z = true) (hinit : (Cond.initialized y.cls).before a0 Z = true) (hcode : (Cond.code y bytes maxL none).before a0 Z = true)
    (hy : y.cls ≠ "java/lang/invoke/MethodHandle" ∧ y.cls ≠ "java/lang/invoke/VarHandle") {W : Nat} (hM : OwnCtr l Z y [] bytes maxL none rm as' h Q) (hf : rm.frames + 1 ≤ R.frames) (hl : W + (maxL + 11) + rm.locals ≤ R.locals)
    {g : JFrame} (hg : g.method = m) (hsize : g.locals.size = c.maxLocals) {a : Addr} {argsL rest : List Value} (hlen : ∀ sig, parseMethodDescriptor y.desc = some sig → argsL.length = sig.parameters.length)
    (hstack : g.stack = argsL.reverse ++ .ref a :: rest) (hW : 2 * g.monitorRoom + (rest.map fun v => v.category).sum ≤ W) (hdg : decode c.code g.pc = .ok (.invokespecial index, 3)) (eT : T.heap = h) (ha : (.ref a :: argsL).toArray = as') (hc : cells + rm.cells ≤ R.cells) (hs : slots + rm.slots ≤ R.slots) :
    ∃ (v : Option Value) (T' : State) (L : List Loc), Stand p l e R s m args below meth c T' (locs ++ L) (cells + rm.cells) (slots + rm.slots) ∧ Q v T'.heap L ∧ ∀ target, Steps p.tables e below (T'.setTop { g with pc := g.pc + 3, stack := v.toList ++ rest }) target → Steps p.tables e below (T.setTop g) target := by
  obtain ⟨v, _, ⟨T', L', k, n⟩, -, X', ⟨L, hQ, l1, y1, z1⟩, st⟩ := X.specialBack hx (y := y) hy1 hown (mvT hZ hlink) (mvT hZ hinst) (mvT hZ hcode) hy (backOf (W := W) hM hZ hcode hinit hf hl) hg hsize (Steps.refl _) hlen hstack hW hdg (fun _ _ => ⟨ha, eT, hc, hs⟩)
  dsimp only [Pt.U, Pt.locs, Pt.cells, Pt.slots] at X' l1 y1 z1 st hQ
  subst l1 y1 z1
  exact ⟨v, T', L, X', hQ, fun t k => st.trans k⟩
/-- an instance method by its contract -/
theorem own_callV (X : Stand p l e R s m args below meth c T locs cells slots) (hx : p.tables.exec = Jvm.exec) (hZ : Z.Warmed39 s.vm) {own K : String} {index : Nat} {y z : MethodName} {bytes : ByteArray} {maxL : Nat} {ret : Option FieldType} {rm : Room} {as' : Array Value} {Q : Option Value → Heap → List Loc → Prop}
    (hown : s.vm.findClass own = some m.cls) (hlink : (Cond.methodLink own index y).before a0 Z = true) (hdecl : (Cond.declares y).before a0 Z = true) (hnf : NotFace s y) (hsel : (Cond.selects K y z).before a0 Z = true) (hinst : (Cond.instanceMethod z).before a0 Z = true) (hinit : (Cond.initialized z.cls).before a0 Z = true) (hcode : (Cond.code z bytes maxL ret).before a0 Z = true)
    (hy : y.cls ≠ "java/lang/invoke/MethodHandle" ∧ y.cls ≠ "java/lang/invoke/VarHandle") {W : Nat} (hM : OwnCtr l Z z [] bytes maxL ret rm as' h Q) (hf : rm.frames + 1 ≤ R.frames) (hl : W + (maxL + 11) + rm.locals ≤ R.locals)
    {b : Addr} (E : Exa Z h b K) {g : JFrame} (hg : g.method = m) (hsize : g.locals.size = c.maxLocals) {argsL rest : List Value} (hlen : ∀ sig, parseMethodDescriptor y.desc = some sig → argsL.length = sig.parameters.length)
    (hstack : g.stack = argsL.reverse ++ .ref b :: rest) (hW : 2 * g.monitorRoom + (rest.map fun v => v.category).sum ≤ W) (hdg : decode c.code g.pc = .ok (.invokevirtual index, 3)) (eT : T.heap = h) (ha : (.ref b :: argsL).toArray = as') (hc : cells + rm.cells ≤ R.cells) (hs : slots + rm.slots ≤ R.slots) :
    ∃ (v : Option Value) (T' : State) (L : List Loc), Stand p l e R s m args below meth c T' (locs ++ L) (cells + rm.cells) (slots + rm.slots) ∧ Q v T'.heap L ∧ ∀ target, Steps p.tables e below (T'.setTop { g with pc := g.pc + 3, stack := v.toList ++ rest }) target → Steps p.tables e below (T.setTop g) target := by
  obtain ⟨cq, kq, qa, qb, qc⟩ := isOf hZ eT E
  obtain ⟨v, _, ⟨T', L', k, n⟩, -, X', ⟨L, hQ, l1, y1, z1⟩, st⟩ := X.virtualBack hx (y := y) (z := z) hown (mvT hZ hlink) (mvT hZ hdecl) hnf (mvT hZ hsel) (mvT hZ hinst) hy (backOf (W := W) hM hZ hcode hinit hf hl) qa qc hg hsize (Steps.refl _) hlen hstack hW hdg (fun _ _ => ⟨ha, eT, hc, hs⟩)
  dsimp only [Pt.U, Pt.locs, Pt.cells, Pt.slots] at X' l1 y1 z1 st hQ
  subst l1 y1 z1
  exact ⟨v, T', L, X', hQ, fun t k => st.trans k⟩
/-- a private instance method, called by invokevirtual, by its contract -/
theorem own_callP (X : Stand p l e R s m args below meth c T locs cells slots) (hx : p.tables.exec = Jvm.exec) (hZ : Z.Warmed39 s.vm) {own : String} {index : Nat} {y : MethodName} {bytes : ByteArray} {maxL : Nat} {ret : Option FieldType} {rm : Room} {as' : Array Value} {Q : Option Value → Heap → List Loc → Prop}
    (hown : s.vm.findClass own = some m.cls) (hlink : (Cond.methodLink own index y).before a0 Z = true) (hinst : (Cond.instanceMethod y).before a0 Z = true) (hsel : (Cond.selects y.cls y y).before a0 Z = true) (hpriv : (Cond.privateMethod y).before a0 Z = true) (hinit : (Cond.initialized y.cls).before a0 Z = true) (hcode : (Cond.code y bytes maxL ret).before a0 Z = true)
    (hy : y.cls ≠ "java/lang/invoke/MethodHandle" ∧ y.cls ≠ "java/lang/invoke/VarHandle") {W : Nat} (hM : OwnCtr l Z y [] bytes maxL ret rm as' h Q) (hf : rm.frames + 1 ≤ R.frames) (hl : W + (maxL + 11) + rm.locals ≤ R.locals)
    {b : Addr} {K : String} (E : Exa Z h b K) {g : JFrame} (hg : g.method = m) (hsize : g.locals.size = c.maxLocals) {argsL rest : List Value} (hlen : ∀ sig, parseMethodDescriptor y.desc = some sig → argsL.length = sig.parameters.length)
    (hstack : g.stack = argsL.reverse ++ .ref b :: rest) (hW : 2 * g.monitorRoom + (rest.map fun v => v.category).sum ≤ W) (hdg : decode c.code g.pc = .ok (.invokevirtual index, 3)) (eT : T.heap = h) (ha : (.ref b :: argsL).toArray = as') (hc : cells + rm.cells ≤ R.cells) (hs : slots + rm.slots ≤ R.slots) :
    ∃ (v : Option Value) (T' : State) (L : List Loc), Stand p l e R s m args below meth c T' (locs ++ L) (cells + rm.cells) (slots + rm.slots) ∧ Q v T'.heap L ∧ ∀ target, Steps p.tables e below (T'.setTop { g with pc := g.pc + 3, stack := v.toList ++ rest }) target → Steps p.tables e below (T.setTop g) target := by
  obtain ⟨cq, q1, q2⟩ := E.cell
  obtain ⟨v, _, ⟨T', L', k, n⟩, -, X', ⟨L, hQ, l1, y1, z1⟩, st⟩ := X.privateBack hx (y := y) hown (mvT hZ hlink) (mvT hZ hinst) (mvT hZ hsel) (Cond.privateMethod_at (mvP hZ hpriv (args := #[]))) (mvT hZ hcode) hy (backOf (W := W) hM hZ hcode hinit hf hl) hg hsize (Steps.refl _) (by rw [eT]; exact q1) q2 hlen hstack hW hdg (fun _ _ => ⟨ha, eT, hc, hs⟩)
  dsimp only [Pt.U, Pt.locs, Pt.cells, Pt.slots] at X' l1 y1 z1 st hQ
  subst l1 y1 z1
  exact ⟨v, T', L, X', hQ, fun t k => st.trans k⟩
theorem own_retI (X : Stand p l e R s m args below meth c T locs cells slots) (hx : p.tables.exec = Jvm.exec) {pc : Nat} {Ls : Array Slot} {z : Int32} {rest : List Value} (hret : meth.sig.returnType = some .int) (hd : decode c.code pc = .ok (.ireturn, 1)) {fs : List Frame}
    (hl : ∀ (f : JFrame) (acts : List Action), f.method = m → f.locked = none → f.entered = [] → (doReturn e (T.setTop f) acts (some (.int z))).1 = T.setFrames fs) : Steps p.tables e below (T.setTop (mkF m pc Ls (.int z :: rest))) (T.setFrames fs) :=
  retOut X hx hret rfl (Or.inl ⟨rfl, Or.inl rfl, _, rfl⟩) hd hl
theorem own_retJ (X : Stand p l e R s m args below meth c T locs cells slots) (hx : p.tables.exec = Jvm.exec) {pc : Nat} {Ls : Array Slot} {z : Int64} {rest : List Value} (hret : meth.sig.returnType = some .long) (hd : decode c.code pc = .ok (.lreturn, 1)) {fs : List Frame}
    (hl : ∀ (f : JFrame) (acts : List Action), f.method = m → f.locked = none → f.entered = [] → (doReturn e (T.setTop f) acts (some (.long z))).1 = T.setFrames fs) : Steps p.tables e below (T.setTop (mkF m pc Ls (.long z :: rest))) (T.setFrames fs) :=
  retOut X hx hret rfl (Or.inr (Or.inl ⟨rfl, rfl, _, rfl⟩)) hd hl
theorem own_retR (X : Stand p l e R s m args below meth c T locs cells slots) (hx : p.tables.exec = Jvm.exec) {pc : Nat} {Ls : Array Slot} {w : Value} {t : FieldType} {rest : List Value} (hret : meth.sig.returnType = some t) (ht : t.isReference = true) (hw : w.isRef = true) (hd : decode c.code pc = .ok (.areturn, 1)) {fs : List Frame}
    (hl : ∀ (f : JFrame) (acts : List Action), f.method = m → f.locked = none → f.entered = [] → (doReturn e (T.setTop f) acts (some w)).1 = T.setFrames fs) : Steps p.tables e below (T.setTop (mkF m pc Ls (w :: rest))) (T.setFrames fs) :=
  retOut X hx hret (by cases t <;> simp [FieldType.isReference] at ht <;> cases w <;> simp [Value.isRef] at hw <;> rfl) (Or.inr (Or.inr (Or.inr (Or.inr ⟨rfl, ht, hw⟩)))) hd hl
theorem own_nf {K : String} {y y' : MethodName} (hsel : (Cond.selects K y' y').before args s = true) (hc : y'.cls = y.cls) : NotFace s y := fun r0 h0 => by
  obtain ⟨c2, r2, m2, q1, q2, q3, q4, kP, hkP, hkPi⟩ := Cond.selects_spec hsel
  have e1 := findClass_of_methodNamed q3
  have e2 := findClass_of_methodNamed h0
  rw [hc, e2] at e1
  have e3 := Option.some.inj e1
  exact ⟨kP, by rw [e3]; exact hkP, hkPi⟩
theorem own_stakeep {h' : Heap} {O n d : String} {v : Value} (F : Sta Z h O n d v) (K : Keep h h' []) : Sta Z h' O n d v := by
  obtain ⟨cf, i, k, f, st, cell, h1, h2, h3, h4, h5, r⟩ := F
  exact ⟨cf, i, k, f, st, cell, h1, h2, h3, h4, K.2.1 _ _ h5 nin0, r⟩
end Own

section OwnArrays
variable {p : Program} {l : Launch} {e : Env} {R : Room} {s : State} {m : MethodId} {args : Array Value} {below : List Frame} {meth : Method} {c : Code} {T : State} {locs : List Loc} {cells slots : Nat} {Z : State} {a0 : Array Value} {h h' : Heap} {a b : Addr} {ty : FieldType} {n : Nat} {f : Nat → Value}
/-- at a lies an array of n places of the kind ty, and its i-th place holds f i -/
def OwnArr (Z : State) (h : Heap) (a : Addr) (ty : FieldType) (n : Nat) (f : Nat → Value) : Prop := ∃ c : Cell, Arr Z h a c ty ∧ c.slots.size = n ∧ n < 2 ^ 31 ∧ ∀ i, i < n → c.slots[i]? = some (f i)
theorem OwnArr.lt (F : OwnArr Z h a ty n f) : a < h.size := by obtain ⟨c, A, -⟩ := F; exact A.lt
theorem OwnArr.ext (F : OwnArr Z h a ty n f) (E : Ext h h') : OwnArr Z h' a ty n f := by obtain ⟨c, A, r⟩ := F; exact ⟨c, A.ext E, r⟩
theorem OwnArr.other {sl : Nat} {v : Value} (F : OwnArr Z h b ty n f) (W : Wr h h' a sl v) (q : b ≠ a) : OwnArr Z h' b ty n f := by obtain ⟨c, A, r⟩ := F; exact ⟨c, A.other W q, r⟩
theorem OwnArr.keep {ws : List Addr} (F : OwnArr Z h a ty n f) (K : Keep h h' ws) (q : a ∉ ws) : OwnArr Z h' a ty n f := by obtain ⟨c, A, r⟩ := F; exact ⟨c, ⟨K.2.1 a c A.1 q, A.2⟩, r⟩
theorem OwnArr.congr {f' : Nat → Value} (F : OwnArr Z h a ty n f) (q : ∀ i, i < n → f i = f' i) : OwnArr Z h a ty n f' := by obtain ⟨c, A, r1, r2, r3⟩ := F; exact ⟨c, A, r1, r2, fun i hi => by rw [← q i hi]; exact r3 i hi⟩
theorem OwnArr.set {i : Nat} {v : Value} (F : OwnArr Z h a ty n f) (W : Wr h h' a i v) : OwnArr Z h' a ty n (fun k => if k = i then v else f k) := by
  obtain ⟨c, A, r1, r2, r3⟩ := F
  refine ⟨_, A.same W, by rw [sz_set]; exact r1, r2, fun k hk => ?_⟩
  show (c.slots.setIfInBounds i v)[k]? = _
  by_cases e : k = i
  · subst e; simp [r1, hk]
  · rw [Array.getElem?_setIfInBounds_ne (Ne.symm e), r3 k hk]; simp [e]
theorem own_newarr (X : Stand p l e R s m args below meth c T locs cells slots) (hx : p.tables.exec = Jvm.exec) (hZ : Z.Warmed39 s.vm) {aty : ArrayType} (w : (Cond.arrayClass (newarray.typeOf aty)).before a0 Z = true) (eT : T.heap = h) {g : JFrame} (hg : g.method = m) (hd : decode c.code g.pc = .ok (.newarray aty, 2)) {z : Int32} {rest : List Value} (hs : g.stack = .int z :: rest)
    {n cap : Nat} (hz : z = Int32.ofNat n) (hcap : n ≤ cap) (hb : cap * 8 ≤ 536870912) (hc : cells + 1 ≤ R.cells) (hl : slots + cap ≤ R.slots) :
    ∃ T' h', Stand p l e R s m args below meth c T' locs (cells + 1) (slots + cap) ∧ T'.heap = h' ∧ Ext h h' ∧ OwnArr Z h' h.size (newarray.typeOf aty) n (fun _ => defaultValue (newarray.typeOf aty)) ∧
      ∀ target, Steps p.tables e below (T'.setTop { g with pc := g.pc + 2, stack := .ref h.size :: rest }) target → Steps p.tables e below (T.setTop g) target := by
  have hn31 : n < 2 ^ 31 := by omega
  have hcl : z.toNatClampNeg = n := clamp_of hz hn31
  have hnn : ¬ z < 0 := by
    have q := toInt_of hz hn31
    rw [Int32.lt_iff_toInt_lt, q, Int32.toInt_zero]; omega
  obtain ⟨T', h', cA, X', e', E', A', st⟩ := newP X hx hZ w eT hg hd hs hnn (cap := cap) (by rw [hcl]; exact hcap) hb hc hl
  refine ⟨T', h', X', e', E', ⟨_, A', by rw [sz_new, hcl], hn31, fun i hi => ?_⟩, st⟩
  show (Array.replicate z.toNatClampNeg _)[i]? = _
  rw [hcl]; simp [hi]
theorem own_laload (X : Stand p l e R s m args below meth c T locs cells slots) (hx : p.tables.exec = Jvm.exec) (hZ : Z.Warmed39 s.vm) (eT : T.heap = h) (A : OwnArr Z h a .long n f) {j : Int32} {i : Nat} (hj : j = Int32.ofNat i) (hi : i < n) {g : JFrame} (hg : g.method = m) {rest : List Value} (hs : g.stack = .int j :: .ref a :: rest) (hd : decode c.code g.pc = .ok (.laload, 1)) :
    ∀ target, Steps p.tables e below (T.setTop { g with pc := g.pc + 1, stack := f i :: rest }) target → Steps p.tables e below (T.setTop g) target := by
  obtain ⟨cl, A, r1, r2, r3⟩ := A
  exact fun t k => X.laload hx (j := j) (v := f i) (by rw [eT]; exact A.1) (State.isArrayOf_alike hZ.alike A.2.1) A.2.2 (by rw [r1]; exact within hj hi r2) (by rw [clamp_of hj (by omega)]; exact r3 i hi) hg hs hd t k
theorem own_iaload (X : Stand p l e R s m args below meth c T locs cells slots) (hx : p.tables.exec = Jvm.exec) (hZ : Z.Warmed39 s.vm) (eT : T.heap = h) (A : OwnArr Z h a .int n f) {j : Int32} {i : Nat} (hj : j = Int32.ofNat i) (hi : i < n) {g : JFrame} (hg : g.method = m) {rest : List Value} (hs : g.stack = .int j :: .ref a :: rest) (hd : decode c.code g.pc = .ok (.iaload, 1)) :
    ∀ target, Steps p.tables e below (T.setTop { g with pc := g.pc + 1, stack := f i :: rest }) target → Steps p.tables e below (T.setTop g) target := by
  obtain ⟨cl, A, r1, r2, r3⟩ := A
  exact fun t k => X.iaload hx (j := j) (v := f i) (by rw [eT]; exact A.1) (State.isArrayOf_alike hZ.alike A.2.1) A.2.2 (by rw [r1]; exact within hj hi r2) (by rw [clamp_of hj (by omega)]; exact r3 i hi) hg hs hd t k
theorem own_zaload (X : Stand p l e R s m args below meth c T locs cells slots) (hx : p.tables.exec = Jvm.exec) (hZ : Z.Warmed39 s.vm) (eT : T.heap = h) (A : OwnArr Z h a .boolean n f) {j : Int32} {i : Nat} (hj : j = Int32.ofNat i) (hi : i < n) {g : JFrame} (hg : g.method = m) {rest : List Value} (hs : g.stack = .int j :: .ref a :: rest) (hd : decode c.code g.pc = .ok (.baload, 1)) :
    ∀ target, Steps p.tables e below (T.setTop { g with pc := g.pc + 1, stack := f i :: rest }) target → Steps p.tables e below (T.setTop g) target := by
  obtain ⟨cl, A, r1, r2, r3⟩ := A
  exact fun t k => X.baloadBooleans hx (j := j) (v := f i) (by rw [eT]; exact A.1) (State.isArrayOf_alike hZ.alike A.2.1) A.2.2 (by rw [r1]; exact within hj hi r2) (by rw [clamp_of hj (by omega)]; exact r3 i hi) hg hs hd t k
theorem own_baload (X : Stand p l e R s m args below meth c T locs cells slots) (hx : p.tables.exec = Jvm.exec) (hZ : Z.Warmed39 s.vm) (eT : T.heap = h) (A : OwnArr Z h a .byte n f) {j : Int32} {i : Nat} (hj : j = Int32.ofNat i) (hi : i < n) {g : JFrame} (hg : g.method = m) {rest : List Value} (hs : g.stack = .int j :: .ref a :: rest) (hd : decode c.code g.pc = .ok (.baload, 1)) :
    ∀ target, Steps p.tables e below (T.setTop { g with pc := g.pc + 1, stack := f i :: rest }) target → Steps p.tables e below (T.setTop g) target := by
  obtain ⟨cl, A, r1, r2, r3⟩ := A
  exact fun t k => X.baloadBytes hx (j := j) (v := f i) (by rw [eT]; exact A.1) (State.isArrayOf_alike hZ.alike A.2.1) A.2.2 (by rw [r1]; exact within hj hi r2) (by rw [clamp_of hj (by omega)]; exact r3 i hi) hg hs hd t k
theorem own_caload (X : Stand p l e R s m args below meth c T locs cells slots) (hx : p.tables.exec = Jvm.exec) (hZ : Z.Warmed39 s.vm) (eT : T.heap = h) (A : OwnArr Z h a .char n f) {j : Int32} {i : Nat} (hj : j = Int32.ofNat i) (hi : i < n) {g : JFrame} (hg : g.method = m) {rest : List Value} (hs : g.stack = .int j :: .ref a :: rest) (hd : decode c.code g.pc = .ok (.caload, 1)) :
    ∀ target, Steps p.tables e below (T.setTop { g with pc := g.pc + 1, stack := f i :: rest }) target → Steps p.tables e below (T.setTop g) target := by
  obtain ⟨cl, A, r1, r2, r3⟩ := A
  exact fun t k => X.caload hx (j := j) (v := f i) (by rw [eT]; exact A.1) (State.isArrayOf_alike hZ.alike A.2.1) A.2.2 (by rw [r1]; exact within hj hi r2) (by rw [clamp_of hj (by omega)]; exact r3 i hi) hg hs hd t k
theorem own_alength (X : Stand p l e R s m args below meth c T locs cells slots) (hx : p.tables.exec = Jvm.exec) (hZ : Z.Warmed39 s.vm) (eT : T.heap = h) (A : OwnArr Z h a ty n f) {g : JFrame} (hg : g.method = m) {rest : List Value} (hs : g.stack = .ref a :: rest) (hd : decode c.code g.pc = .ok (.arraylength, 1)) :
    ∀ target, Steps p.tables e below (T.setTop { g with pc := g.pc + 1, stack := .int (Int32.ofNat n) :: rest }) target → Steps p.tables e below (T.setTop g) target := by
  obtain ⟨cl, A, r1, r2, r3⟩ := A
  subst r1
  exact fun t k => X.arraylength hx (by rw [eT]; exact A.1) (State.isArrayOf_alike hZ.alike A.2.1) hg hs hd t k
theorem own_lastore (X : Stand p l e R s m args below meth c T locs cells slots) (hx : p.tables.exec = Jvm.exec) (hZ : Z.Warmed39 s.vm) (eT : T.heap = h) (A : OwnArr Z h a .long n f) {j : Int32} {i : Nat} {x : Int64} (hj : j = Int32.ofNat i) (hi : i < n) {g : JFrame} (hg : g.method = m) {rest : List Value} (hs : g.stack = .long x :: .int j :: .ref a :: rest) (hd : decode c.code g.pc = .ok (.lastore, 1)) :
    ∃ T' h', Stand p l e R s m args below meth c T' (locs ++ [⟨a, i⟩]) cells slots ∧ T'.heap = h' ∧ Wr h h' a i (.long x) ∧ OwnArr Z h' a .long n (fun k => if k = i then .long x else f k) ∧ ∀ target, Steps p.tables e below (T'.setTop { g with pc := g.pc + 1, stack := rest }) target → Steps p.tables e below (T.setTop g) target := by
  have A0 := A
  obtain ⟨cl, A, r1, r2, r3⟩ := A
  obtain ⟨T', h', X', e', W, st⟩ := stJ X hx hZ eT A (j := j) (x := x) (by rw [r1]; exact within hj hi r2) hg hs hd
  rw [clamp_of hj (by omega)] at X' W
  exact ⟨T', h', X', e', W, A0.set W, st⟩
theorem own_iastore (X : Stand p l e R s m args below meth c T locs cells slots) (hx : p.tables.exec = Jvm.exec) (hZ : Z.Warmed39 s.vm) (eT : T.heap = h) (A : OwnArr Z h a .int n f) {j : Int32} {i : Nat} {x : Int32} (hj : j = Int32.ofNat i) (hi : i < n) {g : JFrame} (hg : g.method = m) {rest : List Value} (hs : g.stack = .int x :: .int j :: .ref a :: rest) (hd : decode c.code g.pc = .ok (.iastore, 1)) :
    ∃ T' h', Stand p l e R s m args below meth c T' (locs ++ [⟨a, i⟩]) cells slots ∧ T'.heap = h' ∧ Wr h h' a i (.int x) ∧ OwnArr Z h' a .int n (fun k => if k = i then .int x else f k) ∧ ∀ target, Steps p.tables e below (T'.setTop { g with pc := g.pc + 1, stack := rest }) target → Steps p.tables e below (T.setTop g) target := by
  have A0 := A
  obtain ⟨cl, A, r1, r2, r3⟩ := A
  obtain ⟨T', h', X', e', W, st⟩ := stI X hx hZ eT A (j := j) (x := x) (by rw [r1]; exact within hj hi r2) hg hs hd
  rw [clamp_of hj (by omega)] at X' W
  exact ⟨T', h', X', e', W, A0.set W, st⟩
theorem own_zastore (X : Stand p l e R s m args below meth c T locs cells slots) (hx : p.tables.exec = Jvm.exec) (hZ : Z.Warmed39 s.vm) (eT : T.heap = h) (A : OwnArr Z h a .boolean n f) {j : Int32} {i : Nat} {x : Int32} (hj : j = Int32.ofNat i) (hi : i < n) {g : JFrame} (hg : g.method = m) {rest : List Value} (hs : g.stack = .int x :: .int j :: .ref a :: rest) (hd : decode c.code g.pc = .ok (.bastore, 1)) :
    ∃ T' h', Stand p l e R s m args below meth c T' (locs ++ [⟨a, i⟩]) cells slots ∧ T'.heap = h' ∧ Wr h h' a i (.int (nar .boolean x)) ∧ OwnArr Z h' a .boolean n (fun k => if k = i then .int (nar .boolean x) else f k) ∧ ∀ target, Steps p.tables e below (T'.setTop { g with pc := g.pc + 1, stack := rest }) target → Steps p.tables e below (T.setTop g) target := by
  have A0 := A
  obtain ⟨cl, A, r1, r2, r3⟩ := A
  obtain ⟨T', h', X', e', W, st⟩ := stZ X hx hZ eT A (j := j) (x := x) (by rw [r1]; exact within hj hi r2) hg hs hd
  rw [clamp_of hj (by omega)] at X' W
  exact ⟨T', h', X', e', W, A0.set W, st⟩
theorem own_bastore (X : Stand p l e R s m args below meth c T locs cells slots) (hx : p.tables.exec = Jvm.exec) (hZ : Z.Warmed39 s.vm) (eT : T.heap = h) (A : OwnArr Z h a .byte n f) {j : Int32} {i : Nat} {x : Int32} (hj : j = Int32.ofNat i) (hi : i < n) {g : JFrame} (hg : g.method = m) {rest : List Value} (hs : g.stack = .int x :: .int j :: .ref a :: rest) (hd : decode c.code g.pc = .ok (.bastore, 1)) :
    ∃ T' h', Stand p l e R s m args below meth c T' (locs ++ [⟨a, i⟩]) cells slots ∧ T'.heap = h' ∧ Wr h h' a i (.int (nar .byte x)) ∧ OwnArr Z h' a .byte n (fun k => if k = i then .int (nar .byte x) else f k) ∧ ∀ target, Steps p.tables e below (T'.setTop { g with pc := g.pc + 1, stack := rest }) target → Steps p.tables e below (T.setTop g) target := by
  have A0 := A
  obtain ⟨cl, A, r1, r2, r3⟩ := A
  obtain ⟨T', h', X', e', W, st⟩ := stB X hx hZ eT A (j := j) (x := x) (by rw [r1]; exact within hj hi r2) hg hs hd
  rw [clamp_of hj (by omega)] at X' W
  exact ⟨T', h', X', e', W, A0.set W, st⟩
theorem own_castore (X : Stand p l e R s m args below meth c T locs cells slots) (hx : p.tables.exec = Jvm.exec) (hZ : Z.Warmed39 s.vm) (eT : T.heap = h) (A : OwnArr Z h a .char n f) {j : Int32} {i : Nat} {x : Int32} (hj : j = Int32.ofNat i) (hi : i < n) {g : JFrame} (hg : g.method = m) {rest : List Value} (hs : g.stack = .int x :: .int j :: .ref a :: rest) (hd : decode c.code g.pc = .ok (.castore, 1)) :
    ∃ T' h', Stand p l e R s m args below meth c T' (locs ++ [⟨a, i⟩]) cells slots ∧ T'.heap = h' ∧ Wr h h' a i (.int (nar .char x)) ∧ OwnArr Z h' a .char n (fun k => if k = i then .int (nar .char x) else f k) ∧ ∀ target, Steps p.tables e below (T'.setTop { g with pc := g.pc + 1, stack := rest }) target → Steps p.tables e below (T.setTop g) target := by
  have A0 := A
  obtain ⟨cl, A, r1, r2, r3⟩ := A
  obtain ⟨T', h', X', e', W, st⟩ := stC X hx hZ eT A (j := j) (x := x) (by rw [r1]; exact within hj hi r2) hg hs hd
  rw [clamp_of hj (by omega)] at X' W
  exact ⟨T', h', X', e', W, A0.set W, st⟩
theorem own_arv2 {x y : Int32} (F : OwnArr Z h a .char 2 f) (h0 : f 0 = .int x) (h1 : f 1 = .int y) (q0 : fits .char (.int x) = true) (q1 : fits .char (.int y) = true) : ∃ k, Arv Z h a k .char 2 ([x, y].map Value.int) (.int 0) := by
  obtain ⟨c, A, r1, r2, r3⟩ := F
  refine ⟨c.cls, c, A, rfl, by rw [r1]; rfl, by decide, fun i hi => ?_, fun i hi => ?_⟩
  · rw [r1] at hi
    rw [r3 i hi]
    have hc : i = 0 ∨ i = 1 := by omega
    rcases hc with rfl | rfl
    · rw [h0]; rfl
    · rw [h1]; rfl
  · rw [r1] at hi
    have hc : i = 0 ∨ i = 1 := by omega
    rcases hc with rfl | rfl
    · exact q0
    · exact q1
theorem own_longs (F : OwnArr Z h a .long n f) (q : ∀ i, i < n → ∃ x : Int64, f i = .long x) : ∃ g : Nat → Int64, OwnArr Z h a .long n (fun i => .long (g i)) := by
  have q' : ∀ i, ∃ x : Int64, i < n → f i = .long x := fun i => by
    by_cases hi : i < n
    · obtain ⟨x, hx⟩ := q i hi; exact ⟨x, fun _ => hx⟩
    · exact ⟨0, fun z => absurd z hi⟩
  exact ⟨fun i => Classical.choose (q' i), F.congr fun i hi => Classical.choose_spec (q' i) hi⟩
end OwnArrays

theorem own_u64 (x : Int64) : x.toInt % 18446744073709551616 = (x.toBitVec.toNat : Int) := by
  have h : x.toInt = x.toBitVec.toInt := rfl
  have hb := x.toBitVec.isLt
  rw [h, BitVec.toInt_eq_toNat_cond]
  split <;> omega
theorem own_u32 (x : Int32) : x.toInt % 4294967296 = (x.toBitVec.toNat : Int) := by
  have h : x.toInt = x.toBitVec.toInt := rfl
  have hb := x.toBitVec.isLt
  rw [h, BitVec.toInt_eq_toNat_cond]
  split <;> omega
theorem own_lushr_nat (x : Int64) {n : UInt64} {k : Nat} (hn : n.toNat = k) (hk : k < 64) : ((x.toUInt64 >>> n).toInt64).toBitVec.toNat = x.toBitVec.toNat / 2 ^ k := by
  simp only [UInt64.toBitVec_toInt64, UInt64.toBitVec_shiftRight, Int64.toBitVec_toUInt64]
  simp [BitVec.toNat_ushiftRight, Nat.shiftRight_eq_div_pow, hn, Nat.mod_eq_of_lt hk]
theorem own_lushr (x : Int64) {n : UInt64} {k : Nat} (hn : n.toNat = k) (hk : k < 64) (h0 : 0 < k) : ((x.toUInt64 >>> n).toInt64).toInt = ((x.toBitVec.toNat / 2 ^ k : Nat) : Int) := by
  have e2 := own_lushr_nat x hn hk
  have hb := x.toBitVec.isLt
  have h2 : 2 ^ 1 ≤ 2 ^ k := Nat.pow_le_pow_right (by decide) h0
  have h3 : x.toBitVec.toNat / 2 ^ k ≤ x.toBitVec.toNat / 2 ^ 1 := Nat.div_le_div_left h2 (by decide)
  have h : ((x.toUInt64 >>> n).toInt64).toInt = ((x.toUInt64 >>> n).toInt64).toBitVec.toInt := rfl
  rw [h, BitVec.toInt_eq_toNat_cond, e2, if_pos (by omega)]

/-- two numbers of base 256, bit by bit -/
theorem own_land256 (a b c d : Nat) (hb : b < 256) (hd : d < 256) : (256 * a + b) &&& (256 * c + d) = 256 * (a &&& c) + (b &&& d) := by
  have hbd : b &&& d < 2 ^ 8 := Nat.lt_of_le_of_lt Nat.and_le_left hb
  apply Nat.eq_of_testBit_eq
  intro j
  rw [Nat.testBit_and, show (256 : Nat) = 2 ^ 8 from rfl, Nat.testBit_two_pow_mul_add a hb, Nat.testBit_two_pow_mul_add c hd, Nat.testBit_two_pow_mul_add (a &&& c) hbd, Nat.testBit_and, Nat.testBit_and]
  by_cases h : j < 8
  · rw [if_pos h, if_pos h, if_pos h]
  · rw [if_neg h, if_neg h, if_neg h]
/-- a mask of n like bytes -/
def own_msk (c : Nat) : Nat → Nat
  | 0 => 0
  | n + 1 => 256 * own_msk c n + c
def own_s1 (n X : Nat) : Nat := X - ((X / 2) &&& own_msk 0x55 n)
def own_s2 (n X : Nat) : Nat := (X &&& own_msk 0x33 n) + ((X / 4) &&& own_msk 0x33 n)
def own_s3 (n X : Nat) : Nat := (X + X / 16) &&& own_msk 0x0f n
def own_b1 (b : Nat) : Nat := b - ((b / 2) &&& 0x55)
def own_b2 (b : Nat) : Nat := (b &&& 0x33) + ((b / 4) &&& 0x33)
def own_b3 (b : Nat) : Nat := (b + b / 16) &&& 0x0f
def own_pb (b : Nat) : Nat := own_b3 (own_b2 (own_b1 b))
theorem own_f1 : ∀ b, b < 256 → ∀ y, y < 2 → (128 * y + b / 2) &&& 0x55 = (b / 2) &&& 0x55 := by decide +kernel
theorem own_f2 : ∀ b, b < 256 → ∀ y, y < 4 → (64 * y + b / 4) &&& 0x33 = (b / 4) &&& 0x33 := by decide +kernel
theorem own_f3 : ∀ b, b < 69 → ∀ y, y < 5 → (b + b / 16 + 16 * y) &&& 0x0f = (b + b / 16) &&& 0x0f := by decide +kernel
theorem own_f4 : ∀ b, b < 256 → own_b1 b < 256 ∧ own_b2 (own_b1 b) < 69 ∧ own_b2 (own_b1 b) % 16 < 5 ∧ own_pb b ≤ 8 ∧ (own_pb b = 0 → b = 0) := by decide +kernel
theorem own_f5 : ∀ b, b < 256 → ∀ k, k < 8 → b.testBit k = true → own_pb b = own_pb (b - 2 ^ k) + 1 := by decide +kernel
theorem own_t1 (n Y b : Nat) (hb : b < 256) : own_s1 (n + 1) (256 * Y + b) = 256 * own_s1 n Y + own_b1 b := by
  unfold own_s1 own_b1
  have e : (256 * Y + b) / 2 = 256 * (Y / 2) + (128 * (Y % 2) + b / 2) := by omega
  have h1 : (Y / 2) &&& own_msk 0x55 n ≤ Y / 2 := Nat.and_le_left
  have h2 : (b / 2) &&& 0x55 ≤ b / 2 := Nat.and_le_left
  rw [e, own_msk, own_land256 _ _ _ _ (by omega) (by decide), own_f1 b hb _ (Nat.mod_lt _ (by decide))]
  omega
theorem own_t2 (n Y b : Nat) (hb : b < 256) : own_s2 (n + 1) (256 * Y + b) = 256 * own_s2 n Y + own_b2 b := by
  unfold own_s2 own_b2
  have e : (256 * Y + b) / 4 = 256 * (Y / 4) + (64 * (Y % 4) + b / 4) := by omega
  rw [e, own_msk, own_land256 _ _ _ _ hb (by decide), own_land256 _ _ _ _ (by omega) (by decide), own_f2 b hb _ (Nat.mod_lt _ (by decide))]
  omega
theorem own_t3 (n Y b : Nat) (hb : b < 69) (hY : Y % 16 < 5) : own_s3 (n + 1) (256 * Y + b) = 256 * own_s3 n Y + own_b3 b := by
  unfold own_s3 own_b3
  have e : 256 * Y + b + (256 * Y + b) / 16 = 256 * (Y + Y / 16) + (b + b / 16 + 16 * (Y % 16)) := by omega
  rw [e, own_msk, own_land256 _ _ _ _ (by omega) (by decide), own_f3 b hb _ hY]
/-- the bytes' counts, byte by byte -/
def own_D : Nat → Nat → Nat
  | 0, _ => 0
  | n + 1, X => 256 * own_D n (X / 256) + own_pb (X % 256)
theorem own_s123 : ∀ (n X : Nat), X < 256 ^ n → own_s2 n (own_s1 n X) % 16 < 5 ∧ own_s3 n (own_s2 n (own_s1 n X)) = own_D n X
  | 0, X, h => by
    have e : X = 0 := by simpa using h
    subst e
    decide
  | n + 1, X, h => by
    have hb : X % 256 < 256 := Nat.mod_lt _ (by decide)
    have hY : X / 256 < 256 ^ n := Nat.div_lt_of_lt_mul (by rw [Nat.pow_succ] at h; omega)
    obtain ⟨i1, i2⟩ := own_s123 n (X / 256) hY
    obtain ⟨c1, c2, c3, -, -⟩ := own_f4 _ hb
    have e : X = 256 * (X / 256) + X % 256 := by omega
    have e1 : own_s1 (n + 1) X = 256 * own_s1 n (X / 256) + own_b1 (X % 256) := by rw (occs := .pos [1]) [e]; exact own_t1 n _ _ hb
    rw [e1, own_t2 n _ _ c1]
    refine ⟨by omega, ?_⟩
    rw [own_t3 n _ _ c2 i1, i2]
    rfl
/-- how many bits are on, in n bytes -/
def own_C : Nat → Nat → Nat
  | 0, _ => 0
  | n + 1, X => own_C n (X / 256) + own_pb (X % 256)
/-- Long.bitCount's steps over plain numbers -/
def own_bcN (X : Nat) : Nat :=
  (fun a : Nat => (fun b : Nat => (fun c : Nat => c % 128) (b + b / 4294967296)) (a + a / 65536)) (own_s3 8 (own_s2 8 (own_s1 8 X)) + own_s3 8 (own_s2 8 (own_s1 8 X)) / 256)
theorem own_D8 (p0 p1 p2 p3 p4 p5 p6 p7 : Nat) (h0 : p0 ≤ 8) (h1 : p1 ≤ 8) (h2 : p2 ≤ 8) (h3 : p3 ≤ 8) (h4 : p4 ≤ 8) (h5 : p5 ≤ 8) (h6 : p6 ≤ 8) (h7 : p7 ≤ 8) (d a b : Nat)
    (hd : d = 256 * (256 * (256 * (256 * (256 * (256 * (256 * (256 * 0 + p7) + p6) + p5) + p4) + p3) + p2) + p1) + p0) (ha : a = d + d / 256) (hb : b = a + a / 65536) :
    (b + b / 4294967296) % 128 = 0 + p7 + p6 + p5 + p4 + p3 + p2 + p1 + p0 := by
  have q1 : d / 256 = 256 * (256 * (256 * (256 * (256 * (256 * p7 + p6) + p5) + p4) + p3) + p2) + p1 := by omega
  have a1 : a = 65536 * (256 * (256 * (256 * (256 * (256 * p7 + (p6 + p7)) + (p5 + p6)) + (p4 + p5)) + (p3 + p4)) + (p2 + p3)) + (256 * (p1 + p2) + (p0 + p1)) := by omega
  have q2 : a / 65536 = 256 * (256 * (256 * (256 * (256 * p7 + (p6 + p7)) + (p5 + p6)) + (p4 + p5)) + (p3 + p4)) + (p2 + p3) := by omega
  clear ha hd q1
  have b1 : b = 4294967296 * (256 * (256 * (256 * p7 + (p6 + p7)) + (p5 + p6 + p7)) + (p4 + p5 + p6 + p7)) + (16777216 * (p3 + p4 + p5 + p6) + 65536 * (p2 + p3 + p4 + p5) + 256 * (p1 + p2 + p3 + p4) + (p0 + p1 + p2 + p3)) := by omega
  have q3 : b / 4294967296 = 256 * (256 * (256 * p7 + (p6 + p7)) + (p5 + p6 + p7)) + (p4 + p5 + p6 + p7) := by omega
  clear hb a1 q2
  omega
theorem own_bc_C {X : Nat} (h : X < 256 ^ 8) : own_bcN X = own_C 8 X := by
  have e := (own_s123 8 X h).2
  have L : ∀ z, own_pb (z % 256) ≤ 8 := fun z => (own_f4 _ (Nat.mod_lt _ (by decide))).2.2.2.1
  unfold own_bcN
  rw [e]
  exact own_D8 _ _ _ _ _ _ _ _ (L _) (L _) (L _) (L _) (L _) (L _) (L _) (L _) _ _ _ rfl rfl rfl
theorem own_C_zero : ∀ (n X : Nat), X < 256 ^ n → own_C n X = 0 → X = 0
  | 0, X, h, _ => by simpa using h
  | n + 1, X, h, hz => by
    have hb : X % 256 < 256 := Nat.mod_lt _ (by decide)
    have hY : X / 256 < 256 ^ n := Nat.div_lt_of_lt_mul (by rw [Nat.pow_succ] at h; omega)
    simp only [own_C] at hz
    have z1 := own_C_zero n (X / 256) hY (by omega)
    have z2 := (own_f4 _ hb).2.2.2.2 (by omega)
    omega
theorem own_C_bit : ∀ (n X k : Nat), k < 8 * n → X.testBit k = true → own_C n X = own_C n (X - 2 ^ k) + 1
  | 0, X, k, h, _ => absurd h (by omega)
  | n + 1, X, k, h, ht => by
    have hb : X % 256 < 256 := Nat.mod_lt _ (by decide)
    have hX : X = 2 ^ 8 * (X / 256) + X % 256 := by omega
    simp only [own_C]
    by_cases hk : k < 8
    · have t : (X % 256).testBit k = true := by
        rw [hX, Nat.testBit_two_pow_mul_add _ hb, if_pos hk] at ht
        exact ht
      have le : 2 ^ k ≤ X % 256 := Nat.ge_two_pow_of_testBit t
      have hp := Nat.two_pow_pos k
      have e1 : (X - 2 ^ k) / 256 = X / 256 := by omega
      have e2 : (X - 2 ^ k) % 256 = X % 256 - 2 ^ k := by omega
      rw [e1, e2, own_f5 _ hb k hk t]
      omega
    · have t : (X / 256).testBit (k - 8) = true := by
        rw [hX, Nat.testBit_two_pow_mul_add _ hb, if_neg hk] at ht
        exact ht
      have le : 2 ^ (k - 8) ≤ X / 256 := Nat.ge_two_pow_of_testBit t
      have hp := Nat.two_pow_pos (k - 8)
      have e0 : 2 ^ k = 256 * 2 ^ (k - 8) := by rw [show (256 : Nat) = 2 ^ 8 from rfl, ← Nat.pow_add]; congr 1; omega
      have e1 : (X - 2 ^ k) / 256 = X / 256 - 2 ^ (k - 8) := by omega
      have e2 : (X - 2 ^ k) % 256 = X % 256 := by omega
      rw [e1, e2, own_C_bit n (X / 256) (k - 8) (by omega) t]
      omega
-- ---- the same over longs
theorem own_sub64 {a b : Int64} (h : b.toBitVec.toNat ≤ a.toBitVec.toNat) : (a - b).toBitVec.toNat = a.toBitVec.toNat - b.toBitVec.toNat := by
  rw [Int64.toBitVec_sub, BitVec.toNat_sub]
  have h1 := a.toBitVec.isLt
  have h2 := b.toBitVec.isLt
  omega
theorem own_add64 {a b : Int64} (h : a.toBitVec.toNat + b.toBitVec.toNat < 18446744073709551616) : (a + b).toBitVec.toNat = a.toBitVec.toNat + b.toBitVec.toNat := by
  rw [Int64.toBitVec_add, BitVec.toNat_add]
  exact Nat.mod_eq_of_lt h
theorem own_and64 (a b : Int64) : (a &&& b).toBitVec.toNat = a.toBitVec.toNat &&& b.toBitVec.toNat := by
  rw [Int64.toBitVec_and, BitVec.toNat_and]
def own_ush (x : Int64) (k : Int32) : Int64 := (x.toUInt64 >>> (k &&& 0x3f).toInt64.toUInt64).toInt64
def own_x1 (x : Int64) : Int64 := x - (own_ush x 1 &&& (6148914691236517205 : Int64))
def own_x2 (x : Int64) : Int64 := (x &&& (3689348814741910323 : Int64)) + (own_ush x 2 &&& (3689348814741910323 : Int64))
def own_x3 (x : Int64) : Int64 := (x + own_ush x 4) &&& (1085102592571150095 : Int64)
def own_x4 (x : Int64) : Int64 := x + own_ush x 8
def own_x5 (x : Int64) : Int64 := x + own_ush x 16
def own_x6 (x : Int64) : Int64 := x + own_ush x 32
def own_bc (x : Int64) : Int32 := (own_x6 (own_x5 (own_x4 (own_x3 (own_x2 (own_x1 x)))))).toInt32 &&& (127 : Int32)
theorem own_n1 (x : Int64) : (own_x1 x).toBitVec.toNat = own_s1 8 x.toBitVec.toNat := by
  have e : (own_ush x 1).toBitVec.toNat = x.toBitVec.toNat / 2 ^ 1 := own_lushr_nat x (by decide) (by decide)
  have e2 : (own_ush x 1 &&& (6148914691236517205 : Int64)).toBitVec.toNat = x.toBitVec.toNat / 2 &&& own_msk 0x55 8 := by rw [own_and64, e]; rfl
  have h : x.toBitVec.toNat / 2 &&& own_msk 0x55 8 ≤ x.toBitVec.toNat / 2 := Nat.and_le_left
  rw [own_x1, own_sub64 (by rw [e2]; omega), e2]
  rfl
theorem own_n2 (x : Int64) : (own_x2 x).toBitVec.toNat = own_s2 8 x.toBitVec.toNat ∧ own_s2 8 x.toBitVec.toNat ≤ 7378697629483820646 := by
  have e : (own_ush x 2).toBitVec.toNat = x.toBitVec.toNat / 2 ^ 2 := own_lushr_nat x (by decide) (by decide)
  have e1 : (x &&& (3689348814741910323 : Int64)).toBitVec.toNat = x.toBitVec.toNat &&& own_msk 0x33 8 := by rw [own_and64]; rfl
  have e2 : (own_ush x 2 &&& (3689348814741910323 : Int64)).toBitVec.toNat = x.toBitVec.toNat / 4 &&& own_msk 0x33 8 := by rw [own_and64, e]; rfl
  have m : own_msk 0x33 8 = 3689348814741910323 := by decide
  have h1 : x.toBitVec.toNat &&& own_msk 0x33 8 ≤ own_msk 0x33 8 := Nat.and_le_right
  have h2 : x.toBitVec.toNat / 4 &&& own_msk 0x33 8 ≤ own_msk 0x33 8 := Nat.and_le_right
  refine ⟨?_, by unfold own_s2; omega⟩
  rw [own_x2, own_add64 (by rw [e1, e2]; omega), e1, e2]
  rfl
theorem own_n3 (x : Int64) (hx : x.toBitVec.toNat ≤ 7378697629483820646) : (own_x3 x).toBitVec.toNat = own_s3 8 x.toBitVec.toNat ∧ own_s3 8 x.toBitVec.toNat ≤ 1085102592571150095 := by
  have e : (own_ush x 4).toBitVec.toNat = x.toBitVec.toNat / 2 ^ 4 := own_lushr_nat x (by decide) (by decide)
  have e1 : (x + own_ush x 4).toBitVec.toNat = x.toBitVec.toNat + x.toBitVec.toNat / 16 := by rw [own_add64 (by rw [e]; omega), e]
  have m : own_msk 0x0f 8 = 1085102592571150095 := by decide
  have h1 : (x.toBitVec.toNat + x.toBitVec.toNat / 16) &&& own_msk 0x0f 8 ≤ own_msk 0x0f 8 := Nat.and_le_right
  refine ⟨?_, by unfold own_s3; omega⟩
  rw [own_x3, own_and64, e1]
  rfl
theorem own_n4 (x : Int64) (k : Int32) (j : Nat) (hk : ((k &&& 0x3f).toInt64.toUInt64).toNat = j) (hj : j < 64) (hj0 : 0 < j) (hx : x.toBitVec.toNat < 9223372036854775808) : (x + own_ush x k).toBitVec.toNat = x.toBitVec.toNat + x.toBitVec.toNat / 2 ^ j := by
  have e : (own_ush x k).toBitVec.toNat = x.toBitVec.toNat / 2 ^ j := own_lushr_nat x hk hj
  have h : x.toBitVec.toNat / 2 ^ j ≤ x.toBitVec.toNat := Nat.div_le_self _ _
  rw [own_add64 (by rw [e]; omega), e]
theorem own_bc_eq (x : Int64) : own_bc x = Int32.ofNat (own_C 8 x.toBitVec.toNat) := by
  have a1 := own_n1 x
  obtain ⟨a2, b2⟩ := own_n2 (own_x1 x)
  rw [a1] at a2 b2
  obtain ⟨a3, b3⟩ := own_n3 (own_x2 (own_x1 x)) (by rw [a2]; exact b2)
  rw [a2] at a3 b3
  have a4 : (own_x4 (own_x3 (own_x2 (own_x1 x)))).toBitVec.toNat = _ := own_n4 _ 8 8 (by decide) (by decide) (by decide) (by rw [a3]; omega)
  rw [a3] at a4
  have a5 : (own_x5 (own_x4 (own_x3 (own_x2 (own_x1 x))))).toBitVec.toNat = _ := own_n4 _ 16 16 (by decide) (by decide) (by decide) (by rw [a4]; omega)
  rw [a4] at a5
  have a6 : (own_x6 (own_x5 (own_x4 (own_x3 (own_x2 (own_x1 x)))))).toBitVec.toNat = _ := own_n4 _ 32 32 (by decide) (by decide) (by decide) (by rw [a5]; omega)
  rw [a5] at a6
  have hX : x.toBitVec.toNat < 256 ^ 8 := x.toBitVec.isLt
  rw [← own_bc_C hX]
  unfold own_bc
  generalize own_x6 (own_x5 (own_x4 (own_x3 (own_x2 (own_x1 x))))) = y at a6 ⊢
  have e : own_bcN x.toBitVec.toNat = y.toBitVec.toNat % 128 := by rw [a6]; rfl
  rw [e]
  have h := c_mask y.toInt32 127 7 (by decide) (by decide)
  apply Int32.toInt_inj.mp
  rw [h, toInt_of (n := Int32.ofNat (y.toBitVec.toNat % 128)) rfl (by omega)]
  have u := own_u64 y
  have t : y.toInt32.toInt = y.toInt.bmod (2 ^ 32) := Int64.toInt_toInt32 y
  rw [t]
  have e7 : ((2 ^ 7 : Nat) : Int) = 128 := by decide
  rw [e7]
  have v : (y.toInt.bmod (2 ^ 32)) % ((2 ^ 32 : Nat) : Int) = y.toInt % ((2 ^ 32 : Nat) : Int) := Int.bmod_emod
  have e32 : ((2 ^ 32 : Nat) : Int) = 4294967296 := by decide
  rw [e32] at v
  generalize y.toInt.bmod (2 ^ 32) = B at v ⊢
  omega
theorem own_C_le : ∀ (n X : Nat), own_C n X ≤ 8 * n
  | 0, _ => Nat.le_refl 0
  | n + 1, X => by
    have h1 := own_C_le n (X / 256)
    have h2 := (own_f4 _ (Nat.mod_lt X (by decide : 0 < 256))).2.2.2.1
    simp only [own_C]
    omega
theorem own_bc_z {x : Int64} (h : own_C 8 x.toBitVec.toNat = 0) : x = 0 := by
  have e := own_C_zero 8 _ x.toBitVec.isLt h
  apply Int64.toBitVec_inj.mp
  apply BitVec.eq_of_toNat_eq
  rw [e]
  rfl
/-- x without the bit k -/
theorem own_off {x z : Int64} {k : Nat} (hk : k < 64) (hx : x.toBitVec.toNat.testBit k = true) (hz : z.toBitVec.toNat = 2 ^ k) : (x &&& (z ^^^ (-1 : Int64))).toBitVec.toNat = x.toBitVec.toNat - 2 ^ k := by
  have e : (z ^^^ (-1 : Int64)).toBitVec = ~~~ z.toBitVec := by
    rw [Int64.toBitVec_xor]
    show z.toBitVec ^^^ BitVec.allOnes 64 = _
    exact BitVec.xor_allOnes
  have hc : ∀ i, z.toBitVec.getLsbD i = decide (k = i) := fun i => by
    show z.toBitVec.toNat.testBit i = _
    rw [hz, Nat.testBit_two_pow]
  have h1 : (x.toBitVec &&& ~~~ z.toBitVec) &&& z.toBitVec = 0#64 := by
    apply BitVec.eq_of_getLsbD_eq
    intro i hi
    simp only [BitVec.getLsbD_and, BitVec.getLsbD_not, hc, BitVec.getLsbD_zero]
    cases decide (k = i) <;> simp
  have h2 : (x.toBitVec &&& ~~~ z.toBitVec) ||| z.toBitVec = x.toBitVec := by
    apply BitVec.eq_of_getLsbD_eq
    intro i hi
    simp only [BitVec.getLsbD_and, BitVec.getLsbD_or, BitVec.getLsbD_not, hc]
    by_cases q : k = i
    · subst q
      have t : x.toBitVec.getLsbD k = true := hx
      simp [t]
    · simp [q, hi]
  have h3 := BitVec.add_eq_or_of_and_eq_zero _ _ h1
  rw [h2] at h3
  have h4 : x.toBitVec.toNat = ((x.toBitVec &&& ~~~ z.toBitVec).toNat + 2 ^ k) % 2 ^ 64 := by
    rw [← hz, ← BitVec.toNat_add, h3]
  have h5 : (x.toBitVec &&& ~~~ z.toBitVec).toNat ≤ x.toBitVec.toNat := by rw [BitVec.toNat_and]; exact Nat.and_le_left
  have h6 : 2 ^ k < 2 ^ 64 := Nat.pow_lt_pow_right (by decide) hk
  have h7 := Nat.two_pow_pos k
  have h8 := x.toBitVec.isLt
  rw [Int64.toBitVec_and, e]
  generalize (x.toBitVec &&& ~~~ z.toBitVec).toNat = W at h4 h5 ⊢
  generalize 2 ^ k = P at h4 h6 h7 ⊢
  omega
theorem own_bc_off {x z : Int64} {k : Nat} (hk : k < 64) (hx : x.toBitVec.toNat.testBit k = true) (hz : z.toBitVec.toNat = 2 ^ k) : own_C 8 x.toBitVec.toNat = own_C 8 (x &&& (z ^^^ (-1 : Int64))).toBitVec.toNat + 1 := by
  rw [own_off hk hx hz]
  exact own_C_bit 8 _ k hk hx
-- ---- ints that are small numbers
theorem own_ltN {a b : Nat} (ha : a < 100000) (hb : b < 100000) : (Int32.ofNat a < Int32.ofNat b) ↔ a < b := by
  rw [Int32.lt_iff_toInt_lt, toInt_of (n := Int32.ofNat a) rfl (by omega), toInt_of (n := Int32.ofNat b) rfl (by omega)]
  omega
theorem own_eqN {a b : Nat} (ha : a < 100000) (hb : b < 100000) : (Int32.ofNat a = Int32.ofNat b) ↔ a = b := by
  constructor
  · intro h
    have h2 : (Int32.ofNat a).toInt = (Int32.ofNat b).toInt := by rw [h]
    rw [toInt_of (n := Int32.ofNat a) rfl (by omega), toInt_of (n := Int32.ofNat b) rfl (by omega)] at h2
    omega
  · intro h; rw [h]
theorem own_ofI {y : Int32} {n : Nat} (h : y.toInt = n) (hn : n < 100000) : y = Int32.ofNat n :=
  Int32.toInt_inj.mp (by rw [h, toInt_of (n := Int32.ofNat n) rfl (by omega)])
theorem own_addN (a b : Nat) : Int32.ofNat a + Int32.ofNat b = Int32.ofNat (a + b) := (Int32.ofNat_add a b).symm
theorem own_mulN (a b : Nat) : Int32.ofNat a * Int32.ofNat b = Int32.ofNat (a * b) := (Int32.ofNat_mul a b).symm
theorem own_subN {a b : Nat} (h : b ≤ a) : Int32.ofNat a - Int32.ofNat b = Int32.ofNat (a - b) := by
  have e : Int32.ofNat a = Int32.ofNat (a - b) + Int32.ofNat b := by rw [own_addN]; congr 1; omega
  rw [e]
  exact Int32.add_sub_cancel _ _
theorem own_divN {a b : Nat} (ha : a < 100000) (hb : b < 100000) : Int32.ofNat a / Int32.ofNat b = Int32.ofNat (a / b) := by
  have hA : (Int32.ofNat a).toInt = a := toInt_of rfl (by omega)
  have hB : (Int32.ofNat b).toInt = b := toInt_of rfl (by omega)
  have hq : a / b ≤ a := Nat.div_le_self _ _
  refine own_ofI ?_ (by omega)
  rw [Int32.toInt_div, hA, hB, ← Int.ofNat_tdiv]
  generalize a / b = q at hq ⊢
  rw [Int.bmod_eq_of_le (by omega) (by omega)]
theorem own_shr6 {a : Nat} (ha : a < 100000) : (((Int32.ofNat a).toUInt32 >>> ((6 : Int32) &&& 31).toUInt32).toInt32) = Int32.ofNat (a / 64) := by
  apply Int32.toBitVec_inj.mp
  apply BitVec.eq_of_toNat_eq
  have e1 : (Int32.ofNat a).toBitVec.toNat = a := by
    show (BitVec.ofNat 32 a).toNat = a
    rw [BitVec.toNat_ofNat]; omega
  have e2 : (Int32.ofNat (a / 64)).toBitVec.toNat = a / 64 := by
    show (BitVec.ofNat 32 (a / 64)).toNat = a / 64
    rw [BitVec.toNat_ofNat]; omega
  rw [e2]
  simp only [UInt32.toBitVec_toInt32, UInt32.toBitVec_shiftRight, Int32.toBitVec_toUInt32]
  have e3 : (((6 : Int32) &&& 31).toUInt32).toBitVec = 6#32 := by decide
  have e4 : ((6 : Int32) &&& 31).toBitVec = 6#32 := by decide
  first
  | (rw [e4]; simp [BitVec.toNat_ushiftRight, Nat.shiftRight_eq_div_pow, e1]; omega)
  | (rw [e3]; simp [BitVec.toNat_ushiftRight, Nat.shiftRight_eq_div_pow, e1]; omega)
/-- the mask of the last word of a stretch that ends ahead of the place pe; the mask of its first word -/
def own_lm (pe : Int32) : Int64 := own_ush (-1) ((63 : Int32) - ((pe - (1 : Int32)) &&& (63 : Int32)))
def own_fm (pf : Int32) : Int64 := (-1 : Int64) <<< (pf &&& 0x3f).toInt64
theorem own_shr6' {y : Int32} {a : Nat} (h : y = Int32.ofNat a) (ha : a < 100000) : ((y.toUInt32 >>> ((6 : Int32) &&& 31).toUInt32).toInt32) = Int32.ofNat (a / 64) := by rw [h]; exact own_shr6 ha
theorem own_pred {y : Int32} {a : Nat} (h : y = Int32.ofNat a) (ha : 0 < a) : y - (1 : Int32) = Int32.ofNat (a - 1) := by rw [h]; exact own_subN (b := 1) ha
theorem own_and0 (x : Int64) : x &&& (0 : Int64) = 0 := Int64.and_zero
theorem own_bc0 : own_bc 0 = 0 := by decide
/-- how many offers lie below the half -/
def own_low (nw : Nat) (W : Nat → Int64) (iB : Nat → Int32) : Int32 := if nw = 2 then own_bc (W 0) else iB 0
/-- 'selects' of a private method, by another word of its class -/
theorem own_selP {a0 : Array Value} {Z : State} {y : MethodName} (hinst : (Cond.instanceMethod y).before a0 Z = true) (hpriv : (Cond.privateMethod y).before a0 Z = true) (hnf : NotFace Z y) (hy : y.cls ≠ "java/lang/invoke/MethodHandle" ∧ y.cls ≠ "java/lang/invoke/VarHandle") : (Cond.selects y.cls y y).before a0 Z = true := by
  obtain ⟨mk, methM, hnamed, -, -, -⟩ := Cond.instanceMethod_spec hinst
  obtain ⟨k, hk, hki⟩ := hnf mk hnamed
  exact selects_self_of_private (findClass_of_methodNamed hnamed) hk hki (Cond.privateMethod_at hpriv) hinst hy

-- ---- the law of remove, in plain numbers
/-- the bit of the place m in its word -/
def own_z (m : Nat) : Int64 := (1 : Int64) <<< (Int32.ofNat m &&& 0x3f).toInt64
def own_P (pr : Nat) : Prop := pr = 1 ∨ pr = 2 ∨ pr = 4 ∨ pr = 8 ∨ pr = 16 ∨ pr = 32 ∨ pr = 64 ∨ pr = 128
def own_dim (nm nw nb half : Nat) : Prop := (nm = 128 ∧ nw = 2 ∧ nb = 1 ∧ half = 64) ∨ (nm = 640 ∧ nw = 10 ∧ nb = 2 ∧ half = 512)
theorem own_d0 {nm nw nb half : Nat} (hD : own_dim nm nw nb half) : nm ≤ 640 ∧ 0 < nm ∧ nw ≤ 10 ∧ 2 ≤ nw ∧ nb ≤ 2 ∧ 1 ≤ nb ∧ nm = 64 * nw ∧ (nw + 7) / 8 = nb ∧ half < 1000 ∧ nw % 2 = 0 := by
  rcases hD with ⟨rfl, rfl, rfl, rfl⟩ | ⟨rfl, rfl, rfl, rfl⟩ <;> omega
theorem own_d1 {nm nw nb half pr : Nat} (hP : own_P pr) (hD : own_dim nm nw nb half) : nm / pr ≤ 640 ∧ 0 < pr ∧ pr ≤ 128 := by
  rcases hD with ⟨rfl, rfl, rfl, rfl⟩ | ⟨rfl, rfl, rfl, rfl⟩ <;> rcases hP with rfl | rfl | rfl | rfl | rfl | rfl | rfl | rfl <;> decide
theorem own_d2 {nm nw nb half pr m : Nat} (hP : own_P pr) (hD : own_dim nm nw nb half) (hm : m < nm) : m / pr < nm / pr := by
  rcases hD with ⟨rfl, rfl, rfl, rfl⟩ | ⟨rfl, rfl, rfl, rfl⟩ <;> rcases hP with rfl | rfl | rfl | rfl | rfl | rfl | rfl | rfl <;> omega
theorem own_d3 {nm nw nb half pr r : Nat} (hP : own_P pr) (hD : own_dim nm nw nb half) (hr : r < nm / pr) : r * pr < 100000 ∧ (r + 1) * pr < 100000 ∧ 0 < (r + 1) * pr ∧ (pr = 128 → ((r + 1) * pr - 1) / 64 = r * pr / 64 + 1 ∧ r * pr / 64 + 1 < nw) ∧ (¬ pr = 128 → ((r + 1) * pr - 1) / 64 = r * pr / 64 ∧ r * pr / 64 < nw) := by
  rcases hD with ⟨rfl, rfl, rfl, rfl⟩ | ⟨rfl, rfl, rfl, rfl⟩ <;> rcases hP with rfl | rfl | rfl | rfl | rfl | rfl | rfl | rfl <;> omega
/-- how many offers the rack r has -/
def own_ci (A : Nat → Int64) (pr r : Nat) : Int32 :=
  if pr = 128 then own_bc (A (r * pr / 64) &&& own_fm (Int32.ofNat (r * pr))) + own_bc (A (r * pr / 64 + 1) &&& own_lm (Int32.ofNat ((r + 1) * pr)))
  else own_bc ((A (r * pr / 64) &&& own_fm (Int32.ofNat (r * pr))) &&& own_lm (Int32.ofNat ((r + 1) * pr)))
/-- what remove leaves -/
def own_rmW (W : Nat → Int64) (m k : Nat) : Int64 := if k = m / 64 then W (m / 64) &&& (own_z m ^^^ (-1 : Int64)) else W k
def own_rmB (nb : Nat) (iB : Nat → Int32) (m k : Nat) : Int32 := if nb = 1 then iB k else if k = m / 64 / 8 then iB (m / 64 / 8) - (1 : Int32) else iB k
def own_rmR (R : Nat → Int64) (iR : Nat → Int32) (m pr k : Nat) : Int64 := if k = m / pr / 64 then R (m / pr / 64) &&& (if iR (m / pr) - (1 : Int32) = (0 : Int32) then own_z (m / pr) ^^^ (-1 : Int64) else (-1 : Int64)) else R k
def own_mask (pr r : Nat) : Int64 := if pr = 64 then (-1 : Int64) else ((((1 : Int64) <<< (Int32.ofNat pr &&& 0x3f).toInt64) - (1 : Int64)) <<< (((Int32.ofNat r * Int32.ofNat pr) &&& (63 : Int32)) &&& 0x3f).toInt64)
set_option maxRecDepth 65536 in
theorem own_zn : ∀ m, m < 640 → (own_z m).toBitVec.toNat = 2 ^ (m % 64) := by decide +kernel
set_option maxRecDepth 65536 in
theorem own_mk0 : ∀ e, e < 7 → ∀ m, m < 640 → own_fm (Int32.ofNat (m / 2 ^ e * 2 ^ e)) &&& own_lm (Int32.ofNat ((m / 2 ^ e + 1) * 2 ^ e)) = own_mask (2 ^ e) (m / 2 ^ e) ∧ own_mask (2 ^ e) (m / 2 ^ e) &&& own_z m = own_z m := by decide +kernel
theorem own_mk {pr m : Nat} (hP : own_P pr) (h : ¬ pr = 128) (hm : m < 640) : own_fm (Int32.ofNat (m / pr * pr)) &&& own_lm (Int32.ofNat ((m / pr + 1) * pr)) = own_mask pr (m / pr) ∧ own_mask pr (m / pr) &&& own_z m = own_z m ∧ m / pr * pr / 64 = m / 64 := by
  rcases hP with rfl | rfl | rfl | rfl | rfl | rfl | rfl | rfl
  · exact ⟨(own_mk0 0 (by decide) m hm).1, (own_mk0 0 (by decide) m hm).2, by omega⟩
  · exact ⟨(own_mk0 1 (by decide) m hm).1, (own_mk0 1 (by decide) m hm).2, by omega⟩
  · exact ⟨(own_mk0 2 (by decide) m hm).1, (own_mk0 2 (by decide) m hm).2, by omega⟩
  · exact ⟨(own_mk0 3 (by decide) m hm).1, (own_mk0 3 (by decide) m hm).2, by omega⟩
  · exact ⟨(own_mk0 4 (by decide) m hm).1, (own_mk0 4 (by decide) m hm).2, by omega⟩
  · exact ⟨(own_mk0 5 (by decide) m hm).1, (own_mk0 5 (by decide) m hm).2, by omega⟩
  · exact ⟨(own_mk0 6 (by decide) m hm).1, (own_mk0 6 (by decide) m hm).2, by omega⟩
  · exact absurd rfl h
theorem own_mk2 : ∀ r, r < 5 → own_fm (Int32.ofNat (r * 128)) = (-1 : Int64) ∧ own_lm (Int32.ofNat ((r + 1) * 128)) = (-1 : Int64) := by decide +kernel
theorem own_tb {x z : Int64} {k : Nat} (hz : z.toBitVec.toNat = 2 ^ k) (h : x &&& z = z) : x.toBitVec.toNat.testBit k = true := by
  have e : (x &&& z).toBitVec.toNat = 2 ^ k := by rw [h, hz]
  rw [own_and64, hz] at e
  have q : (x.toBitVec.toNat &&& 2 ^ k).testBit k = (2 ^ k).testBit k := by rw [e]
  rw [Nat.testBit_and, Nat.testBit_two_pow_self, Bool.and_true] at q
  exact q
/-- a count of ones, one less -/
theorem own_dec {x z : Int64} {k : Nat} (hk : k < 64) (hz : z.toBitVec.toNat = 2 ^ k) (h : x &&& z = z) : own_C 8 x.toBitVec.toNat = own_C 8 (x &&& (z ^^^ (-1 : Int64))).toBitVec.toNat + 1 := own_bc_off hk (own_tb hz h) hz
theorem own_C0 {x : Int64} : own_C 8 x.toBitVec.toNat = 0 ↔ x = 0 := by
  constructor
  · exact own_bc_z
  · intro h; rw [h]; decide
theorem own_bcdec {x z : Int64} {k : Nat} (hk : k < 64) (hz : z.toBitVec.toNat = 2 ^ k) (h : x &&& z = z) : own_bc (x &&& (z ^^^ (-1 : Int64))) = own_bc x - (1 : Int32) := by
  rw [own_bc_eq, own_bc_eq, own_dec hk hz h]
  exact (own_subN (a := own_C 8 (x &&& (z ^^^ (-1 : Int64))).toBitVec.toNat + 1) (b := 1) (by omega)).symm
theorem own_rack1 {A : Nat → Int64} {pr m : Nat} (hP : own_P pr) (h : ¬ pr = 128) (hm : m < 640) (hb : A (m / 64) &&& own_z m = own_z m) : own_ci A pr (m / pr) - (1 : Int32) = 0 ↔ (A (m / 64) &&& (own_z m ^^^ (-1 : Int64))) &&& own_mask pr (m / pr) = 0 := by
  obtain ⟨e1, e2, e3⟩ := own_mk hP h hm
  have e4 : own_ci A pr (m / pr) = own_bc (A (m / 64) &&& own_mask pr (m / pr)) := by rw [own_ci, if_neg h, e3, Int64.and_assoc, e1]
  have hx : (A (m / 64) &&& own_mask pr (m / pr)) &&& own_z m = own_z m := by rw [Int64.and_assoc, e2, hb]
  have hl := own_C_le 8 ((A (m / 64) &&& own_mask pr (m / pr)) &&& (own_z m ^^^ (-1 : Int64))).toBitVec.toNat
  have e5 : (A (m / 64) &&& (own_z m ^^^ (-1 : Int64))) &&& own_mask pr (m / pr) = (A (m / 64) &&& own_mask pr (m / pr)) &&& (own_z m ^^^ (-1 : Int64)) := by rw [Int64.and_assoc, Int64.and_assoc, Int64.and_comm (own_mask pr (m / pr))]
  rw [e4, e5, ← own_bcdec (Nat.mod_lt m (by decide : 0 < 64)) (own_zn m hm) hx, own_bc_eq, show (0 : Int32) = Int32.ofNat 0 from rfl, own_eqN (by omega) (by decide), own_C0]
theorem own_or0 {x y : Int64} : x ||| y = 0 ↔ x = 0 ∧ y = 0 := by
  constructor
  · intro h
    have e : (x ||| y).toBitVec.toNat = 0 := by rw [h]; rfl
    rw [Int64.toBitVec_or, BitVec.toNat_or] at e
    obtain ⟨h1, h2⟩ := Nat.or_eq_zero_iff.mp e
    exact ⟨Int64.toBitVec_inj.mp (BitVec.eq_of_toNat_eq (by rw [h1]; rfl)), Int64.toBitVec_inj.mp (BitVec.eq_of_toNat_eq (by rw [h2]; rfl))⟩
  · rintro ⟨rfl, rfl⟩; decide
theorem own_andm1 (x : Int64) : x &&& (-1 : Int64) = x := by
  apply Int64.toBitVec_inj.mp
  rw [Int64.toBitVec_and]
  exact BitVec.and_allOnes
theorem own_two {x y z : Int64} {k : Nat} (hk : k < 64) (hz : z.toBitVec.toNat = 2 ^ k) (h : x &&& z = z) : own_bc x + own_bc y - (1 : Int32) = 0 ↔ (x &&& (z ^^^ (-1 : Int64))) = 0 ∧ y = 0 := by
  have l1 := own_C_le 8 (x &&& (z ^^^ (-1 : Int64))).toBitVec.toNat
  have l2 := own_C_le 8 y.toBitVec.toNat
  rw [own_bc_eq, own_bc_eq, own_dec hk hz h, own_addN, show (1 : Int32) = Int32.ofNat 1 from rfl, own_subN (by omega), show (0 : Int32) = Int32.ofNat 0 from rfl, own_eqN (by omega) (by decide), ← own_C0, ← own_C0]
  omega
theorem own_ci2 {A : Nat → Int64} {m : Nat} (hm : m < 640) : own_ci A 128 (m / 128) = own_bc (A (m / 128 * 2)) + own_bc (A (m / 128 * 2 + 1)) := by
  obtain ⟨e1, e2⟩ := own_mk2 (m / 128) (by omega)
  have e3 : m / 128 * 128 / 64 = m / 128 * 2 := by omega
  rw [own_ci, if_pos rfl, e1, e2, own_andm1, own_andm1, e3]
theorem own_rack2 {A : Nat → Int64} {m : Nat} (hm : m < 640) (hb : A (m / 64) &&& own_z m = own_z m) (hw : m / 128 * 2 = m / 64) : own_ci A 128 (m / 128) - (1 : Int32) = 0 ↔ (A (m / 64) &&& (own_z m ^^^ (-1 : Int64))) ||| A (m / 128 * 2 + 1) = 0 := by
  rw [own_ci2 hm, own_or0, hw, own_two (Nat.mod_lt m (by decide : 0 < 64)) (own_zn m hm) hb]
theorem own_rack3 {A : Nat → Int64} {m : Nat} (hm : m < 640) (hb : A (m / 64) &&& own_z m = own_z m) (hw : m / 128 * 2 + 1 = m / 64) : own_ci A 128 (m / 128) - (1 : Int32) = 0 ↔ A (m / 128 * 2) ||| (A (m / 64) &&& (own_z m ^^^ (-1 : Int64))) = 0 := by
  rw [own_ci2 hm, own_or0, hw, Int32.add_comm, own_two (Nat.mod_lt m (by decide : 0 < 64)) (own_zn m hm) hb, And.comm]
theorem own_lowL {A : Nat → Int64} {iB : Nat → Int32} {nm nw nb half m : Nat} (hD : own_dim nm nw nb half) (hm : m < nm) (hb : A (m / 64) &&& own_z m = own_z m) :
    own_low nw (own_rmW A m) (own_rmB nb iB m) = own_low nw A iB - (if Int32.ofNat m < Int32.ofNat half then (1 : Int32) else (0 : Int32)) := by
  have d0 := own_d0 hD
  have hl : (Int32.ofNat m < Int32.ofNat half) ↔ m < half := own_ltN (by omega) (by omega)
  unfold own_low
  rcases hD with ⟨rfl, rfl, rfl, rfl⟩ | ⟨rfl, rfl, rfl, rfl⟩
  · rw [if_pos rfl, if_pos rfl, own_rmW]
    by_cases h : m < 64
    · have e : m / 64 = 0 := by omega
      rw [if_pos (hl.mpr h), e, if_pos rfl]
      rw [e] at hb
      exact own_bcdec (Nat.mod_lt m (by decide : 0 < 64)) (own_zn m (by omega)) hb
    · rw [if_neg (mt hl.mp h), if_neg (by omega)]
      exact (Int32.sub_zero _).symm
  · rw [if_neg (by decide), if_neg (by decide), own_rmB, if_neg (by decide)]
    by_cases h : m < 512
    · have e : m / 64 / 8 = 0 := by omega
      rw [if_pos (hl.mpr h), e, if_pos rfl]
    · rw [if_neg (mt hl.mp h), if_neg (by omega)]
      exact (Int32.sub_zero _).symm
theorem own_or1 (x z : Int64) : (x ||| z) &&& z = z := by
  apply Int64.toBitVec_inj.mp
  rw [Int64.toBitVec_and, Int64.toBitVec_or]
  apply BitVec.eq_of_getLsbD_eq
  intro i hi
  simp only [BitVec.getLsbD_and, BitVec.getLsbD_or]
  cases x.toBitVec.getLsbD i <;> cases z.toBitVec.getLsbD i <;> rfl
theorem own_pr (x : Int32) : ∃ pr, ((1 : Int32) <<< ((x &&& (7 : Int32)) &&& 31)) = Int32.ofNat pr ∧ own_P pr := by
  have h := c_mask x 7 3 (by decide) (by decide)
  generalize x &&& (7 : Int32) = y at h ⊢
  have hk : y.toInt = (0 : Nat) ∨ y.toInt = (1 : Nat) ∨ y.toInt = (2 : Nat) ∨ y.toInt = (3 : Nat) ∨ y.toInt = (4 : Nat) ∨ y.toInt = (5 : Nat) ∨ y.toInt = (6 : Nat) ∨ y.toInt = (7 : Nat) := by omega
  rcases hk with h | h | h | h | h | h | h | h
  · rw [own_ofI h (by decide)]; exact ⟨1, by decide, by unfold own_P; decide⟩
  · rw [own_ofI h (by decide)]; exact ⟨2, by decide, by unfold own_P; decide⟩
  · rw [own_ofI h (by decide)]; exact ⟨4, by decide, by unfold own_P; decide⟩
  · rw [own_ofI h (by decide)]; exact ⟨8, by decide, by unfold own_P; decide⟩
  · rw [own_ofI h (by decide)]; exact ⟨16, by decide, by unfold own_P; decide⟩
  · rw [own_ofI h (by decide)]; exact ⟨32, by decide, by unfold own_P; decide⟩
  · rw [own_ofI h (by decide)]; exact ⟨64, by decide, by unfold own_P; decide⟩
  · rw [own_ofI h (by decide)]; exact ⟨128, by decide, by unfold own_P; decide⟩
theorem own_rem (x : Int32) {d : Nat} (hd : 0 < d) (hd4 : d ≤ 640) : ∃ k : Nat, ((x &&& (2147483647 : Int32)) % (Int32.ofNat d)) = Int32.ofNat k ∧ k < d := by
  have h := c_mask x 2147483647 31 (by decide) (by decide)
  have hq' : (Int32.ofNat d).toInt = (d : Int) := toInt_of rfl (by omega)
  have h1 := Jvm.Kit.i32_rem_nonneg (x := (x &&& (2147483647 : Int32))) (y := Int32.ofNat d) (by rw [h]; exact Int.emod_nonneg _ (by decide))
  have h2 : 0 ≤ ((x &&& (2147483647 : Int32)) % (Int32.ofNat d)).toInt := by rw [h1, hq']; exact Int.emod_nonneg _ (by omega)
  have h3 : ((x &&& (2147483647 : Int32)) % (Int32.ofNat d)).toInt < d := by rw [h1, hq']; exact Int.emod_lt_of_pos _ (by omega)
  exact ⟨((x &&& (2147483647 : Int32)) % (Int32.ofNat d)).toInt.toNat, own_ofI (by omega) (by omega), by omega⟩
theorem own_xor1 : ∀ w, w < 10 → Int32.ofNat w ^^^ (1 : Int32) = Int32.ofNat (w ^^^ 1) ∧ ¬ (w ^^^ 1) = w ∧ (w ^^^ 1) / 2 = w / 2 := by decide +kernel
theorem own_nz {n : Nat} (h0 : 0 < n) (h : n < 100000) : Int32.ofNat n ≠ 0 := fun q => by
  have q2 := (own_eqN h (b := 0) (by decide)).mp q
  omega
theorem own_rack2' {A : Nat → Int64} {m pr : Nat} (hp : pr = 128) (hm : m < 640) (hb : A (m / 64) &&& own_z m = own_z m) (hw : m / pr * 2 = m / 64) : own_ci A pr (m / pr) - (1 : Int32) = 0 ↔ (A (m / 64) &&& (own_z m ^^^ (-1 : Int64))) ||| A (m / pr * 2 + 1) = 0 := by
  subst hp; exact own_rack2 hm hb hw
theorem own_rack3' {A : Nat → Int64} {m pr : Nat} (hp : pr = 128) (hm : m < 640) (hb : A (m / 64) &&& own_z m = own_z m) (hw : m / pr * 2 + 1 = m / 64) : own_ci A pr (m / pr) - (1 : Int32) = 0 ↔ A (m / pr * 2) ||| (A (m / 64) &&& (own_z m ^^^ (-1 : Int64))) = 0 := by
  subst hp; exact own_rack3 hm hb hw
-- ---- the constructor's numbers
theorem own_c1 {pm : Int32} {nm nw nb half : Nat} (h : pm = Int32.ofNat nm) (hD : own_dim nm nw nb half) : (((pm + (63 : Int32)).toUInt32 >>> ((6 : Int32) &&& 31).toUInt32).toInt32) = Int32.ofNat nw := by
  rcases hD with ⟨rfl, rfl, rfl, rfl⟩ | ⟨rfl, rfl, rfl, rfl⟩ <;> subst h <;> decide
theorem own_c2 {nm nw nb half : Nat} (hD : own_dim nm nw nb half) : (((Int32.ofNat nw + (8 : Int32)) - (1 : Int32)) / (8 : Int32)) = Int32.ofNat nb := by
  rcases hD with ⟨rfl, rfl, rfl, rfl⟩ | ⟨rfl, rfl, rfl, rfl⟩ <;> decide
theorem own_c3 {nm nw nb half : Nat} (hD : own_dim nm nw nb half) : (if (1 : Int32) < Int32.ofNat nb then (1 : Int32) else (0 : Int32)) = Int32.ofNat (nb - 1) := by
  rcases hD with ⟨rfl, rfl, rfl, rfl⟩ | ⟨rfl, rfl, rfl, rfl⟩ <;> decide
theorem own_c4 {pm pp : Int32} {a b : Nat} (h : pm = Int32.ofNat a) (hb : pp = Int32.ofNat b) (h1 : a < 100000) (h2 : b < 100000) : pm / pp = Int32.ofNat (a / b) := by
  subst h hb; exact own_divN h1 h2
theorem own_c5 {n : Nat} (h : n ≤ 640) : (((Int32.ofNat n + (63 : Int32)).toUInt32 >>> ((6 : Int32) &&& 31).toUInt32).toInt32) = Int32.ofNat ((n + 63) / 64) := own_shr6' (own_addN n 63) (by omega)

theorem d4_0 : decode jdk_35_method_50_code 0 = .ok (.lload_n 0, 1) := by decide +kernel
theorem d4_1 : decode jdk_35_method_50_code 1 = .ok (.lload_n 0, 1) := by decide +kernel
theorem d4_2 : decode jdk_35_method_50_code 2 = .ok (.iconst 1, 1) := by decide +kernel
theorem d4_3 : decode jdk_35_method_50_code 3 = .ok (.lushr, 1) := by decide +kernel
theorem d4_4 : decode jdk_35_method_50_code 4 = .ok (.ldc2_w 314, 3) := by decide +kernel
theorem d4_7 : decode jdk_35_method_50_code 7 = .ok (.land, 1) := by decide +kernel
theorem d4_8 : decode jdk_35_method_50_code 8 = .ok (.lsub, 1) := by decide +kernel
theorem d4_9 : decode jdk_35_method_50_code 9 = .ok (.lstore_n 0, 1) := by decide +kernel
theorem d4_10 : decode jdk_35_method_50_code 10 = .ok (.lload_n 0, 1) := by decide +kernel
theorem d4_11 : decode jdk_35_method_50_code 11 = .ok (.ldc2_w 316, 3) := by decide +kernel
theorem d4_14 : decode jdk_35_method_50_code 14 = .ok (.land, 1) := by decide +kernel
theorem d4_15 : decode jdk_35_method_50_code 15 = .ok (.lload_n 0, 1) := by decide +kernel
theorem d4_16 : decode jdk_35_method_50_code 16 = .ok (.iconst 2, 1) := by decide +kernel
theorem d4_17 : decode jdk_35_method_50_code 17 = .ok (.lushr, 1) := by decide +kernel
theorem d4_18 : decode jdk_35_method_50_code 18 = .ok (.ldc2_w 316, 3) := by decide +kernel
theorem d4_21 : decode jdk_35_method_50_code 21 = .ok (.land, 1) := by decide +kernel
theorem d4_22 : decode jdk_35_method_50_code 22 = .ok (.ladd, 1) := by decide +kernel
theorem d4_23 : decode jdk_35_method_50_code 23 = .ok (.lstore_n 0, 1) := by decide +kernel
theorem d4_24 : decode jdk_35_method_50_code 24 = .ok (.lload_n 0, 1) := by decide +kernel
theorem d4_25 : decode jdk_35_method_50_code 25 = .ok (.lload_n 0, 1) := by decide +kernel
theorem d4_26 : decode jdk_35_method_50_code 26 = .ok (.iconst 4, 1) := by decide +kernel
theorem d4_27 : decode jdk_35_method_50_code 27 = .ok (.lushr, 1) := by decide +kernel
theorem d4_28 : decode jdk_35_method_50_code 28 = .ok (.ladd, 1) := by decide +kernel
theorem d4_29 : decode jdk_35_method_50_code 29 = .ok (.ldc2_w 318, 3) := by decide +kernel
theorem d4_32 : decode jdk_35_method_50_code 32 = .ok (.land, 1) := by decide +kernel
theorem d4_33 : decode jdk_35_method_50_code 33 = .ok (.lstore_n 0, 1) := by decide +kernel
theorem d4_34 : decode jdk_35_method_50_code 34 = .ok (.lload_n 0, 1) := by decide +kernel
theorem d4_35 : decode jdk_35_method_50_code 35 = .ok (.lload_n 0, 1) := by decide +kernel
theorem d4_36 : decode jdk_35_method_50_code 36 = .ok (.bipush 8, 2) := by decide +kernel
theorem d4_38 : decode jdk_35_method_50_code 38 = .ok (.lushr, 1) := by decide +kernel
theorem d4_39 : decode jdk_35_method_50_code 39 = .ok (.ladd, 1) := by decide +kernel
theorem d4_40 : decode jdk_35_method_50_code 40 = .ok (.lstore_n 0, 1) := by decide +kernel
theorem d4_41 : decode jdk_35_method_50_code 41 = .ok (.lload_n 0, 1) := by decide +kernel
theorem d4_42 : decode jdk_35_method_50_code 42 = .ok (.lload_n 0, 1) := by decide +kernel
theorem d4_43 : decode jdk_35_method_50_code 43 = .ok (.bipush 16, 2) := by decide +kernel
theorem d4_45 : decode jdk_35_method_50_code 45 = .ok (.lushr, 1) := by decide +kernel
theorem d4_46 : decode jdk_35_method_50_code 46 = .ok (.ladd, 1) := by decide +kernel
theorem d4_47 : decode jdk_35_method_50_code 47 = .ok (.lstore_n 0, 1) := by decide +kernel
theorem d4_48 : decode jdk_35_method_50_code 48 = .ok (.lload_n 0, 1) := by decide +kernel
theorem d4_49 : decode jdk_35_method_50_code 49 = .ok (.lload_n 0, 1) := by decide +kernel
theorem d4_50 : decode jdk_35_method_50_code 50 = .ok (.bipush 32, 2) := by decide +kernel
theorem d4_52 : decode jdk_35_method_50_code 52 = .ok (.lushr, 1) := by decide +kernel
theorem d4_53 : decode jdk_35_method_50_code 53 = .ok (.ladd, 1) := by decide +kernel
theorem d4_54 : decode jdk_35_method_50_code 54 = .ok (.lstore_n 0, 1) := by decide +kernel
theorem d4_55 : decode jdk_35_method_50_code 55 = .ok (.lload_n 0, 1) := by decide +kernel
theorem d4_56 : decode jdk_35_method_50_code 56 = .ok (.l2i, 1) := by decide +kernel
theorem d4_57 : decode jdk_35_method_50_code 57 = .ok (.bipush 127, 2) := by decide +kernel
theorem d4_59 : decode jdk_35_method_50_code 59 = .ok (.iand, 1) := by decide +kernel
theorem d4_60 : decode jdk_35_method_50_code 60 = .ok (.ireturn, 1) := by decide +kernel
theorem pn_4 : plainFor (⟨"java/lang/Long", "bitCount", "(J)I"⟩ : MethodName) = true := plainFor_of_name (by first | (simp [plainName, overriddenIn]; done) | decide +kernel)
theorem ef_4 (m : MethodId) (q : Int64) : entryFrame m #[(.long q)] 2 = mkF m 0 #[.val (.long q), .second] [] := by first | (simp [entryFrame, mkF, argsToLocals, Value.category]; done) | rfl
set_option maxRecDepth 65536 in
set_option maxHeartbeats 40000000 in
theorem rm4 (l : Launch) (Z : State) (a0 : Array Value) (hw : ∀ d ∈ tables_1, d.before a0 Z = true) (ws : List Jvm.Cond) (q : Int64) (h0 : Heap) (n0 : Nat) (Z0 : n0 ≤ h0.size) :
    OwnCtr l Z (⟨"java/lang/Long", "bitCount", "(J)I"⟩ : MethodName) ws jdk_35_method_50_code 2 (some .int) ({ frames := 0, cells := 0, slots := 0, locals := 0 } : Room) #[(.long q)] h0 (fun v h L => v = some (.int (own_bc q)) ∧ Fr n0 L ∧ h = h0) := by
  refine own_body (g0 := fun m => mkF m 0 #[.val (.long q), .second] []) pn_4 (fun m => ef_4 m q) ?_
  intro p e s m below meth c s₁ X0 hx hby hml hown hnm hZ e0 hret hlk
  have hml : c.maxLocals = 2 := hml
  have hown : s.vm.findClass "java/lang/Long" = some m.cls := hown
  have hnm : meth.name = "bitCount" := hnm
  have hret : meth.sig.returnType = (some .int) := hret
  have N0 := Fr.nil n0
  show OwnFin p e below s _ _ _ (s₁.setTop (mkF m 0 #[.val (.long q), .second] []))
  refine own_go (fun t_ k_ => XS.lloadN X0.here hx rfl (hb hby d4_0) rfl k_) ?_
  show OwnFin p e below s _ _ _ (s₁.setTop (mkF m 1 #[.val (.long q), .second] [(.long q)]))
  refine own_go (fun t_ k_ => XS.lloadN X0.here hx rfl (hb hby d4_1) rfl k_) ?_
  show OwnFin p e below s _ _ _ (s₁.setTop (mkF m 2 #[.val (.long q), .second] [(.long q), (.long q)]))
  refine own_go (fun t_ k_ => XS.iconst X0.here hx rfl (hb hby d4_2) k_) ?_
  show OwnFin p e below s _ _ _ (s₁.setTop (mkF m 3 #[.val (.long q), .second] [(.int (1 : Int32)), (.long q), (.long q)]))
  refine own_go (fun t_ k_ => XS.lushr X0.here hx rfl (hb hby d4_3) rfl k_) ?_
  show OwnFin p e below s _ _ _ (s₁.setTop (mkF m 4 #[.val (.long q), .second] [(.long ((q.toUInt64 >>> ((1 : Int32) &&& 0x3f).toInt64.toUInt64).toInt64)), (.long q)]))
  refine own_go (X0.ldc2Long hx hown (mvT hZ (hw _ (List.mem_of_getElem? (i := 38) rfl))) (g := (mkF m 4 #[.val (.long q), .second] [(.long ((q.toUInt64 >>> ((1 : Int32) &&& 0x3f).toInt64.toUInt64).toInt64)), (.long q)])) rfl (hb hby d4_4)) ?_
  show OwnFin p e below s _ _ _ (s₁.setTop (mkF m 7 #[.val (.long q), .second] [(.long (6148914691236517205 : Int64)), (.long ((q.toUInt64 >>> ((1 : Int32) &&& 0x3f).toInt64.toUInt64).toInt64)), (.long q)]))
  refine own_go (fun t_ k_ => XS.land X0.here hx rfl (hb hby d4_7) rfl k_) ?_
  show OwnFin p e below s _ _ _ (s₁.setTop (mkF m 8 #[.val (.long q), .second] [(.long (((q.toUInt64 >>> ((1 : Int32) &&& 0x3f).toInt64.toUInt64).toInt64) &&& (6148914691236517205 : Int64))), (.long q)]))
  refine own_go (fun t_ k_ => XS.lsub X0.here hx rfl (hb hby d4_8) rfl k_) ?_
  show OwnFin p e below s _ _ _ (s₁.setTop (mkF m 9 #[.val (.long q), .second] [(.long (q - (((q.toUInt64 >>> ((1 : Int32) &&& 0x3f).toInt64.toUInt64).toInt64) &&& (6148914691236517205 : Int64))))]))
  refine own_go (fun t_ k_ => XS.lstoreN X0.here hx rfl (hb hby d4_9) rfl (l' := #[.val (.long (q - (((q.toUInt64 >>> ((1 : Int32) &&& 0x3f).toInt64.toUInt64).toInt64) &&& (6148914691236517205 : Int64)))), .second]) rfl k_) ?_
  show OwnFin p e below s _ _ _ (s₁.setTop (mkF m 10 #[.val (.long (q - (((q.toUInt64 >>> ((1 : Int32) &&& 0x3f).toInt64.toUInt64).toInt64) &&& (6148914691236517205 : Int64)))), .second] []))
  show OwnFin p e below s _ _ _ (s₁.setTop (mkF m 10 #[.val (.long (own_x1 q)), .second] []))
  refine own_go (fun t_ k_ => XS.lloadN X0.here hx rfl (hb hby d4_10) rfl k_) ?_
  show OwnFin p e below s _ _ _ (s₁.setTop (mkF m 11 #[.val (.long (own_x1 q)), .second] [(.long (own_x1 q))]))
  refine own_go (X0.ldc2Long hx hown (mvT hZ (hw _ (List.mem_of_getElem? (i := 39) rfl))) (g := (mkF m 11 #[.val (.long (own_x1 q)), .second] [(.long (own_x1 q))])) rfl (hb hby d4_11)) ?_
  show OwnFin p e below s _ _ _ (s₁.setTop (mkF m 14 #[.val (.long (own_x1 q)), .second] [(.long (3689348814741910323 : Int64)), (.long (own_x1 q))]))
  refine own_go (fun t_ k_ => XS.land X0.here hx rfl (hb hby d4_14) rfl k_) ?_
  show OwnFin p e below s _ _ _ (s₁.setTop (mkF m 15 #[.val (.long (own_x1 q)), .second] [(.long ((own_x1 q) &&& (3689348814741910323 : Int64)))]))
  refine own_go (fun t_ k_ => XS.lloadN X0.here hx rfl (hb hby d4_15) rfl k_) ?_
  show OwnFin p e below s _ _ _ (s₁.setTop (mkF m 16 #[.val (.long (own_x1 q)), .second] [(.long (own_x1 q)), (.long ((own_x1 q) &&& (3689348814741910323 : Int64)))]))
  refine own_go (fun t_ k_ => XS.iconst X0.here hx rfl (hb hby d4_16) k_) ?_
  show OwnFin p e below s _ _ _ (s₁.setTop (mkF m 17 #[.val (.long (own_x1 q)), .second] [(.int (2 : Int32)), (.long (own_x1 q)), (.long ((own_x1 q) &&& (3689348814741910323 : Int64)))]))
  refine own_go (fun t_ k_ => XS.lushr X0.here hx rfl (hb hby d4_17) rfl k_) ?_
  show OwnFin p e below s _ _ _ (s₁.setTop (mkF m 18 #[.val (.long (own_x1 q)), .second] [(.long (((own_x1 q).toUInt64 >>> ((2 : Int32) &&& 0x3f).toInt64.toUInt64).toInt64)), (.long ((own_x1 q) &&& (3689348814741910323 : Int64)))]))
  refine own_go (X0.ldc2Long hx hown (mvT hZ (hw _ (List.mem_of_getElem? (i := 39) rfl))) (g := (mkF m 18 #[.val (.long (own_x1 q)), .second] [(.long (((own_x1 q).toUInt64 >>> ((2 : Int32) &&& 0x3f).toInt64.toUInt64).toInt64)), (.long ((own_x1 q) &&& (3689348814741910323 : Int64)))])) rfl (hb hby d4_18)) ?_
  show OwnFin p e below s _ _ _ (s₁.setTop (mkF m 21 #[.val (.long (own_x1 q)), .second] [(.long (3689348814741910323 : Int64)), (.long (((own_x1 q).toUInt64 >>> ((2 : Int32) &&& 0x3f).toInt64.toUInt64).toInt64)), (.long ((own_x1 q) &&& (3689348814741910323 : Int64)))]))
  refine own_go (fun t_ k_ => XS.land X0.here hx rfl (hb hby d4_21) rfl k_) ?_
  show OwnFin p e below s _ _ _ (s₁.setTop (mkF m 22 #[.val (.long (own_x1 q)), .second] [(.long ((((own_x1 q).toUInt64 >>> ((2 : Int32) &&& 0x3f).toInt64.toUInt64).toInt64) &&& (3689348814741910323 : Int64))), (.long ((own_x1 q) &&& (3689348814741910323 : Int64)))]))
  refine own_go (fun t_ k_ => XS.ladd X0.here hx rfl (hb hby d4_22) rfl k_) ?_
  show OwnFin p e below s _ _ _ (s₁.setTop (mkF m 23 #[.val (.long (own_x1 q)), .second] [(.long (((own_x1 q) &&& (3689348814741910323 : Int64)) + ((((own_x1 q).toUInt64 >>> ((2 : Int32) &&& 0x3f).toInt64.toUInt64).toInt64) &&& (3689348814741910323 : Int64))))]))
  refine own_go (fun t_ k_ => XS.lstoreN X0.here hx rfl (hb hby d4_23) rfl (l' := #[.val (.long (((own_x1 q) &&& (3689348814741910323 : Int64)) + ((((own_x1 q).toUInt64 >>> ((2 : Int32) &&& 0x3f).toInt64.toUInt64).toInt64) &&& (3689348814741910323 : Int64)))), .second]) rfl k_) ?_
  show OwnFin p e below s _ _ _ (s₁.setTop (mkF m 24 #[.val (.long (((own_x1 q) &&& (3689348814741910323 : Int64)) + ((((own_x1 q).toUInt64 >>> ((2 : Int32) &&& 0x3f).toInt64.toUInt64).toInt64) &&& (3689348814741910323 : Int64)))), .second] []))
  show OwnFin p e below s _ _ _ (s₁.setTop (mkF m 24 #[.val (.long (own_x2 (own_x1 q))), .second] []))
  refine own_go (fun t_ k_ => XS.lloadN X0.here hx rfl (hb hby d4_24) rfl k_) ?_
  show OwnFin p e below s _ _ _ (s₁.setTop (mkF m 25 #[.val (.long (own_x2 (own_x1 q))), .second] [(.long (own_x2 (own_x1 q)))]))
  refine own_go (fun t_ k_ => XS.lloadN X0.here hx rfl (hb hby d4_25) rfl k_) ?_
  show OwnFin p e below s _ _ _ (s₁.setTop (mkF m 26 #[.val (.long (own_x2 (own_x1 q))), .second] [(.long (own_x2 (own_x1 q))), (.long (own_x2 (own_x1 q)))]))
  refine own_go (fun t_ k_ => XS.iconst X0.here hx rfl (hb hby d4_26) k_) ?_
  show OwnFin p e below s _ _ _ (s₁.setTop (mkF m 27 #[.val (.long (own_x2 (own_x1 q))), .second] [(.int (4 : Int32)), (.long (own_x2 (own_x1 q))), (.long (own_x2 (own_x1 q)))]))
  refine own_go (fun t_ k_ => XS.lushr X0.here hx rfl (hb hby d4_27) rfl k_) ?_
  show OwnFin p e below s _ _ _ (s₁.setTop (mkF m 28 #[.val (.long (own_x2 (own_x1 q))), .second] [(.long (((own_x2 (own_x1 q)).toUInt64 >>> ((4 : Int32) &&& 0x3f).toInt64.toUInt64).toInt64)), (.long (own_x2 (own_x1 q)))]))
  refine own_go (fun t_ k_ => XS.ladd X0.here hx rfl (hb hby d4_28) rfl k_) ?_
  show OwnFin p e below s _ _ _ (s₁.setTop (mkF m 29 #[.val (.long (own_x2 (own_x1 q))), .second] [(.long ((own_x2 (own_x1 q)) + (((own_x2 (own_x1 q)).toUInt64 >>> ((4 : Int32) &&& 0x3f).toInt64.toUInt64).toInt64)))]))
  refine own_go (X0.ldc2Long hx hown (mvT hZ (hw _ (List.mem_of_getElem? (i := 40) rfl))) (g := (mkF m 29 #[.val (.long (own_x2 (own_x1 q))), .second] [(.long ((own_x2 (own_x1 q)) + (((own_x2 (own_x1 q)).toUInt64 >>> ((4 : Int32) &&& 0x3f).toInt64.toUInt64).toInt64)))])) rfl (hb hby d4_29)) ?_
  show OwnFin p e below s _ _ _ (s₁.setTop (mkF m 32 #[.val (.long (own_x2 (own_x1 q))), .second] [(.long (1085102592571150095 : Int64)), (.long ((own_x2 (own_x1 q)) + (((own_x2 (own_x1 q)).toUInt64 >>> ((4 : Int32) &&& 0x3f).toInt64.toUInt64).toInt64)))]))
  refine own_go (fun t_ k_ => XS.land X0.here hx rfl (hb hby d4_32) rfl k_) ?_
  show OwnFin p e below s _ _ _ (s₁.setTop (mkF m 33 #[.val (.long (own_x2 (own_x1 q))), .second] [(.long (((own_x2 (own_x1 q)) + (((own_x2 (own_x1 q)).toUInt64 >>> ((4 : Int32) &&& 0x3f).toInt64.toUInt64).toInt64)) &&& (1085102592571150095 : Int64)))]))
  refine own_go (fun t_ k_ => XS.lstoreN X0.here hx rfl (hb hby d4_33) rfl (l' := #[.val (.long (((own_x2 (own_x1 q)) + (((own_x2 (own_x1 q)).toUInt64 >>> ((4 : Int32) &&& 0x3f).toInt64.toUInt64).toInt64)) &&& (1085102592571150095 : Int64))), .second]) rfl k_) ?_
  show OwnFin p e below s _ _ _ (s₁.setTop (mkF m 34 #[.val (.long (((own_x2 (own_x1 q)) + (((own_x2 (own_x1 q)).toUInt64 >>> ((4 : Int32) &&& 0x3f).toInt64.toUInt64).toInt64)) &&& (1085102592571150095 : Int64))), .second] []))
  show OwnFin p e below s _ _ _ (s₁.setTop (mkF m 34 #[.val (.long (own_x3 (own_x2 (own_x1 q)))), .second] []))
  refine own_go (fun t_ k_ => XS.lloadN X0.here hx rfl (hb hby d4_34) rfl k_) ?_
  show OwnFin p e below s _ _ _ (s₁.setTop (mkF m 35 #[.val (.long (own_x3 (own_x2 (own_x1 q)))), .second] [(.long (own_x3 (own_x2 (own_x1 q))))]))
  refine own_go (fun t_ k_ => XS.lloadN X0.here hx rfl (hb hby d4_35) rfl k_) ?_
  show OwnFin p e below s _ _ _ (s₁.setTop (mkF m 36 #[.val (.long (own_x3 (own_x2 (own_x1 q)))), .second] [(.long (own_x3 (own_x2 (own_x1 q)))), (.long (own_x3 (own_x2 (own_x1 q))))]))
  refine own_go (fun t_ k_ => XS.bipush X0.here hx rfl (hb hby d4_36) k_) ?_
  show OwnFin p e below s _ _ _ (s₁.setTop (mkF m 38 #[.val (.long (own_x3 (own_x2 (own_x1 q)))), .second] [(.int (8 : Int32)), (.long (own_x3 (own_x2 (own_x1 q)))), (.long (own_x3 (own_x2 (own_x1 q))))]))
  refine own_go (fun t_ k_ => XS.lushr X0.here hx rfl (hb hby d4_38) rfl k_) ?_
  show OwnFin p e below s _ _ _ (s₁.setTop (mkF m 39 #[.val (.long (own_x3 (own_x2 (own_x1 q)))), .second] [(.long (((own_x3 (own_x2 (own_x1 q))).toUInt64 >>> ((8 : Int32) &&& 0x3f).toInt64.toUInt64).toInt64)), (.long (own_x3 (own_x2 (own_x1 q))))]))
  refine own_go (fun t_ k_ => XS.ladd X0.here hx rfl (hb hby d4_39) rfl k_) ?_
  show OwnFin p e below s _ _ _ (s₁.setTop (mkF m 40 #[.val (.long (own_x3 (own_x2 (own_x1 q)))), .second] [(.long ((own_x3 (own_x2 (own_x1 q))) + (((own_x3 (own_x2 (own_x1 q))).toUInt64 >>> ((8 : Int32) &&& 0x3f).toInt64.toUInt64).toInt64)))]))
  refine own_go (fun t_ k_ => XS.lstoreN X0.here hx rfl (hb hby d4_40) rfl (l' := #[.val (.long ((own_x3 (own_x2 (own_x1 q))) + (((own_x3 (own_x2 (own_x1 q))).toUInt64 >>> ((8 : Int32) &&& 0x3f).toInt64.toUInt64).toInt64))), .second]) rfl k_) ?_
  show OwnFin p e below s _ _ _ (s₁.setTop (mkF m 41 #[.val (.long ((own_x3 (own_x2 (own_x1 q))) + (((own_x3 (own_x2 (own_x1 q))).toUInt64 >>> ((8 : Int32) &&& 0x3f).toInt64.toUInt64).toInt64))), .second] []))
  show OwnFin p e below s _ _ _ (s₁.setTop (mkF m 41 #[.val (.long (own_x4 (own_x3 (own_x2 (own_x1 q))))), .second] []))
  refine own_go (fun t_ k_ => XS.lloadN X0.here hx rfl (hb hby d4_41) rfl k_) ?_
  show OwnFin p e below s _ _ _ (s₁.setTop (mkF m 42 #[.val (.long (own_x4 (own_x3 (own_x2 (own_x1 q))))), .second] [(.long (own_x4 (own_x3 (own_x2 (own_x1 q)))))]))
  refine own_go (fun t_ k_ => XS.lloadN X0.here hx rfl (hb hby d4_42) rfl k_) ?_
  show OwnFin p e below s _ _ _ (s₁.setTop (mkF m 43 #[.val (.long (own_x4 (own_x3 (own_x2 (own_x1 q))))), .second] [(.long (own_x4 (own_x3 (own_x2 (own_x1 q))))), (.long (own_x4 (own_x3 (own_x2 (own_x1 q)))))]))
  refine own_go (fun t_ k_ => XS.bipush X0.here hx rfl (hb hby d4_43) k_) ?_
  show OwnFin p e below s _ _ _ (s₁.setTop (mkF m 45 #[.val (.long (own_x4 (own_x3 (own_x2 (own_x1 q))))), .second] [(.int (16 : Int32)), (.long (own_x4 (own_x3 (own_x2 (own_x1 q))))), (.long (own_x4 (own_x3 (own_x2 (own_x1 q)))))]))
  refine own_go (fun t_ k_ => XS.lushr X0.here hx rfl (hb hby d4_45) rfl k_) ?_
  show OwnFin p e below s _ _ _ (s₁.setTop (mkF m 46 #[.val (.long (own_x4 (own_x3 (own_x2 (own_x1 q))))), .second] [(.long (((own_x4 (own_x3 (own_x2 (own_x1 q)))).toUInt64 >>> ((16 : Int32) &&& 0x3f).toInt64.toUInt64).toInt64)), (.long (own_x4 (own_x3 (own_x2 (own_x1 q)))))]))
  refine own_go (fun t_ k_ => XS.ladd X0.here hx rfl (hb hby d4_46) rfl k_) ?_
  show OwnFin p e below s _ _ _ (s₁.setTop (mkF m 47 #[.val (.long (own_x4 (own_x3 (own_x2 (own_x1 q))))), .second] [(.long ((own_x4 (own_x3 (own_x2 (own_x1 q)))) + (((own_x4 (own_x3 (own_x2 (own_x1 q)))).toUInt64 >>> ((16 : Int32) &&& 0x3f).toInt64.toUInt64).toInt64)))]))
  refine own_go (fun t_ k_ => XS.lstoreN X0.here hx rfl (hb hby d4_47) rfl (l' := #[.val (.long ((own_x4 (own_x3 (own_x2 (own_x1 q)))) + (((own_x4 (own_x3 (own_x2 (own_x1 q)))).toUInt64 >>> ((16 : Int32) &&& 0x3f).toInt64.toUInt64).toInt64))), .second]) rfl k_) ?_
  show OwnFin p e below s _ _ _ (s₁.setTop (mkF m 48 #[.val (.long ((own_x4 (own_x3 (own_x2 (own_x1 q)))) + (((own_x4 (own_x3 (own_x2 (own_x1 q)))).toUInt64 >>> ((16 : Int32) &&& 0x3f).toInt64.toUInt64).toInt64))), .second] []))
  show OwnFin p e below s _ _ _ (s₁.setTop (mkF m 48 #[.val (.long (own_x5 (own_x4 (own_x3 (own_x2 (own_x1 q)))))), .second] []))
  refine own_go (fun t_ k_ => XS.lloadN X0.here hx rfl (hb hby d4_48) rfl k_) ?_
  show OwnFin p e below s _ _ _ (s₁.setTop (mkF m 49 #[.val (.long (own_x5 (own_x4 (own_x3 (own_x2 (own_x1 q)))))), .second] [(.long (own_x5 (own_x4 (own_x3 (own_x2 (own_x1 q))))))]))
  refine own_go (fun t_ k_ => XS.lloadN X0.here hx rfl (hb hby d4_49) rfl k_) ?_
  show OwnFin p e below s _ _ _ (s₁.setTop (mkF m 50 #[.val (.long (own_x5 (own_x4 (own_x3 (own_x2 (own_x1 q)))))), .second] [(.long (own_x5 (own_x4 (own_x3 (own_x2 (own_x1 q)))))), (.long (own_x5 (own_x4 (own_x3 (own_x2 (own_x1 q))))))]))
  refine own_go (fun t_ k_ => XS.bipush X0.here hx rfl (hb hby d4_50) k_) ?_
  show OwnFin p e below s _ _ _ (s₁.setTop (mkF m 52 #[.val (.long (own_x5 (own_x4 (own_x3 (own_x2 (own_x1 q)))))), .second] [(.int (32 : Int32)), (.long (own_x5 (own_x4 (own_x3 (own_x2 (own_x1 q)))))), (.long (own_x5 (own_x4 (own_x3 (own_x2 (own_x1 q))))))]))
  refine own_go (fun t_ k_ => XS.lushr X0.here hx rfl (hb hby d4_52) rfl k_) ?_
  show OwnFin p e below s _ _ _ (s₁.setTop (mkF m 53 #[.val (.long (own_x5 (own_x4 (own_x3 (own_x2 (own_x1 q)))))), .second] [(.long (((own_x5 (own_x4 (own_x3 (own_x2 (own_x1 q))))).toUInt64 >>> ((32 : Int32) &&& 0x3f).toInt64.toUInt64).toInt64)), (.long (own_x5 (own_x4 (own_x3 (own_x2 (own_x1 q))))))]))
  refine own_go (fun t_ k_ => XS.ladd X0.here hx rfl (hb hby d4_53) rfl k_) ?_
  show OwnFin p e below s _ _ _ (s₁.setTop (mkF m 54 #[.val (.long (own_x5 (own_x4 (own_x3 (own_x2 (own_x1 q)))))), .second] [(.long ((own_x5 (own_x4 (own_x3 (own_x2 (own_x1 q))))) + (((own_x5 (own_x4 (own_x3 (own_x2 (own_x1 q))))).toUInt64 >>> ((32 : Int32) &&& 0x3f).toInt64.toUInt64).toInt64)))]))
  refine own_go (fun t_ k_ => XS.lstoreN X0.here hx rfl (hb hby d4_54) rfl (l' := #[.val (.long ((own_x5 (own_x4 (own_x3 (own_x2 (own_x1 q))))) + (((own_x5 (own_x4 (own_x3 (own_x2 (own_x1 q))))).toUInt64 >>> ((32 : Int32) &&& 0x3f).toInt64.toUInt64).toInt64))), .second]) rfl k_) ?_
  show OwnFin p e below s _ _ _ (s₁.setTop (mkF m 55 #[.val (.long ((own_x5 (own_x4 (own_x3 (own_x2 (own_x1 q))))) + (((own_x5 (own_x4 (own_x3 (own_x2 (own_x1 q))))).toUInt64 >>> ((32 : Int32) &&& 0x3f).toInt64.toUInt64).toInt64))), .second] []))
  show OwnFin p e below s _ _ _ (s₁.setTop (mkF m 55 #[.val (.long (own_x6 (own_x5 (own_x4 (own_x3 (own_x2 (own_x1 q))))))), .second] []))
  refine own_go (fun t_ k_ => XS.lloadN X0.here hx rfl (hb hby d4_55) rfl k_) ?_
  show OwnFin p e below s _ _ _ (s₁.setTop (mkF m 56 #[.val (.long (own_x6 (own_x5 (own_x4 (own_x3 (own_x2 (own_x1 q))))))), .second] [(.long (own_x6 (own_x5 (own_x4 (own_x3 (own_x2 (own_x1 q)))))))]))
  refine own_go (fun t_ k_ => XS.l2i X0.here hx rfl (hb hby d4_56) rfl k_) ?_
  show OwnFin p e below s _ _ _ (s₁.setTop (mkF m 57 #[.val (.long (own_x6 (own_x5 (own_x4 (own_x3 (own_x2 (own_x1 q))))))), .second] [(.int ((own_x6 (own_x5 (own_x4 (own_x3 (own_x2 (own_x1 q)))))).toInt32))]))
  refine own_go (fun t_ k_ => XS.bipush X0.here hx rfl (hb hby d4_57) k_) ?_
  show OwnFin p e below s _ _ _ (s₁.setTop (mkF m 59 #[.val (.long (own_x6 (own_x5 (own_x4 (own_x3 (own_x2 (own_x1 q))))))), .second] [(.int (127 : Int32)), (.int ((own_x6 (own_x5 (own_x4 (own_x3 (own_x2 (own_x1 q)))))).toInt32))]))
  refine own_go (fun t_ k_ => XS.iand X0.here hx rfl (hb hby d4_59) rfl k_) ?_
  show OwnFin p e below s _ _ _ (s₁.setTop (mkF m 60 #[.val (.long (own_x6 (own_x5 (own_x4 (own_x3 (own_x2 (own_x1 q))))))), .second] [(.int (((own_x6 (own_x5 (own_x4 (own_x3 (own_x2 (own_x1 q)))))).toInt32) &&& (127 : Int32)))]))
  refine own_ret X0 (v := some (.int (((own_x6 (own_x5 (own_x4 (own_x3 (own_x2 (own_x1 q)))))).toInt32) &&& (127 : Int32)))) hlk (fun hh => by rw [hret] at hh; cases hh) (fun fs hr => own_retI X0 hx hret (hb hby d4_60) hr) (by decide) (by decide) ?_
  rw [e0]
  exact ⟨rfl, N0, rfl⟩
theorem d5_0 : decode prog_158_method_14_code 0 = .ok (.iload_n 1, 1) := by decide +kernel
theorem d5_1 : decode prog_158_method_14_code 1 = .ok (.bipush 6, 2) := by decide +kernel
theorem d5_3 : decode prog_158_method_14_code 3 = .ok (.iushr, 1) := by decide +kernel
theorem d5_4 : decode prog_158_method_14_code 4 = .ok (.istore_n 3, 1) := by decide +kernel
theorem d5_5 : decode prog_158_method_14_code 5 = .ok (.iload_n 2, 1) := by decide +kernel
theorem d5_6 : decode prog_158_method_14_code 6 = .ok (.iconst 1, 1) := by decide +kernel
theorem d5_7 : decode prog_158_method_14_code 7 = .ok (.isub, 1) := by decide +kernel
theorem d5_8 : decode prog_158_method_14_code 8 = .ok (.bipush 6, 2) := by decide +kernel
theorem d5_10 : decode prog_158_method_14_code 10 = .ok (.iushr, 1) := by decide +kernel
theorem d5_11 : decode prog_158_method_14_code 11 = .ok (.istore 4, 2) := by decide +kernel
theorem d5_13 : decode prog_158_method_14_code 13 = .ok (.ldc2_w 47, 3) := by decide +kernel
theorem d5_16 : decode prog_158_method_14_code 16 = .ok (.bipush 63, 2) := by decide +kernel
theorem d5_18 : decode prog_158_method_14_code 18 = .ok (.iload_n 2, 1) := by decide +kernel
theorem d5_19 : decode prog_158_method_14_code 19 = .ok (.iconst 1, 1) := by decide +kernel
theorem d5_20 : decode prog_158_method_14_code 20 = .ok (.isub, 1) := by decide +kernel
theorem d5_21 : decode prog_158_method_14_code 21 = .ok (.bipush 63, 2) := by decide +kernel
theorem d5_23 : decode prog_158_method_14_code 23 = .ok (.iand, 1) := by decide +kernel
theorem d5_24 : decode prog_158_method_14_code 24 = .ok (.isub, 1) := by decide +kernel
theorem d5_25 : decode prog_158_method_14_code 25 = .ok (.lushr, 1) := by decide +kernel
theorem d5_26 : decode prog_158_method_14_code 26 = .ok (.lstore 5, 2) := by decide +kernel
theorem d5_28 : decode prog_158_method_14_code 28 = .ok (.iload_n 3, 1) := by decide +kernel
theorem d5_29 : decode prog_158_method_14_code 29 = .ok (.iload 4, 2) := by decide +kernel
theorem d5_31 : decode prog_158_method_14_code 31 = .ok (.if_icmp .ne 22, 3) := by decide +kernel
theorem d5_34 : decode prog_158_method_14_code 34 = .ok (.aload_n 0, 1) := by decide +kernel
theorem d5_35 : decode prog_158_method_14_code 35 = .ok (.getfield 7, 3) := by decide +kernel
theorem d5_38 : decode prog_158_method_14_code 38 = .ok (.iload_n 3, 1) := by decide +kernel
theorem d5_39 : decode prog_158_method_14_code 39 = .ok (.laload, 1) := by decide +kernel
theorem d5_40 : decode prog_158_method_14_code 40 = .ok (.ldc2_w 47, 3) := by decide +kernel
theorem d5_43 : decode prog_158_method_14_code 43 = .ok (.iload_n 1, 1) := by decide +kernel
theorem d5_44 : decode prog_158_method_14_code 44 = .ok (.lshl, 1) := by decide +kernel
theorem d5_45 : decode prog_158_method_14_code 45 = .ok (.land, 1) := by decide +kernel
theorem d5_46 : decode prog_158_method_14_code 46 = .ok (.lload 5, 2) := by decide +kernel
theorem d5_48 : decode prog_158_method_14_code 48 = .ok (.land, 1) := by decide +kernel
theorem d5_49 : decode prog_158_method_14_code 49 = .ok (.invokestatic 37, 3) := by decide +kernel
theorem d5_52 : decode prog_158_method_14_code 52 = .ok (.ireturn, 1) := by decide +kernel
theorem d5_53 : decode prog_158_method_14_code 53 = .ok (.aload_n 0, 1) := by decide +kernel
theorem d5_54 : decode prog_158_method_14_code 54 = .ok (.getfield 7, 3) := by decide +kernel
theorem d5_57 : decode prog_158_method_14_code 57 = .ok (.iload_n 3, 1) := by decide +kernel
theorem d5_58 : decode prog_158_method_14_code 58 = .ok (.laload, 1) := by decide +kernel
theorem d5_59 : decode prog_158_method_14_code 59 = .ok (.ldc2_w 47, 3) := by decide +kernel
theorem d5_62 : decode prog_158_method_14_code 62 = .ok (.iload_n 1, 1) := by decide +kernel
theorem d5_63 : decode prog_158_method_14_code 63 = .ok (.lshl, 1) := by decide +kernel
theorem d5_64 : decode prog_158_method_14_code 64 = .ok (.land, 1) := by decide +kernel
theorem d5_65 : decode prog_158_method_14_code 65 = .ok (.invokestatic 37, 3) := by decide +kernel
theorem d5_68 : decode prog_158_method_14_code 68 = .ok (.istore 7, 2) := by decide +kernel
theorem d5_70 : decode prog_158_method_14_code 70 = .ok (.iload_n 3, 1) := by decide +kernel
theorem d5_71 : decode prog_158_method_14_code 71 = .ok (.iconst 1, 1) := by decide +kernel
theorem d5_72 : decode prog_158_method_14_code 72 = .ok (.iadd, 1) := by decide +kernel
theorem d5_73 : decode prog_158_method_14_code 73 = .ok (.istore 8, 2) := by decide +kernel
theorem d5_75 : decode prog_158_method_14_code 75 = .ok (.iload 8, 2) := by decide +kernel
theorem d5_77 : decode prog_158_method_14_code 77 = .ok (.iload 4, 2) := by decide +kernel
theorem d5_79 : decode prog_158_method_14_code 79 = .ok (.if_icmp .ge 24, 3) := by decide +kernel
theorem d5_82 : decode prog_158_method_14_code 82 = .ok (.iload 7, 2) := by decide +kernel
theorem d5_84 : decode prog_158_method_14_code 84 = .ok (.aload_n 0, 1) := by decide +kernel
theorem d5_85 : decode prog_158_method_14_code 85 = .ok (.getfield 7, 3) := by decide +kernel
theorem d5_88 : decode prog_158_method_14_code 88 = .ok (.iload 8, 2) := by decide +kernel
theorem d5_90 : decode prog_158_method_14_code 90 = .ok (.laload, 1) := by decide +kernel
theorem d5_91 : decode prog_158_method_14_code 91 = .ok (.invokestatic 37, 3) := by decide +kernel
theorem d5_94 : decode prog_158_method_14_code 94 = .ok (.iadd, 1) := by decide +kernel
theorem d5_95 : decode prog_158_method_14_code 95 = .ok (.istore 7, 2) := by decide +kernel
theorem d5_97 : decode prog_158_method_14_code 97 = .ok (.iinc 8 1, 3) := by decide +kernel
theorem d5_100 : decode prog_158_method_14_code 100 = .ok (.goto (-25), 3) := by decide +kernel
theorem d5_103 : decode prog_158_method_14_code 103 = .ok (.iload 7, 2) := by decide +kernel
theorem d5_105 : decode prog_158_method_14_code 105 = .ok (.aload_n 0, 1) := by decide +kernel
theorem d5_106 : decode prog_158_method_14_code 106 = .ok (.getfield 7, 3) := by decide +kernel
theorem d5_109 : decode prog_158_method_14_code 109 = .ok (.iload 4, 2) := by decide +kernel
theorem d5_111 : decode prog_158_method_14_code 111 = .ok (.laload, 1) := by decide +kernel
theorem d5_112 : decode prog_158_method_14_code 112 = .ok (.lload 5, 2) := by decide +kernel
theorem d5_114 : decode prog_158_method_14_code 114 = .ok (.land, 1) := by decide +kernel
theorem d5_115 : decode prog_158_method_14_code 115 = .ok (.invokestatic 37, 3) := by decide +kernel
theorem d5_118 : decode prog_158_method_14_code 118 = .ok (.iadd, 1) := by decide +kernel
theorem d5_119 : decode prog_158_method_14_code 119 = .ok (.ireturn, 1) := by decide +kernel
theorem pn_5 : plainFor (⟨"com/example/nearside/nearside/slotted/delay/OfferSet", "countIn", "(II)I"⟩ : MethodName) = true := plainFor_of_name (by first | (simp [plainName, overriddenIn]; done) | decide +kernel)
theorem pd_5_3 : parseMethodDescriptor "(J)I" = some ⟨[.long], some .int⟩ := by decide +kernel
theorem ef_5 (m : MethodId) (a1 : Addr) (p2 : Int32) (p3 : Int32) : entryFrame m #[(.ref a1), (.int p2), (.int p3)] 9 = mkF m 0 #[rv a1, iv p2, iv p3, .unset, .unset, .unset, .unset, .unset, .unset] [] := by first | (simp [entryFrame, mkF, argsToLocals, Value.category]; done) | rfl
theorem ef_5_S (m : MethodId) (fo : Addr) (pf : Int32) (pe : Int32) : entryFrame m #[(.ref fo), (.int pf), (.int pe)] 9 = mkF m 0 #[rv fo, iv pf, iv pe, .unset, .unset, .unset, .unset, .unset, .unset] [] := by first | (simp [entryFrame, mkF, argsToLocals, Value.category]; done) | rfl
set_option maxRecDepth 65536 in
set_option maxHeartbeats 40000000 in
theorem rm5_S (l : Launch) (Z : State) (a0 : Array Value) (hw : ∀ d ∈ tables_1, d.before a0 Z = true) (ws : List Jvm.Cond) (fo : Addr) (pf : Int32) (pe : Int32) (aw : Addr) (nw : Nat) (f : Nat) (e_ : Nat) (W : Nat → Int64) (h0 : Heap) (n0 : Nat) (Z0 : n0 ≤ h0.size) (hf : pf = Int32.ofNat f) (he : pe = Int32.ofNat e_) (he0 : 0 < e_) (hf1 : f < 100000) (he1 : e_ < 100000) (hfe : (e_ - 1) / 64 = f / 64) (hw1 : f / 64  < nw) (F_words : Fld Z h0 fo "com/example/nearside/nearside/slotted/delay/OfferSet" "words" "[J" (.ref aw)) (V_aw : OwnArr Z h0 aw .long nw (fun k => .long (W k))) :
    OwnCtr l Z (⟨"com/example/nearside/nearside/slotted/delay/OfferSet", "countIn", "(II)I"⟩ : MethodName) ws prog_158_method_14_code 9 (some .int) ({ frames := 1, cells := 0, slots := 0, locals := 20 } : Room) #[(.ref fo), (.int pf), (.int pe)] h0 (fun v h L => v = some (.int (own_bc ((W (f / 64) &&& own_fm pf) &&& own_lm pe))) ∧ Fr n0 L ∧ h = h0) := by
  refine own_body (g0 := fun m => mkF m 0 #[rv fo, iv pf, iv pe, .unset, .unset, .unset, .unset, .unset, .unset] []) pn_5 (fun m => ef_5_S m fo pf pe) ?_
  intro p e s m below meth c s₁ X0 hx hby hml hown hnm hZ e0 hret hlk
  have hml : c.maxLocals = 9 := hml
  have hown : s.vm.findClass "com/example/nearside/nearside/slotted/delay/OfferSet" = some m.cls := hown
  have hnm : meth.name = "countIn" := hnm
  have hret : meth.sig.returnType = (some .int) := hret
  have N0 := Fr.nil n0
  show OwnFin p e below s _ _ _ (s₁.setTop (mkF m 0 #[rv fo, iv pf, iv pe, .unset, .unset, .unset, .unset, .unset, .unset] []))
  refine own_go (fun t_ k_ => XS.iloadN X0.here hx rfl (hb hby d5_0) rfl k_) ?_
  show OwnFin p e below s _ _ _ (s₁.setTop (mkF m 1 #[rv fo, iv pf, iv pe, .unset, .unset, .unset, .unset, .unset, .unset] [(.int pf)]))
  refine own_go (fun t_ k_ => XS.bipush X0.here hx rfl (hb hby d5_1) k_) ?_
  show OwnFin p e below s _ _ _ (s₁.setTop (mkF m 3 #[rv fo, iv pf, iv pe, .unset, .unset, .unset, .unset, .unset, .unset] [(.int (6 : Int32)), (.int pf)]))
  refine own_go (fun t_ k_ => XS.iushr X0.here hx rfl (hb hby d5_3) rfl k_) ?_
  show OwnFin p e below s _ _ _ (s₁.setTop (mkF m 4 #[rv fo, iv pf, iv pe, .unset, .unset, .unset, .unset, .unset, .unset] [(.int ((pf.toUInt32 >>> ((6 : Int32) &&& 31).toUInt32).toInt32))]))
  rw [own_shr6' hf hf1]
  show OwnFin p e below s _ _ _ (s₁.setTop (mkF m 4 #[rv fo, iv pf, iv pe, .unset, .unset, .unset, .unset, .unset, .unset] [(.int (Int32.ofNat (f / 64)))]))
  refine own_go (fun t_ k_ => XS.istoreN X0.here hx rfl (hb hby d5_4) rfl (l' := #[rv fo, iv pf, iv pe, iv (Int32.ofNat (f / 64)), .unset, .unset, .unset, .unset, .unset]) rfl k_) ?_
  show OwnFin p e below s _ _ _ (s₁.setTop (mkF m 5 #[rv fo, iv pf, iv pe, iv (Int32.ofNat (f / 64)), .unset, .unset, .unset, .unset, .unset] []))
  refine own_go (fun t_ k_ => XS.iloadN X0.here hx rfl (hb hby d5_5) rfl k_) ?_
  show OwnFin p e below s _ _ _ (s₁.setTop (mkF m 6 #[rv fo, iv pf, iv pe, iv (Int32.ofNat (f / 64)), .unset, .unset, .unset, .unset, .unset] [(.int pe)]))
  refine own_go (fun t_ k_ => XS.iconst X0.here hx rfl (hb hby d5_6) k_) ?_
  show OwnFin p e below s _ _ _ (s₁.setTop (mkF m 7 #[rv fo, iv pf, iv pe, iv (Int32.ofNat (f / 64)), .unset, .unset, .unset, .unset, .unset] [(.int (1 : Int32)), (.int pe)]))
  refine own_go (fun t_ k_ => XS.isub X0.here hx rfl (hb hby d5_7) rfl k_) ?_
  show OwnFin p e below s _ _ _ (s₁.setTop (mkF m 8 #[rv fo, iv pf, iv pe, iv (Int32.ofNat (f / 64)), .unset, .unset, .unset, .unset, .unset] [(.int (pe - (1 : Int32)))]))
  refine own_go (fun t_ k_ => XS.bipush X0.here hx rfl (hb hby d5_8) k_) ?_
  show OwnFin p e below s _ _ _ (s₁.setTop (mkF m 10 #[rv fo, iv pf, iv pe, iv (Int32.ofNat (f / 64)), .unset, .unset, .unset, .unset, .unset] [(.int (6 : Int32)), (.int (pe - (1 : Int32)))]))
  refine own_go (fun t_ k_ => XS.iushr X0.here hx rfl (hb hby d5_10) rfl k_) ?_
  show OwnFin p e below s _ _ _ (s₁.setTop (mkF m 11 #[rv fo, iv pf, iv pe, iv (Int32.ofNat (f / 64)), .unset, .unset, .unset, .unset, .unset] [(.int (((pe - (1 : Int32)).toUInt32 >>> ((6 : Int32) &&& 31).toUInt32).toInt32))]))
  rw [own_shr6' (own_pred he he0) (by omega), hfe]
  show OwnFin p e below s _ _ _ (s₁.setTop (mkF m 11 #[rv fo, iv pf, iv pe, iv (Int32.ofNat (f / 64)), .unset, .unset, .unset, .unset, .unset] [(.int (Int32.ofNat (f / 64)))]))
  refine own_go (fun t_ k_ => XS.istore X0.here hx rfl (hb hby d5_11) rfl (l' := #[rv fo, iv pf, iv pe, iv (Int32.ofNat (f / 64)), iv (Int32.ofNat (f / 64)), .unset, .unset, .unset, .unset]) rfl k_) ?_
  show OwnFin p e below s _ _ _ (s₁.setTop (mkF m 13 #[rv fo, iv pf, iv pe, iv (Int32.ofNat (f / 64)), iv (Int32.ofNat (f / 64)), .unset, .unset, .unset, .unset] []))
  refine own_go (X0.ldc2Long hx hown (mvT hZ (hw _ (List.mem_of_getElem? (i := 45) rfl))) (g := (mkF m 13 #[rv fo, iv pf, iv pe, iv (Int32.ofNat (f / 64)), iv (Int32.ofNat (f / 64)), .unset, .unset, .unset, .unset] [])) rfl (hb hby d5_13)) ?_
  show OwnFin p e below s _ _ _ (s₁.setTop (mkF m 16 #[rv fo, iv pf, iv pe, iv (Int32.ofNat (f / 64)), iv (Int32.ofNat (f / 64)), .unset, .unset, .unset, .unset] [(.long (-1 : Int64))]))
  refine own_go (fun t_ k_ => XS.bipush X0.here hx rfl (hb hby d5_16) k_) ?_
  show OwnFin p e below s _ _ _ (s₁.setTop (mkF m 18 #[rv fo, iv pf, iv pe, iv (Int32.ofNat (f / 64)), iv (Int32.ofNat (f / 64)), .unset, .unset, .unset, .unset] [(.int (63 : Int32)), (.long (-1 : Int64))]))
  refine own_go (fun t_ k_ => XS.iloadN X0.here hx rfl (hb hby d5_18) rfl k_) ?_
  show OwnFin p e below s _ _ _ (s₁.setTop (mkF m 19 #[rv fo, iv pf, iv pe, iv (Int32.ofNat (f / 64)), iv (Int32.ofNat (f / 64)), .unset, .unset, .unset, .unset] [(.int pe), (.int (63 : Int32)), (.long (-1 : Int64))]))
  refine own_go (fun t_ k_ => XS.iconst X0.here hx rfl (hb hby d5_19) k_) ?_
  show OwnFin p e below s _ _ _ (s₁.setTop (mkF m 20 #[rv fo, iv pf, iv pe, iv (Int32.ofNat (f / 64)), iv (Int32.ofNat (f / 64)), .unset, .unset, .unset, .unset] [(.int (1 : Int32)), (.int pe), (.int (63 : Int32)), (.long (-1 : Int64))]))
  refine own_go (fun t_ k_ => XS.isub X0.here hx rfl (hb hby d5_20) rfl k_) ?_
  show OwnFin p e below s _ _ _ (s₁.setTop (mkF m 21 #[rv fo, iv pf, iv pe, iv (Int32.ofNat (f / 64)), iv (Int32.ofNat (f / 64)), .unset, .unset, .unset, .unset] [(.int (pe - (1 : Int32))), (.int (63 : Int32)), (.long (-1 : Int64))]))
  refine own_go (fun t_ k_ => XS.bipush X0.here hx rfl (hb hby d5_21) k_) ?_
  show OwnFin p e below s _ _ _ (s₁.setTop (mkF m 23 #[rv fo, iv pf, iv pe, iv (Int32.ofNat (f / 64)), iv (Int32.ofNat (f / 64)), .unset, .unset, .unset, .unset] [(.int (63 : Int32)), (.int (pe - (1 : Int32))), (.int (63 : Int32)), (.long (-1 : Int64))]))
  refine own_go (fun t_ k_ => XS.iand X0.here hx rfl (hb hby d5_23) rfl k_) ?_
  show OwnFin p e below s _ _ _ (s₁.setTop (mkF m 24 #[rv fo, iv pf, iv pe, iv (Int32.ofNat (f / 64)), iv (Int32.ofNat (f / 64)), .unset, .unset, .unset, .unset] [(.int ((pe - (1 : Int32)) &&& (63 : Int32))), (.int (63 : Int32)), (.long (-1 : Int64))]))
  refine own_go (fun t_ k_ => XS.isub X0.here hx rfl (hb hby d5_24) rfl k_) ?_
  show OwnFin p e below s _ _ _ (s₁.setTop (mkF m 25 #[rv fo, iv pf, iv pe, iv (Int32.ofNat (f / 64)), iv (Int32.ofNat (f / 64)), .unset, .unset, .unset, .unset] [(.int ((63 : Int32) - ((pe - (1 : Int32)) &&& (63 : Int32)))), (.long (-1 : Int64))]))
  refine own_go (fun t_ k_ => XS.lushr X0.here hx rfl (hb hby d5_25) rfl k_) ?_
  show OwnFin p e below s _ _ _ (s₁.setTop (mkF m 26 #[rv fo, iv pf, iv pe, iv (Int32.ofNat (f / 64)), iv (Int32.ofNat (f / 64)), .unset, .unset, .unset, .unset] [(.long (((-1 : Int64).toUInt64 >>> (((63 : Int32) - ((pe - (1 : Int32)) &&& (63 : Int32))) &&& 0x3f).toInt64.toUInt64).toInt64))]))
  show OwnFin p e below s _ _ _ (s₁.setTop (mkF m 26 #[rv fo, iv pf, iv pe, iv (Int32.ofNat (f / 64)), iv (Int32.ofNat (f / 64)), .unset, .unset, .unset, .unset] [(.long (own_lm pe))]))
  refine own_go (fun t_ k_ => XS.lstore X0.here hx rfl (hb hby d5_26) rfl (l' := #[rv fo, iv pf, iv pe, iv (Int32.ofNat (f / 64)), iv (Int32.ofNat (f / 64)), .val (.long (own_lm pe)), .second, .unset, .unset]) rfl k_) ?_
  show OwnFin p e below s _ _ _ (s₁.setTop (mkF m 28 #[rv fo, iv pf, iv pe, iv (Int32.ofNat (f / 64)), iv (Int32.ofNat (f / 64)), .val (.long (own_lm pe)), .second, .unset, .unset] []))
  refine own_go (fun t_ k_ => XS.iloadN X0.here hx rfl (hb hby d5_28) rfl k_) ?_
  show OwnFin p e below s _ _ _ (s₁.setTop (mkF m 29 #[rv fo, iv pf, iv pe, iv (Int32.ofNat (f / 64)), iv (Int32.ofNat (f / 64)), .val (.long (own_lm pe)), .second, .unset, .unset] [(.int (Int32.ofNat (f / 64)))]))
  refine own_go (fun t_ k_ => XS.iload X0.here hx rfl (hb hby d5_29) rfl k_) ?_
  show OwnFin p e below s _ _ _ (s₁.setTop (mkF m 31 #[rv fo, iv pf, iv pe, iv (Int32.ofNat (f / 64)), iv (Int32.ofNat (f / 64)), .val (.long (own_lm pe)), .second, .unset, .unset] [(.int (Int32.ofNat (f / 64))), (.int (Int32.ofNat (f / 64)))]))
  have hc31 : (Int32.ofNat (f / 64)) = (Int32.ofNat (f / 64)) := rfl
  refine own_go (fun t_ k_ => XS.icmpNo X0.here hx rfl (hb hby d5_31) rfl (teq hc31).2 k_) ?_
  show OwnFin p e below s _ _ _ (s₁.setTop (mkF m 34 #[rv fo, iv pf, iv pe, iv (Int32.ofNat (f / 64)), iv (Int32.ofNat (f / 64)), .val (.long (own_lm pe)), .second, .unset, .unset] []))
  refine own_go (fun t_ k_ => XS.aloadN X0.here hx rfl (hb hby d5_34) rfl rfl k_) ?_
  show OwnFin p e below s _ _ _ (s₁.setTop (mkF m 35 #[rv fo, iv pf, iv pe, iv (Int32.ofNat (f / 64)), iv (Int32.ofNat (f / 64)), .val (.long (own_lm pe)), .second, .unset, .unset] [(.ref fo)]))
  obtain ⟨T1, X1, e1, st1⟩ := getF X0 hx hZ hown (host := "") (Or.inl (hw _ (List.mem_of_getElem? (i := 12) rfl))) Via.refl e0 F_words (g := (mkF m 35 #[rv fo, iv pf, iv pe, iv (Int32.ofNat (f / 64)), iv (Int32.ofNat (f / 64)), .val (.long (own_lm pe)), .second, .unset, .unset] [(.ref fo)])) rfl rfl (hb hby d5_35)
  refine own_go st1 ?_
  show OwnFin p e below s _ _ _ (T1.setTop (mkF m 38 #[rv fo, iv pf, iv pe, iv (Int32.ofNat (f / 64)), iv (Int32.ofNat (f / 64)), .val (.long (own_lm pe)), .second, .unset, .unset] [(.ref aw)]))
  refine own_go (fun t_ k_ => XS.iloadN X1.here hx rfl (hb hby d5_38) rfl k_) ?_
  show OwnFin p e below s _ _ _ (T1.setTop (mkF m 39 #[rv fo, iv pf, iv pe, iv (Int32.ofNat (f / 64)), iv (Int32.ofNat (f / 64)), .val (.long (own_lm pe)), .second, .unset, .unset] [(.int (Int32.ofNat (f / 64))), (.ref aw)]))
  refine own_go (own_laload X1 hx hZ e1 V_aw (i := (f / 64)) rfl (by omega) (g := (mkF m 39 #[rv fo, iv pf, iv pe, iv (Int32.ofNat (f / 64)), iv (Int32.ofNat (f / 64)), .val (.long (own_lm pe)), .second, .unset, .unset] [(.int (Int32.ofNat (f / 64))), (.ref aw)])) rfl rfl (hb hby d5_39)) ?_
  show OwnFin p e below s _ _ _ (T1.setTop (mkF m 40 #[rv fo, iv pf, iv pe, iv (Int32.ofNat (f / 64)), iv (Int32.ofNat (f / 64)), .val (.long (own_lm pe)), .second, .unset, .unset] [(.long (W (f / 64)))]))
  refine own_go (X1.ldc2Long hx hown (mvT hZ (hw _ (List.mem_of_getElem? (i := 45) rfl))) (g := (mkF m 40 #[rv fo, iv pf, iv pe, iv (Int32.ofNat (f / 64)), iv (Int32.ofNat (f / 64)), .val (.long (own_lm pe)), .second, .unset, .unset] [(.long (W (f / 64)))])) rfl (hb hby d5_40)) ?_
  show OwnFin p e below s _ _ _ (T1.setTop (mkF m 43 #[rv fo, iv pf, iv pe, iv (Int32.ofNat (f / 64)), iv (Int32.ofNat (f / 64)), .val (.long (own_lm pe)), .second, .unset, .unset] [(.long (-1 : Int64)), (.long (W (f / 64)))]))
  refine own_go (fun t_ k_ => XS.iloadN X1.here hx rfl (hb hby d5_43) rfl k_) ?_
  show OwnFin p e below s _ _ _ (T1.setTop (mkF m 44 #[rv fo, iv pf, iv pe, iv (Int32.ofNat (f / 64)), iv (Int32.ofNat (f / 64)), .val (.long (own_lm pe)), .second, .unset, .unset] [(.int pf), (.long (-1 : Int64)), (.long (W (f / 64)))]))
  refine own_go (fun t_ k_ => XS.lshl X1.here hx rfl (hb hby d5_44) rfl k_) ?_
  show OwnFin p e below s _ _ _ (T1.setTop (mkF m 45 #[rv fo, iv pf, iv pe, iv (Int32.ofNat (f / 64)), iv (Int32.ofNat (f / 64)), .val (.long (own_lm pe)), .second, .unset, .unset] [(.long ((-1 : Int64) <<< (pf &&& 0x3f).toInt64)), (.long (W (f / 64)))]))
  show OwnFin p e below s _ _ _ (T1.setTop (mkF m 45 #[rv fo, iv pf, iv pe, iv (Int32.ofNat (f / 64)), iv (Int32.ofNat (f / 64)), .val (.long (own_lm pe)), .second, .unset, .unset] [(.long (own_fm pf)), (.long (W (f / 64)))]))
  refine own_go (fun t_ k_ => XS.land X1.here hx rfl (hb hby d5_45) rfl k_) ?_
  show OwnFin p e below s _ _ _ (T1.setTop (mkF m 46 #[rv fo, iv pf, iv pe, iv (Int32.ofNat (f / 64)), iv (Int32.ofNat (f / 64)), .val (.long (own_lm pe)), .second, .unset, .unset] [(.long ((W (f / 64)) &&& (own_fm pf)))]))
  refine own_go (fun t_ k_ => XS.lload X1.here hx rfl (hb hby d5_46) rfl k_) ?_
  show OwnFin p e below s _ _ _ (T1.setTop (mkF m 48 #[rv fo, iv pf, iv pe, iv (Int32.ofNat (f / 64)), iv (Int32.ofNat (f / 64)), .val (.long (own_lm pe)), .second, .unset, .unset] [(.long (own_lm pe)), (.long ((W (f / 64)) &&& (own_fm pf)))]))
  refine own_go (fun t_ k_ => XS.land X1.here hx rfl (hb hby d5_48) rfl k_) ?_
  show OwnFin p e below s _ _ _ (T1.setTop (mkF m 49 #[rv fo, iv pf, iv pe, iv (Int32.ofNat (f / 64)), iv (Int32.ofNat (f / 64)), .val (.long (own_lm pe)), .second, .unset, .unset] [(.long (((W (f / 64)) &&& (own_fm pf)) &&& (own_lm pe)))]))
  obtain ⟨v2, T2, L2, X2, hQ2, st2⟩ := own_callS X1 hx hZ (y := (⟨"java/lang/Long", "bitCount", "(J)I"⟩ : MethodName)) hown (hw _ (List.mem_of_getElem? (i := 34) rfl)) (hw _ (List.mem_of_getElem? (i := 35) rfl)) (hw _ (List.mem_of_getElem? (i := 36) rfl)) (hw _ (List.mem_of_getElem? (i := 37) rfl)) (by decide) (W := 0) (rm4 l Z a0 hw [] (((W (f / 64)) &&& (own_fm pf)) &&& (own_lm pe)) h0 n0 Z0) (by decide) (by decide) (g := (mkF m 49 #[rv fo, iv pf, iv pe, iv (Int32.ofNat (f / 64)), iv (Int32.ofNat (f / 64)), .val (.long (own_lm pe)), .second, .unset, .unset] [(.long (((W (f / 64)) &&& (own_fm pf)) &&& (own_lm pe)))])) rfl (by rw [hml]; rfl) (argsL := [(.long (((W (f / 64)) &&& (own_fm pf)) &&& (own_lm pe)))]) (rest := []) (lenOf pd_5_3 rfl) rfl (by show 2 * 0 + _ ≤ _; exact Nat.le_of_eq rfl) (hb hby d5_49) e1 rfl (by decide) (by decide)
  obtain ⟨rfl, Nq2, e2⟩ := hQ2
  have N2 := Fr.app N0 Nq2
  refine own_go st2 ?_
  show OwnFin p e below s _ _ _ (T2.setTop (mkF m 52 #[rv fo, iv pf, iv pe, iv (Int32.ofNat (f / 64)), iv (Int32.ofNat (f / 64)), .val (.long (own_lm pe)), .second, .unset, .unset] [(.int (own_bc (((W (f / 64)) &&& (own_fm pf)) &&& (own_lm pe))))]))
  refine own_ret X2 (v := some (.int (own_bc (((W (f / 64)) &&& (own_fm pf)) &&& (own_lm pe))))) hlk (fun hh => by rw [hret] at hh; cases hh) (fun fs hr => own_retI X2 hx hret (hb hby d5_52) hr) (by decide) (by decide) ?_
  rw [e2]
  exact ⟨rfl, N2, rfl⟩
theorem ef_5_B (m : MethodId) (fo : Addr) (pf : Int32) (pe : Int32) : entryFrame m #[(.ref fo), (.int pf), (.int pe)] 9 = mkF m 0 #[rv fo, iv pf, iv pe, .unset, .unset, .unset, .unset, .unset, .unset] [] := by first | (simp [entryFrame, mkF, argsToLocals, Value.category]; done) | rfl
set_option maxRecDepth 65536 in
set_option maxHeartbeats 40000000 in
theorem rm5_B (l : Launch) (Z : State) (a0 : Array Value) (hw : ∀ d ∈ tables_1, d.before a0 Z = true) (ws : List Jvm.Cond) (fo : Addr) (pf : Int32) (pe : Int32) (aw : Addr) (nw : Nat) (f : Nat) (e_ : Nat) (W : Nat → Int64) (h0 : Heap) (n0 : Nat) (Z0 : n0 ≤ h0.size) (hf : pf = Int32.ofNat f) (he : pe = Int32.ofNat e_) (he0 : 0 < e_) (hf1 : f < 100000) (he1 : e_ < 100000) (hfe : (e_ - 1) / 64 = f / 64 + 1) (hw1 : f / 64 + 1 < nw) (F_words : Fld Z h0 fo "com/example/nearside/nearside/slotted/delay/OfferSet" "words" "[J" (.ref aw)) (V_aw : OwnArr Z h0 aw .long nw (fun k => .long (W k))) :
    OwnCtr l Z (⟨"com/example/nearside/nearside/slotted/delay/OfferSet", "countIn", "(II)I"⟩ : MethodName) ws prog_158_method_14_code 9 (some .int) ({ frames := 1, cells := 0, slots := 0, locals := 20 } : Room) #[(.ref fo), (.int pf), (.int pe)] h0 (fun v h L => v = some (.int (own_bc (W (f / 64) &&& own_fm pf) + own_bc (W (f / 64 + 1) &&& own_lm pe))) ∧ Fr n0 L ∧ h = h0) := by
  refine own_body (g0 := fun m => mkF m 0 #[rv fo, iv pf, iv pe, .unset, .unset, .unset, .unset, .unset, .unset] []) pn_5 (fun m => ef_5_B m fo pf pe) ?_
  intro p e s m below meth c s₁ X0 hx hby hml hown hnm hZ e0 hret hlk
  have hml : c.maxLocals = 9 := hml
  have hown : s.vm.findClass "com/example/nearside/nearside/slotted/delay/OfferSet" = some m.cls := hown
  have hnm : meth.name = "countIn" := hnm
  have hret : meth.sig.returnType = (some .int) := hret
  have N0 := Fr.nil n0
  show OwnFin p e below s _ _ _ (s₁.setTop (mkF m 0 #[rv fo, iv pf, iv pe, .unset, .unset, .unset, .unset, .unset, .unset] []))
  refine own_go (fun t_ k_ => XS.iloadN X0.here hx rfl (hb hby d5_0) rfl k_) ?_
  show OwnFin p e below s _ _ _ (s₁.setTop (mkF m 1 #[rv fo, iv pf, iv pe, .unset, .unset, .unset, .unset, .unset, .unset] [(.int pf)]))
  refine own_go (fun t_ k_ => XS.bipush X0.here hx rfl (hb hby d5_1) k_) ?_
  show OwnFin p e below s _ _ _ (s₁.setTop (mkF m 3 #[rv fo, iv pf, iv pe, .unset, .unset, .unset, .unset, .unset, .unset] [(.int (6 : Int32)), (.int pf)]))
  refine own_go (fun t_ k_ => XS.iushr X0.here hx rfl (hb hby d5_3) rfl k_) ?_
  show OwnFin p e below s _ _ _ (s₁.setTop (mkF m 4 #[rv fo, iv pf, iv pe, .unset, .unset, .unset, .unset, .unset, .unset] [(.int ((pf.toUInt32 >>> ((6 : Int32) &&& 31).toUInt32).toInt32))]))
  rw [own_shr6' hf hf1]
  show OwnFin p e below s _ _ _ (s₁.setTop (mkF m 4 #[rv fo, iv pf, iv pe, .unset, .unset, .unset, .unset, .unset, .unset] [(.int (Int32.ofNat (f / 64)))]))
  refine own_go (fun t_ k_ => XS.istoreN X0.here hx rfl (hb hby d5_4) rfl (l' := #[rv fo, iv pf, iv pe, iv (Int32.ofNat (f / 64)), .unset, .unset, .unset, .unset, .unset]) rfl k_) ?_
  show OwnFin p e below s _ _ _ (s₁.setTop (mkF m 5 #[rv fo, iv pf, iv pe, iv (Int32.ofNat (f / 64)), .unset, .unset, .unset, .unset, .unset] []))
  refine own_go (fun t_ k_ => XS.iloadN X0.here hx rfl (hb hby d5_5) rfl k_) ?_
  show OwnFin p e below s _ _ _ (s₁.setTop (mkF m 6 #[rv fo, iv pf, iv pe, iv (Int32.ofNat (f / 64)), .unset, .unset, .unset, .unset, .unset] [(.int pe)]))
  refine own_go (fun t_ k_ => XS.iconst X0.here hx rfl (hb hby d5_6) k_) ?_
  show OwnFin p e below s _ _ _ (s₁.setTop (mkF m 7 #[rv fo, iv pf, iv pe, iv (Int32.ofNat (f / 64)), .unset, .unset, .unset, .unset, .unset] [(.int (1 : Int32)), (.int pe)]))
  refine own_go (fun t_ k_ => XS.isub X0.here hx rfl (hb hby d5_7) rfl k_) ?_
  show OwnFin p e below s _ _ _ (s₁.setTop (mkF m 8 #[rv fo, iv pf, iv pe, iv (Int32.ofNat (f / 64)), .unset, .unset, .unset, .unset, .unset] [(.int (pe - (1 : Int32)))]))
  refine own_go (fun t_ k_ => XS.bipush X0.here hx rfl (hb hby d5_8) k_) ?_
  show OwnFin p e below s _ _ _ (s₁.setTop (mkF m 10 #[rv fo, iv pf, iv pe, iv (Int32.ofNat (f / 64)), .unset, .unset, .unset, .unset, .unset] [(.int (6 : Int32)), (.int (pe - (1 : Int32)))]))
  refine own_go (fun t_ k_ => XS.iushr X0.here hx rfl (hb hby d5_10) rfl k_) ?_
  show OwnFin p e below s _ _ _ (s₁.setTop (mkF m 11 #[rv fo, iv pf, iv pe, iv (Int32.ofNat (f / 64)), .unset, .unset, .unset, .unset, .unset] [(.int (((pe - (1 : Int32)).toUInt32 >>> ((6 : Int32) &&& 31).toUInt32).toInt32))]))
  rw [own_shr6' (own_pred he he0) (by omega), hfe]
  show OwnFin p e below s _ _ _ (s₁.setTop (mkF m 11 #[rv fo, iv pf, iv pe, iv (Int32.ofNat (f / 64)), .unset, .unset, .unset, .unset, .unset] [(.int (Int32.ofNat (f / 64 + 1)))]))
  refine own_go (fun t_ k_ => XS.istore X0.here hx rfl (hb hby d5_11) rfl (l' := #[rv fo, iv pf, iv pe, iv (Int32.ofNat (f / 64)), iv (Int32.ofNat (f / 64 + 1)), .unset, .unset, .unset, .unset]) rfl k_) ?_
  show OwnFin p e below s _ _ _ (s₁.setTop (mkF m 13 #[rv fo, iv pf, iv pe, iv (Int32.ofNat (f / 64)), iv (Int32.ofNat (f / 64 + 1)), .unset, .unset, .unset, .unset] []))
  refine own_go (X0.ldc2Long hx hown (mvT hZ (hw _ (List.mem_of_getElem? (i := 45) rfl))) (g := (mkF m 13 #[rv fo, iv pf, iv pe, iv (Int32.ofNat (f / 64)), iv (Int32.ofNat (f / 64 + 1)), .unset, .unset, .unset, .unset] [])) rfl (hb hby d5_13)) ?_
  show OwnFin p e below s _ _ _ (s₁.setTop (mkF m 16 #[rv fo, iv pf, iv pe, iv (Int32.ofNat (f / 64)), iv (Int32.ofNat (f / 64 + 1)), .unset, .unset, .unset, .unset] [(.long (-1 : Int64))]))
  refine own_go (fun t_ k_ => XS.bipush X0.here hx rfl (hb hby d5_16) k_) ?_
  show OwnFin p e below s _ _ _ (s₁.setTop (mkF m 18 #[rv fo, iv pf, iv pe, iv (Int32.ofNat (f / 64)), iv (Int32.ofNat (f / 64 + 1)), .unset, .unset, .unset, .unset] [(.int (63 : Int32)), (.long (-1 : Int64))]))
  refine own_go (fun t_ k_ => XS.iloadN X0.here hx rfl (hb hby d5_18) rfl k_) ?_
  show OwnFin p e below s _ _ _ (s₁.setTop (mkF m 19 #[rv fo, iv pf, iv pe, iv (Int32.ofNat (f / 64)), iv (Int32.ofNat (f / 64 + 1)), .unset, .unset, .unset, .unset] [(.int pe), (.int (63 : Int32)), (.long (-1 : Int64))]))
  refine own_go (fun t_ k_ => XS.iconst X0.here hx rfl (hb hby d5_19) k_) ?_
  show OwnFin p e below s _ _ _ (s₁.setTop (mkF m 20 #[rv fo, iv pf, iv pe, iv (Int32.ofNat (f / 64)), iv (Int32.ofNat (f / 64 + 1)), .unset, .unset, .unset, .unset] [(.int (1 : Int32)), (.int pe), (.int (63 : Int32)), (.long (-1 : Int64))]))
  refine own_go (fun t_ k_ => XS.isub X0.here hx rfl (hb hby d5_20) rfl k_) ?_
  show OwnFin p e below s _ _ _ (s₁.setTop (mkF m 21 #[rv fo, iv pf, iv pe, iv (Int32.ofNat (f / 64)), iv (Int32.ofNat (f / 64 + 1)), .unset, .unset, .unset, .unset] [(.int (pe - (1 : Int32))), (.int (63 : Int32)), (.long (-1 : Int64))]))
  refine own_go (fun t_ k_ => XS.bipush X0.here hx rfl (hb hby d5_21) k_) ?_
  show OwnFin p e below s _ _ _ (s₁.setTop (mkF m 23 #[rv fo, iv pf, iv pe, iv (Int32.ofNat (f / 64)), iv (Int32.ofNat (f / 64 + 1)), .unset, .unset, .unset, .unset] [(.int (63 : Int32)), (.int (pe - (1 : Int32))), (.int (63 : Int32)), (.long (-1 : Int64))]))
  refine own_go (fun t_ k_ => XS.iand X0.here hx rfl (hb hby d5_23) rfl k_) ?_
  show OwnFin p e below s _ _ _ (s₁.setTop (mkF m 24 #[rv fo, iv pf, iv pe, iv (Int32.ofNat (f / 64)), iv (Int32.ofNat (f / 64 + 1)), .unset, .unset, .unset, .unset] [(.int ((pe - (1 : Int32)) &&& (63 : Int32))), (.int (63 : Int32)), (.long (-1 : Int64))]))
  refine own_go (fun t_ k_ => XS.isub X0.here hx rfl (hb hby d5_24) rfl k_) ?_
  show OwnFin p e below s _ _ _ (s₁.setTop (mkF m 25 #[rv fo, iv pf, iv pe, iv (Int32.ofNat (f / 64)), iv (Int32.ofNat (f / 64 + 1)), .unset, .unset, .unset, .unset] [(.int ((63 : Int32) - ((pe - (1 : Int32)) &&& (63 : Int32)))), (.long (-1 : Int64))]))
  refine own_go (fun t_ k_ => XS.lushr X0.here hx rfl (hb hby d5_25) rfl k_) ?_
  show OwnFin p e below s _ _ _ (s₁.setTop (mkF m 26 #[rv fo, iv pf, iv pe, iv (Int32.ofNat (f / 64)), iv (Int32.ofNat (f / 64 + 1)), .unset, .unset, .unset, .unset] [(.long (((-1 : Int64).toUInt64 >>> (((63 : Int32) - ((pe - (1 : Int32)) &&& (63 : Int32))) &&& 0x3f).toInt64.toUInt64).toInt64))]))
  show OwnFin p e below s _ _ _ (s₁.setTop (mkF m 26 #[rv fo, iv pf, iv pe, iv (Int32.ofNat (f / 64)), iv (Int32.ofNat (f / 64 + 1)), .unset, .unset, .unset, .unset] [(.long (own_lm pe))]))
  refine own_go (fun t_ k_ => XS.lstore X0.here hx rfl (hb hby d5_26) rfl (l' := #[rv fo, iv pf, iv pe, iv (Int32.ofNat (f / 64)), iv (Int32.ofNat (f / 64 + 1)), .val (.long (own_lm pe)), .second, .unset, .unset]) rfl k_) ?_
  show OwnFin p e below s _ _ _ (s₁.setTop (mkF m 28 #[rv fo, iv pf, iv pe, iv (Int32.ofNat (f / 64)), iv (Int32.ofNat (f / 64 + 1)), .val (.long (own_lm pe)), .second, .unset, .unset] []))
  refine own_go (fun t_ k_ => XS.iloadN X0.here hx rfl (hb hby d5_28) rfl k_) ?_
  show OwnFin p e below s _ _ _ (s₁.setTop (mkF m 29 #[rv fo, iv pf, iv pe, iv (Int32.ofNat (f / 64)), iv (Int32.ofNat (f / 64 + 1)), .val (.long (own_lm pe)), .second, .unset, .unset] [(.int (Int32.ofNat (f / 64)))]))
  refine own_go (fun t_ k_ => XS.iload X0.here hx rfl (hb hby d5_29) rfl k_) ?_
  show OwnFin p e below s _ _ _ (s₁.setTop (mkF m 31 #[rv fo, iv pf, iv pe, iv (Int32.ofNat (f / 64)), iv (Int32.ofNat (f / 64 + 1)), .val (.long (own_lm pe)), .second, .unset, .unset] [(.int (Int32.ofNat (f / 64 + 1))), (.int (Int32.ofNat (f / 64)))]))
  have hc31 : ¬ ((Int32.ofNat (f / 64)) = (Int32.ofNat (f / 64 + 1))) := fun q => absurd ((own_eqN (by omega) (by omega)).mp q) (by omega)
  refine own_go (fun t_ k_ => XS.icmpYes X0.here hx rfl (pc0 := 31) (pc' := 53) rfl (hb hby d5_31) rfl (feq hc31).2 (by decide) (by decide) k_) ?_
  show OwnFin p e below s _ _ _ (s₁.setTop (mkF m 53 #[rv fo, iv pf, iv pe, iv (Int32.ofNat (f / 64)), iv (Int32.ofNat (f / 64 + 1)), .val (.long (own_lm pe)), .second, .unset, .unset] []))
  refine own_go (fun t_ k_ => XS.aloadN X0.here hx rfl (hb hby d5_53) rfl rfl k_) ?_
  show OwnFin p e below s _ _ _ (s₁.setTop (mkF m 54 #[rv fo, iv pf, iv pe, iv (Int32.ofNat (f / 64)), iv (Int32.ofNat (f / 64 + 1)), .val (.long (own_lm pe)), .second, .unset, .unset] [(.ref fo)]))
  obtain ⟨T1, X1, e1, st1⟩ := getF X0 hx hZ hown (host := "") (Or.inl (hw _ (List.mem_of_getElem? (i := 12) rfl))) Via.refl e0 F_words (g := (mkF m 54 #[rv fo, iv pf, iv pe, iv (Int32.ofNat (f / 64)), iv (Int32.ofNat (f / 64 + 1)), .val (.long (own_lm pe)), .second, .unset, .unset] [(.ref fo)])) rfl rfl (hb hby d5_54)
  refine own_go st1 ?_
  show OwnFin p e below s _ _ _ (T1.setTop (mkF m 57 #[rv fo, iv pf, iv pe, iv (Int32.ofNat (f / 64)), iv (Int32.ofNat (f / 64 + 1)), .val (.long (own_lm pe)), .second, .unset, .unset] [(.ref aw)]))
  refine own_go (fun t_ k_ => XS.iloadN X1.here hx rfl (hb hby d5_57) rfl k_) ?_
  show OwnFin p e below s _ _ _ (T1.setTop (mkF m 58 #[rv fo, iv pf, iv pe, iv (Int32.ofNat (f / 64)), iv (Int32.ofNat (f / 64 + 1)), .val (.long (own_lm pe)), .second, .unset, .unset] [(.int (Int32.ofNat (f / 64))), (.ref aw)]))
  refine own_go (own_laload X1 hx hZ e1 V_aw (i := (f / 64)) rfl (by omega) (g := (mkF m 58 #[rv fo, iv pf, iv pe, iv (Int32.ofNat (f / 64)), iv (Int32.ofNat (f / 64 + 1)), .val (.long (own_lm pe)), .second, .unset, .unset] [(.int (Int32.ofNat (f / 64))), (.ref aw)])) rfl rfl (hb hby d5_58)) ?_
  show OwnFin p e below s _ _ _ (T1.setTop (mkF m 59 #[rv fo, iv pf, iv pe, iv (Int32.ofNat (f / 64)), iv (Int32.ofNat (f / 64 + 1)), .val (.long (own_lm pe)), .second, .unset, .unset] [(.long (W (f / 64)))]))
  refine own_go (X1.ldc2Long hx hown (mvT hZ (hw _ (List.mem_of_getElem? (i := 45) rfl))) (g := (mkF m 59 #[rv fo, iv pf, iv pe, iv (Int32.ofNat (f / 64)), iv (Int32.ofNat (f / 64 + 1)), .val (.long (own_lm pe)), .second, .unset, .unset] [(.long (W (f / 64)))])) rfl (hb hby d5_59)) ?_
  show OwnFin p e below s _ _ _ (T1.setTop (mkF m 62 #[rv fo, iv pf, iv pe, iv (Int32.ofNat (f / 64)), iv (Int32.ofNat (f / 64 + 1)), .val (.long (own_lm pe)), .second, .unset, .unset] [(.long (-1 : Int64)), (.long (W (f / 64)))]))
  refine own_go (fun t_ k_ => XS.iloadN X1.here hx rfl (hb hby d5_62) rfl k_) ?_
  show OwnFin p e below s _ _ _ (T1.setTop (mkF m 63 #[rv fo, iv pf, iv pe, iv (Int32.ofNat (f / 64)), iv (Int32.ofNat (f / 64 + 1)), .val (.long (own_lm pe)), .second, .unset, .unset] [(.int pf), (.long (-1 : Int64)), (.long (W (f / 64)))]))
  refine own_go (fun t_ k_ => XS.lshl X1.here hx rfl (hb hby d5_63) rfl k_) ?_
  show OwnFin p e below s _ _ _ (T1.setTop (mkF m 64 #[rv fo, iv pf, iv pe, iv (Int32.ofNat (f / 64)), iv (Int32.ofNat (f / 64 + 1)), .val (.long (own_lm pe)), .second, .unset, .unset] [(.long ((-1 : Int64) <<< (pf &&& 0x3f).toInt64)), (.long (W (f / 64)))]))
  show OwnFin p e below s _ _ _ (T1.setTop (mkF m 64 #[rv fo, iv pf, iv pe, iv (Int32.ofNat (f / 64)), iv (Int32.ofNat (f / 64 + 1)), .val (.long (own_lm pe)), .second, .unset, .unset] [(.long (own_fm pf)), (.long (W (f / 64)))]))
  refine own_go (fun t_ k_ => XS.land X1.here hx rfl (hb hby d5_64) rfl k_) ?_
  show OwnFin p e below s _ _ _ (T1.setTop (mkF m 65 #[rv fo, iv pf, iv pe, iv (Int32.ofNat (f / 64)), iv (Int32.ofNat (f / 64 + 1)), .val (.long (own_lm pe)), .second, .unset, .unset] [(.long ((W (f / 64)) &&& (own_fm pf)))]))
  obtain ⟨v2, T2, L2, X2, hQ2, st2⟩ := own_callS X1 hx hZ (y := (⟨"java/lang/Long", "bitCount", "(J)I"⟩ : MethodName)) hown (hw _ (List.mem_of_getElem? (i := 34) rfl)) (hw _ (List.mem_of_getElem? (i := 35) rfl)) (hw _ (List.mem_of_getElem? (i := 36) rfl)) (hw _ (List.mem_of_getElem? (i := 37) rfl)) (by decide) (W := 0) (rm4 l Z a0 hw [] ((W (f / 64)) &&& (own_fm pf)) h0 n0 Z0) (by decide) (by decide) (g := (mkF m 65 #[rv fo, iv pf, iv pe, iv (Int32.ofNat (f / 64)), iv (Int32.ofNat (f / 64 + 1)), .val (.long (own_lm pe)), .second, .unset, .unset] [(.long ((W (f / 64)) &&& (own_fm pf)))])) rfl (by rw [hml]; rfl) (argsL := [(.long ((W (f / 64)) &&& (own_fm pf)))]) (rest := []) (lenOf pd_5_3 rfl) rfl (by show 2 * 0 + _ ≤ _; exact Nat.le_of_eq rfl) (hb hby d5_65) e1 rfl (by decide) (by decide)
  obtain ⟨rfl, Nq2, e2⟩ := hQ2
  have N2 := Fr.app N0 Nq2
  refine own_go st2 ?_
  show OwnFin p e below s _ _ _ (T2.setTop (mkF m 68 #[rv fo, iv pf, iv pe, iv (Int32.ofNat (f / 64)), iv (Int32.ofNat (f / 64 + 1)), .val (.long (own_lm pe)), .second, .unset, .unset] [(.int (own_bc ((W (f / 64)) &&& (own_fm pf))))]))
  refine own_go (fun t_ k_ => XS.istore X2.here hx rfl (hb hby d5_68) rfl (l' := #[rv fo, iv pf, iv pe, iv (Int32.ofNat (f / 64)), iv (Int32.ofNat (f / 64 + 1)), .val (.long (own_lm pe)), .second, iv (own_bc ((W (f / 64)) &&& (own_fm pf))), .unset]) rfl k_) ?_
  show OwnFin p e below s _ _ _ (T2.setTop (mkF m 70 #[rv fo, iv pf, iv pe, iv (Int32.ofNat (f / 64)), iv (Int32.ofNat (f / 64 + 1)), .val (.long (own_lm pe)), .second, iv (own_bc ((W (f / 64)) &&& (own_fm pf))), .unset] []))
  refine own_go (fun t_ k_ => XS.iloadN X2.here hx rfl (hb hby d5_70) rfl k_) ?_
  show OwnFin p e below s _ _ _ (T2.setTop (mkF m 71 #[rv fo, iv pf, iv pe, iv (Int32.ofNat (f / 64)), iv (Int32.ofNat (f / 64 + 1)), .val (.long (own_lm pe)), .second, iv (own_bc ((W (f / 64)) &&& (own_fm pf))), .unset] [(.int (Int32.ofNat (f / 64)))]))
  refine own_go (fun t_ k_ => XS.iconst X2.here hx rfl (hb hby d5_71) k_) ?_
  show OwnFin p e below s _ _ _ (T2.setTop (mkF m 72 #[rv fo, iv pf, iv pe, iv (Int32.ofNat (f / 64)), iv (Int32.ofNat (f / 64 + 1)), .val (.long (own_lm pe)), .second, iv (own_bc ((W (f / 64)) &&& (own_fm pf))), .unset] [(.int (1 : Int32)), (.int (Int32.ofNat (f / 64)))]))
  refine own_go (fun t_ k_ => XS.iadd X2.here hx rfl (hb hby d5_72) rfl k_) ?_
  show OwnFin p e below s _ _ _ (T2.setTop (mkF m 73 #[rv fo, iv pf, iv pe, iv (Int32.ofNat (f / 64)), iv (Int32.ofNat (f / 64 + 1)), .val (.long (own_lm pe)), .second, iv (own_bc ((W (f / 64)) &&& (own_fm pf))), .unset] [(.int ((Int32.ofNat (f / 64)) + (1 : Int32)))]))
  rw [show Int32.ofNat (f / 64) + (1 : Int32) = Int32.ofNat (f / 64 + 1) from own_addN _ 1]
  show OwnFin p e below s _ _ _ (T2.setTop (mkF m 73 #[rv fo, iv pf, iv pe, iv (Int32.ofNat (f / 64)), iv (Int32.ofNat (f / 64 + 1)), .val (.long (own_lm pe)), .second, iv (own_bc ((W (f / 64)) &&& (own_fm pf))), .unset] [(.int (Int32.ofNat (f / 64 + 1)))]))
  refine own_go (fun t_ k_ => XS.istore X2.here hx rfl (hb hby d5_73) rfl (l' := #[rv fo, iv pf, iv pe, iv (Int32.ofNat (f / 64)), iv (Int32.ofNat (f / 64 + 1)), .val (.long (own_lm pe)), .second, iv (own_bc ((W (f / 64)) &&& (own_fm pf))), iv (Int32.ofNat (f / 64 + 1))]) rfl k_) ?_
  show OwnFin p e below s _ _ _ (T2.setTop (mkF m 75 #[rv fo, iv pf, iv pe, iv (Int32.ofNat (f / 64)), iv (Int32.ofNat (f / 64 + 1)), .val (.long (own_lm pe)), .second, iv (own_bc ((W (f / 64)) &&& (own_fm pf))), iv (Int32.ofNat (f / 64 + 1))] []))
  refine own_go (fun t_ k_ => XS.iload X2.here hx rfl (hb hby d5_75) rfl k_) ?_
  show OwnFin p e below s _ _ _ (T2.setTop (mkF m 77 #[rv fo, iv pf, iv pe, iv (Int32.ofNat (f / 64)), iv (Int32.ofNat (f / 64 + 1)), .val (.long (own_lm pe)), .second, iv (own_bc ((W (f / 64)) &&& (own_fm pf))), iv (Int32.ofNat (f / 64 + 1))] [(.int (Int32.ofNat (f / 64 + 1)))]))
  refine own_go (fun t_ k_ => XS.iload X2.here hx rfl (hb hby d5_77) rfl k_) ?_
  show OwnFin p e below s _ _ _ (T2.setTop (mkF m 79 #[rv fo, iv pf, iv pe, iv (Int32.ofNat (f / 64)), iv (Int32.ofNat (f / 64 + 1)), .val (.long (own_lm pe)), .second, iv (own_bc ((W (f / 64)) &&& (own_fm pf))), iv (Int32.ofNat (f / 64 + 1))] [(.int (Int32.ofNat (f / 64 + 1))), (.int (Int32.ofNat (f / 64 + 1)))]))
  have hc79 : ¬ ((Int32.ofNat (f / 64 + 1)) < (Int32.ofNat (f / 64 + 1))) := by rw [own_ltN (by omega) (by omega)]; omega
  refine own_go (fun t_ k_ => XS.icmpYes X2.here hx rfl (pc0 := 79) (pc' := 103) rfl (hb hby d5_79) rfl (flt hc79).2.1 (by decide) (by decide) k_) ?_
  show OwnFin p e below s _ _ _ (T2.setTop (mkF m 103 #[rv fo, iv pf, iv pe, iv (Int32.ofNat (f / 64)), iv (Int32.ofNat (f / 64 + 1)), .val (.long (own_lm pe)), .second, iv (own_bc ((W (f / 64)) &&& (own_fm pf))), iv (Int32.ofNat (f / 64 + 1))] []))
  refine own_go (fun t_ k_ => XS.iload X2.here hx rfl (hb hby d5_103) rfl k_) ?_
  show OwnFin p e below s _ _ _ (T2.setTop (mkF m 105 #[rv fo, iv pf, iv pe, iv (Int32.ofNat (f / 64)), iv (Int32.ofNat (f / 64 + 1)), .val (.long (own_lm pe)), .second, iv (own_bc ((W (f / 64)) &&& (own_fm pf))), iv (Int32.ofNat (f / 64 + 1))] [(.int (own_bc ((W (f / 64)) &&& (own_fm pf))))]))
  refine own_go (fun t_ k_ => XS.aloadN X2.here hx rfl (hb hby d5_105) rfl rfl k_) ?_
  show OwnFin p e below s _ _ _ (T2.setTop (mkF m 106 #[rv fo, iv pf, iv pe, iv (Int32.ofNat (f / 64)), iv (Int32.ofNat (f / 64 + 1)), .val (.long (own_lm pe)), .second, iv (own_bc ((W (f / 64)) &&& (own_fm pf))), iv (Int32.ofNat (f / 64 + 1))] [(.ref fo), (.int (own_bc ((W (f / 64)) &&& (own_fm pf))))]))
  obtain ⟨T3, X3, e3, st3⟩ := getF X2 hx hZ hown (host := "") (Or.inl (hw _ (List.mem_of_getElem? (i := 12) rfl))) Via.refl e2 F_words (g := (mkF m 106 #[rv fo, iv pf, iv pe, iv (Int32.ofNat (f / 64)), iv (Int32.ofNat (f / 64 + 1)), .val (.long (own_lm pe)), .second, iv (own_bc ((W (f / 64)) &&& (own_fm pf))), iv (Int32.ofNat (f / 64 + 1))] [(.ref fo), (.int (own_bc ((W (f / 64)) &&& (own_fm pf))))])) rfl rfl (hb hby d5_106)
  refine own_go st3 ?_
  show OwnFin p e below s _ _ _ (T3.setTop (mkF m 109 #[rv fo, iv pf, iv pe, iv (Int32.ofNat (f / 64)), iv (Int32.ofNat (f / 64 + 1)), .val (.long (own_lm pe)), .second, iv (own_bc ((W (f / 64)) &&& (own_fm pf))), iv (Int32.ofNat (f / 64 + 1))] [(.ref aw), (.int (own_bc ((W (f / 64)) &&& (own_fm pf))))]))
  refine own_go (fun t_ k_ => XS.iload X3.here hx rfl (hb hby d5_109) rfl k_) ?_
  show OwnFin p e below s _ _ _ (T3.setTop (mkF m 111 #[rv fo, iv pf, iv pe, iv (Int32.ofNat (f / 64)), iv (Int32.ofNat (f / 64 + 1)), .val (.long (own_lm pe)), .second, iv (own_bc ((W (f / 64)) &&& (own_fm pf))), iv (Int32.ofNat (f / 64 + 1))] [(.int (Int32.ofNat (f / 64 + 1))), (.ref aw), (.int (own_bc ((W (f / 64)) &&& (own_fm pf))))]))
  refine own_go (own_laload X3 hx hZ e3 V_aw (i := (f / 64 + 1)) rfl (by omega) (g := (mkF m 111 #[rv fo, iv pf, iv pe, iv (Int32.ofNat (f / 64)), iv (Int32.ofNat (f / 64 + 1)), .val (.long (own_lm pe)), .second, iv (own_bc ((W (f / 64)) &&& (own_fm pf))), iv (Int32.ofNat (f / 64 + 1))] [(.int (Int32.ofNat (f / 64 + 1))), (.ref aw), (.int (own_bc ((W (f / 64)) &&& (own_fm pf))))])) rfl rfl (hb hby d5_111)) ?_
  show OwnFin p e below s _ _ _ (T3.setTop (mkF m 112 #[rv fo, iv pf, iv pe, iv (Int32.ofNat (f / 64)), iv (Int32.ofNat (f / 64 + 1)), .val (.long (own_lm pe)), .second, iv (own_bc ((W (f / 64)) &&& (own_fm pf))), iv (Int32.ofNat (f / 64 + 1))] [(.long (W (f / 64 + 1))), (.int (own_bc ((W (f / 64)) &&& (own_fm pf))))]))
  refine own_go (fun t_ k_ => XS.lload X3.here hx rfl (hb hby d5_112) rfl k_) ?_
  show OwnFin p e below s _ _ _ (T3.setTop (mkF m 114 #[rv fo, iv pf, iv pe, iv (Int32.ofNat (f / 64)), iv (Int32.ofNat (f / 64 + 1)), .val (.long (own_lm pe)), .second, iv (own_bc ((W (f / 64)) &&& (own_fm pf))), iv (Int32.ofNat (f / 64 + 1))] [(.long (own_lm pe)), (.long (W (f / 64 + 1))), (.int (own_bc ((W (f / 64)) &&& (own_fm pf))))]))
  refine own_go (fun t_ k_ => XS.land X3.here hx rfl (hb hby d5_114) rfl k_) ?_
  show OwnFin p e below s _ _ _ (T3.setTop (mkF m 115 #[rv fo, iv pf, iv pe, iv (Int32.ofNat (f / 64)), iv (Int32.ofNat (f / 64 + 1)), .val (.long (own_lm pe)), .second, iv (own_bc ((W (f / 64)) &&& (own_fm pf))), iv (Int32.ofNat (f / 64 + 1))] [(.long ((W (f / 64 + 1)) &&& (own_lm pe))), (.int (own_bc ((W (f / 64)) &&& (own_fm pf))))]))
  obtain ⟨v4, T4, L4, X4, hQ4, st4⟩ := own_callS X3 hx hZ (y := (⟨"java/lang/Long", "bitCount", "(J)I"⟩ : MethodName)) hown (hw _ (List.mem_of_getElem? (i := 34) rfl)) (hw _ (List.mem_of_getElem? (i := 35) rfl)) (hw _ (List.mem_of_getElem? (i := 36) rfl)) (hw _ (List.mem_of_getElem? (i := 37) rfl)) (by decide) (W := 1) (rm4 l Z a0 hw [] ((W (f / 64 + 1)) &&& (own_lm pe)) h0 n0 Z0) (by decide) (by decide) (g := (mkF m 115 #[rv fo, iv pf, iv pe, iv (Int32.ofNat (f / 64)), iv (Int32.ofNat (f / 64 + 1)), .val (.long (own_lm pe)), .second, iv (own_bc ((W (f / 64)) &&& (own_fm pf))), iv (Int32.ofNat (f / 64 + 1))] [(.long ((W (f / 64 + 1)) &&& (own_lm pe))), (.int (own_bc ((W (f / 64)) &&& (own_fm pf))))])) rfl (by rw [hml]; rfl) (argsL := [(.long ((W (f / 64 + 1)) &&& (own_lm pe)))]) (rest := [(.int (own_bc ((W (f / 64)) &&& (own_fm pf))))]) (lenOf pd_5_3 rfl) rfl (by show 2 * 0 + _ ≤ _; exact Nat.le_of_eq rfl) (hb hby d5_115) e3 rfl (by decide) (by decide)
  obtain ⟨rfl, Nq4, e4⟩ := hQ4
  have N4 := Fr.app N2 Nq4
  refine own_go st4 ?_
  show OwnFin p e below s _ _ _ (T4.setTop (mkF m 118 #[rv fo, iv pf, iv pe, iv (Int32.ofNat (f / 64)), iv (Int32.ofNat (f / 64 + 1)), .val (.long (own_lm pe)), .second, iv (own_bc ((W (f / 64)) &&& (own_fm pf))), iv (Int32.ofNat (f / 64 + 1))] [(.int (own_bc ((W (f / 64 + 1)) &&& (own_lm pe)))), (.int (own_bc ((W (f / 64)) &&& (own_fm pf))))]))
  refine own_go (fun t_ k_ => XS.iadd X4.here hx rfl (hb hby d5_118) rfl k_) ?_
  show OwnFin p e below s _ _ _ (T4.setTop (mkF m 119 #[rv fo, iv pf, iv pe, iv (Int32.ofNat (f / 64)), iv (Int32.ofNat (f / 64 + 1)), .val (.long (own_lm pe)), .second, iv (own_bc ((W (f / 64)) &&& (own_fm pf))), iv (Int32.ofNat (f / 64 + 1))] [(.int ((own_bc ((W (f / 64)) &&& (own_fm pf))) + (own_bc ((W (f / 64 + 1)) &&& (own_lm pe)))))]))
  refine own_ret X4 (v := some (.int ((own_bc ((W (f / 64)) &&& (own_fm pf))) + (own_bc ((W (f / 64 + 1)) &&& (own_lm pe)))))) hlk (fun hh => by rw [hret] at hh; cases hh) (fun fs hr => own_retI X4 hx hret (hb hby d5_119) hr) (by decide) (by decide) ?_
  rw [e4]
  exact ⟨rfl, N4, rfl⟩
theorem d6_0 : decode prog_158_method_5_code 0 = .ok (.aload_n 0, 1) := by decide +kernel
theorem d6_1 : decode prog_158_method_5_code 1 = .ok (.getfield 34, 3) := by decide +kernel
theorem d6_4 : decode prog_158_method_5_code 4 = .ok (.ireturn, 1) := by decide +kernel
theorem pn_6 : plainFor (⟨"com/example/nearside/nearside/slotted/delay/OfferSet", "size", "()I"⟩ : MethodName) = true := plainFor_of_name (by first | (simp [plainName, overriddenIn]; done) | decide +kernel)
theorem ef_6 (m : MethodId) (a1 : Addr) : entryFrame m #[(.ref a1)] 1 = mkF m 0 #[rv a1] [] := by first | (simp [entryFrame, mkF, argsToLocals, Value.category]; done) | rfl
set_option maxRecDepth 65536 in
set_option maxHeartbeats 40000000 in
theorem rm6 (l : Launch) (Z : State) (a0 : Array Value) (hw : ∀ d ∈ tables_1, d.before a0 Z = true) (ws : List Jvm.Cond) (a1 : Addr) {w : Int32} (h0 : Heap) (n0 : Nat) (Z0 : n0 ≤ h0.size) (F_a1 : Fld Z h0 a1 "com/example/nearside/nearside/slotted/delay/OfferSet" "size" "I" (.int w)) :
    OwnCtr l Z (⟨"com/example/nearside/nearside/slotted/delay/OfferSet", "size", "()I"⟩ : MethodName) ws prog_158_method_5_code 1 (some .int) ({ frames := 0, cells := 0, slots := 0, locals := 0 } : Room) #[(.ref a1)] h0 (fun v h L => v = some (.int w) ∧ Fr n0 L ∧ h = h0) := by
  refine own_body (g0 := fun m => mkF m 0 #[rv a1] []) pn_6 (fun m => ef_6 m a1) ?_
  intro p e s m below meth c s₁ X0 hx hby hml hown hnm hZ e0 hret hlk
  have hml : c.maxLocals = 1 := hml
  have hown : s.vm.findClass "com/example/nearside/nearside/slotted/delay/OfferSet" = some m.cls := hown
  have hnm : meth.name = "size" := hnm
  have hret : meth.sig.returnType = (some .int) := hret
  have N0 := Fr.nil n0
  show OwnFin p e below s _ _ _ (s₁.setTop (mkF m 0 #[rv a1] []))
  refine own_go (fun t_ k_ => XS.aloadN X0.here hx rfl (hb hby d6_0) rfl rfl k_) ?_
  show OwnFin p e below s _ _ _ (s₁.setTop (mkF m 1 #[rv a1] [(.ref a1)]))
  obtain ⟨T1, X1, e1, st1⟩ := getF X0 hx hZ hown (host := "") (Or.inl (hw _ (List.mem_of_getElem? (i := 32) rfl))) Via.refl e0 F_a1 (g := (mkF m 1 #[rv a1] [(.ref a1)])) rfl rfl (hb hby d6_1)
  refine own_go st1 ?_
  show OwnFin p e below s _ _ _ (T1.setTop (mkF m 4 #[rv a1] [(.int w)]))
  refine own_ret X1 (v := some (.int w)) hlk (fun hh => by rw [hret] at hh; cases hh) (fun fs hr => own_retI X1 hx hret (hb hby d6_4) hr) (by decide) (by decide) ?_
  rw [e1]
  exact ⟨rfl, N0, rfl⟩
theorem d11_0 : decode prog_158_method_3_code 0 = .ok (.aload_n 0, 1) := by decide +kernel
theorem d11_1 : decode prog_158_method_3_code 1 = .ok (.getfield 7, 3) := by decide +kernel
theorem d11_4 : decode prog_158_method_3_code 4 = .ok (.iload_n 1, 1) := by decide +kernel
theorem d11_5 : decode prog_158_method_3_code 5 = .ok (.laload, 1) := by decide +kernel
theorem d11_6 : decode prog_158_method_3_code 6 = .ok (.lreturn, 1) := by decide +kernel
theorem pn_11 : plainFor (⟨"com/example/nearside/nearside/slotted/delay/OfferSet", "word", "(I)J"⟩ : MethodName) = true := plainFor_of_name (by first | (simp [plainName, overriddenIn]; done) | decide +kernel)
theorem ef_11 (m : MethodId) (fo : Addr) (pi : Int32) : entryFrame m #[(.ref fo), (.int pi)] 2 = mkF m 0 #[rv fo, iv pi] [] := by first | (simp [entryFrame, mkF, argsToLocals, Value.category]; done) | rfl
set_option maxRecDepth 65536 in
set_option maxHeartbeats 40000000 in
theorem rm11 (l : Launch) (Z : State) (a0 : Array Value) (hw : ∀ d ∈ tables_1, d.before a0 Z = true) (ws : List Jvm.Cond) (fo : Addr) (pi : Int32) (aw : Addr) (nw : Nat) (i : Nat) (W : Nat → Int64) (h0 : Heap) (n0 : Nat) (Z0 : n0 ≤ h0.size) (hi : pi = Int32.ofNat i) (hin : i < nw) (F_words : Fld Z h0 fo "com/example/nearside/nearside/slotted/delay/OfferSet" "words" "[J" (.ref aw)) (V_aw : OwnArr Z h0 aw .long nw (fun k => .long (W k))) :
    OwnCtr l Z (⟨"com/example/nearside/nearside/slotted/delay/OfferSet", "word", "(I)J"⟩ : MethodName) ws prog_158_method_3_code 2 (some .long) ({ frames := 0, cells := 0, slots := 0, locals := 0 } : Room) #[(.ref fo), (.int pi)] h0 (fun v h L => v = some (.long (W i)) ∧ Fr n0 L ∧ h = h0) := by
  refine own_body (g0 := fun m => mkF m 0 #[rv fo, iv pi] []) pn_11 (fun m => ef_11 m fo pi) ?_
  intro p e s m below meth c s₁ X0 hx hby hml hown hnm hZ e0 hret hlk
  have hml : c.maxLocals = 2 := hml
  have hown : s.vm.findClass "com/example/nearside/nearside/slotted/delay/OfferSet" = some m.cls := hown
  have hnm : meth.name = "word" := hnm
  have hret : meth.sig.returnType = (some .long) := hret
  have N0 := Fr.nil n0
  show OwnFin p e below s _ _ _ (s₁.setTop (mkF m 0 #[rv fo, iv pi] []))
  refine own_go (fun t_ k_ => XS.aloadN X0.here hx rfl (hb hby d11_0) rfl rfl k_) ?_
  show OwnFin p e below s _ _ _ (s₁.setTop (mkF m 1 #[rv fo, iv pi] [(.ref fo)]))
  obtain ⟨T1, X1, e1, st1⟩ := getF X0 hx hZ hown (host := "") (Or.inl (hw _ (List.mem_of_getElem? (i := 12) rfl))) Via.refl e0 F_words (g := (mkF m 1 #[rv fo, iv pi] [(.ref fo)])) rfl rfl (hb hby d11_1)
  refine own_go st1 ?_
  show OwnFin p e below s _ _ _ (T1.setTop (mkF m 4 #[rv fo, iv pi] [(.ref aw)]))
  refine own_go (fun t_ k_ => XS.iloadN X1.here hx rfl (hb hby d11_4) rfl k_) ?_
  show OwnFin p e below s _ _ _ (T1.setTop (mkF m 5 #[rv fo, iv pi] [(.int pi), (.ref aw)]))
  refine own_go (own_laload X1 hx hZ e1 V_aw (i := i) hi hin (g := (mkF m 5 #[rv fo, iv pi] [(.int pi), (.ref aw)])) rfl rfl (hb hby d11_5)) ?_
  show OwnFin p e below s _ _ _ (T1.setTop (mkF m 6 #[rv fo, iv pi] [(.long (W i))]))
  refine own_ret X1 (v := some (.long (W i))) hlk (fun hh => by rw [hret] at hh; cases hh) (fun fs hr => own_retJ X1 hx hret (hb hby d11_6) hr) (by decide) (by decide) ?_
  rw [e1]
  exact ⟨rfl, N0, rfl⟩
theorem d9_0 : decode prog_158_method_4_code 0 = .ok (.aload_n 0, 1) := by decide +kernel
theorem d9_1 : decode prog_158_method_4_code 1 = .ok (.getfield 24, 3) := by decide +kernel
theorem d9_4 : decode prog_158_method_4_code 4 = .ok (.iload_n 1, 1) := by decide +kernel
theorem d9_5 : decode prog_158_method_4_code 5 = .ok (.laload, 1) := by decide +kernel
theorem d9_6 : decode prog_158_method_4_code 6 = .ok (.lreturn, 1) := by decide +kernel
theorem pn_9 : plainFor (⟨"com/example/nearside/nearside/slotted/delay/OfferSet", "racksWord", "(I)J"⟩ : MethodName) = true := plainFor_of_name (by first | (simp [plainName, overriddenIn]; done) | decide +kernel)
theorem ef_9 (m : MethodId) (fo : Addr) (pi : Int32) : entryFrame m #[(.ref fo), (.int pi)] 2 = mkF m 0 #[rv fo, iv pi] [] := by first | (simp [entryFrame, mkF, argsToLocals, Value.category]; done) | rfl
set_option maxRecDepth 65536 in
set_option maxHeartbeats 40000000 in
theorem rm9 (l : Launch) (Z : State) (a0 : Array Value) (hw : ∀ d ∈ tables_1, d.before a0 Z = true) (ws : List Jvm.Cond) (fo : Addr) (pi : Int32) (aw : Addr) (nw : Nat) (i : Nat) (W : Nat → Int64) (h0 : Heap) (n0 : Nat) (Z0 : n0 ≤ h0.size) (hi : pi = Int32.ofNat i) (hin : i < nw) (F_racks : Fld Z h0 fo "com/example/nearside/nearside/slotted/delay/OfferSet" "racks" "[J" (.ref aw)) (V_aw : OwnArr Z h0 aw .long nw (fun k => .long (W k))) :
    OwnCtr l Z (⟨"com/example/nearside/nearside/slotted/delay/OfferSet", "racksWord", "(I)J"⟩ : MethodName) ws prog_158_method_4_code 2 (some .long) ({ frames := 0, cells := 0, slots := 0, locals := 0 } : Room) #[(.ref fo), (.int pi)] h0 (fun v h L => v = some (.long (W i)) ∧ Fr n0 L ∧ h = h0) := by
  refine own_body (g0 := fun m => mkF m 0 #[rv fo, iv pi] []) pn_9 (fun m => ef_9 m fo pi) ?_
  intro p e s m below meth c s₁ X0 hx hby hml hown hnm hZ e0 hret hlk
  have hml : c.maxLocals = 2 := hml
  have hown : s.vm.findClass "com/example/nearside/nearside/slotted/delay/OfferSet" = some m.cls := hown
  have hnm : meth.name = "racksWord" := hnm
  have hret : meth.sig.returnType = (some .long) := hret
  have N0 := Fr.nil n0
  show OwnFin p e below s _ _ _ (s₁.setTop (mkF m 0 #[rv fo, iv pi] []))
  refine own_go (fun t_ k_ => XS.aloadN X0.here hx rfl (hb hby d9_0) rfl rfl k_) ?_
  show OwnFin p e below s _ _ _ (s₁.setTop (mkF m 1 #[rv fo, iv pi] [(.ref fo)]))
  obtain ⟨T1, X1, e1, st1⟩ := getF X0 hx hZ hown (host := "") (Or.inl (hw _ (List.mem_of_getElem? (i := 21) rfl))) Via.refl e0 F_racks (g := (mkF m 1 #[rv fo, iv pi] [(.ref fo)])) rfl rfl (hb hby d9_1)
  refine own_go st1 ?_
  show OwnFin p e below s _ _ _ (T1.setTop (mkF m 4 #[rv fo, iv pi] [(.ref aw)]))
  refine own_go (fun t_ k_ => XS.iloadN X1.here hx rfl (hb hby d9_4) rfl k_) ?_
  show OwnFin p e below s _ _ _ (T1.setTop (mkF m 5 #[rv fo, iv pi] [(.int pi), (.ref aw)]))
  refine own_go (own_laload X1 hx hZ e1 V_aw (i := i) hi hin (g := (mkF m 5 #[rv fo, iv pi] [(.int pi), (.ref aw)])) rfl rfl (hb hby d9_5)) ?_
  show OwnFin p e below s _ _ _ (T1.setTop (mkF m 6 #[rv fo, iv pi] [(.long (W i))]))
  refine own_ret X1 (v := some (.long (W i))) hlk (fun hh => by rw [hret] at hh; cases hh) (fun fs hr => own_retJ X1 hx hret (hb hby d9_6) hr) (by decide) (by decide) ?_
  rw [e1]
  exact ⟨rfl, N0, rfl⟩
theorem d8_0 : decode prog_158_method_15_code 0 = .ok (.iload_n 1, 1) := by decide +kernel
theorem d8_1 : decode prog_158_method_15_code 1 = .ok (.bipush 6, 2) := by decide +kernel
theorem d8_3 : decode prog_158_method_15_code 3 = .ok (.iushr, 1) := by decide +kernel
theorem d8_4 : decode prog_158_method_15_code 4 = .ok (.istore_n 2, 1) := by decide +kernel
theorem d8_5 : decode prog_158_method_15_code 5 = .ok (.iload_n 2, 1) := by decide +kernel
theorem d8_6 : decode prog_158_method_15_code 6 = .ok (.aload_n 0, 1) := by decide +kernel
theorem d8_7 : decode prog_158_method_15_code 7 = .ok (.getfield 7, 3) := by decide +kernel
theorem d8_10 : decode prog_158_method_15_code 10 = .ok (.arraylength, 1) := by decide +kernel
theorem d8_11 : decode prog_158_method_15_code 11 = .ok (.if_icmp .ge 21, 3) := by decide +kernel
theorem d8_14 : decode prog_158_method_15_code 14 = .ok (.aload_n 0, 1) := by decide +kernel
theorem d8_15 : decode prog_158_method_15_code 15 = .ok (.getfield 7, 3) := by decide +kernel
theorem d8_18 : decode prog_158_method_15_code 18 = .ok (.iload_n 2, 1) := by decide +kernel
theorem d8_19 : decode prog_158_method_15_code 19 = .ok (.laload, 1) := by decide +kernel
theorem d8_20 : decode prog_158_method_15_code 20 = .ok (.lconst 1, 1) := by decide +kernel
theorem d8_21 : decode prog_158_method_15_code 21 = .ok (.iload_n 1, 1) := by decide +kernel
theorem d8_22 : decode prog_158_method_15_code 22 = .ok (.lshl, 1) := by decide +kernel
theorem d8_23 : decode prog_158_method_15_code 23 = .ok (.lconst 1, 1) := by decide +kernel
theorem d8_24 : decode prog_158_method_15_code 24 = .ok (.lsub, 1) := by decide +kernel
theorem d8_25 : decode prog_158_method_15_code 25 = .ok (.land, 1) := by decide +kernel
theorem d8_26 : decode prog_158_method_15_code 26 = .ok (.invokestatic 37, 3) := by decide +kernel
theorem d8_29 : decode prog_158_method_15_code 29 = .ok (.goto 4, 3) := by decide +kernel
theorem d8_32 : decode prog_158_method_15_code 32 = .ok (.iconst 0, 1) := by decide +kernel
theorem d8_33 : decode prog_158_method_15_code 33 = .ok (.istore_n 3, 1) := by decide +kernel
theorem d8_34 : decode prog_158_method_15_code 34 = .ok (.iload_n 2, 1) := by decide +kernel
theorem d8_35 : decode prog_158_method_15_code 35 = .ok (.bipush 8, 2) := by decide +kernel
theorem d8_37 : decode prog_158_method_15_code 37 = .ok (.idiv, 1) := by decide +kernel
theorem d8_38 : decode prog_158_method_15_code 38 = .ok (.istore 4, 2) := by decide +kernel
theorem d8_40 : decode prog_158_method_15_code 40 = .ok (.iconst 0, 1) := by decide +kernel
theorem d8_41 : decode prog_158_method_15_code 41 = .ok (.istore 5, 2) := by decide +kernel
theorem d8_43 : decode prog_158_method_15_code 43 = .ok (.iload 5, 2) := by decide +kernel
theorem d8_45 : decode prog_158_method_15_code 45 = .ok (.iload 4, 2) := by decide +kernel
theorem d8_47 : decode prog_158_method_15_code 47 = .ok (.if_icmp .ge 19, 3) := by decide +kernel
theorem d8_50 : decode prog_158_method_15_code 50 = .ok (.iload_n 3, 1) := by decide +kernel
theorem d8_51 : decode prog_158_method_15_code 51 = .ok (.aload_n 0, 1) := by decide +kernel
theorem d8_52 : decode prog_158_method_15_code 52 = .ok (.getfield 13, 3) := by decide +kernel
theorem d8_55 : decode prog_158_method_15_code 55 = .ok (.iload 5, 2) := by decide +kernel
theorem d8_57 : decode prog_158_method_15_code 57 = .ok (.iaload, 1) := by decide +kernel
theorem d8_58 : decode prog_158_method_15_code 58 = .ok (.iadd, 1) := by decide +kernel
theorem d8_59 : decode prog_158_method_15_code 59 = .ok (.istore_n 3, 1) := by decide +kernel
theorem d8_60 : decode prog_158_method_15_code 60 = .ok (.iinc 5 1, 3) := by decide +kernel
theorem d8_63 : decode prog_158_method_15_code 63 = .ok (.goto (-20), 3) := by decide +kernel
theorem d8_66 : decode prog_158_method_15_code 66 = .ok (.iload 4, 2) := by decide +kernel
theorem d8_68 : decode prog_158_method_15_code 68 = .ok (.bipush 8, 2) := by decide +kernel
theorem d8_70 : decode prog_158_method_15_code 70 = .ok (.imul, 1) := by decide +kernel
theorem d8_71 : decode prog_158_method_15_code 71 = .ok (.istore 5, 2) := by decide +kernel
theorem d8_73 : decode prog_158_method_15_code 73 = .ok (.iload 5, 2) := by decide +kernel
theorem d8_75 : decode prog_158_method_15_code 75 = .ok (.iload_n 2, 1) := by decide +kernel
theorem d8_76 : decode prog_158_method_15_code 76 = .ok (.if_icmp .ge 22, 3) := by decide +kernel
theorem d8_79 : decode prog_158_method_15_code 79 = .ok (.iload_n 3, 1) := by decide +kernel
theorem d8_80 : decode prog_158_method_15_code 80 = .ok (.aload_n 0, 1) := by decide +kernel
theorem d8_81 : decode prog_158_method_15_code 81 = .ok (.getfield 7, 3) := by decide +kernel
theorem d8_84 : decode prog_158_method_15_code 84 = .ok (.iload 5, 2) := by decide +kernel
theorem d8_86 : decode prog_158_method_15_code 86 = .ok (.laload, 1) := by decide +kernel
theorem d8_87 : decode prog_158_method_15_code 87 = .ok (.invokestatic 37, 3) := by decide +kernel
theorem d8_90 : decode prog_158_method_15_code 90 = .ok (.iadd, 1) := by decide +kernel
theorem d8_91 : decode prog_158_method_15_code 91 = .ok (.istore_n 3, 1) := by decide +kernel
theorem d8_92 : decode prog_158_method_15_code 92 = .ok (.iinc 5 1, 3) := by decide +kernel
theorem d8_95 : decode prog_158_method_15_code 95 = .ok (.goto (-22), 3) := by decide +kernel
theorem d8_98 : decode prog_158_method_15_code 98 = .ok (.iload_n 3, 1) := by decide +kernel
theorem d8_99 : decode prog_158_method_15_code 99 = .ok (.ireturn, 1) := by decide +kernel
theorem pn_8 : plainFor (⟨"com/example/nearside/nearside/slotted/delay/OfferSet", "countBelow", "(I)I"⟩ : MethodName) = true := plainFor_of_name (by first | (simp [plainName, overriddenIn]; done) | decide +kernel)
theorem pd_8_3 : parseMethodDescriptor "(J)I" = some ⟨[.long], some .int⟩ := by decide +kernel
theorem ef_8 (m : MethodId) (a1 : Addr) (p2 : Int32) : entryFrame m #[(.ref a1), (.int p2)] 6 = mkF m 0 #[rv a1, iv p2, .unset, .unset, .unset, .unset] [] := by first | (simp [entryFrame, mkF, argsToLocals, Value.category]; done) | rfl
theorem ef_8_0 (m : MethodId) (fo : Addr) : entryFrame m #[(.ref fo), (.int (0 : Int32))] 6 = mkF m 0 #[rv fo, iv (0 : Int32), .unset, .unset, .unset, .unset] [] := by first | (simp [entryFrame, mkF, argsToLocals, Value.category]; done) | rfl
set_option maxRecDepth 65536 in
set_option maxHeartbeats 40000000 in
theorem rm8_0 (l : Launch) (Z : State) (a0 : Array Value) (hw : ∀ d ∈ tables_1, d.before a0 Z = true) (ws : List Jvm.Cond) (fo : Addr) (aw : Addr) (ab : Addr) (nw : Nat) (nb : Nat) (W : Nat → Int64) (iB : Nat → Int32) (h0 : Heap) (n0 : Nat) (Z0 : n0 ≤ h0.size) (hnw : 1 ≤ nw ∧ nw ≤ 10) (hnb : 1 ≤ nb) (F_words : Fld Z h0 fo "com/example/nearside/nearside/slotted/delay/OfferSet" "words" "[J" (.ref aw)) (F_inBlocks : Fld Z h0 fo "com/example/nearside/nearside/slotted/delay/OfferSet" "inBlocks" "[I" (.ref ab)) (V_aw : OwnArr Z h0 aw .long nw (fun k => .long (W k))) (V_ab : OwnArr Z h0 ab .int nb (fun k => .int (iB k))) :
    OwnCtr l Z (⟨"com/example/nearside/nearside/slotted/delay/OfferSet", "countBelow", "(I)I"⟩ : MethodName) ws prog_158_method_15_code 6 (some .int) ({ frames := 1, cells := 0, slots := 0, locals := 13 } : Room) #[(.ref fo), (.int (0 : Int32))] h0 (fun v h L => v = some (.int (0 : Int32)) ∧ Fr n0 L ∧ h = h0) := by
  refine own_body (g0 := fun m => mkF m 0 #[rv fo, iv (0 : Int32), .unset, .unset, .unset, .unset] []) pn_8 (fun m => ef_8_0 m fo) ?_
  intro p e s m below meth c s₁ X0 hx hby hml hown hnm hZ e0 hret hlk
  have hml : c.maxLocals = 6 := hml
  have hown : s.vm.findClass "com/example/nearside/nearside/slotted/delay/OfferSet" = some m.cls := hown
  have hnm : meth.name = "countBelow" := hnm
  have hret : meth.sig.returnType = (some .int) := hret
  have N0 := Fr.nil n0
  show OwnFin p e below s _ _ _ (s₁.setTop (mkF m 0 #[rv fo, iv (0 : Int32), .unset, .unset, .unset, .unset] []))
  refine own_go (fun t_ k_ => XS.iloadN X0.here hx rfl (hb hby d8_0) rfl k_) ?_
  show OwnFin p e below s _ _ _ (s₁.setTop (mkF m 1 #[rv fo, iv (0 : Int32), .unset, .unset, .unset, .unset] [(.int (0 : Int32))]))
  refine own_go (fun t_ k_ => XS.bipush X0.here hx rfl (hb hby d8_1) k_) ?_
  show OwnFin p e below s _ _ _ (s₁.setTop (mkF m 3 #[rv fo, iv (0 : Int32), .unset, .unset, .unset, .unset] [(.int (6 : Int32)), (.int (0 : Int32))]))
  refine own_go (fun t_ k_ => XS.iushr X0.here hx rfl (hb hby d8_3) rfl k_) ?_
  show OwnFin p e below s _ _ _ (s₁.setTop (mkF m 4 #[rv fo, iv (0 : Int32), .unset, .unset, .unset, .unset] [(.int (0 : Int32))]))
  refine own_go (fun t_ k_ => XS.istoreN X0.here hx rfl (hb hby d8_4) rfl (l' := #[rv fo, iv (0 : Int32), iv (0 : Int32), .unset, .unset, .unset]) rfl k_) ?_
  show OwnFin p e below s _ _ _ (s₁.setTop (mkF m 5 #[rv fo, iv (0 : Int32), iv (0 : Int32), .unset, .unset, .unset] []))
  refine own_go (fun t_ k_ => XS.iloadN X0.here hx rfl (hb hby d8_5) rfl k_) ?_
  show OwnFin p e below s _ _ _ (s₁.setTop (mkF m 6 #[rv fo, iv (0 : Int32), iv (0 : Int32), .unset, .unset, .unset] [(.int (0 : Int32))]))
  refine own_go (fun t_ k_ => XS.aloadN X0.here hx rfl (hb hby d8_6) rfl rfl k_) ?_
  show OwnFin p e below s _ _ _ (s₁.setTop (mkF m 7 #[rv fo, iv (0 : Int32), iv (0 : Int32), .unset, .unset, .unset] [(.ref fo), (.int (0 : Int32))]))
  obtain ⟨T1, X1, e1, st1⟩ := getF X0 hx hZ hown (host := "") (Or.inl (hw _ (List.mem_of_getElem? (i := 12) rfl))) Via.refl e0 F_words (g := (mkF m 7 #[rv fo, iv (0 : Int32), iv (0 : Int32), .unset, .unset, .unset] [(.ref fo), (.int (0 : Int32))])) rfl rfl (hb hby d8_7)
  refine own_go st1 ?_
  show OwnFin p e below s _ _ _ (T1.setTop (mkF m 10 #[rv fo, iv (0 : Int32), iv (0 : Int32), .unset, .unset, .unset] [(.ref aw), (.int (0 : Int32))]))
  refine own_go (own_alength X1 hx hZ e1 V_aw (g := (mkF m 10 #[rv fo, iv (0 : Int32), iv (0 : Int32), .unset, .unset, .unset] [(.ref aw), (.int (0 : Int32))])) rfl rfl (hb hby d8_10)) ?_
  show OwnFin p e below s _ _ _ (T1.setTop (mkF m 11 #[rv fo, iv (0 : Int32), iv (0 : Int32), .unset, .unset, .unset] [(.int (Int32.ofNat nw)), (.int (0 : Int32))]))
  have hc11 : (0 : Int32) < (Int32.ofNat nw) := by rw [show (0 : Int32) = Int32.ofNat 0 from rfl, own_ltN (by decide) (by omega)]; omega
  refine own_go (fun t_ k_ => XS.icmpNo X1.here hx rfl (hb hby d8_11) rfl (tlt hc11).2.1 k_) ?_
  show OwnFin p e below s _ _ _ (T1.setTop (mkF m 14 #[rv fo, iv (0 : Int32), iv (0 : Int32), .unset, .unset, .unset] []))
  refine own_go (fun t_ k_ => XS.aloadN X1.here hx rfl (hb hby d8_14) rfl rfl k_) ?_
  show OwnFin p e below s _ _ _ (T1.setTop (mkF m 15 #[rv fo, iv (0 : Int32), iv (0 : Int32), .unset, .unset, .unset] [(.ref fo)]))
  obtain ⟨T2, X2, e2, st2⟩ := getF X1 hx hZ hown (host := "") (Or.inl (hw _ (List.mem_of_getElem? (i := 12) rfl))) Via.refl e1 F_words (g := (mkF m 15 #[rv fo, iv (0 : Int32), iv (0 : Int32), .unset, .unset, .unset] [(.ref fo)])) rfl rfl (hb hby d8_15)
  refine own_go st2 ?_
  show OwnFin p e below s _ _ _ (T2.setTop (mkF m 18 #[rv fo, iv (0 : Int32), iv (0 : Int32), .unset, .unset, .unset] [(.ref aw)]))
  refine own_go (fun t_ k_ => XS.iloadN X2.here hx rfl (hb hby d8_18) rfl k_) ?_
  show OwnFin p e below s _ _ _ (T2.setTop (mkF m 19 #[rv fo, iv (0 : Int32), iv (0 : Int32), .unset, .unset, .unset] [(.int (0 : Int32)), (.ref aw)]))
  refine own_go (own_laload X2 hx hZ e2 V_aw (i := 0) rfl (by omega) (g := (mkF m 19 #[rv fo, iv (0 : Int32), iv (0 : Int32), .unset, .unset, .unset] [(.int (0 : Int32)), (.ref aw)])) rfl rfl (hb hby d8_19)) ?_
  show OwnFin p e below s _ _ _ (T2.setTop (mkF m 20 #[rv fo, iv (0 : Int32), iv (0 : Int32), .unset, .unset, .unset] [(.long (W 0))]))
  refine own_go (fun t_ k_ => XS.lconst X2.here hx rfl (hb hby d8_20) k_) ?_
  show OwnFin p e below s _ _ _ (T2.setTop (mkF m 21 #[rv fo, iv (0 : Int32), iv (0 : Int32), .unset, .unset, .unset] [(.long (1 : Int64)), (.long (W 0))]))
  refine own_go (fun t_ k_ => XS.iloadN X2.here hx rfl (hb hby d8_21) rfl k_) ?_
  show OwnFin p e below s _ _ _ (T2.setTop (mkF m 22 #[rv fo, iv (0 : Int32), iv (0 : Int32), .unset, .unset, .unset] [(.int (0 : Int32)), (.long (1 : Int64)), (.long (W 0))]))
  refine own_go (fun t_ k_ => XS.lshl X2.here hx rfl (hb hby d8_22) rfl k_) ?_
  show OwnFin p e below s _ _ _ (T2.setTop (mkF m 23 #[rv fo, iv (0 : Int32), iv (0 : Int32), .unset, .unset, .unset] [(.long (1 : Int64)), (.long (W 0))]))
  refine own_go (fun t_ k_ => XS.lconst X2.here hx rfl (hb hby d8_23) k_) ?_
  show OwnFin p e below s _ _ _ (T2.setTop (mkF m 24 #[rv fo, iv (0 : Int32), iv (0 : Int32), .unset, .unset, .unset] [(.long (1 : Int64)), (.long (1 : Int64)), (.long (W 0))]))
  refine own_go (fun t_ k_ => XS.lsub X2.here hx rfl (hb hby d8_24) rfl k_) ?_
  show OwnFin p e below s _ _ _ (T2.setTop (mkF m 25 #[rv fo, iv (0 : Int32), iv (0 : Int32), .unset, .unset, .unset] [(.long (0 : Int64)), (.long (W 0))]))
  show OwnFin p e below s _ _ _ (T2.setTop (mkF m 25 #[rv fo, iv (0 : Int32), iv (0 : Int32), .unset, .unset, .unset] [(.long (0 : Int64)), (.long (W 0))]))
  refine own_go (fun t_ k_ => XS.land X2.here hx rfl (hb hby d8_25) rfl k_) ?_
  show OwnFin p e below s _ _ _ (T2.setTop (mkF m 26 #[rv fo, iv (0 : Int32), iv (0 : Int32), .unset, .unset, .unset] [(.long ((W 0) &&& (0 : Int64)))]))
  rw [own_and0]
  show OwnFin p e below s _ _ _ (T2.setTop (mkF m 26 #[rv fo, iv (0 : Int32), iv (0 : Int32), .unset, .unset, .unset] [(.long (0 : Int64))]))
  obtain ⟨v3, T3, L3, X3, hQ3, st3⟩ := own_callS X2 hx hZ (y := (⟨"java/lang/Long", "bitCount", "(J)I"⟩ : MethodName)) hown (hw _ (List.mem_of_getElem? (i := 34) rfl)) (hw _ (List.mem_of_getElem? (i := 35) rfl)) (hw _ (List.mem_of_getElem? (i := 36) rfl)) (hw _ (List.mem_of_getElem? (i := 37) rfl)) (by decide) (W := 0) (rm4 l Z a0 hw [] (0 : Int64) h0 n0 Z0) (by decide) (by decide) (g := (mkF m 26 #[rv fo, iv (0 : Int32), iv (0 : Int32), .unset, .unset, .unset] [(.long (0 : Int64))])) rfl (by rw [hml]; rfl) (argsL := [(.long (0 : Int64))]) (rest := []) (lenOf pd_8_3 rfl) rfl (by show 2 * 0 + _ ≤ _; exact Nat.le_of_eq rfl) (hb hby d8_26) e2 rfl (by decide) (by decide)
  obtain ⟨rfl, Nq3, e3⟩ := hQ3
  have N3 := Fr.app N0 Nq3
  refine own_go st3 ?_
  show OwnFin p e below s _ _ _ (T3.setTop (mkF m 29 #[rv fo, iv (0 : Int32), iv (0 : Int32), .unset, .unset, .unset] [(.int (own_bc (0 : Int64)))]))
  rw [own_bc0]
  show OwnFin p e below s _ _ _ (T3.setTop (mkF m 29 #[rv fo, iv (0 : Int32), iv (0 : Int32), .unset, .unset, .unset] [(.int (0 : Int32))]))
  refine own_go (fun t_ k_ => XS.goto X3.here hx rfl (pc0 := 29) (pc' := 33) rfl (hb hby d8_29) (by decide) (by decide) k_) ?_
  show OwnFin p e below s _ _ _ (T3.setTop (mkF m 33 #[rv fo, iv (0 : Int32), iv (0 : Int32), .unset, .unset, .unset] [(.int (0 : Int32))]))
  refine own_go (fun t_ k_ => XS.istoreN X3.here hx rfl (hb hby d8_33) rfl (l' := #[rv fo, iv (0 : Int32), iv (0 : Int32), iv (0 : Int32), .unset, .unset]) rfl k_) ?_
  show OwnFin p e below s _ _ _ (T3.setTop (mkF m 34 #[rv fo, iv (0 : Int32), iv (0 : Int32), iv (0 : Int32), .unset, .unset] []))
  refine own_go (fun t_ k_ => XS.iloadN X3.here hx rfl (hb hby d8_34) rfl k_) ?_
  show OwnFin p e below s _ _ _ (T3.setTop (mkF m 35 #[rv fo, iv (0 : Int32), iv (0 : Int32), iv (0 : Int32), .unset, .unset] [(.int (0 : Int32))]))
  refine own_go (fun t_ k_ => XS.bipush X3.here hx rfl (hb hby d8_35) k_) ?_
  show OwnFin p e below s _ _ _ (T3.setTop (mkF m 37 #[rv fo, iv (0 : Int32), iv (0 : Int32), iv (0 : Int32), .unset, .unset] [(.int (8 : Int32)), (.int (0 : Int32))]))
  refine own_go (fun t_ k_ => XS.idiv X3.here hx rfl (hb hby d8_37) rfl (by decide) k_) ?_
  show OwnFin p e below s _ _ _ (T3.setTop (mkF m 38 #[rv fo, iv (0 : Int32), iv (0 : Int32), iv (0 : Int32), .unset, .unset] [(.int (0 : Int32))]))
  refine own_go (fun t_ k_ => XS.istore X3.here hx rfl (hb hby d8_38) rfl (l' := #[rv fo, iv (0 : Int32), iv (0 : Int32), iv (0 : Int32), iv (0 : Int32), .unset]) rfl k_) ?_
  show OwnFin p e below s _ _ _ (T3.setTop (mkF m 40 #[rv fo, iv (0 : Int32), iv (0 : Int32), iv (0 : Int32), iv (0 : Int32), .unset] []))
  refine own_go (fun t_ k_ => XS.iconst X3.here hx rfl (hb hby d8_40) k_) ?_
  show OwnFin p e below s _ _ _ (T3.setTop (mkF m 41 #[rv fo, iv (0 : Int32), iv (0 : Int32), iv (0 : Int32), iv (0 : Int32), .unset] [(.int (0 : Int32))]))
  refine own_go (fun t_ k_ => XS.istore X3.here hx rfl (hb hby d8_41) rfl (l' := #[rv fo, iv (0 : Int32), iv (0 : Int32), iv (0 : Int32), iv (0 : Int32), iv (0 : Int32)]) rfl k_) ?_
  show OwnFin p e below s _ _ _ (T3.setTop (mkF m 43 #[rv fo, iv (0 : Int32), iv (0 : Int32), iv (0 : Int32), iv (0 : Int32), iv (0 : Int32)] []))
  refine own_go (fun t_ k_ => XS.iload X3.here hx rfl (hb hby d8_43) rfl k_) ?_
  show OwnFin p e below s _ _ _ (T3.setTop (mkF m 45 #[rv fo, iv (0 : Int32), iv (0 : Int32), iv (0 : Int32), iv (0 : Int32), iv (0 : Int32)] [(.int (0 : Int32))]))
  refine own_go (fun t_ k_ => XS.iload X3.here hx rfl (hb hby d8_45) rfl k_) ?_
  show OwnFin p e below s _ _ _ (T3.setTop (mkF m 47 #[rv fo, iv (0 : Int32), iv (0 : Int32), iv (0 : Int32), iv (0 : Int32), iv (0 : Int32)] [(.int (0 : Int32)), (.int (0 : Int32))]))
  refine own_go (fun t_ k_ => XS.icmpYes X3.here hx rfl (pc0 := 47) (pc' := 66) rfl (hb hby d8_47) rfl (flt (by decide)).2.1 (by decide) (by decide) k_) ?_
  show OwnFin p e below s _ _ _ (T3.setTop (mkF m 66 #[rv fo, iv (0 : Int32), iv (0 : Int32), iv (0 : Int32), iv (0 : Int32), iv (0 : Int32)] []))
  refine own_go (fun t_ k_ => XS.iload X3.here hx rfl (hb hby d8_66) rfl k_) ?_
  show OwnFin p e below s _ _ _ (T3.setTop (mkF m 68 #[rv fo, iv (0 : Int32), iv (0 : Int32), iv (0 : Int32), iv (0 : Int32), iv (0 : Int32)] [(.int (0 : Int32))]))
  refine own_go (fun t_ k_ => XS.bipush X3.here hx rfl (hb hby d8_68) k_) ?_
  show OwnFin p e below s _ _ _ (T3.setTop (mkF m 70 #[rv fo, iv (0 : Int32), iv (0 : Int32), iv (0 : Int32), iv (0 : Int32), iv (0 : Int32)] [(.int (8 : Int32)), (.int (0 : Int32))]))
  refine own_go (fun t_ k_ => XS.imul X3.here hx rfl (hb hby d8_70) rfl k_) ?_
  show OwnFin p e below s _ _ _ (T3.setTop (mkF m 71 #[rv fo, iv (0 : Int32), iv (0 : Int32), iv (0 : Int32), iv (0 : Int32), iv (0 : Int32)] [(.int (0 : Int32))]))
  refine own_go (fun t_ k_ => XS.istore X3.here hx rfl (hb hby d8_71) rfl (l' := #[rv fo, iv (0 : Int32), iv (0 : Int32), iv (0 : Int32), iv (0 : Int32), iv (0 : Int32)]) rfl k_) ?_
  show OwnFin p e below s _ _ _ (T3.setTop (mkF m 73 #[rv fo, iv (0 : Int32), iv (0 : Int32), iv (0 : Int32), iv (0 : Int32), iv (0 : Int32)] []))
  refine own_go (fun t_ k_ => XS.iload X3.here hx rfl (hb hby d8_73) rfl k_) ?_
  show OwnFin p e below s _ _ _ (T3.setTop (mkF m 75 #[rv fo, iv (0 : Int32), iv (0 : Int32), iv (0 : Int32), iv (0 : Int32), iv (0 : Int32)] [(.int (0 : Int32))]))
  refine own_go (fun t_ k_ => XS.iloadN X3.here hx rfl (hb hby d8_75) rfl k_) ?_
  show OwnFin p e below s _ _ _ (T3.setTop (mkF m 76 #[rv fo, iv (0 : Int32), iv (0 : Int32), iv (0 : Int32), iv (0 : Int32), iv (0 : Int32)] [(.int (0 : Int32)), (.int (0 : Int32))]))
  refine own_go (fun t_ k_ => XS.icmpYes X3.here hx rfl (pc0 := 76) (pc' := 98) rfl (hb hby d8_76) rfl (flt (by decide)).2.1 (by decide) (by decide) k_) ?_
  show OwnFin p e below s _ _ _ (T3.setTop (mkF m 98 #[rv fo, iv (0 : Int32), iv (0 : Int32), iv (0 : Int32), iv (0 : Int32), iv (0 : Int32)] []))
  refine own_go (fun t_ k_ => XS.iloadN X3.here hx rfl (hb hby d8_98) rfl k_) ?_
  show OwnFin p e below s _ _ _ (T3.setTop (mkF m 99 #[rv fo, iv (0 : Int32), iv (0 : Int32), iv (0 : Int32), iv (0 : Int32), iv (0 : Int32)] [(.int (0 : Int32))]))
  refine own_ret X3 (v := some (.int (0 : Int32))) hlk (fun hh => by rw [hret] at hh; cases hh) (fun fs hr => own_retI X3 hx hret (hb hby d8_99) hr) (by decide) (by decide) ?_
  rw [e3]
  exact ⟨rfl, N3, rfl⟩
theorem ef_8_64 (m : MethodId) (fo : Addr) : entryFrame m #[(.ref fo), (.int (64 : Int32))] 6 = mkF m 0 #[rv fo, iv (64 : Int32), .unset, .unset, .unset, .unset] [] := by first | (simp [entryFrame, mkF, argsToLocals, Value.category]; done) | rfl
set_option maxRecDepth 65536 in
set_option maxHeartbeats 40000000 in
theorem rm8_64 (l : Launch) (Z : State) (a0 : Array Value) (hw : ∀ d ∈ tables_1, d.before a0 Z = true) (ws : List Jvm.Cond) (fo : Addr) (aw : Addr) (ab : Addr) (nw : Nat) (nb : Nat) (W : Nat → Int64) (iB : Nat → Int32) (h0 : Heap) (n0 : Nat) (Z0 : n0 ≤ h0.size) (hnw : 2 ≤ nw ∧ nw ≤ 10) (hnb : 1 ≤ nb) (F_words : Fld Z h0 fo "com/example/nearside/nearside/slotted/delay/OfferSet" "words" "[J" (.ref aw)) (F_inBlocks : Fld Z h0 fo "com/example/nearside/nearside/slotted/delay/OfferSet" "inBlocks" "[I" (.ref ab)) (V_aw : OwnArr Z h0 aw .long nw (fun k => .long (W k))) (V_ab : OwnArr Z h0 ab .int nb (fun k => .int (iB k))) :
    OwnCtr l Z (⟨"com/example/nearside/nearside/slotted/delay/OfferSet", "countBelow", "(I)I"⟩ : MethodName) ws prog_158_method_15_code 6 (some .int) ({ frames := 1, cells := 0, slots := 0, locals := 14 } : Room) #[(.ref fo), (.int (64 : Int32))] h0 (fun v h L => v = some (.int (own_bc (W 0))) ∧ Fr n0 L ∧ h = h0) := by
  refine own_body (g0 := fun m => mkF m 0 #[rv fo, iv (64 : Int32), .unset, .unset, .unset, .unset] []) pn_8 (fun m => ef_8_64 m fo) ?_
  intro p e s m below meth c s₁ X0 hx hby hml hown hnm hZ e0 hret hlk
  have hml : c.maxLocals = 6 := hml
  have hown : s.vm.findClass "com/example/nearside/nearside/slotted/delay/OfferSet" = some m.cls := hown
  have hnm : meth.name = "countBelow" := hnm
  have hret : meth.sig.returnType = (some .int) := hret
  have N0 := Fr.nil n0
  show OwnFin p e below s _ _ _ (s₁.setTop (mkF m 0 #[rv fo, iv (64 : Int32), .unset, .unset, .unset, .unset] []))
  refine own_go (fun t_ k_ => XS.iloadN X0.here hx rfl (hb hby d8_0) rfl k_) ?_
  show OwnFin p e below s _ _ _ (s₁.setTop (mkF m 1 #[rv fo, iv (64 : Int32), .unset, .unset, .unset, .unset] [(.int (64 : Int32))]))
  refine own_go (fun t_ k_ => XS.bipush X0.here hx rfl (hb hby d8_1) k_) ?_
  show OwnFin p e below s _ _ _ (s₁.setTop (mkF m 3 #[rv fo, iv (64 : Int32), .unset, .unset, .unset, .unset] [(.int (6 : Int32)), (.int (64 : Int32))]))
  refine own_go (fun t_ k_ => XS.iushr X0.here hx rfl (hb hby d8_3) rfl k_) ?_
  show OwnFin p e below s _ _ _ (s₁.setTop (mkF m 4 #[rv fo, iv (64 : Int32), .unset, .unset, .unset, .unset] [(.int (1 : Int32))]))
  refine own_go (fun t_ k_ => XS.istoreN X0.here hx rfl (hb hby d8_4) rfl (l' := #[rv fo, iv (64 : Int32), iv (1 : Int32), .unset, .unset, .unset]) rfl k_) ?_
  show OwnFin p e below s _ _ _ (s₁.setTop (mkF m 5 #[rv fo, iv (64 : Int32), iv (1 : Int32), .unset, .unset, .unset] []))
  refine own_go (fun t_ k_ => XS.iloadN X0.here hx rfl (hb hby d8_5) rfl k_) ?_
  show OwnFin p e below s _ _ _ (s₁.setTop (mkF m 6 #[rv fo, iv (64 : Int32), iv (1 : Int32), .unset, .unset, .unset] [(.int (1 : Int32))]))
  refine own_go (fun t_ k_ => XS.aloadN X0.here hx rfl (hb hby d8_6) rfl rfl k_) ?_
  show OwnFin p e below s _ _ _ (s₁.setTop (mkF m 7 #[rv fo, iv (64 : Int32), iv (1 : Int32), .unset, .unset, .unset] [(.ref fo), (.int (1 : Int32))]))
  obtain ⟨T1, X1, e1, st1⟩ := getF X0 hx hZ hown (host := "") (Or.inl (hw _ (List.mem_of_getElem? (i := 12) rfl))) Via.refl e0 F_words (g := (mkF m 7 #[rv fo, iv (64 : Int32), iv (1 : Int32), .unset, .unset, .unset] [(.ref fo), (.int (1 : Int32))])) rfl rfl (hb hby d8_7)
  refine own_go st1 ?_
  show OwnFin p e below s _ _ _ (T1.setTop (mkF m 10 #[rv fo, iv (64 : Int32), iv (1 : Int32), .unset, .unset, .unset] [(.ref aw), (.int (1 : Int32))]))
  refine own_go (own_alength X1 hx hZ e1 V_aw (g := (mkF m 10 #[rv fo, iv (64 : Int32), iv (1 : Int32), .unset, .unset, .unset] [(.ref aw), (.int (1 : Int32))])) rfl rfl (hb hby d8_10)) ?_
  show OwnFin p e below s _ _ _ (T1.setTop (mkF m 11 #[rv fo, iv (64 : Int32), iv (1 : Int32), .unset, .unset, .unset] [(.int (Int32.ofNat nw)), (.int (1 : Int32))]))
  have hc11 : (1 : Int32) < (Int32.ofNat nw) := by rw [show (1 : Int32) = Int32.ofNat 1 from rfl, own_ltN (by decide) (by omega)]; omega
  refine own_go (fun t_ k_ => XS.icmpNo X1.here hx rfl (hb hby d8_11) rfl (tlt hc11).2.1 k_) ?_
  show OwnFin p e below s _ _ _ (T1.setTop (mkF m 14 #[rv fo, iv (64 : Int32), iv (1 : Int32), .unset, .unset, .unset] []))
  refine own_go (fun t_ k_ => XS.aloadN X1.here hx rfl (hb hby d8_14) rfl rfl k_) ?_
  show OwnFin p e below s _ _ _ (T1.setTop (mkF m 15 #[rv fo, iv (64 : Int32), iv (1 : Int32), .unset, .unset, .unset] [(.ref fo)]))
  obtain ⟨T2, X2, e2, st2⟩ := getF X1 hx hZ hown (host := "") (Or.inl (hw _ (List.mem_of_getElem? (i := 12) rfl))) Via.refl e1 F_words (g := (mkF m 15 #[rv fo, iv (64 : Int32), iv (1 : Int32), .unset, .unset, .unset] [(.ref fo)])) rfl rfl (hb hby d8_15)
  refine own_go st2 ?_
  show OwnFin p e below s _ _ _ (T2.setTop (mkF m 18 #[rv fo, iv (64 : Int32), iv (1 : Int32), .unset, .unset, .unset] [(.ref aw)]))
  refine own_go (fun t_ k_ => XS.iloadN X2.here hx rfl (hb hby d8_18) rfl k_) ?_
  show OwnFin p e below s _ _ _ (T2.setTop (mkF m 19 #[rv fo, iv (64 : Int32), iv (1 : Int32), .unset, .unset, .unset] [(.int (1 : Int32)), (.ref aw)]))
  refine own_go (own_laload X2 hx hZ e2 V_aw (i := 1) rfl (by omega) (g := (mkF m 19 #[rv fo, iv (64 : Int32), iv (1 : Int32), .unset, .unset, .unset] [(.int (1 : Int32)), (.ref aw)])) rfl rfl (hb hby d8_19)) ?_
  show OwnFin p e below s _ _ _ (T2.setTop (mkF m 20 #[rv fo, iv (64 : Int32), iv (1 : Int32), .unset, .unset, .unset] [(.long (W 1))]))
  refine own_go (fun t_ k_ => XS.lconst X2.here hx rfl (hb hby d8_20) k_) ?_
  show OwnFin p e below s _ _ _ (T2.setTop (mkF m 21 #[rv fo, iv (64 : Int32), iv (1 : Int32), .unset, .unset, .unset] [(.long (1 : Int64)), (.long (W 1))]))
  refine own_go (fun t_ k_ => XS.iloadN X2.here hx rfl (hb hby d8_21) rfl k_) ?_
  show OwnFin p e below s _ _ _ (T2.setTop (mkF m 22 #[rv fo, iv (64 : Int32), iv (1 : Int32), .unset, .unset, .unset] [(.int (64 : Int32)), (.long (1 : Int64)), (.long (W 1))]))
  refine own_go (fun t_ k_ => XS.lshl X2.here hx rfl (hb hby d8_22) rfl k_) ?_
  show OwnFin p e below s _ _ _ (T2.setTop (mkF m 23 #[rv fo, iv (64 : Int32), iv (1 : Int32), .unset, .unset, .unset] [(.long (1 : Int64)), (.long (W 1))]))
  refine own_go (fun t_ k_ => XS.lconst X2.here hx rfl (hb hby d8_23) k_) ?_
  show OwnFin p e below s _ _ _ (T2.setTop (mkF m 24 #[rv fo, iv (64 : Int32), iv (1 : Int32), .unset, .unset, .unset] [(.long (1 : Int64)), (.long (1 : Int64)), (.long (W 1))]))
  refine own_go (fun t_ k_ => XS.lsub X2.here hx rfl (hb hby d8_24) rfl k_) ?_
  show OwnFin p e below s _ _ _ (T2.setTop (mkF m 25 #[rv fo, iv (64 : Int32), iv (1 : Int32), .unset, .unset, .unset] [(.long (0 : Int64)), (.long (W 1))]))
  show OwnFin p e below s _ _ _ (T2.setTop (mkF m 25 #[rv fo, iv (64 : Int32), iv (1 : Int32), .unset, .unset, .unset] [(.long (0 : Int64)), (.long (W 1))]))
  refine own_go (fun t_ k_ => XS.land X2.here hx rfl (hb hby d8_25) rfl k_) ?_
  show OwnFin p e below s _ _ _ (T2.setTop (mkF m 26 #[rv fo, iv (64 : Int32), iv (1 : Int32), .unset, .unset, .unset] [(.long ((W 1) &&& (0 : Int64)))]))
  rw [own_and0]
  show OwnFin p e below s _ _ _ (T2.setTop (mkF m 26 #[rv fo, iv (64 : Int32), iv (1 : Int32), .unset, .unset, .unset] [(.long (0 : Int64))]))
  obtain ⟨v3, T3, L3, X3, hQ3, st3⟩ := own_callS X2 hx hZ (y := (⟨"java/lang/Long", "bitCount", "(J)I"⟩ : MethodName)) hown (hw _ (List.mem_of_getElem? (i := 34) rfl)) (hw _ (List.mem_of_getElem? (i := 35) rfl)) (hw _ (List.mem_of_getElem? (i := 36) rfl)) (hw _ (List.mem_of_getElem? (i := 37) rfl)) (by decide) (W := 0) (rm4 l Z a0 hw [] (0 : Int64) h0 n0 Z0) (by decide) (by decide) (g := (mkF m 26 #[rv fo, iv (64 : Int32), iv (1 : Int32), .unset, .unset, .unset] [(.long (0 : Int64))])) rfl (by rw [hml]; rfl) (argsL := [(.long (0 : Int64))]) (rest := []) (lenOf pd_8_3 rfl) rfl (by show 2 * 0 + _ ≤ _; exact Nat.le_of_eq rfl) (hb hby d8_26) e2 rfl (by decide) (by decide)
  obtain ⟨rfl, Nq3, e3⟩ := hQ3
  have N3 := Fr.app N0 Nq3
  refine own_go st3 ?_
  show OwnFin p e below s _ _ _ (T3.setTop (mkF m 29 #[rv fo, iv (64 : Int32), iv (1 : Int32), .unset, .unset, .unset] [(.int (own_bc (0 : Int64)))]))
  rw [own_bc0]
  show OwnFin p e below s _ _ _ (T3.setTop (mkF m 29 #[rv fo, iv (64 : Int32), iv (1 : Int32), .unset, .unset, .unset] [(.int (0 : Int32))]))
  refine own_go (fun t_ k_ => XS.goto X3.here hx rfl (pc0 := 29) (pc' := 33) rfl (hb hby d8_29) (by decide) (by decide) k_) ?_
  show OwnFin p e below s _ _ _ (T3.setTop (mkF m 33 #[rv fo, iv (64 : Int32), iv (1 : Int32), .unset, .unset, .unset] [(.int (0 : Int32))]))
  refine own_go (fun t_ k_ => XS.istoreN X3.here hx rfl (hb hby d8_33) rfl (l' := #[rv fo, iv (64 : Int32), iv (1 : Int32), iv (0 : Int32), .unset, .unset]) rfl k_) ?_
  show OwnFin p e below s _ _ _ (T3.setTop (mkF m 34 #[rv fo, iv (64 : Int32), iv (1 : Int32), iv (0 : Int32), .unset, .unset] []))
  refine own_go (fun t_ k_ => XS.iloadN X3.here hx rfl (hb hby d8_34) rfl k_) ?_
  show OwnFin p e below s _ _ _ (T3.setTop (mkF m 35 #[rv fo, iv (64 : Int32), iv (1 : Int32), iv (0 : Int32), .unset, .unset] [(.int (1 : Int32))]))
  refine own_go (fun t_ k_ => XS.bipush X3.here hx rfl (hb hby d8_35) k_) ?_
  show OwnFin p e below s _ _ _ (T3.setTop (mkF m 37 #[rv fo, iv (64 : Int32), iv (1 : Int32), iv (0 : Int32), .unset, .unset] [(.int (8 : Int32)), (.int (1 : Int32))]))
  refine own_go (fun t_ k_ => XS.idiv X3.here hx rfl (hb hby d8_37) rfl (by decide) k_) ?_
  show OwnFin p e below s _ _ _ (T3.setTop (mkF m 38 #[rv fo, iv (64 : Int32), iv (1 : Int32), iv (0 : Int32), .unset, .unset] [(.int (0 : Int32))]))
  refine own_go (fun t_ k_ => XS.istore X3.here hx rfl (hb hby d8_38) rfl (l' := #[rv fo, iv (64 : Int32), iv (1 : Int32), iv (0 : Int32), iv (0 : Int32), .unset]) rfl k_) ?_
  show OwnFin p e below s _ _ _ (T3.setTop (mkF m 40 #[rv fo, iv (64 : Int32), iv (1 : Int32), iv (0 : Int32), iv (0 : Int32), .unset] []))
  refine own_go (fun t_ k_ => XS.iconst X3.here hx rfl (hb hby d8_40) k_) ?_
  show OwnFin p e below s _ _ _ (T3.setTop (mkF m 41 #[rv fo, iv (64 : Int32), iv (1 : Int32), iv (0 : Int32), iv (0 : Int32), .unset] [(.int (0 : Int32))]))
  refine own_go (fun t_ k_ => XS.istore X3.here hx rfl (hb hby d8_41) rfl (l' := #[rv fo, iv (64 : Int32), iv (1 : Int32), iv (0 : Int32), iv (0 : Int32), iv (0 : Int32)]) rfl k_) ?_
  show OwnFin p e below s _ _ _ (T3.setTop (mkF m 43 #[rv fo, iv (64 : Int32), iv (1 : Int32), iv (0 : Int32), iv (0 : Int32), iv (0 : Int32)] []))
  refine own_go (fun t_ k_ => XS.iload X3.here hx rfl (hb hby d8_43) rfl k_) ?_
  show OwnFin p e below s _ _ _ (T3.setTop (mkF m 45 #[rv fo, iv (64 : Int32), iv (1 : Int32), iv (0 : Int32), iv (0 : Int32), iv (0 : Int32)] [(.int (0 : Int32))]))
  refine own_go (fun t_ k_ => XS.iload X3.here hx rfl (hb hby d8_45) rfl k_) ?_
  show OwnFin p e below s _ _ _ (T3.setTop (mkF m 47 #[rv fo, iv (64 : Int32), iv (1 : Int32), iv (0 : Int32), iv (0 : Int32), iv (0 : Int32)] [(.int (0 : Int32)), (.int (0 : Int32))]))
  refine own_go (fun t_ k_ => XS.icmpYes X3.here hx rfl (pc0 := 47) (pc' := 66) rfl (hb hby d8_47) rfl (flt (by decide)).2.1 (by decide) (by decide) k_) ?_
  show OwnFin p e below s _ _ _ (T3.setTop (mkF m 66 #[rv fo, iv (64 : Int32), iv (1 : Int32), iv (0 : Int32), iv (0 : Int32), iv (0 : Int32)] []))
  refine own_go (fun t_ k_ => XS.iload X3.here hx rfl (hb hby d8_66) rfl k_) ?_
  show OwnFin p e below s _ _ _ (T3.setTop (mkF m 68 #[rv fo, iv (64 : Int32), iv (1 : Int32), iv (0 : Int32), iv (0 : Int32), iv (0 : Int32)] [(.int (0 : Int32))]))
  refine own_go (fun t_ k_ => XS.bipush X3.here hx rfl (hb hby d8_68) k_) ?_
  show OwnFin p e below s _ _ _ (T3.setTop (mkF m 70 #[rv fo, iv (64 : Int32), iv (1 : Int32), iv (0 : Int32), iv (0 : Int32), iv (0 : Int32)] [(.int (8 : Int32)), (.int (0 : Int32))]))
  refine own_go (fun t_ k_ => XS.imul X3.here hx rfl (hb hby d8_70) rfl k_) ?_
  show OwnFin p e below s _ _ _ (T3.setTop (mkF m 71 #[rv fo, iv (64 : Int32), iv (1 : Int32), iv (0 : Int32), iv (0 : Int32), iv (0 : Int32)] [(.int (0 : Int32))]))
  refine own_go (fun t_ k_ => XS.istore X3.here hx rfl (hb hby d8_71) rfl (l' := #[rv fo, iv (64 : Int32), iv (1 : Int32), iv (0 : Int32), iv (0 : Int32), iv (0 : Int32)]) rfl k_) ?_
  show OwnFin p e below s _ _ _ (T3.setTop (mkF m 73 #[rv fo, iv (64 : Int32), iv (1 : Int32), iv (0 : Int32), iv (0 : Int32), iv (0 : Int32)] []))
  refine own_go (fun t_ k_ => XS.iload X3.here hx rfl (hb hby d8_73) rfl k_) ?_
  show OwnFin p e below s _ _ _ (T3.setTop (mkF m 75 #[rv fo, iv (64 : Int32), iv (1 : Int32), iv (0 : Int32), iv (0 : Int32), iv (0 : Int32)] [(.int (0 : Int32))]))
  refine own_go (fun t_ k_ => XS.iloadN X3.here hx rfl (hb hby d8_75) rfl k_) ?_
  show OwnFin p e below s _ _ _ (T3.setTop (mkF m 76 #[rv fo, iv (64 : Int32), iv (1 : Int32), iv (0 : Int32), iv (0 : Int32), iv (0 : Int32)] [(.int (1 : Int32)), (.int (0 : Int32))]))
  refine own_go (fun t_ k_ => XS.icmpNo X3.here hx rfl (hb hby d8_76) rfl (tlt (by decide)).2.1 k_) ?_
  show OwnFin p e below s _ _ _ (T3.setTop (mkF m 79 #[rv fo, iv (64 : Int32), iv (1 : Int32), iv (0 : Int32), iv (0 : Int32), iv (0 : Int32)] []))
  refine own_go (fun t_ k_ => XS.iloadN X3.here hx rfl (hb hby d8_79) rfl k_) ?_
  show OwnFin p e below s _ _ _ (T3.setTop (mkF m 80 #[rv fo, iv (64 : Int32), iv (1 : Int32), iv (0 : Int32), iv (0 : Int32), iv (0 : Int32)] [(.int (0 : Int32))]))
  refine own_go (fun t_ k_ => XS.aloadN X3.here hx rfl (hb hby d8_80) rfl rfl k_) ?_
  show OwnFin p e below s _ _ _ (T3.setTop (mkF m 81 #[rv fo, iv (64 : Int32), iv (1 : Int32), iv (0 : Int32), iv (0 : Int32), iv (0 : Int32)] [(.ref fo), (.int (0 : Int32))]))
  obtain ⟨T4, X4, e4, st4⟩ := getF X3 hx hZ hown (host := "") (Or.inl (hw _ (List.mem_of_getElem? (i := 12) rfl))) Via.refl e3 F_words (g := (mkF m 81 #[rv fo, iv (64 : Int32), iv (1 : Int32), iv (0 : Int32), iv (0 : Int32), iv (0 : Int32)] [(.ref fo), (.int (0 : Int32))])) rfl rfl (hb hby d8_81)
  refine own_go st4 ?_
  show OwnFin p e below s _ _ _ (T4.setTop (mkF m 84 #[rv fo, iv (64 : Int32), iv (1 : Int32), iv (0 : Int32), iv (0 : Int32), iv (0 : Int32)] [(.ref aw), (.int (0 : Int32))]))
  refine own_go (fun t_ k_ => XS.iload X4.here hx rfl (hb hby d8_84) rfl k_) ?_
  show OwnFin p e below s _ _ _ (T4.setTop (mkF m 86 #[rv fo, iv (64 : Int32), iv (1 : Int32), iv (0 : Int32), iv (0 : Int32), iv (0 : Int32)] [(.int (0 : Int32)), (.ref aw), (.int (0 : Int32))]))
  refine own_go (own_laload X4 hx hZ e4 V_aw (i := 0) rfl (by omega) (g := (mkF m 86 #[rv fo, iv (64 : Int32), iv (1 : Int32), iv (0 : Int32), iv (0 : Int32), iv (0 : Int32)] [(.int (0 : Int32)), (.ref aw), (.int (0 : Int32))])) rfl rfl (hb hby d8_86)) ?_
  show OwnFin p e below s _ _ _ (T4.setTop (mkF m 87 #[rv fo, iv (64 : Int32), iv (1 : Int32), iv (0 : Int32), iv (0 : Int32), iv (0 : Int32)] [(.long (W 0)), (.int (0 : Int32))]))
  obtain ⟨v5, T5, L5, X5, hQ5, st5⟩ := own_callS X4 hx hZ (y := (⟨"java/lang/Long", "bitCount", "(J)I"⟩ : MethodName)) hown (hw _ (List.mem_of_getElem? (i := 34) rfl)) (hw _ (List.mem_of_getElem? (i := 35) rfl)) (hw _ (List.mem_of_getElem? (i := 36) rfl)) (hw _ (List.mem_of_getElem? (i := 37) rfl)) (by decide) (W := 1) (rm4 l Z a0 hw [] (W 0) h0 n0 Z0) (by decide) (by decide) (g := (mkF m 87 #[rv fo, iv (64 : Int32), iv (1 : Int32), iv (0 : Int32), iv (0 : Int32), iv (0 : Int32)] [(.long (W 0)), (.int (0 : Int32))])) rfl (by rw [hml]; rfl) (argsL := [(.long (W 0))]) (rest := [(.int (0 : Int32))]) (lenOf pd_8_3 rfl) rfl (by show 2 * 0 + _ ≤ _; exact Nat.le_of_eq rfl) (hb hby d8_87) e4 rfl (by decide) (by decide)
  obtain ⟨rfl, Nq5, e5⟩ := hQ5
  have N5 := Fr.app N3 Nq5
  refine own_go st5 ?_
  show OwnFin p e below s _ _ _ (T5.setTop (mkF m 90 #[rv fo, iv (64 : Int32), iv (1 : Int32), iv (0 : Int32), iv (0 : Int32), iv (0 : Int32)] [(.int (own_bc (W 0))), (.int (0 : Int32))]))
  refine own_go (fun t_ k_ => XS.iadd X5.here hx rfl (hb hby d8_90) rfl k_) ?_
  show OwnFin p e below s _ _ _ (T5.setTop (mkF m 91 #[rv fo, iv (64 : Int32), iv (1 : Int32), iv (0 : Int32), iv (0 : Int32), iv (0 : Int32)] [(.int ((0 : Int32) + (own_bc (W 0))))]))
  rw [show (0 : Int32) + own_bc (W 0) = own_bc (W 0) from Int32.zero_add _]
  show OwnFin p e below s _ _ _ (T5.setTop (mkF m 91 #[rv fo, iv (64 : Int32), iv (1 : Int32), iv (0 : Int32), iv (0 : Int32), iv (0 : Int32)] [(.int (own_bc (W 0)))]))
  refine own_go (fun t_ k_ => XS.istoreN X5.here hx rfl (hb hby d8_91) rfl (l' := #[rv fo, iv (64 : Int32), iv (1 : Int32), iv (own_bc (W 0)), iv (0 : Int32), iv (0 : Int32)]) rfl k_) ?_
  show OwnFin p e below s _ _ _ (T5.setTop (mkF m 92 #[rv fo, iv (64 : Int32), iv (1 : Int32), iv (own_bc (W 0)), iv (0 : Int32), iv (0 : Int32)] []))
  refine own_go (fun t_ k_ => XS.iinc X5.here hx rfl (hb hby d8_92) rfl (l' := #[rv fo, iv (64 : Int32), iv (1 : Int32), iv (own_bc (W 0)), iv (0 : Int32), iv (1 : Int32)]) rfl k_) ?_
  show OwnFin p e below s _ _ _ (T5.setTop (mkF m 95 #[rv fo, iv (64 : Int32), iv (1 : Int32), iv (own_bc (W 0)), iv (0 : Int32), iv (1 : Int32)] []))
  refine own_go (fun t_ k_ => XS.goto X5.here hx rfl (pc0 := 95) (pc' := 73) rfl (hb hby d8_95) (by decide) (by decide) k_) ?_
  show OwnFin p e below s _ _ _ (T5.setTop (mkF m 73 #[rv fo, iv (64 : Int32), iv (1 : Int32), iv (own_bc (W 0)), iv (0 : Int32), iv (1 : Int32)] []))
  refine own_go (fun t_ k_ => XS.iload X5.here hx rfl (hb hby d8_73) rfl k_) ?_
  show OwnFin p e below s _ _ _ (T5.setTop (mkF m 75 #[rv fo, iv (64 : Int32), iv (1 : Int32), iv (own_bc (W 0)), iv (0 : Int32), iv (1 : Int32)] [(.int (1 : Int32))]))
  refine own_go (fun t_ k_ => XS.iloadN X5.here hx rfl (hb hby d8_75) rfl k_) ?_
  show OwnFin p e below s _ _ _ (T5.setTop (mkF m 76 #[rv fo, iv (64 : Int32), iv (1 : Int32), iv (own_bc (W 0)), iv (0 : Int32), iv (1 : Int32)] [(.int (1 : Int32)), (.int (1 : Int32))]))
  refine own_go (fun t_ k_ => XS.icmpYes X5.here hx rfl (pc0 := 76) (pc' := 98) rfl (hb hby d8_76) rfl (flt (by decide)).2.1 (by decide) (by decide) k_) ?_
  show OwnFin p e below s _ _ _ (T5.setTop (mkF m 98 #[rv fo, iv (64 : Int32), iv (1 : Int32), iv (own_bc (W 0)), iv (0 : Int32), iv (1 : Int32)] []))
  refine own_go (fun t_ k_ => XS.iloadN X5.here hx rfl (hb hby d8_98) rfl k_) ?_
  show OwnFin p e below s _ _ _ (T5.setTop (mkF m 99 #[rv fo, iv (64 : Int32), iv (1 : Int32), iv (own_bc (W 0)), iv (0 : Int32), iv (1 : Int32)] [(.int (own_bc (W 0)))]))
  refine own_ret X5 (v := some (.int (own_bc (W 0)))) hlk (fun hh => by rw [hret] at hh; cases hh) (fun fs hr => own_retI X5 hx hret (hb hby d8_99) hr) (by decide) (by decide) ?_
  rw [e5]
  exact ⟨rfl, N5, rfl⟩
theorem ef_8_512 (m : MethodId) (fo : Addr) : entryFrame m #[(.ref fo), (.int (512 : Int32))] 6 = mkF m 0 #[rv fo, iv (512 : Int32), .unset, .unset, .unset, .unset] [] := by first | (simp [entryFrame, mkF, argsToLocals, Value.category]; done) | rfl
set_option maxRecDepth 65536 in
set_option maxHeartbeats 40000000 in
theorem rm8_512 (l : Launch) (Z : State) (a0 : Array Value) (hw : ∀ d ∈ tables_1, d.before a0 Z = true) (ws : List Jvm.Cond) (fo : Addr) (aw : Addr) (ab : Addr) (nw : Nat) (nb : Nat) (W : Nat → Int64) (iB : Nat → Int32) (h0 : Heap) (n0 : Nat) (Z0 : n0 ≤ h0.size) (hnw : 9 ≤ nw ∧ nw ≤ 10) (hnb : 1 ≤ nb) (F_words : Fld Z h0 fo "com/example/nearside/nearside/slotted/delay/OfferSet" "words" "[J" (.ref aw)) (F_inBlocks : Fld Z h0 fo "com/example/nearside/nearside/slotted/delay/OfferSet" "inBlocks" "[I" (.ref ab)) (V_aw : OwnArr Z h0 aw .long nw (fun k => .long (W k))) (V_ab : OwnArr Z h0 ab .int nb (fun k => .int (iB k))) :
    OwnCtr l Z (⟨"com/example/nearside/nearside/slotted/delay/OfferSet", "countBelow", "(I)I"⟩ : MethodName) ws prog_158_method_15_code 6 (some .int) ({ frames := 1, cells := 0, slots := 0, locals := 13 } : Room) #[(.ref fo), (.int (512 : Int32))] h0 (fun v h L => v = some (.int (iB 0)) ∧ Fr n0 L ∧ h = h0) := by
  refine own_body (g0 := fun m => mkF m 0 #[rv fo, iv (512 : Int32), .unset, .unset, .unset, .unset] []) pn_8 (fun m => ef_8_512 m fo) ?_
  intro p e s m below meth c s₁ X0 hx hby hml hown hnm hZ e0 hret hlk
  have hml : c.maxLocals = 6 := hml
  have hown : s.vm.findClass "com/example/nearside/nearside/slotted/delay/OfferSet" = some m.cls := hown
  have hnm : meth.name = "countBelow" := hnm
  have hret : meth.sig.returnType = (some .int) := hret
  have N0 := Fr.nil n0
  show OwnFin p e below s _ _ _ (s₁.setTop (mkF m 0 #[rv fo, iv (512 : Int32), .unset, .unset, .unset, .unset] []))
  refine own_go (fun t_ k_ => XS.iloadN X0.here hx rfl (hb hby d8_0) rfl k_) ?_
  show OwnFin p e below s _ _ _ (s₁.setTop (mkF m 1 #[rv fo, iv (512 : Int32), .unset, .unset, .unset, .unset] [(.int (512 : Int32))]))
  refine own_go (fun t_ k_ => XS.bipush X0.here hx rfl (hb hby d8_1) k_) ?_
  show OwnFin p e below s _ _ _ (s₁.setTop (mkF m 3 #[rv fo, iv (512 : Int32), .unset, .unset, .unset, .unset] [(.int (6 : Int32)), (.int (512 : Int32))]))
  refine own_go (fun t_ k_ => XS.iushr X0.here hx rfl (hb hby d8_3) rfl k_) ?_
  show OwnFin p e below s _ _ _ (s₁.setTop (mkF m 4 #[rv fo, iv (512 : Int32), .unset, .unset, .unset, .unset] [(.int (8 : Int32))]))
  refine own_go (fun t_ k_ => XS.istoreN X0.here hx rfl (hb hby d8_4) rfl (l' := #[rv fo, iv (512 : Int32), iv (8 : Int32), .unset, .unset, .unset]) rfl k_) ?_
  show OwnFin p e below s _ _ _ (s₁.setTop (mkF m 5 #[rv fo, iv (512 : Int32), iv (8 : Int32), .unset, .unset, .unset] []))
  refine own_go (fun t_ k_ => XS.iloadN X0.here hx rfl (hb hby d8_5) rfl k_) ?_
  show OwnFin p e below s _ _ _ (s₁.setTop (mkF m 6 #[rv fo, iv (512 : Int32), iv (8 : Int32), .unset, .unset, .unset] [(.int (8 : Int32))]))
  refine own_go (fun t_ k_ => XS.aloadN X0.here hx rfl (hb hby d8_6) rfl rfl k_) ?_
  show OwnFin p e below s _ _ _ (s₁.setTop (mkF m 7 #[rv fo, iv (512 : Int32), iv (8 : Int32), .unset, .unset, .unset] [(.ref fo), (.int (8 : Int32))]))
  obtain ⟨T1, X1, e1, st1⟩ := getF X0 hx hZ hown (host := "") (Or.inl (hw _ (List.mem_of_getElem? (i := 12) rfl))) Via.refl e0 F_words (g := (mkF m 7 #[rv fo, iv (512 : Int32), iv (8 : Int32), .unset, .unset, .unset] [(.ref fo), (.int (8 : Int32))])) rfl rfl (hb hby d8_7)
  refine own_go st1 ?_
  show OwnFin p e below s _ _ _ (T1.setTop (mkF m 10 #[rv fo, iv (512 : Int32), iv (8 : Int32), .unset, .unset, .unset] [(.ref aw), (.int (8 : Int32))]))
  refine own_go (own_alength X1 hx hZ e1 V_aw (g := (mkF m 10 #[rv fo, iv (512 : Int32), iv (8 : Int32), .unset, .unset, .unset] [(.ref aw), (.int (8 : Int32))])) rfl rfl (hb hby d8_10)) ?_
  show OwnFin p e below s _ _ _ (T1.setTop (mkF m 11 #[rv fo, iv (512 : Int32), iv (8 : Int32), .unset, .unset, .unset] [(.int (Int32.ofNat nw)), (.int (8 : Int32))]))
  have hc11 : (8 : Int32) < (Int32.ofNat nw) := by rw [show (8 : Int32) = Int32.ofNat 8 from rfl, own_ltN (by decide) (by omega)]; omega
  refine own_go (fun t_ k_ => XS.icmpNo X1.here hx rfl (hb hby d8_11) rfl (tlt hc11).2.1 k_) ?_
  show OwnFin p e below s _ _ _ (T1.setTop (mkF m 14 #[rv fo, iv (512 : Int32), iv (8 : Int32), .unset, .unset, .unset] []))
  refine own_go (fun t_ k_ => XS.aloadN X1.here hx rfl (hb hby d8_14) rfl rfl k_) ?_
  show OwnFin p e below s _ _ _ (T1.setTop (mkF m 15 #[rv fo, iv (512 : Int32), iv (8 : Int32), .unset, .unset, .unset] [(.ref fo)]))
  obtain ⟨T2, X2, e2, st2⟩ := getF X1 hx hZ hown (host := "") (Or.inl (hw _ (List.mem_of_getElem? (i := 12) rfl))) Via.refl e1 F_words (g := (mkF m 15 #[rv fo, iv (512 : Int32), iv (8 : Int32), .unset, .unset, .unset] [(.ref fo)])) rfl rfl (hb hby d8_15)
  refine own_go st2 ?_
  show OwnFin p e below s _ _ _ (T2.setTop (mkF m 18 #[rv fo, iv (512 : Int32), iv (8 : Int32), .unset, .unset, .unset] [(.ref aw)]))
  refine own_go (fun t_ k_ => XS.iloadN X2.here hx rfl (hb hby d8_18) rfl k_) ?_
  show OwnFin p e below s _ _ _ (T2.setTop (mkF m 19 #[rv fo, iv (512 : Int32), iv (8 : Int32), .unset, .unset, .unset] [(.int (8 : Int32)), (.ref aw)]))
  refine own_go (own_laload X2 hx hZ e2 V_aw (i := 8) rfl (by omega) (g := (mkF m 19 #[rv fo, iv (512 : Int32), iv (8 : Int32), .unset, .unset, .unset] [(.int (8 : Int32)), (.ref aw)])) rfl rfl (hb hby d8_19)) ?_
  show OwnFin p e below s _ _ _ (T2.setTop (mkF m 20 #[rv fo, iv (512 : Int32), iv (8 : Int32), .unset, .unset, .unset] [(.long (W 8))]))
  refine own_go (fun t_ k_ => XS.lconst X2.here hx rfl (hb hby d8_20) k_) ?_
  show OwnFin p e below s _ _ _ (T2.setTop (mkF m 21 #[rv fo, iv (512 : Int32), iv (8 : Int32), .unset, .unset, .unset] [(.long (1 : Int64)), (.long (W 8))]))
  refine own_go (fun t_ k_ => XS.iloadN X2.here hx rfl (hb hby d8_21) rfl k_) ?_
  show OwnFin p e below s _ _ _ (T2.setTop (mkF m 22 #[rv fo, iv (512 : Int32), iv (8 : Int32), .unset, .unset, .unset] [(.int (512 : Int32)), (.long (1 : Int64)), (.long (W 8))]))
  refine own_go (fun t_ k_ => XS.lshl X2.here hx rfl (hb hby d8_22) rfl k_) ?_
  show OwnFin p e below s _ _ _ (T2.setTop (mkF m 23 #[rv fo, iv (512 : Int32), iv (8 : Int32), .unset, .unset, .unset] [(.long (1 : Int64)), (.long (W 8))]))
  refine own_go (fun t_ k_ => XS.lconst X2.here hx rfl (hb hby d8_23) k_) ?_
  show OwnFin p e below s _ _ _ (T2.setTop (mkF m 24 #[rv fo, iv (512 : Int32), iv (8 : Int32), .unset, .unset, .unset] [(.long (1 : Int64)), (.long (1 : Int64)), (.long (W 8))]))
  refine own_go (fun t_ k_ => XS.lsub X2.here hx rfl (hb hby d8_24) rfl k_) ?_
  show OwnFin p e below s _ _ _ (T2.setTop (mkF m 25 #[rv fo, iv (512 : Int32), iv (8 : Int32), .unset, .unset, .unset] [(.long (0 : Int64)), (.long (W 8))]))
  show OwnFin p e below s _ _ _ (T2.setTop (mkF m 25 #[rv fo, iv (512 : Int32), iv (8 : Int32), .unset, .unset, .unset] [(.long (0 : Int64)), (.long (W 8))]))
  refine own_go (fun t_ k_ => XS.land X2.here hx rfl (hb hby d8_25) rfl k_) ?_
  show OwnFin p e below s _ _ _ (T2.setTop (mkF m 26 #[rv fo, iv (512 : Int32), iv (8 : Int32), .unset, .unset, .unset] [(.long ((W 8) &&& (0 : Int64)))]))
  rw [own_and0]
  show OwnFin p e below s _ _ _ (T2.setTop (mkF m 26 #[rv fo, iv (512 : Int32), iv (8 : Int32), .unset, .unset, .unset] [(.long (0 : Int64))]))
  obtain ⟨v3, T3, L3, X3, hQ3, st3⟩ := own_callS X2 hx hZ (y := (⟨"java/lang/Long", "bitCount", "(J)I"⟩ : MethodName)) hown (hw _ (List.mem_of_getElem? (i := 34) rfl)) (hw _ (List.mem_of_getElem? (i := 35) rfl)) (hw _ (List.mem_of_getElem? (i := 36) rfl)) (hw _ (List.mem_of_getElem? (i := 37) rfl)) (by decide) (W := 0) (rm4 l Z a0 hw [] (0 : Int64) h0 n0 Z0) (by decide) (by decide) (g := (mkF m 26 #[rv fo, iv (512 : Int32), iv (8 : Int32), .unset, .unset, .unset] [(.long (0 : Int64))])) rfl (by rw [hml]; rfl) (argsL := [(.long (0 : Int64))]) (rest := []) (lenOf pd_8_3 rfl) rfl (by show 2 * 0 + _ ≤ _; exact Nat.le_of_eq rfl) (hb hby d8_26) e2 rfl (by decide) (by decide)
  obtain ⟨rfl, Nq3, e3⟩ := hQ3
  have N3 := Fr.app N0 Nq3
  refine own_go st3 ?_
  show OwnFin p e below s _ _ _ (T3.setTop (mkF m 29 #[rv fo, iv (512 : Int32), iv (8 : Int32), .unset, .unset, .unset] [(.int (own_bc (0 : Int64)))]))
  rw [own_bc0]
  show OwnFin p e below s _ _ _ (T3.setTop (mkF m 29 #[rv fo, iv (512 : Int32), iv (8 : Int32), .unset, .unset, .unset] [(.int (0 : Int32))]))
  refine own_go (fun t_ k_ => XS.goto X3.here hx rfl (pc0 := 29) (pc' := 33) rfl (hb hby d8_29) (by decide) (by decide) k_) ?_
  show OwnFin p e below s _ _ _ (T3.setTop (mkF m 33 #[rv fo, iv (512 : Int32), iv (8 : Int32), .unset, .unset, .unset] [(.int (0 : Int32))]))
  refine own_go (fun t_ k_ => XS.istoreN X3.here hx rfl (hb hby d8_33) rfl (l' := #[rv fo, iv (512 : Int32), iv (8 : Int32), iv (0 : Int32), .unset, .unset]) rfl k_) ?_
  show OwnFin p e below s _ _ _ (T3.setTop (mkF m 34 #[rv fo, iv (512 : Int32), iv (8 : Int32), iv (0 : Int32), .unset, .unset] []))
  refine own_go (fun t_ k_ => XS.iloadN X3.here hx rfl (hb hby d8_34) rfl k_) ?_
  show OwnFin p e below s _ _ _ (T3.setTop (mkF m 35 #[rv fo, iv (512 : Int32), iv (8 : Int32), iv (0 : Int32), .unset, .unset] [(.int (8 : Int32))]))
  refine own_go (fun t_ k_ => XS.bipush X3.here hx rfl (hb hby d8_35) k_) ?_
  show OwnFin p e below s _ _ _ (T3.setTop (mkF m 37 #[rv fo, iv (512 : Int32), iv (8 : Int32), iv (0 : Int32), .unset, .unset] [(.int (8 : Int32)), (.int (8 : Int32))]))
  refine own_go (fun t_ k_ => XS.idiv X3.here hx rfl (hb hby d8_37) rfl (by decide) k_) ?_
  show OwnFin p e below s _ _ _ (T3.setTop (mkF m 38 #[rv fo, iv (512 : Int32), iv (8 : Int32), iv (0 : Int32), .unset, .unset] [(.int (1 : Int32))]))
  refine own_go (fun t_ k_ => XS.istore X3.here hx rfl (hb hby d8_38) rfl (l' := #[rv fo, iv (512 : Int32), iv (8 : Int32), iv (0 : Int32), iv (1 : Int32), .unset]) rfl k_) ?_
  show OwnFin p e below s _ _ _ (T3.setTop (mkF m 40 #[rv fo, iv (512 : Int32), iv (8 : Int32), iv (0 : Int32), iv (1 : Int32), .unset] []))
  refine own_go (fun t_ k_ => XS.iconst X3.here hx rfl (hb hby d8_40) k_) ?_
  show OwnFin p e below s _ _ _ (T3.setTop (mkF m 41 #[rv fo, iv (512 : Int32), iv (8 : Int32), iv (0 : Int32), iv (1 : Int32), .unset] [(.int (0 : Int32))]))
  refine own_go (fun t_ k_ => XS.istore X3.here hx rfl (hb hby d8_41) rfl (l' := #[rv fo, iv (512 : Int32), iv (8 : Int32), iv (0 : Int32), iv (1 : Int32), iv (0 : Int32)]) rfl k_) ?_
  show OwnFin p e below s _ _ _ (T3.setTop (mkF m 43 #[rv fo, iv (512 : Int32), iv (8 : Int32), iv (0 : Int32), iv (1 : Int32), iv (0 : Int32)] []))
  refine own_go (fun t_ k_ => XS.iload X3.here hx rfl (hb hby d8_43) rfl k_) ?_
  show OwnFin p e below s _ _ _ (T3.setTop (mkF m 45 #[rv fo, iv (512 : Int32), iv (8 : Int32), iv (0 : Int32), iv (1 : Int32), iv (0 : Int32)] [(.int (0 : Int32))]))
  refine own_go (fun t_ k_ => XS.iload X3.here hx rfl (hb hby d8_45) rfl k_) ?_
  show OwnFin p e below s _ _ _ (T3.setTop (mkF m 47 #[rv fo, iv (512 : Int32), iv (8 : Int32), iv (0 : Int32), iv (1 : Int32), iv (0 : Int32)] [(.int (1 : Int32)), (.int (0 : Int32))]))
  refine own_go (fun t_ k_ => XS.icmpNo X3.here hx rfl (hb hby d8_47) rfl (tlt (by decide)).2.1 k_) ?_
  show OwnFin p e below s _ _ _ (T3.setTop (mkF m 50 #[rv fo, iv (512 : Int32), iv (8 : Int32), iv (0 : Int32), iv (1 : Int32), iv (0 : Int32)] []))
  refine own_go (fun t_ k_ => XS.iloadN X3.here hx rfl (hb hby d8_50) rfl k_) ?_
  show OwnFin p e below s _ _ _ (T3.setTop (mkF m 51 #[rv fo, iv (512 : Int32), iv (8 : Int32), iv (0 : Int32), iv (1 : Int32), iv (0 : Int32)] [(.int (0 : Int32))]))
  refine own_go (fun t_ k_ => XS.aloadN X3.here hx rfl (hb hby d8_51) rfl rfl k_) ?_
  show OwnFin p e below s _ _ _ (T3.setTop (mkF m 52 #[rv fo, iv (512 : Int32), iv (8 : Int32), iv (0 : Int32), iv (1 : Int32), iv (0 : Int32)] [(.ref fo), (.int (0 : Int32))]))
  obtain ⟨T4, X4, e4, st4⟩ := getF X3 hx hZ hown (host := "") (Or.inl (hw _ (List.mem_of_getElem? (i := 15) rfl))) Via.refl e3 F_inBlocks (g := (mkF m 52 #[rv fo, iv (512 : Int32), iv (8 : Int32), iv (0 : Int32), iv (1 : Int32), iv (0 : Int32)] [(.ref fo), (.int (0 : Int32))])) rfl rfl (hb hby d8_52)
  refine own_go st4 ?_
  show OwnFin p e below s _ _ _ (T4.setTop (mkF m 55 #[rv fo, iv (512 : Int32), iv (8 : Int32), iv (0 : Int32), iv (1 : Int32), iv (0 : Int32)] [(.ref ab), (.int (0 : Int32))]))
  refine own_go (fun t_ k_ => XS.iload X4.here hx rfl (hb hby d8_55) rfl k_) ?_
  show OwnFin p e below s _ _ _ (T4.setTop (mkF m 57 #[rv fo, iv (512 : Int32), iv (8 : Int32), iv (0 : Int32), iv (1 : Int32), iv (0 : Int32)] [(.int (0 : Int32)), (.ref ab), (.int (0 : Int32))]))
  refine own_go (own_iaload X4 hx hZ e4 V_ab (i := 0) rfl (by omega) (g := (mkF m 57 #[rv fo, iv (512 : Int32), iv (8 : Int32), iv (0 : Int32), iv (1 : Int32), iv (0 : Int32)] [(.int (0 : Int32)), (.ref ab), (.int (0 : Int32))])) rfl rfl (hb hby d8_57)) ?_
  show OwnFin p e below s _ _ _ (T4.setTop (mkF m 58 #[rv fo, iv (512 : Int32), iv (8 : Int32), iv (0 : Int32), iv (1 : Int32), iv (0 : Int32)] [(.int (iB 0)), (.int (0 : Int32))]))
  refine own_go (fun t_ k_ => XS.iadd X4.here hx rfl (hb hby d8_58) rfl k_) ?_
  show OwnFin p e below s _ _ _ (T4.setTop (mkF m 59 #[rv fo, iv (512 : Int32), iv (8 : Int32), iv (0 : Int32), iv (1 : Int32), iv (0 : Int32)] [(.int ((0 : Int32) + (iB 0)))]))
  rw [show (0 : Int32) + iB 0 = iB 0 from Int32.zero_add _]
  show OwnFin p e below s _ _ _ (T4.setTop (mkF m 59 #[rv fo, iv (512 : Int32), iv (8 : Int32), iv (0 : Int32), iv (1 : Int32), iv (0 : Int32)] [(.int (iB 0))]))
  refine own_go (fun t_ k_ => XS.istoreN X4.here hx rfl (hb hby d8_59) rfl (l' := #[rv fo, iv (512 : Int32), iv (8 : Int32), iv (iB 0), iv (1 : Int32), iv (0 : Int32)]) rfl k_) ?_
  show OwnFin p e below s _ _ _ (T4.setTop (mkF m 60 #[rv fo, iv (512 : Int32), iv (8 : Int32), iv (iB 0), iv (1 : Int32), iv (0 : Int32)] []))
  refine own_go (fun t_ k_ => XS.iinc X4.here hx rfl (hb hby d8_60) rfl (l' := #[rv fo, iv (512 : Int32), iv (8 : Int32), iv (iB 0), iv (1 : Int32), iv (1 : Int32)]) rfl k_) ?_
  show OwnFin p e below s _ _ _ (T4.setTop (mkF m 63 #[rv fo, iv (512 : Int32), iv (8 : Int32), iv (iB 0), iv (1 : Int32), iv (1 : Int32)] []))
  refine own_go (fun t_ k_ => XS.goto X4.here hx rfl (pc0 := 63) (pc' := 43) rfl (hb hby d8_63) (by decide) (by decide) k_) ?_
  show OwnFin p e below s _ _ _ (T4.setTop (mkF m 43 #[rv fo, iv (512 : Int32), iv (8 : Int32), iv (iB 0), iv (1 : Int32), iv (1 : Int32)] []))
  refine own_go (fun t_ k_ => XS.iload X4.here hx rfl (hb hby d8_43) rfl k_) ?_
  show OwnFin p e below s _ _ _ (T4.setTop (mkF m 45 #[rv fo, iv (512 : Int32), iv (8 : Int32), iv (iB 0), iv (1 : Int32), iv (1 : Int32)] [(.int (1 : Int32))]))
  refine own_go (fun t_ k_ => XS.iload X4.here hx rfl (hb hby d8_45) rfl k_) ?_
  show OwnFin p e below s _ _ _ (T4.setTop (mkF m 47 #[rv fo, iv (512 : Int32), iv (8 : Int32), iv (iB 0), iv (1 : Int32), iv (1 : Int32)] [(.int (1 : Int32)), (.int (1 : Int32))]))
  refine own_go (fun t_ k_ => XS.icmpYes X4.here hx rfl (pc0 := 47) (pc' := 66) rfl (hb hby d8_47) rfl (flt (by decide)).2.1 (by decide) (by decide) k_) ?_
  show OwnFin p e below s _ _ _ (T4.setTop (mkF m 66 #[rv fo, iv (512 : Int32), iv (8 : Int32), iv (iB 0), iv (1 : Int32), iv (1 : Int32)] []))
  refine own_go (fun t_ k_ => XS.iload X4.here hx rfl (hb hby d8_66) rfl k_) ?_
  show OwnFin p e below s _ _ _ (T4.setTop (mkF m 68 #[rv fo, iv (512 : Int32), iv (8 : Int32), iv (iB 0), iv (1 : Int32), iv (1 : Int32)] [(.int (1 : Int32))]))
  refine own_go (fun t_ k_ => XS.bipush X4.here hx rfl (hb hby d8_68) k_) ?_
  show OwnFin p e below s _ _ _ (T4.setTop (mkF m 70 #[rv fo, iv (512 : Int32), iv (8 : Int32), iv (iB 0), iv (1 : Int32), iv (1 : Int32)] [(.int (8 : Int32)), (.int (1 : Int32))]))
  refine own_go (fun t_ k_ => XS.imul X4.here hx rfl (hb hby d8_70) rfl k_) ?_
  show OwnFin p e below s _ _ _ (T4.setTop (mkF m 71 #[rv fo, iv (512 : Int32), iv (8 : Int32), iv (iB 0), iv (1 : Int32), iv (1 : Int32)] [(.int (8 : Int32))]))
  refine own_go (fun t_ k_ => XS.istore X4.here hx rfl (hb hby d8_71) rfl (l' := #[rv fo, iv (512 : Int32), iv (8 : Int32), iv (iB 0), iv (1 : Int32), iv (8 : Int32)]) rfl k_) ?_
  show OwnFin p e below s _ _ _ (T4.setTop (mkF m 73 #[rv fo, iv (512 : Int32), iv (8 : Int32), iv (iB 0), iv (1 : Int32), iv (8 : Int32)] []))
  refine own_go (fun t_ k_ => XS.iload X4.here hx rfl (hb hby d8_73) rfl k_) ?_
  show OwnFin p e below s _ _ _ (T4.setTop (mkF m 75 #[rv fo, iv (512 : Int32), iv (8 : Int32), iv (iB 0), iv (1 : Int32), iv (8 : Int32)] [(.int (8 : Int32))]))
  refine own_go (fun t_ k_ => XS.iloadN X4.here hx rfl (hb hby d8_75) rfl k_) ?_
  show OwnFin p e below s _ _ _ (T4.setTop (mkF m 76 #[rv fo, iv (512 : Int32), iv (8 : Int32), iv (iB 0), iv (1 : Int32), iv (8 : Int32)] [(.int (8 : Int32)), (.int (8 : Int32))]))
  refine own_go (fun t_ k_ => XS.icmpYes X4.here hx rfl (pc0 := 76) (pc' := 98) rfl (hb hby d8_76) rfl (flt (by decide)).2.1 (by decide) (by decide) k_) ?_
  show OwnFin p e below s _ _ _ (T4.setTop (mkF m 98 #[rv fo, iv (512 : Int32), iv (8 : Int32), iv (iB 0), iv (1 : Int32), iv (8 : Int32)] []))
  refine own_go (fun t_ k_ => XS.iloadN X4.here hx rfl (hb hby d8_98) rfl k_) ?_
  show OwnFin p e below s _ _ _ (T4.setTop (mkF m 99 #[rv fo, iv (512 : Int32), iv (8 : Int32), iv (iB 0), iv (1 : Int32), iv (8 : Int32)] [(.int (iB 0))]))
  refine own_ret X4 (v := some (.int (iB 0))) hlk (fun hh => by rw [hret] at hh; cases hh) (fun fs hr => own_retI X4 hx hret (hb hby d8_99) hr) (by decide) (by decide) ?_
  rw [e4]
  exact ⟨rfl, N3, rfl⟩
theorem d7_0 : decode prog_158_method_13_code 0 = .ok (.iload_n 1, 1) := by decide +kernel
theorem d7_1 : decode prog_158_method_13_code 1 = .ok (.iload_n 2, 1) := by decide +kernel
theorem d7_2 : decode prog_158_method_13_code 2 = .ok (.if_icmp .lt 7, 3) := by decide +kernel
theorem d7_5 : decode prog_158_method_13_code 5 = .ok (.iconst 0, 1) := by decide +kernel
theorem d7_6 : decode prog_158_method_13_code 6 = .ok (.goto 14, 3) := by decide +kernel
theorem d7_9 : decode prog_158_method_13_code 9 = .ok (.aload_n 0, 1) := by decide +kernel
theorem d7_10 : decode prog_158_method_13_code 10 = .ok (.iload_n 2, 1) := by decide +kernel
theorem d7_11 : decode prog_158_method_13_code 11 = .ok (.invokevirtual 61, 3) := by decide +kernel
theorem d7_14 : decode prog_158_method_13_code 14 = .ok (.aload_n 0, 1) := by decide +kernel
theorem d7_15 : decode prog_158_method_13_code 15 = .ok (.iload_n 1, 1) := by decide +kernel
theorem d7_16 : decode prog_158_method_13_code 16 = .ok (.invokevirtual 61, 3) := by decide +kernel
theorem d7_19 : decode prog_158_method_13_code 19 = .ok (.isub, 1) := by decide +kernel
theorem d7_20 : decode prog_158_method_13_code 20 = .ok (.ireturn, 1) := by decide +kernel
theorem pn_7 : plainFor (⟨"com/example/nearside/nearside/slotted/delay/OfferSet", "countBetween", "(II)I"⟩ : MethodName) = true := plainFor_of_name (by first | (simp [plainName, overriddenIn]; done) | decide +kernel)
theorem pd_7_6 : parseMethodDescriptor "(I)I" = some ⟨[.int], some .int⟩ := by decide +kernel
theorem ef_7 (m : MethodId) (a1 : Addr) (p2 : Int32) (p3 : Int32) : entryFrame m #[(.ref a1), (.int p2), (.int p3)] 3 = mkF m 0 #[rv a1, iv p2, iv p3] [] := by first | (simp [entryFrame, mkF, argsToLocals, Value.category]; done) | rfl
theorem ef_7_64 (m : MethodId) (fo : Addr) : entryFrame m #[(.ref fo), (.int (0 : Int32)), (.int (64 : Int32))] 3 = mkF m 0 #[rv fo, iv (0 : Int32), iv (64 : Int32)] [] := by first | (simp [entryFrame, mkF, argsToLocals, Value.category]; done) | rfl
set_option maxRecDepth 65536 in
set_option maxHeartbeats 40000000 in
theorem rm7_64 (l : Launch) (Z : State) (a0 : Array Value) (hw : ∀ d ∈ tables_1, d.before a0 Z = true) (ws : List Jvm.Cond) (fo : Addr) (aw : Addr) (ab : Addr) (nw : Nat) (nb : Nat) (W : Nat → Int64) (iB : Nat → Int32) (h0 : Heap) (n0 : Nat) (Z0 : n0 ≤ h0.size) (hnw : 2 ≤ nw ∧ nw ≤ 10) (hnb : 1 ≤ nb) (E_fo : Exa Z h0 fo "com/example/nearside/nearside/slotted/delay/OfferSet") (F_words : Fld Z h0 fo "com/example/nearside/nearside/slotted/delay/OfferSet" "words" "[J" (.ref aw)) (F_inBlocks : Fld Z h0 fo "com/example/nearside/nearside/slotted/delay/OfferSet" "inBlocks" "[I" (.ref ab)) (V_aw : OwnArr Z h0 aw .long nw (fun k => .long (W k))) (V_ab : OwnArr Z h0 ab .int nb (fun k => .int (iB k))) :
    OwnCtr l Z (⟨"com/example/nearside/nearside/slotted/delay/OfferSet", "countBetween", "(II)I"⟩ : MethodName) ws prog_158_method_13_code 3 (some .int) ({ frames := 2, cells := 0, slots := 0, locals := 31 } : Room) #[(.ref fo), (.int (0 : Int32)), (.int (64 : Int32))] h0 (fun v h L => v = some (.int (own_bc (W 0))) ∧ Fr n0 L ∧ h = h0) := by
  refine own_body (g0 := fun m => mkF m 0 #[rv fo, iv (0 : Int32), iv (64 : Int32)] []) pn_7 (fun m => ef_7_64 m fo) ?_
  intro p e s m below meth c s₁ X0 hx hby hml hown hnm hZ e0 hret hlk
  have hml : c.maxLocals = 3 := hml
  have hown : s.vm.findClass "com/example/nearside/nearside/slotted/delay/OfferSet" = some m.cls := hown
  have hnm : meth.name = "countBetween" := hnm
  have hret : meth.sig.returnType = (some .int) := hret
  have N0 := Fr.nil n0
  show OwnFin p e below s _ _ _ (s₁.setTop (mkF m 0 #[rv fo, iv (0 : Int32), iv (64 : Int32)] []))
  refine own_go (fun t_ k_ => XS.iloadN X0.here hx rfl (hb hby d7_0) rfl k_) ?_
  show OwnFin p e below s _ _ _ (s₁.setTop (mkF m 1 #[rv fo, iv (0 : Int32), iv (64 : Int32)] [(.int (0 : Int32))]))
  refine own_go (fun t_ k_ => XS.iloadN X0.here hx rfl (hb hby d7_1) rfl k_) ?_
  show OwnFin p e below s _ _ _ (s₁.setTop (mkF m 2 #[rv fo, iv (0 : Int32), iv (64 : Int32)] [(.int (64 : Int32)), (.int (0 : Int32))]))
  refine own_go (fun t_ k_ => XS.icmpYes X0.here hx rfl (pc0 := 2) (pc' := 9) rfl (hb hby d7_2) rfl (tlt (by decide)).1 (by decide) (by decide) k_) ?_
  show OwnFin p e below s _ _ _ (s₁.setTop (mkF m 9 #[rv fo, iv (0 : Int32), iv (64 : Int32)] []))
  refine own_go (fun t_ k_ => XS.aloadN X0.here hx rfl (hb hby d7_9) rfl rfl k_) ?_
  show OwnFin p e below s _ _ _ (s₁.setTop (mkF m 10 #[rv fo, iv (0 : Int32), iv (64 : Int32)] [(.ref fo)]))
  refine own_go (fun t_ k_ => XS.iloadN X0.here hx rfl (hb hby d7_10) rfl k_) ?_
  show OwnFin p e below s _ _ _ (s₁.setTop (mkF m 11 #[rv fo, iv (0 : Int32), iv (64 : Int32)] [(.int (64 : Int32)), (.ref fo)]))
  obtain ⟨v1, T1, L1, X1, hQ1, st1⟩ := own_callP X0 hx hZ (y := (⟨"com/example/nearside/nearside/slotted/delay/OfferSet", "countBelow", "(I)I"⟩ : MethodName)) hown (hw _ (List.mem_of_getElem? (i := 56) rfl)) (hw _ (List.mem_of_getElem? (i := 57) rfl)) (own_selP (hw _ (List.mem_of_getElem? (i := 57) rfl)) (hw _ (List.mem_of_getElem? (i := 58) rfl)) (own_nf (y' := (⟨"com/example/nearside/nearside/slotted/delay/OfferSet", "setAll", "([J)V"⟩ : MethodName)) (args := a0) ((hw _ (List.mem_of_getElem? (i := 30) rfl))) rfl) (by decide)) (hw _ (List.mem_of_getElem? (i := 58) rfl)) (hw _ (List.mem_of_getElem? (i := 5) rfl)) (hw _ (List.mem_of_getElem? (i := 59) rfl)) (by decide) (W := 0) (rm8_64 l Z a0 hw [] fo aw ab nw nb W iB h0 n0 Z0 (by omega) (by omega) F_words F_inBlocks V_aw V_ab) (by decide) (by decide) E_fo (g := (mkF m 11 #[rv fo, iv (0 : Int32), iv (64 : Int32)] [(.int (64 : Int32)), (.ref fo)])) rfl (by rw [hml]; rfl) (argsL := [(.int (64 : Int32))]) (rest := []) (lenOf pd_7_6 rfl) rfl (by show 2 * 0 + _ ≤ _; exact Nat.le_of_eq rfl) (hb hby d7_11) e0 rfl (by decide) (by decide)
  obtain ⟨rfl, Nq1, e1⟩ := hQ1
  have N1 := Fr.app N0 Nq1
  refine own_go st1 ?_
  show OwnFin p e below s _ _ _ (T1.setTop (mkF m 14 #[rv fo, iv (0 : Int32), iv (64 : Int32)] [(.int (own_bc (W 0)))]))
  refine own_go (fun t_ k_ => XS.aloadN X1.here hx rfl (hb hby d7_14) rfl rfl k_) ?_
  show OwnFin p e below s _ _ _ (T1.setTop (mkF m 15 #[rv fo, iv (0 : Int32), iv (64 : Int32)] [(.ref fo), (.int (own_bc (W 0)))]))
  refine own_go (fun t_ k_ => XS.iloadN X1.here hx rfl (hb hby d7_15) rfl k_) ?_
  show OwnFin p e below s _ _ _ (T1.setTop (mkF m 16 #[rv fo, iv (0 : Int32), iv (64 : Int32)] [(.int (0 : Int32)), (.ref fo), (.int (own_bc (W 0)))]))
  obtain ⟨v2, T2, L2, X2, hQ2, st2⟩ := own_callP X1 hx hZ (y := (⟨"com/example/nearside/nearside/slotted/delay/OfferSet", "countBelow", "(I)I"⟩ : MethodName)) hown (hw _ (List.mem_of_getElem? (i := 56) rfl)) (hw _ (List.mem_of_getElem? (i := 57) rfl)) (own_selP (hw _ (List.mem_of_getElem? (i := 57) rfl)) (hw _ (List.mem_of_getElem? (i := 58) rfl)) (own_nf (y' := (⟨"com/example/nearside/nearside/slotted/delay/OfferSet", "setAll", "([J)V"⟩ : MethodName)) (args := a0) ((hw _ (List.mem_of_getElem? (i := 30) rfl))) rfl) (by decide)) (hw _ (List.mem_of_getElem? (i := 58) rfl)) (hw _ (List.mem_of_getElem? (i := 5) rfl)) (hw _ (List.mem_of_getElem? (i := 59) rfl)) (by decide) (W := 1) (rm8_0 l Z a0 hw [] fo aw ab nw nb W iB h0 n0 Z0 (by omega) (by omega) F_words F_inBlocks V_aw V_ab) (by decide) (by decide) E_fo (g := (mkF m 16 #[rv fo, iv (0 : Int32), iv (64 : Int32)] [(.int (0 : Int32)), (.ref fo), (.int (own_bc (W 0)))])) rfl (by rw [hml]; rfl) (argsL := [(.int (0 : Int32))]) (rest := [(.int (own_bc (W 0)))]) (lenOf pd_7_6 rfl) rfl (by show 2 * 0 + _ ≤ _; exact Nat.le_of_eq rfl) (hb hby d7_16) e1 rfl (by decide) (by decide)
  obtain ⟨rfl, Nq2, e2⟩ := hQ2
  have N2 := Fr.app N1 Nq2
  refine own_go st2 ?_
  show OwnFin p e below s _ _ _ (T2.setTop (mkF m 19 #[rv fo, iv (0 : Int32), iv (64 : Int32)] [(.int (0 : Int32)), (.int (own_bc (W 0)))]))
  refine own_go (fun t_ k_ => XS.isub X2.here hx rfl (hb hby d7_19) rfl k_) ?_
  show OwnFin p e below s _ _ _ (T2.setTop (mkF m 20 #[rv fo, iv (0 : Int32), iv (64 : Int32)] [(.int ((own_bc (W 0)) - (0 : Int32)))]))
  rw [show ((own_bc (W 0)) - (0 : Int32)) = (own_bc (W 0)) from Int32.sub_zero _]
  show OwnFin p e below s _ _ _ (T2.setTop (mkF m 20 #[rv fo, iv (0 : Int32), iv (64 : Int32)] [(.int (own_bc (W 0)))]))
  refine own_ret X2 (v := some (.int (own_bc (W 0)))) hlk (fun hh => by rw [hret] at hh; cases hh) (fun fs hr => own_retI X2 hx hret (hb hby d7_20) hr) (by decide) (by decide) ?_
  rw [e2]
  exact ⟨rfl, N2, rfl⟩
theorem ef_7_512 (m : MethodId) (fo : Addr) : entryFrame m #[(.ref fo), (.int (0 : Int32)), (.int (512 : Int32))] 3 = mkF m 0 #[rv fo, iv (0 : Int32), iv (512 : Int32)] [] := by first | (simp [entryFrame, mkF, argsToLocals, Value.category]; done) | rfl
set_option maxRecDepth 65536 in
set_option maxHeartbeats 40000000 in
theorem rm7_512 (l : Launch) (Z : State) (a0 : Array Value) (hw : ∀ d ∈ tables_1, d.before a0 Z = true) (ws : List Jvm.Cond) (fo : Addr) (aw : Addr) (ab : Addr) (nw : Nat) (nb : Nat) (W : Nat → Int64) (iB : Nat → Int32) (h0 : Heap) (n0 : Nat) (Z0 : n0 ≤ h0.size) (hnw : 9 ≤ nw ∧ nw ≤ 10) (hnb : 1 ≤ nb) (E_fo : Exa Z h0 fo "com/example/nearside/nearside/slotted/delay/OfferSet") (F_words : Fld Z h0 fo "com/example/nearside/nearside/slotted/delay/OfferSet" "words" "[J" (.ref aw)) (F_inBlocks : Fld Z h0 fo "com/example/nearside/nearside/slotted/delay/OfferSet" "inBlocks" "[I" (.ref ab)) (V_aw : OwnArr Z h0 aw .long nw (fun k => .long (W k))) (V_ab : OwnArr Z h0 ab .int nb (fun k => .int (iB k))) :
    OwnCtr l Z (⟨"com/example/nearside/nearside/slotted/delay/OfferSet", "countBetween", "(II)I"⟩ : MethodName) ws prog_158_method_13_code 3 (some .int) ({ frames := 2, cells := 0, slots := 0, locals := 31 } : Room) #[(.ref fo), (.int (0 : Int32)), (.int (512 : Int32))] h0 (fun v h L => v = some (.int (iB 0)) ∧ Fr n0 L ∧ h = h0) := by
  refine own_body (g0 := fun m => mkF m 0 #[rv fo, iv (0 : Int32), iv (512 : Int32)] []) pn_7 (fun m => ef_7_512 m fo) ?_
  intro p e s m below meth c s₁ X0 hx hby hml hown hnm hZ e0 hret hlk
  have hml : c.maxLocals = 3 := hml
  have hown : s.vm.findClass "com/example/nearside/nearside/slotted/delay/OfferSet" = some m.cls := hown
  have hnm : meth.name = "countBetween" := hnm
  have hret : meth.sig.returnType = (some .int) := hret
  have N0 := Fr.nil n0
  show OwnFin p e below s _ _ _ (s₁.setTop (mkF m 0 #[rv fo, iv (0 : Int32), iv (512 : Int32)] []))
  refine own_go (fun t_ k_ => XS.iloadN X0.here hx rfl (hb hby d7_0) rfl k_) ?_
  show OwnFin p e below s _ _ _ (s₁.setTop (mkF m 1 #[rv fo, iv (0 : Int32), iv (512 : Int32)] [(.int (0 : Int32))]))
  refine own_go (fun t_ k_ => XS.iloadN X0.here hx rfl (hb hby d7_1) rfl k_) ?_
  show OwnFin p e below s _ _ _ (s₁.setTop (mkF m 2 #[rv fo, iv (0 : Int32), iv (512 : Int32)] [(.int (512 : Int32)), (.int (0 : Int32))]))
  refine own_go (fun t_ k_ => XS.icmpYes X0.here hx rfl (pc0 := 2) (pc' := 9) rfl (hb hby d7_2) rfl (tlt (by decide)).1 (by decide) (by decide) k_) ?_
  show OwnFin p e below s _ _ _ (s₁.setTop (mkF m 9 #[rv fo, iv (0 : Int32), iv (512 : Int32)] []))
  refine own_go (fun t_ k_ => XS.aloadN X0.here hx rfl (hb hby d7_9) rfl rfl k_) ?_
  show OwnFin p e below s _ _ _ (s₁.setTop (mkF m 10 #[rv fo, iv (0 : Int32), iv (512 : Int32)] [(.ref fo)]))
  refine own_go (fun t_ k_ => XS.iloadN X0.here hx rfl (hb hby d7_10) rfl k_) ?_
  show OwnFin p e below s _ _ _ (s₁.setTop (mkF m 11 #[rv fo, iv (0 : Int32), iv (512 : Int32)] [(.int (512 : Int32)), (.ref fo)]))
  obtain ⟨v1, T1, L1, X1, hQ1, st1⟩ := own_callP X0 hx hZ (y := (⟨"com/example/nearside/nearside/slotted/delay/OfferSet", "countBelow", "(I)I"⟩ : MethodName)) hown (hw _ (List.mem_of_getElem? (i := 56) rfl)) (hw _ (List.mem_of_getElem? (i := 57) rfl)) (own_selP (hw _ (List.mem_of_getElem? (i := 57) rfl)) (hw _ (List.mem_of_getElem? (i := 58) rfl)) (own_nf (y' := (⟨"com/example/nearside/nearside/slotted/delay/OfferSet", "setAll", "([J)V"⟩ : MethodName)) (args := a0) ((hw _ (List.mem_of_getElem? (i := 30) rfl))) rfl) (by decide)) (hw _ (List.mem_of_getElem? (i := 58) rfl)) (hw _ (List.mem_of_getElem? (i := 5) rfl)) (hw _ (List.mem_of_getElem? (i := 59) rfl)) (by decide) (W := 0) (rm8_512 l Z a0 hw [] fo aw ab nw nb W iB h0 n0 Z0 (by omega) (by omega) F_words F_inBlocks V_aw V_ab) (by decide) (by decide) E_fo (g := (mkF m 11 #[rv fo, iv (0 : Int32), iv (512 : Int32)] [(.int (512 : Int32)), (.ref fo)])) rfl (by rw [hml]; rfl) (argsL := [(.int (512 : Int32))]) (rest := []) (lenOf pd_7_6 rfl) rfl (by show 2 * 0 + _ ≤ _; exact Nat.le_of_eq rfl) (hb hby d7_11) e0 rfl (by decide) (by decide)
  obtain ⟨rfl, Nq1, e1⟩ := hQ1
  have N1 := Fr.app N0 Nq1
  refine own_go st1 ?_
  show OwnFin p e below s _ _ _ (T1.setTop (mkF m 14 #[rv fo, iv (0 : Int32), iv (512 : Int32)] [(.int (iB 0))]))
  refine own_go (fun t_ k_ => XS.aloadN X1.here hx rfl (hb hby d7_14) rfl rfl k_) ?_
  show OwnFin p e below s _ _ _ (T1.setTop (mkF m 15 #[rv fo, iv (0 : Int32), iv (512 : Int32)] [(.ref fo), (.int (iB 0))]))
  refine own_go (fun t_ k_ => XS.iloadN X1.here hx rfl (hb hby d7_15) rfl k_) ?_
  show OwnFin p e below s _ _ _ (T1.setTop (mkF m 16 #[rv fo, iv (0 : Int32), iv (512 : Int32)] [(.int (0 : Int32)), (.ref fo), (.int (iB 0))]))
  obtain ⟨v2, T2, L2, X2, hQ2, st2⟩ := own_callP X1 hx hZ (y := (⟨"com/example/nearside/nearside/slotted/delay/OfferSet", "countBelow", "(I)I"⟩ : MethodName)) hown (hw _ (List.mem_of_getElem? (i := 56) rfl)) (hw _ (List.mem_of_getElem? (i := 57) rfl)) (own_selP (hw _ (List.mem_of_getElem? (i := 57) rfl)) (hw _ (List.mem_of_getElem? (i := 58) rfl)) (own_nf (y' := (⟨"com/example/nearside/nearside/slotted/delay/OfferSet", "setAll", "([J)V"⟩ : MethodName)) (args := a0) ((hw _ (List.mem_of_getElem? (i := 30) rfl))) rfl) (by decide)) (hw _ (List.mem_of_getElem? (i := 58) rfl)) (hw _ (List.mem_of_getElem? (i := 5) rfl)) (hw _ (List.mem_of_getElem? (i := 59) rfl)) (by decide) (W := 1) (rm8_0 l Z a0 hw [] fo aw ab nw nb W iB h0 n0 Z0 (by omega) (by omega) F_words F_inBlocks V_aw V_ab) (by decide) (by decide) E_fo (g := (mkF m 16 #[rv fo, iv (0 : Int32), iv (512 : Int32)] [(.int (0 : Int32)), (.ref fo), (.int (iB 0))])) rfl (by rw [hml]; rfl) (argsL := [(.int (0 : Int32))]) (rest := [(.int (iB 0))]) (lenOf pd_7_6 rfl) rfl (by show 2 * 0 + _ ≤ _; exact Nat.le_of_eq rfl) (hb hby d7_16) e1 rfl (by decide) (by decide)
  obtain ⟨rfl, Nq2, e2⟩ := hQ2
  have N2 := Fr.app N1 Nq2
  refine own_go st2 ?_
  show OwnFin p e below s _ _ _ (T2.setTop (mkF m 19 #[rv fo, iv (0 : Int32), iv (512 : Int32)] [(.int (0 : Int32)), (.int (iB 0))]))
  refine own_go (fun t_ k_ => XS.isub X2.here hx rfl (hb hby d7_19) rfl k_) ?_
  show OwnFin p e below s _ _ _ (T2.setTop (mkF m 20 #[rv fo, iv (0 : Int32), iv (512 : Int32)] [(.int ((iB 0) - (0 : Int32)))]))
  rw [show ((iB 0) - (0 : Int32)) = (iB 0) from Int32.sub_zero _]
  show OwnFin p e below s _ _ _ (T2.setTop (mkF m 20 #[rv fo, iv (0 : Int32), iv (512 : Int32)] [(.int (iB 0))]))
  refine own_ret X2 (v := some (.int (iB 0))) hlk (fun hh => by rw [hret] at hh; cases hh) (fun fs hr => own_retI X2 hx hret (hb hby d7_20) hr) (by decide) (by decide) ?_
  rw [e2]
  exact ⟨rfl, N2, rfl⟩
theorem rm7 (l : Launch) (Z : State) (a0 : Array Value) (hw : ∀ d ∈ tables_1, d.before a0 Z = true) (ws : List Jvm.Cond) (fo : Addr) (pe : Int32) (aw : Addr) (ab : Addr) (nm : Nat) (nw : Nat) (nb : Nat) (half : Nat) (W : Nat → Int64) (iB : Nat → Int32) (h0 : Heap) (n0 : Nat) (Z0 : n0 ≤ h0.size) (hpe : pe = Int32.ofNat half) (hD : own_dim nm nw nb half) (E_fo : Exa Z h0 fo "com/example/nearside/nearside/slotted/delay/OfferSet") (F_words : Fld Z h0 fo "com/example/nearside/nearside/slotted/delay/OfferSet" "words" "[J" (.ref aw)) (F_inBlocks : Fld Z h0 fo "com/example/nearside/nearside/slotted/delay/OfferSet" "inBlocks" "[I" (.ref ab)) (V_aw : OwnArr Z h0 aw .long nw (fun k => .long (W k))) (V_ab : OwnArr Z h0 ab .int nb (fun k => .int (iB k))) :
    OwnCtr l Z (⟨"com/example/nearside/nearside/slotted/delay/OfferSet", "countBetween", "(II)I"⟩ : MethodName) ws prog_158_method_13_code 3 (some .int) ({ frames := 2, cells := 0, slots := 0, locals := 31 } : Room) #[.ref fo, .int (0 : Int32), .int pe] h0 (fun v h L => v = some (.int (own_low nw W iB)) ∧ Fr n0 L ∧ h = h0) := by
  subst hpe
  rcases hD with ⟨rfl, rfl, rfl, rfl⟩ | ⟨rfl, rfl, rfl, rfl⟩
  · have e : own_low 2 W iB = own_bc (W 0) := if_pos rfl
    rw [e]
    exact rm7_64 l Z a0 hw ws fo aw ab 2 1 W iB h0 n0 Z0 (by decide) (by decide) E_fo F_words F_inBlocks V_aw V_ab
  · have e : own_low 10 W iB = iB 0 := if_neg (by decide)
    rw [e]
    exact rm7_512 l Z a0 hw ws fo aw ab 10 2 W iB h0 n0 Z0 (by decide) (by decide) E_fo F_words F_inBlocks V_aw V_ab
theorem rm5 (l : Launch) (Z : State) (a0 : Array Value) (hw : ∀ d ∈ tables_1, d.before a0 Z = true) (ws : List Jvm.Cond) (fo : Addr) (pf : Int32) (pe : Int32) (aw : Addr) (nm : Nat) (nw : Nat) (nb : Nat) (half : Nat) (pr : Nat) (r : Nat) (W : Nat → Int64) (h0 : Heap) (n0 : Nat) (Z0 : n0 ≤ h0.size) (hf : pf = Int32.ofNat (r * pr)) (he : pe = Int32.ofNat ((r + 1) * pr)) (hP : own_P pr) (hD : own_dim nm nw nb half) (hr : r < nm / pr) (F_words : Fld Z h0 fo "com/example/nearside/nearside/slotted/delay/OfferSet" "words" "[J" (.ref aw)) (V_aw : OwnArr Z h0 aw .long nw (fun k => .long (W k))) :
    OwnCtr l Z (⟨"com/example/nearside/nearside/slotted/delay/OfferSet", "countIn", "(II)I"⟩ : MethodName) ws prog_158_method_14_code 9 (some .int) ({ frames := 1, cells := 0, slots := 0, locals := 20 } : Room) #[.ref fo, .int pf, .int pe] h0 (fun v h L => v = some (.int (own_ci W pr r)) ∧ Fr n0 L ∧ h = h0) := by
  obtain ⟨d1, d2, d3, d4, d5⟩ := own_d3 hP hD hr
  by_cases h : pr = 128
  · have e : own_ci W pr r = own_bc (W (r * pr / 64) &&& own_fm pf) + own_bc (W (r * pr / 64 + 1) &&& own_lm pe) := by rw [own_ci, if_pos h, hf, he]
    rw [e]
    exact rm5_B l Z a0 hw ws fo pf pe aw nw (r * pr) ((r + 1) * pr) W h0 n0 Z0 hf he d3 d1 d2 (d4 h).1 (d4 h).2 F_words V_aw
  · have e : own_ci W pr r = own_bc ((W (r * pr / 64) &&& own_fm pf) &&& own_lm pe) := by rw [own_ci, if_neg h, hf, he]
    rw [e]
    exact rm5_S l Z a0 hw ws fo pf pe aw nw (r * pr) ((r + 1) * pr) W h0 n0 Z0 hf he d3 d1 d2 (d5 h).1 (d5 h).2 F_words V_aw
theorem own_blk {nm nw nb half : Nat} (hD : own_dim nm nw nb half) : nar .boolean (Int32.ofNat (nb - 1)) = (0 : Int32) ↔ nb = 1 := by
  rcases hD with ⟨rfl, rfl, rfl, rfl⟩ | ⟨rfl, rfl, rfl, rfl⟩ <;> decide
theorem d1_0 : decode prog_158_method_1_code 0 = .ok (.aload_n 0, 1) := by decide +kernel
theorem d1_1 : decode prog_158_method_1_code 1 = .ok (.invokespecial 1, 3) := by decide +kernel
theorem d1_4 : decode prog_158_method_1_code 4 = .ok (.aload_n 0, 1) := by decide +kernel
theorem d1_5 : decode prog_158_method_1_code 5 = .ok (.iload_n 1, 1) := by decide +kernel
theorem d1_6 : decode prog_158_method_1_code 6 = .ok (.bipush 63, 2) := by decide +kernel
theorem d1_8 : decode prog_158_method_1_code 8 = .ok (.iadd, 1) := by decide +kernel
theorem d1_9 : decode prog_158_method_1_code 9 = .ok (.bipush 6, 2) := by decide +kernel
theorem d1_11 : decode prog_158_method_1_code 11 = .ok (.iushr, 1) := by decide +kernel
theorem d1_12 : decode prog_158_method_1_code 12 = .ok (.newarray .long, 2) := by decide +kernel
theorem d1_14 : decode prog_158_method_1_code 14 = .ok (.putfield 7, 3) := by decide +kernel
theorem d1_17 : decode prog_158_method_1_code 17 = .ok (.aload_n 0, 1) := by decide +kernel
theorem d1_18 : decode prog_158_method_1_code 18 = .ok (.aload_n 0, 1) := by decide +kernel
theorem d1_19 : decode prog_158_method_1_code 19 = .ok (.getfield 7, 3) := by decide +kernel
theorem d1_22 : decode prog_158_method_1_code 22 = .ok (.arraylength, 1) := by decide +kernel
theorem d1_23 : decode prog_158_method_1_code 23 = .ok (.bipush 8, 2) := by decide +kernel
theorem d1_25 : decode prog_158_method_1_code 25 = .ok (.iadd, 1) := by decide +kernel
theorem d1_26 : decode prog_158_method_1_code 26 = .ok (.iconst 1, 1) := by decide +kernel
theorem d1_27 : decode prog_158_method_1_code 27 = .ok (.isub, 1) := by decide +kernel
theorem d1_28 : decode prog_158_method_1_code 28 = .ok (.bipush 8, 2) := by decide +kernel
theorem d1_30 : decode prog_158_method_1_code 30 = .ok (.idiv, 1) := by decide +kernel
theorem d1_31 : decode prog_158_method_1_code 31 = .ok (.newarray .int, 2) := by decide +kernel
theorem d1_33 : decode prog_158_method_1_code 33 = .ok (.putfield 13, 3) := by decide +kernel
theorem d1_36 : decode prog_158_method_1_code 36 = .ok (.aload_n 0, 1) := by decide +kernel
theorem d1_37 : decode prog_158_method_1_code 37 = .ok (.aload_n 0, 1) := by decide +kernel
theorem d1_38 : decode prog_158_method_1_code 38 = .ok (.getfield 13, 3) := by decide +kernel
theorem d1_41 : decode prog_158_method_1_code 41 = .ok (.arraylength, 1) := by decide +kernel
theorem d1_42 : decode prog_158_method_1_code 42 = .ok (.iconst 1, 1) := by decide +kernel
theorem d1_43 : decode prog_158_method_1_code 43 = .ok (.if_icmp .le 7, 3) := by decide +kernel
theorem d1_46 : decode prog_158_method_1_code 46 = .ok (.iconst 1, 1) := by decide +kernel
theorem d1_47 : decode prog_158_method_1_code 47 = .ok (.goto 4, 3) := by decide +kernel
theorem d1_50 : decode prog_158_method_1_code 50 = .ok (.iconst 0, 1) := by decide +kernel
theorem d1_51 : decode prog_158_method_1_code 51 = .ok (.putfield 17, 3) := by decide +kernel
theorem d1_54 : decode prog_158_method_1_code 54 = .ok (.aload_n 0, 1) := by decide +kernel
theorem d1_55 : decode prog_158_method_1_code 55 = .ok (.iload_n 1, 1) := by decide +kernel
theorem d1_56 : decode prog_158_method_1_code 56 = .ok (.iload_n 2, 1) := by decide +kernel
theorem d1_57 : decode prog_158_method_1_code 57 = .ok (.idiv, 1) := by decide +kernel
theorem d1_58 : decode prog_158_method_1_code 58 = .ok (.newarray .int, 2) := by decide +kernel
theorem d1_60 : decode prog_158_method_1_code 60 = .ok (.putfield 21, 3) := by decide +kernel
theorem d1_63 : decode prog_158_method_1_code 63 = .ok (.aload_n 0, 1) := by decide +kernel
theorem d1_64 : decode prog_158_method_1_code 64 = .ok (.aload_n 0, 1) := by decide +kernel
theorem d1_65 : decode prog_158_method_1_code 65 = .ok (.getfield 21, 3) := by decide +kernel
theorem d1_68 : decode prog_158_method_1_code 68 = .ok (.arraylength, 1) := by decide +kernel
theorem d1_69 : decode prog_158_method_1_code 69 = .ok (.bipush 63, 2) := by decide +kernel
theorem d1_71 : decode prog_158_method_1_code 71 = .ok (.iadd, 1) := by decide +kernel
theorem d1_72 : decode prog_158_method_1_code 72 = .ok (.bipush 6, 2) := by decide +kernel
theorem d1_74 : decode prog_158_method_1_code 74 = .ok (.iushr, 1) := by decide +kernel
theorem d1_75 : decode prog_158_method_1_code 75 = .ok (.newarray .long, 2) := by decide +kernel
theorem d1_77 : decode prog_158_method_1_code 77 = .ok (.putfield 24, 3) := by decide +kernel
theorem d1_80 : decode prog_158_method_1_code 80 = .ok (.aload_n 0, 1) := by decide +kernel
theorem d1_81 : decode prog_158_method_1_code 81 = .ok (.iload_n 1, 1) := by decide +kernel
theorem d1_82 : decode prog_158_method_1_code 82 = .ok (.newarray .int, 2) := by decide +kernel
theorem d1_84 : decode prog_158_method_1_code 84 = .ok (.putfield 27, 3) := by decide +kernel
theorem d1_87 : decode prog_158_method_1_code 87 = .ok (.aload_n 0, 1) := by decide +kernel
theorem d1_88 : decode prog_158_method_1_code 88 = .ok (.iload_n 2, 1) := by decide +kernel
theorem d1_89 : decode prog_158_method_1_code 89 = .ok (.putfield 30, 3) := by decide +kernel
theorem d1_92 : decode prog_158_method_1_code 92 = .ok (.iconst 0, 1) := by decide +kernel
theorem d1_93 : decode prog_158_method_1_code 93 = .ok (.istore_n 3, 1) := by decide +kernel
theorem d1_94 : decode prog_158_method_1_code 94 = .ok (.iload_n 3, 1) := by decide +kernel
theorem d1_95 : decode prog_158_method_1_code 95 = .ok (.iload_n 1, 1) := by decide +kernel
theorem d1_96 : decode prog_158_method_1_code 96 = .ok (.if_icmp .ge 18, 3) := by decide +kernel
theorem d1_99 : decode prog_158_method_1_code 99 = .ok (.aload_n 0, 1) := by decide +kernel
theorem d1_100 : decode prog_158_method_1_code 100 = .ok (.getfield 27, 3) := by decide +kernel
theorem d1_103 : decode prog_158_method_1_code 103 = .ok (.iload_n 3, 1) := by decide +kernel
theorem d1_104 : decode prog_158_method_1_code 104 = .ok (.iload_n 3, 1) := by decide +kernel
theorem d1_105 : decode prog_158_method_1_code 105 = .ok (.iload_n 2, 1) := by decide +kernel
theorem d1_106 : decode prog_158_method_1_code 106 = .ok (.idiv, 1) := by decide +kernel
theorem d1_107 : decode prog_158_method_1_code 107 = .ok (.iastore, 1) := by decide +kernel
theorem d1_108 : decode prog_158_method_1_code 108 = .ok (.iinc 3 1, 3) := by decide +kernel
theorem d1_111 : decode prog_158_method_1_code 111 = .ok (.goto (-17), 3) := by decide +kernel
theorem d1_114 : decode prog_158_method_1_code 114 = .ok (.return_, 1) := by decide +kernel
theorem pn_1 : plainFor (⟨"com/example/nearside/nearside/slotted/delay/OfferSet", "<init>", "(II)V"⟩ : MethodName) = true := plainFor_of_name (by first | (simp [plainName, overriddenIn]; done) | decide +kernel)
theorem ef_1 (m : MethodId) (fo : Addr) (pm : Int32) (pp : Int32) : entryFrame m #[(.ref fo), (.int pm), (.int pp)] 4 = mkF m 0 #[rv fo, iv pm, iv pp, .unset] [] := by first | (simp [entryFrame, mkF, argsToLocals, Value.category]; done) | rfl
set_option maxRecDepth 65536 in
set_option maxHeartbeats 40000000 in
theorem rm1 (l : Launch) (Z : State) (a0 : Array Value) (hw : ∀ d ∈ tables_1, d.before a0 Z = true) (ws : List Jvm.Cond) (fo : Addr) (pm : Int32) (pp : Int32) (nm : Nat) (nw : Nat) (nb : Nat) (half : Nat) (pr : Nat) {u_words : Value} {u_inBlocks : Value} {u_inRacks : Value} {u_racks : Value} {u_rackOf : Value} {u_blocked : Value} {u_perRack : Value} (h0 : Heap) (n0 : Nat) (Z0 : n0 ≤ h0.size) (hpm : pm = Int32.ofNat nm) (hpp : pp = Int32.ofNat pr) (hP : own_P pr) (hD : own_dim nm nw nb half) (E_fo : Exa Z h0 fo "com/example/nearside/nearside/slotted/delay/OfferSet") (g_fo : n0 ≤ fo) (F_words : Fld Z h0 fo "com/example/nearside/nearside/slotted/delay/OfferSet" "words" "[J" u_words) (F_inBlocks : Fld Z h0 fo "com/example/nearside/nearside/slotted/delay/OfferSet" "inBlocks" "[I" u_inBlocks) (F_inRacks : Fld Z h0 fo "com/example/nearside/nearside/slotted/delay/OfferSet" "inRacks" "[I" u_inRacks) (F_racks : Fld Z h0 fo "com/example/nearside/nearside/slotted/delay/OfferSet" "racks" "[J" u_racks) (F_rackOf : Fld Z h0 fo "com/example/nearside/nearside/slotted/delay/OfferSet" "rackOf" "[I" u_rackOf) (F_blocked : Fld Z h0 fo "com/example/nearside/nearside/slotted/delay/OfferSet" "blocked" "Z" u_blocked) (F_perRack : Fld Z h0 fo "com/example/nearside/nearside/slotted/delay/OfferSet" "perRack" "I" u_perRack) (F_size : Fld Z h0 fo "com/example/nearside/nearside/slotted/delay/OfferSet" "size" "I" (.int (0 : Int32))) :
    OwnCtr l Z (⟨"com/example/nearside/nearside/slotted/delay/OfferSet", "<init>", "(II)V"⟩ : MethodName) ws prog_158_method_1_code 4 none ({ frames := 1, cells := 5, slots := 1302, locals := 12 } : Room) #[(.ref fo), (.int pm), (.int pp)] h0 (fun v h L => v = none ∧ Fr n0 L ∧ Keep h0 h [fo] ∧ Exa Z h fo "com/example/nearside/nearside/slotted/delay/OfferSet" ∧ ∃ aw ab ar ak ao : Addr, Fld Z h fo "com/example/nearside/nearside/slotted/delay/OfferSet" "words" "[J" (.ref aw) ∧ Fld Z h fo "com/example/nearside/nearside/slotted/delay/OfferSet" "inBlocks" "[I" (.ref ab) ∧ Fld Z h fo "com/example/nearside/nearside/slotted/delay/OfferSet" "inRacks" "[I" (.ref ar) ∧ Fld Z h fo "com/example/nearside/nearside/slotted/delay/OfferSet" "racks" "[J" (.ref ak) ∧ Fld Z h fo "com/example/nearside/nearside/slotted/delay/OfferSet" "rackOf" "[I" (.ref ao) ∧ Fld Z h fo "com/example/nearside/nearside/slotted/delay/OfferSet" "blocked" "Z" (.int (nar .boolean (Int32.ofNat (nb - 1)))) ∧ Fld Z h fo "com/example/nearside/nearside/slotted/delay/OfferSet" "perRack" "I" (.int pp) ∧ Fld Z h fo "com/example/nearside/nearside/slotted/delay/OfferSet" "size" "I" (.int (0 : Int32)) ∧ h0.size ≤ aw ∧ h0.size ≤ ab ∧ h0.size ≤ ar ∧ h0.size ≤ ak ∧ h0.size ≤ ao ∧ aw ≠ ab ∧ aw ≠ ar ∧ aw ≠ ak ∧ aw ≠ ao ∧ ab ≠ ar ∧ ab ≠ ak ∧ ab ≠ ao ∧ ar ≠ ak ∧ ar ≠ ao ∧ ak ≠ ao ∧ OwnArr Z h aw .long nw (fun _ => .long (0 : Int64)) ∧ OwnArr Z h ab .int nb (fun _ => .int (0 : Int32)) ∧ OwnArr Z h ar .int (nm / pr) (fun _ => .int (0 : Int32)) ∧ OwnArr Z h ak .long ((nm / pr + 63) / 64) (fun _ => .long (0 : Int64)) ∧ OwnArr Z h ao .int nm (fun k => .int (Int32.ofNat (k / pr)))) := by
  refine own_body (g0 := fun m => mkF m 0 #[rv fo, iv pm, iv pp, .unset] []) pn_1 (fun m => ef_1 m fo pm pp) ?_
  intro p e s m below meth c s₁ X0 hx hby hml hown hnm hZ e0 hret hlk
  have hml : c.maxLocals = 4 := hml
  have hown : s.vm.findClass "com/example/nearside/nearside/slotted/delay/OfferSet" = some m.cls := hown
  have hnm : meth.name = "<init>" := hnm
  have hret : meth.sig.returnType = none := hret
  have N0 := Fr.nil n0
  have K0 := Keep.refl h0 [fo]
  show OwnFin p e below s _ _ _ (s₁.setTop (mkF m 0 #[rv fo, iv pm, iv pp, .unset] []))
  have d0 := own_d0 hD
  have d1 := own_d1 hP hD
  refine own_go (fun t_ k_ => XS.aloadN X0.here hx rfl (hb hby d1_0) rfl rfl k_) ?_
  show OwnFin p e below s _ _ _ (s₁.setTop (mkF m 1 #[rv fo, iv pm, iv pp, .unset] [(.ref fo)]))
  obtain ⟨T1, X1, e1, st1⟩ := initO X0 hx hZ hown (hw _ (List.mem_of_getElem? (i := 9) rfl)) (hw _ (List.mem_of_getElem? (i := 10) rfl)) (hw _ (List.mem_of_getElem? (i := 11) rfl)) e0 (g := (mkF m 1 #[rv fo, iv pm, iv pp, .unset] [(.ref fo)])) rfl (by rw [hml]; rfl) rfl (hb hby d1_1) (by decide) (W := 0) (by show 2 * 0 + _ ≤ _; exact Nat.le_of_eq rfl) (by decide)
  refine own_go st1 ?_
  show OwnFin p e below s _ _ _ (T1.setTop (mkF m 4 #[rv fo, iv pm, iv pp, .unset] []))
  refine own_go (fun t_ k_ => XS.aloadN X1.here hx rfl (hb hby d1_4) rfl rfl k_) ?_
  show OwnFin p e below s _ _ _ (T1.setTop (mkF m 5 #[rv fo, iv pm, iv pp, .unset] [(.ref fo)]))
  refine own_go (fun t_ k_ => XS.iloadN X1.here hx rfl (hb hby d1_5) rfl k_) ?_
  show OwnFin p e below s _ _ _ (T1.setTop (mkF m 6 #[rv fo, iv pm, iv pp, .unset] [(.int pm), (.ref fo)]))
  refine own_go (fun t_ k_ => XS.bipush X1.here hx rfl (hb hby d1_6) k_) ?_
  show OwnFin p e below s _ _ _ (T1.setTop (mkF m 8 #[rv fo, iv pm, iv pp, .unset] [(.int (63 : Int32)), (.int pm), (.ref fo)]))
  refine own_go (fun t_ k_ => XS.iadd X1.here hx rfl (hb hby d1_8) rfl k_) ?_
  show OwnFin p e below s _ _ _ (T1.setTop (mkF m 9 #[rv fo, iv pm, iv pp, .unset] [(.int (pm + (63 : Int32))), (.ref fo)]))
  refine own_go (fun t_ k_ => XS.bipush X1.here hx rfl (hb hby d1_9) k_) ?_
  show OwnFin p e below s _ _ _ (T1.setTop (mkF m 11 #[rv fo, iv pm, iv pp, .unset] [(.int (6 : Int32)), (.int (pm + (63 : Int32))), (.ref fo)]))
  refine own_go (fun t_ k_ => XS.iushr X1.here hx rfl (hb hby d1_11) rfl k_) ?_
  show OwnFin p e below s _ _ _ (T1.setTop (mkF m 12 #[rv fo, iv pm, iv pp, .unset] [(.int (((pm + (63 : Int32)).toUInt32 >>> ((6 : Int32) &&& 31).toUInt32).toInt32)), (.ref fo)]))
  rw [show (((pm + (63 : Int32)).toUInt32 >>> ((6 : Int32) &&& 31).toUInt32).toInt32) = (Int32.ofNat nw) from own_c1 hpm hD]
  show OwnFin p e below s _ _ _ (T1.setTop (mkF m 12 #[rv fo, iv pm, iv pp, .unset] [(.int (Int32.ofNat nw)), (.ref fo)]))
  obtain ⟨T2, h2, X2, e2, E2, A2, st2⟩ := own_newarr X1 hx hZ (hw _ (List.mem_of_getElem? (i := 1) rfl)) e1 (g := (mkF m 12 #[rv fo, iv pm, iv pp, .unset] [(.int (Int32.ofNat nw)), (.ref fo)])) rfl (hb hby d1_12) rfl (n := nw) (cap := 10) rfl (by omega) (by decide) (by decide) (by decide)
  obtain ⟨b2, g2⟩ : ∃ z, z = h0.size := ⟨_, rfl⟩
  rw [← g2] at A2 st2
  have g_b2 : n0 ≤ b2 := Nat.le_trans Z0 (Nat.le_of_eq g2.symm)
  have sz_b2 : h0.size ≤ b2 := Nat.le_trans K0.1 (Nat.le_of_eq g2.symm)
  have ne_fo_b2 : fo ≠ b2 := Nat.ne_of_lt (Nat.lt_of_lt_of_le E_fo.lt (Nat.le_of_eq g2.symm))
  have E_fo_2 := E_fo.ext E2
  have F_words_2 := F_words.ext E2
  have F_inBlocks_2 := F_inBlocks.ext E2
  have F_inRacks_2 := F_inRacks.ext E2
  have F_racks_2 := F_racks.ext E2
  have F_rackOf_2 := F_rackOf.ext E2
  have F_blocked_2 := F_blocked.ext E2
  have F_perRack_2 := F_perRack.ext E2
  have F_size_2 := F_size.ext E2
  have Z2 : n0 ≤ h2.size := Nat.le_trans Z0 E2.1
  have K2 : Keep h0 h2 [fo] := K0.ext E2
  have V_b2 : OwnArr Z h2 b2 .long nw (fun _ => (.long (0 : Int64))) := A2
  refine own_go st2 ?_
  show OwnFin p e below s _ _ _ (T2.setTop (mkF m 14 #[rv fo, iv pm, iv pp, .unset] [(.ref b2), (.ref fo)]))
  obtain ⟨T3, h3, X3, e3, W3, st3⟩ := putF X2 hx hZ hown (host := "") (Or.inl (hw _ (List.mem_of_getElem? (i := 12) rfl))) Via.refl e2 F_words_2 E_fo_2 (Or.inr ⟨(hw _ (List.mem_of_getElem? (i := 13) rfl)), rfl, hnm⟩) (hw _ (List.mem_of_getElem? (i := 4) rfl)) (ty := (.array .long)) (by decide) rfl rfl (g := (mkF m 14 #[rv fo, iv pm, iv pp, .unset] [(.ref b2), (.ref fo)])) rfl rfl (hb hby d1_14)
  have E_fo_3 := E_fo_2.wr W3
  have F_words_3 := F_words_2.same W3
  have F_inBlocks_3 := F_inBlocks_2.other W3 (Or.inr (slot_ne (Or.inr (hw _ (List.mem_of_getElem? (i := 16) rfl))) (Or.inr (hw _ (List.mem_of_getElem? (i := 13) rfl))) (by decide) (t := (.array .int)) (t' := (.array .long)) (by decide) (by decide)))
  have F_inRacks_3 := F_inRacks_2.other W3 (Or.inr (slot_ne (Or.inr (hw _ (List.mem_of_getElem? (i := 20) rfl))) (Or.inr (hw _ (List.mem_of_getElem? (i := 13) rfl))) (by decide) (t := (.array .int)) (t' := (.array .long)) (by decide) (by decide)))
  have F_racks_3 := F_racks_2.other W3 (Or.inr (slot_ne (Or.inr (hw _ (List.mem_of_getElem? (i := 22) rfl))) (Or.inr (hw _ (List.mem_of_getElem? (i := 13) rfl))) (by decide) (t := (.array .long)) (t' := (.array .long)) (by decide) (by decide)))
  have F_rackOf_3 := F_rackOf_2.other W3 (Or.inr (slot_ne (Or.inr (hw _ (List.mem_of_getElem? (i := 24) rfl))) (Or.inr (hw _ (List.mem_of_getElem? (i := 13) rfl))) (by decide) (t := (.array .int)) (t' := (.array .long)) (by decide) (by decide)))
  have F_blocked_3 := F_blocked_2.other W3 (Or.inr (slot_ne (Or.inr (hw _ (List.mem_of_getElem? (i := 18) rfl))) (Or.inr (hw _ (List.mem_of_getElem? (i := 13) rfl))) (by decide) (t := .boolean) (t' := (.array .long)) (by decide) (by decide)))
  have F_perRack_3 := F_perRack_2.other W3 (Or.inr (slot_ne (Or.inr (hw _ (List.mem_of_getElem? (i := 26) rfl))) (Or.inr (hw _ (List.mem_of_getElem? (i := 13) rfl))) (by decide) (t := .int) (t' := (.array .long)) (by decide) (by decide)))
  have F_size_3 := F_size_2.other W3 (Or.inr (slot_ne (Or.inl (hw _ (List.mem_of_getElem? (i := 33) rfl))) (Or.inr (hw _ (List.mem_of_getElem? (i := 13) rfl))) (by decide) (t := .int) (t' := (.array .long)) (by decide) (by decide)))
  have V_b2_3 := V_b2.other W3 (Ne.symm ne_fo_b2)
  have Z3 : n0 ≤ h3.size := Nat.le_trans Z2 (Keep.of_wr W3).1
  have K3 : Keep h0 h3 [fo] := K2.wr W3 (Or.inl (List.mem_of_getElem? (i := 0) rfl))
  have N3 := Fr.snoc X3 N0 g_fo
  refine own_go st3 ?_
  show OwnFin p e below s _ _ _ (T3.setTop (mkF m 17 #[rv fo, iv pm, iv pp, .unset] []))
  refine own_go (fun t_ k_ => XS.aloadN X3.here hx rfl (hb hby d1_17) rfl rfl k_) ?_
  show OwnFin p e below s _ _ _ (T3.setTop (mkF m 18 #[rv fo, iv pm, iv pp, .unset] [(.ref fo)]))
  refine own_go (fun t_ k_ => XS.aloadN X3.here hx rfl (hb hby d1_18) rfl rfl k_) ?_
  show OwnFin p e below s _ _ _ (T3.setTop (mkF m 19 #[rv fo, iv pm, iv pp, .unset] [(.ref fo), (.ref fo)]))
  obtain ⟨T4, X4, e4, st4⟩ := getF X3 hx hZ hown (host := "") (Or.inl (hw _ (List.mem_of_getElem? (i := 12) rfl))) Via.refl e3 F_words_3 (g := (mkF m 19 #[rv fo, iv pm, iv pp, .unset] [(.ref fo), (.ref fo)])) rfl rfl (hb hby d1_19)
  refine own_go st4 ?_
  show OwnFin p e below s _ _ _ (T4.setTop (mkF m 22 #[rv fo, iv pm, iv pp, .unset] [(.ref b2), (.ref fo)]))
  refine own_go (own_alength X4 hx hZ e4 V_b2_3 (g := (mkF m 22 #[rv fo, iv pm, iv pp, .unset] [(.ref b2), (.ref fo)])) rfl rfl (hb hby d1_22)) ?_
  show OwnFin p e below s _ _ _ (T4.setTop (mkF m 23 #[rv fo, iv pm, iv pp, .unset] [(.int (Int32.ofNat nw)), (.ref fo)]))
  refine own_go (fun t_ k_ => XS.bipush X4.here hx rfl (hb hby d1_23) k_) ?_
  show OwnFin p e below s _ _ _ (T4.setTop (mkF m 25 #[rv fo, iv pm, iv pp, .unset] [(.int (8 : Int32)), (.int (Int32.ofNat nw)), (.ref fo)]))
  refine own_go (fun t_ k_ => XS.iadd X4.here hx rfl (hb hby d1_25) rfl k_) ?_
  show OwnFin p e below s _ _ _ (T4.setTop (mkF m 26 #[rv fo, iv pm, iv pp, .unset] [(.int ((Int32.ofNat nw) + (8 : Int32))), (.ref fo)]))
  refine own_go (fun t_ k_ => XS.iconst X4.here hx rfl (hb hby d1_26) k_) ?_
  show OwnFin p e below s _ _ _ (T4.setTop (mkF m 27 #[rv fo, iv pm, iv pp, .unset] [(.int (1 : Int32)), (.int ((Int32.ofNat nw) + (8 : Int32))), (.ref fo)]))
  refine own_go (fun t_ k_ => XS.isub X4.here hx rfl (hb hby d1_27) rfl k_) ?_
  show OwnFin p e below s _ _ _ (T4.setTop (mkF m 28 #[rv fo, iv pm, iv pp, .unset] [(.int (((Int32.ofNat nw) + (8 : Int32)) - (1 : Int32))), (.ref fo)]))
  refine own_go (fun t_ k_ => XS.bipush X4.here hx rfl (hb hby d1_28) k_) ?_
  show OwnFin p e below s _ _ _ (T4.setTop (mkF m 30 #[rv fo, iv pm, iv pp, .unset] [(.int (8 : Int32)), (.int (((Int32.ofNat nw) + (8 : Int32)) - (1 : Int32))), (.ref fo)]))
  refine own_go (fun t_ k_ => XS.idiv X4.here hx rfl (hb hby d1_30) rfl (by decide) k_) ?_
  show OwnFin p e below s _ _ _ (T4.setTop (mkF m 31 #[rv fo, iv pm, iv pp, .unset] [(.int ((((Int32.ofNat nw) + (8 : Int32)) - (1 : Int32)) / (8 : Int32))), (.ref fo)]))
  rw [show ((((Int32.ofNat nw) + (8 : Int32)) - (1 : Int32)) / (8 : Int32)) = (Int32.ofNat nb) from own_c2 hD]
  show OwnFin p e below s _ _ _ (T4.setTop (mkF m 31 #[rv fo, iv pm, iv pp, .unset] [(.int (Int32.ofNat nb)), (.ref fo)]))
  obtain ⟨T5, h5, X5, e5, E5, A5, st5⟩ := own_newarr X4 hx hZ (hw _ (List.mem_of_getElem? (i := 14) rfl)) e4 (g := (mkF m 31 #[rv fo, iv pm, iv pp, .unset] [(.int (Int32.ofNat nb)), (.ref fo)])) rfl (hb hby d1_31) rfl (n := nb) (cap := 2) rfl (by omega) (by decide) (by decide) (by decide)
  obtain ⟨b5, g5⟩ : ∃ z, z = h3.size := ⟨_, rfl⟩
  rw [← g5] at A5 st5
  have g_b5 : n0 ≤ b5 := Nat.le_trans Z3 (Nat.le_of_eq g5.symm)
  have sz_b5 : h0.size ≤ b5 := Nat.le_trans K3.1 (Nat.le_of_eq g5.symm)
  have ne_fo_b5 : fo ≠ b5 := Nat.ne_of_lt (Nat.lt_of_lt_of_le E_fo_3.lt (Nat.le_of_eq g5.symm))
  have ne_b2_b5 : b2 ≠ b5 := Nat.ne_of_lt (Nat.lt_of_lt_of_le V_b2_3.lt (Nat.le_of_eq g5.symm))
  have E_fo_5 := E_fo_3.ext E5
  have F_words_5 := F_words_3.ext E5
  have F_inBlocks_5 := F_inBlocks_3.ext E5
  have F_inRacks_5 := F_inRacks_3.ext E5
  have F_racks_5 := F_racks_3.ext E5
  have F_rackOf_5 := F_rackOf_3.ext E5
  have F_blocked_5 := F_blocked_3.ext E5
  have F_perRack_5 := F_perRack_3.ext E5
  have F_size_5 := F_size_3.ext E5
  have V_b2_5 := V_b2_3.ext E5
  have Z5 : n0 ≤ h5.size := Nat.le_trans Z3 E5.1
  have K5 : Keep h0 h5 [fo] := K3.ext E5
  have V_b5 : OwnArr Z h5 b5 .int nb (fun _ => (.int (0 : Int32))) := A5
  refine own_go st5 ?_
  show OwnFin p e below s _ _ _ (T5.setTop (mkF m 33 #[rv fo, iv pm, iv pp, .unset] [(.ref b5), (.ref fo)]))
  obtain ⟨T6, h6, X6, e6, W6, st6⟩ := putF X5 hx hZ hown (host := "") (Or.inl (hw _ (List.mem_of_getElem? (i := 15) rfl))) Via.refl e5 F_inBlocks_5 E_fo_5 (Or.inr ⟨(hw _ (List.mem_of_getElem? (i := 16) rfl)), rfl, hnm⟩) (hw _ (List.mem_of_getElem? (i := 4) rfl)) (ty := (.array .int)) (by decide) rfl rfl (g := (mkF m 33 #[rv fo, iv pm, iv pp, .unset] [(.ref b5), (.ref fo)])) rfl rfl (hb hby d1_33)
  have E_fo_6 := E_fo_5.wr W6
  have F_words_6 := F_words_5.other W6 (Or.inr (slot_ne (Or.inr (hw _ (List.mem_of_getElem? (i := 13) rfl))) (Or.inr (hw _ (List.mem_of_getElem? (i := 16) rfl))) (by decide) (t := (.array .long)) (t' := (.array .int)) (by decide) (by decide)))
  have F_inBlocks_6 := F_inBlocks_5.same W6
  have F_inRacks_6 := F_inRacks_5.other W6 (Or.inr (slot_ne (Or.inr (hw _ (List.mem_of_getElem? (i := 20) rfl))) (Or.inr (hw _ (List.mem_of_getElem? (i := 16) rfl))) (by decide) (t := (.array .int)) (t' := (.array .int)) (by decide) (by decide)))
  have F_racks_6 := F_racks_5.other W6 (Or.inr (slot_ne (Or.inr (hw _ (List.mem_of_getElem? (i := 22) rfl))) (Or.inr (hw _ (List.mem_of_getElem? (i := 16) rfl))) (by decide) (t := (.array .long)) (t' := (.array .int)) (by decide) (by decide)))
  have F_rackOf_6 := F_rackOf_5.other W6 (Or.inr (slot_ne (Or.inr (hw _ (List.mem_of_getElem? (i := 24) rfl))) (Or.inr (hw _ (List.mem_of_getElem? (i := 16) rfl))) (by decide) (t := (.array .int)) (t' := (.array .int)) (by decide) (by decide)))
  have F_blocked_6 := F_blocked_5.other W6 (Or.inr (slot_ne (Or.inr (hw _ (List.mem_of_getElem? (i := 18) rfl))) (Or.inr (hw _ (List.mem_of_getElem? (i := 16) rfl))) (by decide) (t := .boolean) (t' := (.array .int)) (by decide) (by decide)))
  have F_perRack_6 := F_perRack_5.other W6 (Or.inr (slot_ne (Or.inr (hw _ (List.mem_of_getElem? (i := 26) rfl))) (Or.inr (hw _ (List.mem_of_getElem? (i := 16) rfl))) (by decide) (t := .int) (t' := (.array .int)) (by decide) (by decide)))
  have F_size_6 := F_size_5.other W6 (Or.inr (slot_ne (Or.inl (hw _ (List.mem_of_getElem? (i := 33) rfl))) (Or.inr (hw _ (List.mem_of_getElem? (i := 16) rfl))) (by decide) (t := .int) (t' := (.array .int)) (by decide) (by decide)))
  have V_b2_6 := V_b2_5.other W6 (Ne.symm ne_fo_b2)
  have V_b5_6 := V_b5.other W6 (Ne.symm ne_fo_b5)
  have Z6 : n0 ≤ h6.size := Nat.le_trans Z5 (Keep.of_wr W6).1
  have K6 : Keep h0 h6 [fo] := K5.wr W6 (Or.inl (List.mem_of_getElem? (i := 0) rfl))
  have N6 := Fr.snoc X6 N3 g_fo
  refine own_go st6 ?_
  show OwnFin p e below s _ _ _ (T6.setTop (mkF m 36 #[rv fo, iv pm, iv pp, .unset] []))
  refine own_go (fun t_ k_ => XS.aloadN X6.here hx rfl (hb hby d1_36) rfl rfl k_) ?_
  show OwnFin p e below s _ _ _ (T6.setTop (mkF m 37 #[rv fo, iv pm, iv pp, .unset] [(.ref fo)]))
  refine own_go (fun t_ k_ => XS.aloadN X6.here hx rfl (hb hby d1_37) rfl rfl k_) ?_
  show OwnFin p e below s _ _ _ (T6.setTop (mkF m 38 #[rv fo, iv pm, iv pp, .unset] [(.ref fo), (.ref fo)]))
  obtain ⟨T7, X7, e7, st7⟩ := getF X6 hx hZ hown (host := "") (Or.inl (hw _ (List.mem_of_getElem? (i := 15) rfl))) Via.refl e6 F_inBlocks_6 (g := (mkF m 38 #[rv fo, iv pm, iv pp, .unset] [(.ref fo), (.ref fo)])) rfl rfl (hb hby d1_38)
  refine own_go st7 ?_
  show OwnFin p e below s _ _ _ (T7.setTop (mkF m 41 #[rv fo, iv pm, iv pp, .unset] [(.ref b5), (.ref fo)]))
  refine own_go (own_alength X7 hx hZ e7 V_b5_6 (g := (mkF m 41 #[rv fo, iv pm, iv pp, .unset] [(.ref b5), (.ref fo)])) rfl rfl (hb hby d1_41)) ?_
  show OwnFin p e below s _ _ _ (T7.setTop (mkF m 42 #[rv fo, iv pm, iv pp, .unset] [(.int (Int32.ofNat nb)), (.ref fo)]))
  refine own_go (fun t_ k_ => XS.iconst X7.here hx rfl (hb hby d1_42) k_) ?_
  show OwnFin p e below s _ _ _ (T7.setTop (mkF m 43 #[rv fo, iv pm, iv pp, .unset] [(.int (1 : Int32)), (.int (Int32.ofNat nb)), (.ref fo)]))
  refine own_go (B := T7.setTop (mkF m 51 #[rv fo, iv pm, iv pp, .unset] [(.int (if (1 : Int32) < (Int32.ofNat nb) then (1 : Int32) else (0 : Int32))), (.ref fo)])) (fun t_ k_ => ?_) ?_
  · by_cases hm43 : (1 : Int32) < (Int32.ofNat nb)
    · rw [if_pos hm43] at k_; exact XS.icmpNo X7.here hx rfl (hb hby d1_43) rfl (tlt hm43).2.2.2 (XS.iconst X7.here hx rfl (hb hby d1_46) (XS.goto X7.here hx rfl (pc0 := 47) (pc' := 51) rfl (hb hby d1_47) (by decide) (by decide) k_))
    · rw [if_neg hm43] at k_; exact XS.icmpYes X7.here hx rfl (pc0 := 43) (pc' := 50) rfl (hb hby d1_43) rfl (flt hm43).2.2.2 (by decide) (by decide) (XS.iconst X7.here hx rfl (hb hby d1_50) k_)
  show OwnFin p e below s _ _ _ (T7.setTop (mkF m 51 #[rv fo, iv pm, iv pp, .unset] [(.int (if (1 : Int32) < (Int32.ofNat nb) then (1 : Int32) else (0 : Int32))), (.ref fo)]))
  rw [show (if (1 : Int32) < (Int32.ofNat nb) then (1 : Int32) else (0 : Int32)) = (Int32.ofNat (nb - 1)) from own_c3 hD]
  show OwnFin p e below s _ _ _ (T7.setTop (mkF m 51 #[rv fo, iv pm, iv pp, .unset] [(.int (Int32.ofNat (nb - 1))), (.ref fo)]))
  obtain ⟨T8, h8, X8, e8, W8, st8⟩ := putFN X7 hx hZ hown (hw _ (List.mem_of_getElem? (i := 17) rfl)) Via.refl e7 F_blocked_6 E_fo_6 (Or.inr ⟨(hw _ (List.mem_of_getElem? (i := 18) rfl)), rfl, hnm⟩) (hw _ (List.mem_of_getElem? (i := 4) rfl)) (ty := .boolean) (v' := (.int (nar .boolean (Int32.ofNat (nb - 1))))) (by decide) rfl (fits_nar_bool _) (g := (mkF m 51 #[rv fo, iv pm, iv pp, .unset] [(.int (Int32.ofNat (nb - 1))), (.ref fo)])) rfl rfl (hb hby d1_51)
  have E_fo_8 := E_fo_6.wr W8
  have F_words_8 := F_words_6.other W8 (Or.inr (slot_ne (Or.inr (hw _ (List.mem_of_getElem? (i := 13) rfl))) (Or.inr (hw _ (List.mem_of_getElem? (i := 18) rfl))) (by decide) (t := (.array .long)) (t' := .boolean) (by decide) (by decide)))
  have F_inBlocks_8 := F_inBlocks_6.other W8 (Or.inr (slot_ne (Or.inr (hw _ (List.mem_of_getElem? (i := 16) rfl))) (Or.inr (hw _ (List.mem_of_getElem? (i := 18) rfl))) (by decide) (t := (.array .int)) (t' := .boolean) (by decide) (by decide)))
  have F_inRacks_8 := F_inRacks_6.other W8 (Or.inr (slot_ne (Or.inr (hw _ (List.mem_of_getElem? (i := 20) rfl))) (Or.inr (hw _ (List.mem_of_getElem? (i := 18) rfl))) (by decide) (t := (.array .int)) (t' := .boolean) (by decide) (by decide)))
  have F_racks_8 := F_racks_6.other W8 (Or.inr (slot_ne (Or.inr (hw _ (List.mem_of_getElem? (i := 22) rfl))) (Or.inr (hw _ (List.mem_of_getElem? (i := 18) rfl))) (by decide) (t := (.array .long)) (t' := .boolean) (by decide) (by decide)))
  have F_rackOf_8 := F_rackOf_6.other W8 (Or.inr (slot_ne (Or.inr (hw _ (List.mem_of_getElem? (i := 24) rfl))) (Or.inr (hw _ (List.mem_of_getElem? (i := 18) rfl))) (by decide) (t := (.array .int)) (t' := .boolean) (by decide) (by decide)))
  have F_blocked_8 := F_blocked_6.same W8
  have F_perRack_8 := F_perRack_6.other W8 (Or.inr (slot_ne (Or.inr (hw _ (List.mem_of_getElem? (i := 26) rfl))) (Or.inr (hw _ (List.mem_of_getElem? (i := 18) rfl))) (by decide) (t := .int) (t' := .boolean) (by decide) (by decide)))
  have F_size_8 := F_size_6.other W8 (Or.inr (slot_ne (Or.inl (hw _ (List.mem_of_getElem? (i := 33) rfl))) (Or.inr (hw _ (List.mem_of_getElem? (i := 18) rfl))) (by decide) (t := .int) (t' := .boolean) (by decide) (by decide)))
  have V_b2_8 := V_b2_6.other W8 (Ne.symm ne_fo_b2)
  have V_b5_8 := V_b5_6.other W8 (Ne.symm ne_fo_b5)
  have Z8 : n0 ≤ h8.size := Nat.le_trans Z6 (Keep.of_wr W8).1
  have K8 : Keep h0 h8 [fo] := K6.wr W8 (Or.inl (List.mem_of_getElem? (i := 0) rfl))
  have N8 := Fr.snoc X8 N6 g_fo
  refine own_go st8 ?_
  show OwnFin p e below s _ _ _ (T8.setTop (mkF m 54 #[rv fo, iv pm, iv pp, .unset] []))
  refine own_go (fun t_ k_ => XS.aloadN X8.here hx rfl (hb hby d1_54) rfl rfl k_) ?_
  show OwnFin p e below s _ _ _ (T8.setTop (mkF m 55 #[rv fo, iv pm, iv pp, .unset] [(.ref fo)]))
  refine own_go (fun t_ k_ => XS.iloadN X8.here hx rfl (hb hby d1_55) rfl k_) ?_
  show OwnFin p e below s _ _ _ (T8.setTop (mkF m 56 #[rv fo, iv pm, iv pp, .unset] [(.int pm), (.ref fo)]))
  refine own_go (fun t_ k_ => XS.iloadN X8.here hx rfl (hb hby d1_56) rfl k_) ?_
  show OwnFin p e below s _ _ _ (T8.setTop (mkF m 57 #[rv fo, iv pm, iv pp, .unset] [(.int pp), (.int pm), (.ref fo)]))
  refine own_go (fun t_ k_ => XS.idiv X8.here hx rfl (hb hby d1_57) rfl (by rw [hpp]; exact own_nz (by omega) (by omega)) k_) ?_
  show OwnFin p e below s _ _ _ (T8.setTop (mkF m 58 #[rv fo, iv pm, iv pp, .unset] [(.int (pm / pp)), (.ref fo)]))
  rw [show (pm / pp) = (Int32.ofNat (nm / pr)) from own_c4 hpm hpp (by omega) (by omega)]
  show OwnFin p e below s _ _ _ (T8.setTop (mkF m 58 #[rv fo, iv pm, iv pp, .unset] [(.int (Int32.ofNat (nm / pr))), (.ref fo)]))
  obtain ⟨T9, h9, X9, e9, E9, A9, st9⟩ := own_newarr X8 hx hZ (hw _ (List.mem_of_getElem? (i := 14) rfl)) e8 (g := (mkF m 58 #[rv fo, iv pm, iv pp, .unset] [(.int (Int32.ofNat (nm / pr))), (.ref fo)])) rfl (hb hby d1_58) rfl (n := (nm / pr)) (cap := 640) rfl (by omega) (by decide) (by decide) (by decide)
  obtain ⟨b9, g9⟩ : ∃ z, z = h8.size := ⟨_, rfl⟩
  rw [← g9] at A9 st9
  have g_b9 : n0 ≤ b9 := Nat.le_trans Z8 (Nat.le_of_eq g9.symm)
  have sz_b9 : h0.size ≤ b9 := Nat.le_trans K8.1 (Nat.le_of_eq g9.symm)
  have ne_fo_b9 : fo ≠ b9 := Nat.ne_of_lt (Nat.lt_of_lt_of_le E_fo_8.lt (Nat.le_of_eq g9.symm))
  have ne_b2_b9 : b2 ≠ b9 := Nat.ne_of_lt (Nat.lt_of_lt_of_le V_b2_8.lt (Nat.le_of_eq g9.symm))
  have ne_b5_b9 : b5 ≠ b9 := Nat.ne_of_lt (Nat.lt_of_lt_of_le V_b5_8.lt (Nat.le_of_eq g9.symm))
  have E_fo_9 := E_fo_8.ext E9
  have F_words_9 := F_words_8.ext E9
  have F_inBlocks_9 := F_inBlocks_8.ext E9
  have F_inRacks_9 := F_inRacks_8.ext E9
  have F_racks_9 := F_racks_8.ext E9
  have F_rackOf_9 := F_rackOf_8.ext E9
  have F_blocked_9 := F_blocked_8.ext E9
  have F_perRack_9 := F_perRack_8.ext E9
  have F_size_9 := F_size_8.ext E9
  have V_b2_9 := V_b2_8.ext E9
  have V_b5_9 := V_b5_8.ext E9
  have Z9 : n0 ≤ h9.size := Nat.le_trans Z8 E9.1
  have K9 : Keep h0 h9 [fo] := K8.ext E9
  have V_b9 : OwnArr Z h9 b9 .int (nm / pr) (fun _ => (.int (0 : Int32))) := A9
  refine own_go st9 ?_
  show OwnFin p e below s _ _ _ (T9.setTop (mkF m 60 #[rv fo, iv pm, iv pp, .unset] [(.ref b9), (.ref fo)]))
  obtain ⟨T10, h10, X10, e10, W10, st10⟩ := putF X9 hx hZ hown (host := "") (Or.inl (hw _ (List.mem_of_getElem? (i := 19) rfl))) Via.refl e9 F_inRacks_9 E_fo_9 (Or.inr ⟨(hw _ (List.mem_of_getElem? (i := 20) rfl)), rfl, hnm⟩) (hw _ (List.mem_of_getElem? (i := 4) rfl)) (ty := (.array .int)) (by decide) rfl rfl (g := (mkF m 60 #[rv fo, iv pm, iv pp, .unset] [(.ref b9), (.ref fo)])) rfl rfl (hb hby d1_60)
  have E_fo_10 := E_fo_9.wr W10
  have F_words_10 := F_words_9.other W10 (Or.inr (slot_ne (Or.inr (hw _ (List.mem_of_getElem? (i := 13) rfl))) (Or.inr (hw _ (List.mem_of_getElem? (i := 20) rfl))) (by decide) (t := (.array .long)) (t' := (.array .int)) (by decide) (by decide)))
  have F_inBlocks_10 := F_inBlocks_9.other W10 (Or.inr (slot_ne (Or.inr (hw _ (List.mem_of_getElem? (i := 16) rfl))) (Or.inr (hw _ (List.mem_of_getElem? (i := 20) rfl))) (by decide) (t := (.array .int)) (t' := (.array .int)) (by decide) (by decide)))
  have F_inRacks_10 := F_inRacks_9.same W10
  have F_racks_10 := F_racks_9.other W10 (Or.inr (slot_ne (Or.inr (hw _ (List.mem_of_getElem? (i := 22) rfl))) (Or.inr (hw _ (List.mem_of_getElem? (i := 20) rfl))) (by decide) (t := (.array .long)) (t' := (.array .int)) (by decide) (by decide)))
  have F_rackOf_10 := F_rackOf_9.other W10 (Or.inr (slot_ne (Or.inr (hw _ (List.mem_of_getElem? (i := 24) rfl))) (Or.inr (hw _ (List.mem_of_getElem? (i := 20) rfl))) (by decide) (t := (.array .int)) (t' := (.array .int)) (by decide) (by decide)))
  have F_blocked_10 := F_blocked_9.other W10 (Or.inr (slot_ne (Or.inr (hw _ (List.mem_of_getElem? (i := 18) rfl))) (Or.inr (hw _ (List.mem_of_getElem? (i := 20) rfl))) (by decide) (t := .boolean) (t' := (.array .int)) (by decide) (by decide)))
  have F_perRack_10 := F_perRack_9.other W10 (Or.inr (slot_ne (Or.inr (hw _ (List.mem_of_getElem? (i := 26) rfl))) (Or.inr (hw _ (List.mem_of_getElem? (i := 20) rfl))) (by decide) (t := .int) (t' := (.array .int)) (by decide) (by decide)))
  have F_size_10 := F_size_9.other W10 (Or.inr (slot_ne (Or.inl (hw _ (List.mem_of_getElem? (i := 33) rfl))) (Or.inr (hw _ (List.mem_of_getElem? (i := 20) rfl))) (by decide) (t := .int) (t' := (.array .int)) (by decide) (by decide)))
  have V_b2_10 := V_b2_9.other W10 (Ne.symm ne_fo_b2)
  have V_b5_10 := V_b5_9.other W10 (Ne.symm ne_fo_b5)
  have V_b9_10 := V_b9.other W10 (Ne.symm ne_fo_b9)
  have Z10 : n0 ≤ h10.size := Nat.le_trans Z9 (Keep.of_wr W10).1
  have K10 : Keep h0 h10 [fo] := K9.wr W10 (Or.inl (List.mem_of_getElem? (i := 0) rfl))
  have N10 := Fr.snoc X10 N8 g_fo
  refine own_go st10 ?_
  show OwnFin p e below s _ _ _ (T10.setTop (mkF m 63 #[rv fo, iv pm, iv pp, .unset] []))
  refine own_go (fun t_ k_ => XS.aloadN X10.here hx rfl (hb hby d1_63) rfl rfl k_) ?_
  show OwnFin p e below s _ _ _ (T10.setTop (mkF m 64 #[rv fo, iv pm, iv pp, .unset] [(.ref fo)]))
  refine own_go (fun t_ k_ => XS.aloadN X10.here hx rfl (hb hby d1_64) rfl rfl k_) ?_
  show OwnFin p e below s _ _ _ (T10.setTop (mkF m 65 #[rv fo, iv pm, iv pp, .unset] [(.ref fo), (.ref fo)]))
  obtain ⟨T11, X11, e11, st11⟩ := getF X10 hx hZ hown (host := "") (Or.inl (hw _ (List.mem_of_getElem? (i := 19) rfl))) Via.refl e10 F_inRacks_10 (g := (mkF m 65 #[rv fo, iv pm, iv pp, .unset] [(.ref fo), (.ref fo)])) rfl rfl (hb hby d1_65)
  refine own_go st11 ?_
  show OwnFin p e below s _ _ _ (T11.setTop (mkF m 68 #[rv fo, iv pm, iv pp, .unset] [(.ref b9), (.ref fo)]))
  refine own_go (own_alength X11 hx hZ e11 V_b9_10 (g := (mkF m 68 #[rv fo, iv pm, iv pp, .unset] [(.ref b9), (.ref fo)])) rfl rfl (hb hby d1_68)) ?_
  show OwnFin p e below s _ _ _ (T11.setTop (mkF m 69 #[rv fo, iv pm, iv pp, .unset] [(.int (Int32.ofNat (nm / pr))), (.ref fo)]))
  refine own_go (fun t_ k_ => XS.bipush X11.here hx rfl (hb hby d1_69) k_) ?_
  show OwnFin p e below s _ _ _ (T11.setTop (mkF m 71 #[rv fo, iv pm, iv pp, .unset] [(.int (63 : Int32)), (.int (Int32.ofNat (nm / pr))), (.ref fo)]))
  refine own_go (fun t_ k_ => XS.iadd X11.here hx rfl (hb hby d1_71) rfl k_) ?_
  show OwnFin p e below s _ _ _ (T11.setTop (mkF m 72 #[rv fo, iv pm, iv pp, .unset] [(.int ((Int32.ofNat (nm / pr)) + (63 : Int32))), (.ref fo)]))
  refine own_go (fun t_ k_ => XS.bipush X11.here hx rfl (hb hby d1_72) k_) ?_
  show OwnFin p e below s _ _ _ (T11.setTop (mkF m 74 #[rv fo, iv pm, iv pp, .unset] [(.int (6 : Int32)), (.int ((Int32.ofNat (nm / pr)) + (63 : Int32))), (.ref fo)]))
  refine own_go (fun t_ k_ => XS.iushr X11.here hx rfl (hb hby d1_74) rfl k_) ?_
  show OwnFin p e below s _ _ _ (T11.setTop (mkF m 75 #[rv fo, iv pm, iv pp, .unset] [(.int ((((Int32.ofNat (nm / pr)) + (63 : Int32)).toUInt32 >>> ((6 : Int32) &&& 31).toUInt32).toInt32)), (.ref fo)]))
  rw [show ((((Int32.ofNat (nm / pr)) + (63 : Int32)).toUInt32 >>> ((6 : Int32) &&& 31).toUInt32).toInt32) = (Int32.ofNat ((nm / pr + 63) / 64)) from own_c5 (by omega)]
  show OwnFin p e below s _ _ _ (T11.setTop (mkF m 75 #[rv fo, iv pm, iv pp, .unset] [(.int (Int32.ofNat ((nm / pr + 63) / 64))), (.ref fo)]))
  obtain ⟨T12, h12, X12, e12, E12, A12, st12⟩ := own_newarr X11 hx hZ (hw _ (List.mem_of_getElem? (i := 1) rfl)) e11 (g := (mkF m 75 #[rv fo, iv pm, iv pp, .unset] [(.int (Int32.ofNat ((nm / pr + 63) / 64))), (.ref fo)])) rfl (hb hby d1_75) rfl (n := ((nm / pr + 63) / 64)) (cap := 10) rfl (by omega) (by decide) (by decide) (by decide)
  obtain ⟨b12, g12⟩ : ∃ z, z = h10.size := ⟨_, rfl⟩
  rw [← g12] at A12 st12
  have g_b12 : n0 ≤ b12 := Nat.le_trans Z10 (Nat.le_of_eq g12.symm)
  have sz_b12 : h0.size ≤ b12 := Nat.le_trans K10.1 (Nat.le_of_eq g12.symm)
  have ne_fo_b12 : fo ≠ b12 := Nat.ne_of_lt (Nat.lt_of_lt_of_le E_fo_10.lt (Nat.le_of_eq g12.symm))
  have ne_b2_b12 : b2 ≠ b12 := Nat.ne_of_lt (Nat.lt_of_lt_of_le V_b2_10.lt (Nat.le_of_eq g12.symm))
  have ne_b5_b12 : b5 ≠ b12 := Nat.ne_of_lt (Nat.lt_of_lt_of_le V_b5_10.lt (Nat.le_of_eq g12.symm))
  have ne_b9_b12 : b9 ≠ b12 := Nat.ne_of_lt (Nat.lt_of_lt_of_le V_b9_10.lt (Nat.le_of_eq g12.symm))
  have E_fo_12 := E_fo_10.ext E12
  have F_words_12 := F_words_10.ext E12
  have F_inBlocks_12 := F_inBlocks_10.ext E12
  have F_inRacks_12 := F_inRacks_10.ext E12
  have F_racks_12 := F_racks_10.ext E12
  have F_rackOf_12 := F_rackOf_10.ext E12
  have F_blocked_12 := F_blocked_10.ext E12
  have F_perRack_12 := F_perRack_10.ext E12
  have F_size_12 := F_size_10.ext E12
  have V_b2_12 := V_b2_10.ext E12
  have V_b5_12 := V_b5_10.ext E12
  have V_b9_12 := V_b9_10.ext E12
  have Z12 : n0 ≤ h12.size := Nat.le_trans Z10 E12.1
  have K12 : Keep h0 h12 [fo] := K10.ext E12
  have V_b12 : OwnArr Z h12 b12 .long ((nm / pr + 63) / 64) (fun _ => (.long (0 : Int64))) := A12
  refine own_go st12 ?_
  show OwnFin p e below s _ _ _ (T12.setTop (mkF m 77 #[rv fo, iv pm, iv pp, .unset] [(.ref b12), (.ref fo)]))
  obtain ⟨T13, h13, X13, e13, W13, st13⟩ := putF X12 hx hZ hown (host := "") (Or.inl (hw _ (List.mem_of_getElem? (i := 21) rfl))) Via.refl e12 F_racks_12 E_fo_12 (Or.inr ⟨(hw _ (List.mem_of_getElem? (i := 22) rfl)), rfl, hnm⟩) (hw _ (List.mem_of_getElem? (i := 4) rfl)) (ty := (.array .long)) (by decide) rfl rfl (g := (mkF m 77 #[rv fo, iv pm, iv pp, .unset] [(.ref b12), (.ref fo)])) rfl rfl (hb hby d1_77)
  have E_fo_13 := E_fo_12.wr W13
  have F_words_13 := F_words_12.other W13 (Or.inr (slot_ne (Or.inr (hw _ (List.mem_of_getElem? (i := 13) rfl))) (Or.inr (hw _ (List.mem_of_getElem? (i := 22) rfl))) (by decide) (t := (.array .long)) (t' := (.array .long)) (by decide) (by decide)))
  have F_inBlocks_13 := F_inBlocks_12.other W13 (Or.inr (slot_ne (Or.inr (hw _ (List.mem_of_getElem? (i := 16) rfl))) (Or.inr (hw _ (List.mem_of_getElem? (i := 22) rfl))) (by decide) (t := (.array .int)) (t' := (.array .long)) (by decide) (by decide)))
  have F_inRacks_13 := F_inRacks_12.other W13 (Or.inr (slot_ne (Or.inr (hw _ (List.mem_of_getElem? (i := 20) rfl))) (Or.inr (hw _ (List.mem_of_getElem? (i := 22) rfl))) (by decide) (t := (.array .int)) (t' := (.array .long)) (by decide) (by decide)))
  have F_racks_13 := F_racks_12.same W13
  have F_rackOf_13 := F_rackOf_12.other W13 (Or.inr (slot_ne (Or.inr (hw _ (List.mem_of_getElem? (i := 24) rfl))) (Or.inr (hw _ (List.mem_of_getElem? (i := 22) rfl))) (by decide) (t := (.array .int)) (t' := (.array .long)) (by decide) (by decide)))
  have F_blocked_13 := F_blocked_12.other W13 (Or.inr (slot_ne (Or.inr (hw _ (List.mem_of_getElem? (i := 18) rfl))) (Or.inr (hw _ (List.mem_of_getElem? (i := 22) rfl))) (by decide) (t := .boolean) (t' := (.array .long)) (by decide) (by decide)))
  have F_perRack_13 := F_perRack_12.other W13 (Or.inr (slot_ne (Or.inr (hw _ (List.mem_of_getElem? (i := 26) rfl))) (Or.inr (hw _ (List.mem_of_getElem? (i := 22) rfl))) (by decide) (t := .int) (t' := (.array .long)) (by decide) (by decide)))
  have F_size_13 := F_size_12.other W13 (Or.inr (slot_ne (Or.inl (hw _ (List.mem_of_getElem? (i := 33) rfl))) (Or.inr (hw _ (List.mem_of_getElem? (i := 22) rfl))) (by decide) (t := .int) (t' := (.array .long)) (by decide) (by decide)))
  have V_b2_13 := V_b2_12.other W13 (Ne.symm ne_fo_b2)
  have V_b5_13 := V_b5_12.other W13 (Ne.symm ne_fo_b5)
  have V_b9_13 := V_b9_12.other W13 (Ne.symm ne_fo_b9)
  have V_b12_13 := V_b12.other W13 (Ne.symm ne_fo_b12)
  have Z13 : n0 ≤ h13.size := Nat.le_trans Z12 (Keep.of_wr W13).1
  have K13 : Keep h0 h13 [fo] := K12.wr W13 (Or.inl (List.mem_of_getElem? (i := 0) rfl))
  have N13 := Fr.snoc X13 N10 g_fo
  refine own_go st13 ?_
  show OwnFin p e below s _ _ _ (T13.setTop (mkF m 80 #[rv fo, iv pm, iv pp, .unset] []))
  refine own_go (fun t_ k_ => XS.aloadN X13.here hx rfl (hb hby d1_80) rfl rfl k_) ?_
  show OwnFin p e below s _ _ _ (T13.setTop (mkF m 81 #[rv fo, iv pm, iv pp, .unset] [(.ref fo)]))
  refine own_go (fun t_ k_ => XS.iloadN X13.here hx rfl (hb hby d1_81) rfl k_) ?_
  show OwnFin p e below s _ _ _ (T13.setTop (mkF m 82 #[rv fo, iv pm, iv pp, .unset] [(.int pm), (.ref fo)]))
  obtain ⟨T14, h14, X14, e14, E14, A14, st14⟩ := own_newarr X13 hx hZ (hw _ (List.mem_of_getElem? (i := 14) rfl)) e13 (g := (mkF m 82 #[rv fo, iv pm, iv pp, .unset] [(.int pm), (.ref fo)])) rfl (hb hby d1_82) rfl (n := nm) (cap := 640) hpm (by omega) (by decide) (by decide) (by decide)
  obtain ⟨b14, g14⟩ : ∃ z, z = h13.size := ⟨_, rfl⟩
  rw [← g14] at A14 st14
  have g_b14 : n0 ≤ b14 := Nat.le_trans Z13 (Nat.le_of_eq g14.symm)
  have sz_b14 : h0.size ≤ b14 := Nat.le_trans K13.1 (Nat.le_of_eq g14.symm)
  have ne_fo_b14 : fo ≠ b14 := Nat.ne_of_lt (Nat.lt_of_lt_of_le E_fo_13.lt (Nat.le_of_eq g14.symm))
  have ne_b2_b14 : b2 ≠ b14 := Nat.ne_of_lt (Nat.lt_of_lt_of_le V_b2_13.lt (Nat.le_of_eq g14.symm))
  have ne_b5_b14 : b5 ≠ b14 := Nat.ne_of_lt (Nat.lt_of_lt_of_le V_b5_13.lt (Nat.le_of_eq g14.symm))
  have ne_b9_b14 : b9 ≠ b14 := Nat.ne_of_lt (Nat.lt_of_lt_of_le V_b9_13.lt (Nat.le_of_eq g14.symm))
  have ne_b12_b14 : b12 ≠ b14 := Nat.ne_of_lt (Nat.lt_of_lt_of_le V_b12_13.lt (Nat.le_of_eq g14.symm))
  have E_fo_14 := E_fo_13.ext E14
  have F_words_14 := F_words_13.ext E14
  have F_inBlocks_14 := F_inBlocks_13.ext E14
  have F_inRacks_14 := F_inRacks_13.ext E14
  have F_racks_14 := F_racks_13.ext E14
  have F_rackOf_14 := F_rackOf_13.ext E14
  have F_blocked_14 := F_blocked_13.ext E14
  have F_perRack_14 := F_perRack_13.ext E14
  have F_size_14 := F_size_13.ext E14
  have V_b2_14 := V_b2_13.ext E14
  have V_b5_14 := V_b5_13.ext E14
  have V_b9_14 := V_b9_13.ext E14
  have V_b12_14 := V_b12_13.ext E14
  have Z14 : n0 ≤ h14.size := Nat.le_trans Z13 E14.1
  have K14 : Keep h0 h14 [fo] := K13.ext E14
  have V_b14 : OwnArr Z h14 b14 .int nm (fun _ => (.int (0 : Int32))) := A14
  refine own_go st14 ?_
  show OwnFin p e below s _ _ _ (T14.setTop (mkF m 84 #[rv fo, iv pm, iv pp, .unset] [(.ref b14), (.ref fo)]))
  obtain ⟨T15, h15, X15, e15, W15, st15⟩ := putF X14 hx hZ hown (host := "") (Or.inl (hw _ (List.mem_of_getElem? (i := 23) rfl))) Via.refl e14 F_rackOf_14 E_fo_14 (Or.inr ⟨(hw _ (List.mem_of_getElem? (i := 24) rfl)), rfl, hnm⟩) (hw _ (List.mem_of_getElem? (i := 4) rfl)) (ty := (.array .int)) (by decide) rfl rfl (g := (mkF m 84 #[rv fo, iv pm, iv pp, .unset] [(.ref b14), (.ref fo)])) rfl rfl (hb hby d1_84)
  have E_fo_15 := E_fo_14.wr W15
  have F_words_15 := F_words_14.other W15 (Or.inr (slot_ne (Or.inr (hw _ (List.mem_of_getElem? (i := 13) rfl))) (Or.inr (hw _ (List.mem_of_getElem? (i := 24) rfl))) (by decide) (t := (.array .long)) (t' := (.array .int)) (by decide) (by decide)))
  have F_inBlocks_15 := F_inBlocks_14.other W15 (Or.inr (slot_ne (Or.inr (hw _ (List.mem_of_getElem? (i := 16) rfl))) (Or.inr (hw _ (List.mem_of_getElem? (i := 24) rfl))) (by decide) (t := (.array .int)) (t' := (.array .int)) (by decide) (by decide)))
  have F_inRacks_15 := F_inRacks_14.other W15 (Or.inr (slot_ne (Or.inr (hw _ (List.mem_of_getElem? (i := 20) rfl))) (Or.inr (hw _ (List.mem_of_getElem? (i := 24) rfl))) (by decide) (t := (.array .int)) (t' := (.array .int)) (by decide) (by decide)))
  have F_racks_15 := F_racks_14.other W15 (Or.inr (slot_ne (Or.inr (hw _ (List.mem_of_getElem? (i := 22) rfl))) (Or.inr (hw _ (List.mem_of_getElem? (i := 24) rfl))) (by decide) (t := (.array .long)) (t' := (.array .int)) (by decide) (by decide)))
  have F_rackOf_15 := F_rackOf_14.same W15
  have F_blocked_15 := F_blocked_14.other W15 (Or.inr (slot_ne (Or.inr (hw _ (List.mem_of_getElem? (i := 18) rfl))) (Or.inr (hw _ (List.mem_of_getElem? (i := 24) rfl))) (by decide) (t := .boolean) (t' := (.array .int)) (by decide) (by decide)))
  have F_perRack_15 := F_perRack_14.other W15 (Or.inr (slot_ne (Or.inr (hw _ (List.mem_of_getElem? (i := 26) rfl))) (Or.inr (hw _ (List.mem_of_getElem? (i := 24) rfl))) (by decide) (t := .int) (t' := (.array .int)) (by decide) (by decide)))
  have F_size_15 := F_size_14.other W15 (Or.inr (slot_ne (Or.inl (hw _ (List.mem_of_getElem? (i := 33) rfl))) (Or.inr (hw _ (List.mem_of_getElem? (i := 24) rfl))) (by decide) (t := .int) (t' := (.array .int)) (by decide) (by decide)))
  have V_b2_15 := V_b2_14.other W15 (Ne.symm ne_fo_b2)
  have V_b5_15 := V_b5_14.other W15 (Ne.symm ne_fo_b5)
  have V_b9_15 := V_b9_14.other W15 (Ne.symm ne_fo_b9)
  have V_b12_15 := V_b12_14.other W15 (Ne.symm ne_fo_b12)
  have V_b14_15 := V_b14.other W15 (Ne.symm ne_fo_b14)
  have Z15 : n0 ≤ h15.size := Nat.le_trans Z14 (Keep.of_wr W15).1
  have K15 : Keep h0 h15 [fo] := K14.wr W15 (Or.inl (List.mem_of_getElem? (i := 0) rfl))
  have N15 := Fr.snoc X15 N13 g_fo
  refine own_go st15 ?_
  show OwnFin p e below s _ _ _ (T15.setTop (mkF m 87 #[rv fo, iv pm, iv pp, .unset] []))
  refine own_go (fun t_ k_ => XS.aloadN X15.here hx rfl (hb hby d1_87) rfl rfl k_) ?_
  show OwnFin p e below s _ _ _ (T15.setTop (mkF m 88 #[rv fo, iv pm, iv pp, .unset] [(.ref fo)]))
  refine own_go (fun t_ k_ => XS.iloadN X15.here hx rfl (hb hby d1_88) rfl k_) ?_
  show OwnFin p e below s _ _ _ (T15.setTop (mkF m 89 #[rv fo, iv pm, iv pp, .unset] [(.int pp), (.ref fo)]))
  obtain ⟨T16, h16, X16, e16, W16, st16⟩ := putF X15 hx hZ hown (host := "") (Or.inl (hw _ (List.mem_of_getElem? (i := 25) rfl))) Via.refl e15 F_perRack_15 E_fo_15 (Or.inr ⟨(hw _ (List.mem_of_getElem? (i := 26) rfl)), rfl, hnm⟩) (hw _ (List.mem_of_getElem? (i := 4) rfl)) (ty := .int) (by decide) rfl rfl (g := (mkF m 89 #[rv fo, iv pm, iv pp, .unset] [(.int pp), (.ref fo)])) rfl rfl (hb hby d1_89)
  have E_fo_16 := E_fo_15.wr W16
  have F_words_16 := F_words_15.other W16 (Or.inr (slot_ne (Or.inr (hw _ (List.mem_of_getElem? (i := 13) rfl))) (Or.inr (hw _ (List.mem_of_getElem? (i := 26) rfl))) (by decide) (t := (.array .long)) (t' := .int) (by decide) (by decide)))
  have F_inBlocks_16 := F_inBlocks_15.other W16 (Or.inr (slot_ne (Or.inr (hw _ (List.mem_of_getElem? (i := 16) rfl))) (Or.inr (hw _ (List.mem_of_getElem? (i := 26) rfl))) (by decide) (t := (.array .int)) (t' := .int) (by decide) (by decide)))
  have F_inRacks_16 := F_inRacks_15.other W16 (Or.inr (slot_ne (Or.inr (hw _ (List.mem_of_getElem? (i := 20) rfl))) (Or.inr (hw _ (List.mem_of_getElem? (i := 26) rfl))) (by decide) (t := (.array .int)) (t' := .int) (by decide) (by decide)))
  have F_racks_16 := F_racks_15.other W16 (Or.inr (slot_ne (Or.inr (hw _ (List.mem_of_getElem? (i := 22) rfl))) (Or.inr (hw _ (List.mem_of_getElem? (i := 26) rfl))) (by decide) (t := (.array .long)) (t' := .int) (by decide) (by decide)))
  have F_rackOf_16 := F_rackOf_15.other W16 (Or.inr (slot_ne (Or.inr (hw _ (List.mem_of_getElem? (i := 24) rfl))) (Or.inr (hw _ (List.mem_of_getElem? (i := 26) rfl))) (by decide) (t := (.array .int)) (t' := .int) (by decide) (by decide)))
  have F_blocked_16 := F_blocked_15.other W16 (Or.inr (slot_ne (Or.inr (hw _ (List.mem_of_getElem? (i := 18) rfl))) (Or.inr (hw _ (List.mem_of_getElem? (i := 26) rfl))) (by decide) (t := .boolean) (t' := .int) (by decide) (by decide)))
  have F_perRack_16 := F_perRack_15.same W16
  have F_size_16 := F_size_15.other W16 (Or.inr (slot_ne (Or.inl (hw _ (List.mem_of_getElem? (i := 33) rfl))) (Or.inr (hw _ (List.mem_of_getElem? (i := 26) rfl))) (by decide) (t := .int) (t' := .int) (by decide) (by decide)))
  have V_b2_16 := V_b2_15.other W16 (Ne.symm ne_fo_b2)
  have V_b5_16 := V_b5_15.other W16 (Ne.symm ne_fo_b5)
  have V_b9_16 := V_b9_15.other W16 (Ne.symm ne_fo_b9)
  have V_b12_16 := V_b12_15.other W16 (Ne.symm ne_fo_b12)
  have V_b14_16 := V_b14_15.other W16 (Ne.symm ne_fo_b14)
  have Z16 : n0 ≤ h16.size := Nat.le_trans Z15 (Keep.of_wr W16).1
  have K16 : Keep h0 h16 [fo] := K15.wr W16 (Or.inl (List.mem_of_getElem? (i := 0) rfl))
  have N16 := Fr.snoc X16 N15 g_fo
  refine own_go st16 ?_
  show OwnFin p e below s _ _ _ (T16.setTop (mkF m 92 #[rv fo, iv pm, iv pp, .unset] []))
  refine own_go (fun t_ k_ => XS.iconst X16.here hx rfl (hb hby d1_92) k_) ?_
  show OwnFin p e below s _ _ _ (T16.setTop (mkF m 93 #[rv fo, iv pm, iv pp, .unset] [(.int (0 : Int32))]))
  refine own_go (fun t_ k_ => XS.istoreN X16.here hx rfl (hb hby d1_93) rfl (l' := #[rv fo, iv pm, iv pp, iv (0 : Int32)]) rfl k_) ?_
  show OwnFin p e below s _ _ _ (T16.setTop (mkF m 94 #[rv fo, iv pm, iv pp, iv (0 : Int32)] []))
  have lp : ∀ (d : Nat) (i : Nat) (Fr_ : Nat → Int32) (T1 : State) (locs1 : List Loc) (h1 : Heap), Stand p l e ({ frames := 1, cells := 5, slots := 1302, locals := 12 } : Room) s m #[(.ref fo), (.int pm), (.int pp)] below meth c T1 locs1 (0 + 1 + 1 + 1 + 1 + 1) (0 + 10 + 2 + 640 + 10 + 640) → T1.heap = h1 → Fr n0 locs1 → Keep h0 h1 [fo] → Exa Z h1 fo "com/example/nearside/nearside/slotted/delay/OfferSet" → Fld Z h1 fo "com/example/nearside/nearside/slotted/delay/OfferSet" "words" "[J" (.ref b2) → Fld Z h1 fo "com/example/nearside/nearside/slotted/delay/OfferSet" "inBlocks" "[I" (.ref b5) → Fld Z h1 fo "com/example/nearside/nearside/slotted/delay/OfferSet" "inRacks" "[I" (.ref b9) → Fld Z h1 fo "com/example/nearside/nearside/slotted/delay/OfferSet" "racks" "[J" (.ref b12) → Fld Z h1 fo "com/example/nearside/nearside/slotted/delay/OfferSet" "rackOf" "[I" (.ref b14) → Fld Z h1 fo "com/example/nearside/nearside/slotted/delay/OfferSet" "blocked" "Z" (.int (nar .boolean (Int32.ofNat (nb - 1)))) → Fld Z h1 fo "com/example/nearside/nearside/slotted/delay/OfferSet" "perRack" "I" (.int pp) → Fld Z h1 fo "com/example/nearside/nearside/slotted/delay/OfferSet" "size" "I" (.int (0 : Int32)) → OwnArr Z h1 b2 .long nw (fun _ => (.long (0 : Int64))) → OwnArr Z h1 b5 .int nb (fun _ => (.int (0 : Int32))) → OwnArr Z h1 b9 .int (nm / pr) (fun _ => (.int (0 : Int32))) → OwnArr Z h1 b12 .long ((nm / pr + 63) / 64) (fun _ => (.long (0 : Int64))) → OwnArr Z h1 b14 .int nm (fun k => .int (Fr_ k)) → (i + d = nm) → (∀ k, k < i → Fr_ k = Int32.ofNat (k / pr)) → OwnFin p e below s (fun v h L => v = none ∧ Fr n0 L ∧ Keep h0 h [fo] ∧ Exa Z h fo "com/example/nearside/nearside/slotted/delay/OfferSet" ∧ ∃ aw ab ar ak ao : Addr, Fld Z h fo "com/example/nearside/nearside/slotted/delay/OfferSet" "words" "[J" (.ref aw) ∧ Fld Z h fo "com/example/nearside/nearside/slotted/delay/OfferSet" "inBlocks" "[I" (.ref ab) ∧ Fld Z h fo "com/example/nearside/nearside/slotted/delay/OfferSet" "inRacks" "[I" (.ref ar) ∧ Fld Z h fo "com/example/nearside/nearside/slotted/delay/OfferSet" "racks" "[J" (.ref ak) ∧ Fld Z h fo "com/example/nearside/nearside/slotted/delay/OfferSet" "rackOf" "[I" (.ref ao) ∧ Fld Z h fo "com/example/nearside/nearside/slotted/delay/OfferSet" "blocked" "Z" (.int (nar .boolean (Int32.ofNat (nb - 1)))) ∧ Fld Z h fo "com/example/nearside/nearside/slotted/delay/OfferSet" "perRack" "I" (.int pp) ∧ Fld Z h fo "com/example/nearside/nearside/slotted/delay/OfferSet" "size" "I" (.int (0 : Int32)) ∧ h0.size ≤ aw ∧ h0.size ≤ ab ∧ h0.size ≤ ar ∧ h0.size ≤ ak ∧ h0.size ≤ ao ∧ aw ≠ ab ∧ aw ≠ ar ∧ aw ≠ ak ∧ aw ≠ ao ∧ ab ≠ ar ∧ ab ≠ ak ∧ ab ≠ ao ∧ ar ≠ ak ∧ ar ≠ ao ∧ ak ≠ ao ∧ OwnArr Z h aw .long nw (fun _ => .long (0 : Int64)) ∧ OwnArr Z h ab .int nb (fun _ => .int (0 : Int32)) ∧ OwnArr Z h ar .int (nm / pr) (fun _ => .int (0 : Int32)) ∧ OwnArr Z h ak .long ((nm / pr + 63) / 64) (fun _ => .long (0 : Int64)) ∧ OwnArr Z h ao .int nm (fun k => .int (Int32.ofNat (k / pr)))) 5 1302 (T1.setTop (mkF m 94 #[rv fo, iv pm, iv pp, iv (Int32.ofNat i)] [])) := by
    intro d
    induction d with
    | zero =>
      intro i Fr_ T1 locs1 h1 X1 e1 N1 K1 H0 H1 H2 H3 H4 H5 H6 H7 H8 H9 H10 H11 H12 H13 hid hF
      have Z1 : n0 ≤ h1.size := Nat.le_trans Z0 K1.1
      refine own_go (fun t_ k_ => XS.iloadN X1.here hx rfl (hb hby d1_94) rfl k_) ?_
      show OwnFin p e below s _ _ _ (T1.setTop (mkF m 95 #[rv fo, iv pm, iv pp, iv (Int32.ofNat i)] [(.int (Int32.ofNat i))]))
      refine own_go (fun t_ k_ => XS.iloadN X1.here hx rfl (hb hby d1_95) rfl k_) ?_
      show OwnFin p e below s _ _ _ (T1.setTop (mkF m 96 #[rv fo, iv pm, iv pp, iv (Int32.ofNat i)] [(.int pm), (.int (Int32.ofNat i))]))
      have hc96 : ¬ ((Int32.ofNat i) < pm) := by rw [hpm, own_ltN (by omega) (by omega)]; omega
      refine own_go (fun t_ k_ => XS.icmpYes X1.here hx rfl (pc0 := 96) (pc' := 114) rfl (hb hby d1_96) rfl (flt hc96).2.1 (by decide) (by decide) k_) ?_
      show OwnFin p e below s _ _ _ (T1.setTop (mkF m 114 #[rv fo, iv pm, iv pp, iv (Int32.ofNat i)] []))
      refine own_ret X1 (v := none) hlk (fun _ => rfl) (fun fs hr => X1.returnOut hx hret (hb hby d1_114) hr) (by decide) (by decide) ?_
      rw [e1]
      exact ⟨rfl, N1, K1, H0, b2, b5, b9, b12, b14, H1, H2, H3, H4, H5, H6, H7, H8, sz_b2, sz_b5, sz_b9, sz_b12, sz_b14, ne_b2_b5, ne_b2_b9, ne_b2_b12, ne_b2_b14, ne_b5_b9, ne_b5_b12, ne_b5_b14, ne_b9_b12, ne_b9_b14, ne_b12_b14, H9, H10, H11, H12, H13.congr (fun z hz => by show Value.int (Fr_ z) = Value.int (Int32.ofNat (z / pr)); rw [hF z (by omega)])⟩
    | succ d ih =>
      intro i Fr_ T1 locs1 h1 X1 e1 N1 K1 H0 H1 H2 H3 H4 H5 H6 H7 H8 H9 H10 H11 H12 H13 hid hF
      have Z1 : n0 ≤ h1.size := Nat.le_trans Z0 K1.1
      refine own_go (fun t_ k_ => XS.iloadN X1.here hx rfl (hb hby d1_94) rfl k_) ?_
      show OwnFin p e below s _ _ _ (T1.setTop (mkF m 95 #[rv fo, iv pm, iv pp, iv (Int32.ofNat i)] [(.int (Int32.ofNat i))]))
      refine own_go (fun t_ k_ => XS.iloadN X1.here hx rfl (hb hby d1_95) rfl k_) ?_
      show OwnFin p e below s _ _ _ (T1.setTop (mkF m 96 #[rv fo, iv pm, iv pp, iv (Int32.ofNat i)] [(.int pm), (.int (Int32.ofNat i))]))
      have hc96 : (Int32.ofNat i) < pm := by rw [hpm, own_ltN (by omega) (by omega)]; omega
      refine own_go (fun t_ k_ => XS.icmpNo X1.here hx rfl (hb hby d1_96) rfl (tlt hc96).2.1 k_) ?_
      show OwnFin p e below s _ _ _ (T1.setTop (mkF m 99 #[rv fo, iv pm, iv pp, iv (Int32.ofNat i)] []))
      refine own_go (fun t_ k_ => XS.aloadN X1.here hx rfl (hb hby d1_99) rfl rfl k_) ?_
      show OwnFin p e below s _ _ _ (T1.setTop (mkF m 100 #[rv fo, iv pm, iv pp, iv (Int32.ofNat i)] [(.ref fo)]))
      obtain ⟨T17, X17, e17, st17⟩ := getF X1 hx hZ hown (host := "") (Or.inl (hw _ (List.mem_of_getElem? (i := 23) rfl))) Via.refl e1 H5 (g := (mkF m 100 #[rv fo, iv pm, iv pp, iv (Int32.ofNat i)] [(.ref fo)])) rfl rfl (hb hby d1_100)
      refine own_go st17 ?_
      show OwnFin p e below s _ _ _ (T17.setTop (mkF m 103 #[rv fo, iv pm, iv pp, iv (Int32.ofNat i)] [(.ref b14)]))
      refine own_go (fun t_ k_ => XS.iloadN X17.here hx rfl (hb hby d1_103) rfl k_) ?_
      show OwnFin p e below s _ _ _ (T17.setTop (mkF m 104 #[rv fo, iv pm, iv pp, iv (Int32.ofNat i)] [(.int (Int32.ofNat i)), (.ref b14)]))
      refine own_go (fun t_ k_ => XS.iloadN X17.here hx rfl (hb hby d1_104) rfl k_) ?_
      show OwnFin p e below s _ _ _ (T17.setTop (mkF m 105 #[rv fo, iv pm, iv pp, iv (Int32.ofNat i)] [(.int (Int32.ofNat i)), (.int (Int32.ofNat i)), (.ref b14)]))
      refine own_go (fun t_ k_ => XS.iloadN X17.here hx rfl (hb hby d1_105) rfl k_) ?_
      show OwnFin p e below s _ _ _ (T17.setTop (mkF m 106 #[rv fo, iv pm, iv pp, iv (Int32.ofNat i)] [(.int pp), (.int (Int32.ofNat i)), (.int (Int32.ofNat i)), (.ref b14)]))
      refine own_go (fun t_ k_ => XS.idiv X17.here hx rfl (hb hby d1_106) rfl (by rw [hpp]; exact own_nz (by omega) (by omega)) k_) ?_
      show OwnFin p e below s _ _ _ (T17.setTop (mkF m 107 #[rv fo, iv pm, iv pp, iv (Int32.ofNat i)] [(.int ((Int32.ofNat i) / pp)), (.int (Int32.ofNat i)), (.ref b14)]))
      rw [show ((Int32.ofNat i) / pp) = (Int32.ofNat (i / pr)) from own_c4 rfl hpp (by omega) (by omega)]
      show OwnFin p e below s _ _ _ (T17.setTop (mkF m 107 #[rv fo, iv pm, iv pp, iv (Int32.ofNat i)] [(.int (Int32.ofNat (i / pr))), (.int (Int32.ofNat i)), (.ref b14)]))
      obtain ⟨T18, h18, X18, e18, W18, A18, st18⟩ := own_iastore X17 hx hZ e17 H13 (i := i) rfl (by omega) (g := (mkF m 107 #[rv fo, iv pm, iv pp, iv (Int32.ofNat i)] [(.int (Int32.ofNat (i / pr))), (.int (Int32.ofNat i)), (.ref b14)])) rfl rfl (hb hby d1_107)
      have H0_18 := H0.wr W18
      have H1_18 := H1.other W18 (Or.inl ne_fo_b14)
      have H2_18 := H2.other W18 (Or.inl ne_fo_b14)
      have H3_18 := H3.other W18 (Or.inl ne_fo_b14)
      have H4_18 := H4.other W18 (Or.inl ne_fo_b14)
      have H5_18 := H5.other W18 (Or.inl ne_fo_b14)
      have H6_18 := H6.other W18 (Or.inl ne_fo_b14)
      have H7_18 := H7.other W18 (Or.inl ne_fo_b14)
      have H8_18 := H8.other W18 (Or.inl ne_fo_b14)
      have H9_18 := H9.other W18 ne_b2_b14
      have H10_18 := H10.other W18 ne_b5_b14
      have H11_18 := H11.other W18 ne_b9_b14
      have H12_18 := H12.other W18 ne_b12_b14
      have Z18 : n0 ≤ h18.size := Nat.le_trans Z1 (Keep.of_wr W18).1
      have K18 : Keep h0 h18 [fo] := K1.wr W18 (Or.inr sz_b14)
      have N18 := Fr.snoc X18 N1 g_b14
      refine own_go st18 ?_
      show OwnFin p e below s _ _ _ (T18.setTop (mkF m 108 #[rv fo, iv pm, iv pp, iv (Int32.ofNat i)] []))
      refine own_go (fun t_ k_ => XS.iinc X18.here hx rfl (hb hby d1_108) rfl (l' := #[rv fo, iv pm, iv pp, iv ((Int32.ofNat i) + (1 : Int32))]) rfl k_) ?_
      show OwnFin p e below s _ _ _ (T18.setTop (mkF m 111 #[rv fo, iv pm, iv pp, iv ((Int32.ofNat i) + (1 : Int32))] []))
      refine own_go (fun t_ k_ => XS.goto X18.here hx rfl (pc0 := 111) (pc' := 94) rfl (hb hby d1_111) (by decide) (by decide) k_) ?_
      show OwnFin p e below s _ _ _ (T18.setTop (mkF m 94 #[rv fo, iv pm, iv pp, iv ((Int32.ofNat i) + (1 : Int32))] []))
      have R19 : OwnArr Z h18 b14 .int nm (fun j => .int ((fun k => if k = i then Int32.ofNat (i / pr) else Fr_ k) j)) := A18.congr (fun z hz => by (try dsimp only); split <;> rfl)
      have einc : Int32.ofNat i + (1 : Int32) = Int32.ofNat (i + 1) := (inc_ofNat i).symm
      rw [einc]
      exact ih (i + 1) _ T18 _ _ X18 e18 N18 K18 H0_18 H1_18 H2_18 H3_18 H4_18 H5_18 H6_18 H7_18 H8_18 H9_18 H10_18 H11_18 H12_18 R19 (by omega) (fun k hk => by rcases Nat.lt_succ_iff_lt_or_eq.mp hk with q | q; exact (if_neg (Nat.ne_of_lt q)).trans (hF k q); exact (if_pos q).trans (by rw [q]))
  exact lp nm 0 (fun _ => (0 : Int32)) T16 _ _ X16 e16 N16 K16 E_fo_16 F_words_16 F_inBlocks_16 F_inRacks_16 F_racks_16 F_rackOf_16 F_blocked_16 F_perRack_16 F_size_16 V_b2_16 V_b5_16 V_b9_16 V_b12_16 V_b14_16 (by omega) (fun k hk => absurd hk (Nat.not_lt_zero k))
theorem d10_0 : decode prog_158_method_8_code 0 = .ok (.aload_n 0, 1) := by decide +kernel
theorem d10_1 : decode prog_158_method_8_code 1 = .ok (.getfield 7, 3) := by decide +kernel
theorem d10_4 : decode prog_158_method_8_code 4 = .ok (.iload_n 1, 1) := by decide +kernel
theorem d10_5 : decode prog_158_method_8_code 5 = .ok (.bipush 6, 2) := by decide +kernel
theorem d10_7 : decode prog_158_method_8_code 7 = .ok (.iushr, 1) := by decide +kernel
theorem d10_8 : decode prog_158_method_8_code 8 = .ok (.dup2, 1) := by decide +kernel
theorem d10_9 : decode prog_158_method_8_code 9 = .ok (.laload, 1) := by decide +kernel
theorem d10_10 : decode prog_158_method_8_code 10 = .ok (.lconst 1, 1) := by decide +kernel
theorem d10_11 : decode prog_158_method_8_code 11 = .ok (.iload_n 1, 1) := by decide +kernel
theorem d10_12 : decode prog_158_method_8_code 12 = .ok (.lshl, 1) := by decide +kernel
theorem d10_13 : decode prog_158_method_8_code 13 = .ok (.ldc2_w 47, 3) := by decide +kernel
theorem d10_16 : decode prog_158_method_8_code 16 = .ok (.lxor, 1) := by decide +kernel
theorem d10_17 : decode prog_158_method_8_code 17 = .ok (.land, 1) := by decide +kernel
theorem d10_18 : decode prog_158_method_8_code 18 = .ok (.lastore, 1) := by decide +kernel
theorem d10_19 : decode prog_158_method_8_code 19 = .ok (.aload_n 0, 1) := by decide +kernel
theorem d10_20 : decode prog_158_method_8_code 20 = .ok (.getfield 17, 3) := by decide +kernel
theorem d10_23 : decode prog_158_method_8_code 23 = .ok (.ifCond .eq 19, 3) := by decide +kernel
theorem d10_26 : decode prog_158_method_8_code 26 = .ok (.aload_n 0, 1) := by decide +kernel
theorem d10_27 : decode prog_158_method_8_code 27 = .ok (.getfield 13, 3) := by decide +kernel
theorem d10_30 : decode prog_158_method_8_code 30 = .ok (.iload_n 1, 1) := by decide +kernel
theorem d10_31 : decode prog_158_method_8_code 31 = .ok (.bipush 6, 2) := by decide +kernel
theorem d10_33 : decode prog_158_method_8_code 33 = .ok (.iushr, 1) := by decide +kernel
theorem d10_34 : decode prog_158_method_8_code 34 = .ok (.bipush 8, 2) := by decide +kernel
theorem d10_36 : decode prog_158_method_8_code 36 = .ok (.idiv, 1) := by decide +kernel
theorem d10_37 : decode prog_158_method_8_code 37 = .ok (.dup2, 1) := by decide +kernel
theorem d10_38 : decode prog_158_method_8_code 38 = .ok (.iaload, 1) := by decide +kernel
theorem d10_39 : decode prog_158_method_8_code 39 = .ok (.iconst 1, 1) := by decide +kernel
theorem d10_40 : decode prog_158_method_8_code 40 = .ok (.isub, 1) := by decide +kernel
theorem d10_41 : decode prog_158_method_8_code 41 = .ok (.iastore, 1) := by decide +kernel
theorem d10_42 : decode prog_158_method_8_code 42 = .ok (.aload_n 0, 1) := by decide +kernel
theorem d10_43 : decode prog_158_method_8_code 43 = .ok (.dup, 1) := by decide +kernel
theorem d10_44 : decode prog_158_method_8_code 44 = .ok (.getfield 34, 3) := by decide +kernel
theorem d10_47 : decode prog_158_method_8_code 47 = .ok (.iconst 1, 1) := by decide +kernel
theorem d10_48 : decode prog_158_method_8_code 48 = .ok (.isub, 1) := by decide +kernel
theorem d10_49 : decode prog_158_method_8_code 49 = .ok (.putfield 34, 3) := by decide +kernel
theorem d10_52 : decode prog_158_method_8_code 52 = .ok (.aload_n 0, 1) := by decide +kernel
theorem d10_53 : decode prog_158_method_8_code 53 = .ok (.getfield 27, 3) := by decide +kernel
theorem d10_56 : decode prog_158_method_8_code 56 = .ok (.iload_n 1, 1) := by decide +kernel
theorem d10_57 : decode prog_158_method_8_code 57 = .ok (.iaload, 1) := by decide +kernel
theorem d10_58 : decode prog_158_method_8_code 58 = .ok (.istore_n 2, 1) := by decide +kernel
theorem d10_59 : decode prog_158_method_8_code 59 = .ok (.aload_n 0, 1) := by decide +kernel
theorem d10_60 : decode prog_158_method_8_code 60 = .ok (.getfield 21, 3) := by decide +kernel
theorem d10_63 : decode prog_158_method_8_code 63 = .ok (.iload_n 2, 1) := by decide +kernel
theorem d10_64 : decode prog_158_method_8_code 64 = .ok (.iaload, 1) := by decide +kernel
theorem d10_65 : decode prog_158_method_8_code 65 = .ok (.iconst 1, 1) := by decide +kernel
theorem d10_66 : decode prog_158_method_8_code 66 = .ok (.isub, 1) := by decide +kernel
theorem d10_67 : decode prog_158_method_8_code 67 = .ok (.istore_n 3, 1) := by decide +kernel
theorem d10_68 : decode prog_158_method_8_code 68 = .ok (.aload_n 0, 1) := by decide +kernel
theorem d10_69 : decode prog_158_method_8_code 69 = .ok (.getfield 21, 3) := by decide +kernel
theorem d10_72 : decode prog_158_method_8_code 72 = .ok (.iload_n 2, 1) := by decide +kernel
theorem d10_73 : decode prog_158_method_8_code 73 = .ok (.iload_n 3, 1) := by decide +kernel
theorem d10_74 : decode prog_158_method_8_code 74 = .ok (.iastore, 1) := by decide +kernel
theorem d10_75 : decode prog_158_method_8_code 75 = .ok (.aload_n 0, 1) := by decide +kernel
theorem d10_76 : decode prog_158_method_8_code 76 = .ok (.getfield 24, 3) := by decide +kernel
theorem d10_79 : decode prog_158_method_8_code 79 = .ok (.iload_n 2, 1) := by decide +kernel
theorem d10_80 : decode prog_158_method_8_code 80 = .ok (.bipush 6, 2) := by decide +kernel
theorem d10_82 : decode prog_158_method_8_code 82 = .ok (.iushr, 1) := by decide +kernel
theorem d10_83 : decode prog_158_method_8_code 83 = .ok (.dup2, 1) := by decide +kernel
theorem d10_84 : decode prog_158_method_8_code 84 = .ok (.laload, 1) := by decide +kernel
theorem d10_85 : decode prog_158_method_8_code 85 = .ok (.iload_n 3, 1) := by decide +kernel
theorem d10_86 : decode prog_158_method_8_code 86 = .ok (.ifCond .ne 13, 3) := by decide +kernel
theorem d10_89 : decode prog_158_method_8_code 89 = .ok (.lconst 1, 1) := by decide +kernel
theorem d10_90 : decode prog_158_method_8_code 90 = .ok (.iload_n 2, 1) := by decide +kernel
theorem d10_91 : decode prog_158_method_8_code 91 = .ok (.lshl, 1) := by decide +kernel
theorem d10_92 : decode prog_158_method_8_code 92 = .ok (.ldc2_w 47, 3) := by decide +kernel
theorem d10_95 : decode prog_158_method_8_code 95 = .ok (.lxor, 1) := by decide +kernel
theorem d10_96 : decode prog_158_method_8_code 96 = .ok (.goto 6, 3) := by decide +kernel
theorem d10_99 : decode prog_158_method_8_code 99 = .ok (.ldc2_w 47, 3) := by decide +kernel
theorem d10_102 : decode prog_158_method_8_code 102 = .ok (.land, 1) := by decide +kernel
theorem d10_103 : decode prog_158_method_8_code 103 = .ok (.lastore, 1) := by decide +kernel
theorem d10_104 : decode prog_158_method_8_code 104 = .ok (.return_, 1) := by decide +kernel
theorem pn_10 : plainFor (⟨"com/example/nearside/nearside/slotted/delay/OfferSet", "remove", "(I)V"⟩ : MethodName) = true := plainFor_of_name (by first | (simp [plainName, overriddenIn]; done) | decide +kernel)
theorem ef_10 (m : MethodId) (fo : Addr) (pi : Int32) : entryFrame m #[(.ref fo), (.int pi)] 4 = mkF m 0 #[rv fo, iv pi, .unset, .unset] [] := by first | (simp [entryFrame, mkF, argsToLocals, Value.category]; done) | rfl
set_option maxRecDepth 65536 in
set_option maxHeartbeats 40000000 in
theorem rm10 (l : Launch) (Z : State) (a0 : Array Value) (hw : ∀ d ∈ tables_1, d.before a0 Z = true) (ws : List Jvm.Cond) (fo : Addr) (pi : Int32) (aw : Addr) (ab : Addr) (ar : Addr) (ak : Addr) (ao : Addr) (nm : Nat) (nw : Nat) (nb : Nat) (half : Nat) (pr : Nat) (m_ : Nat) (W : Nat → Int64) (iB : Nat → Int32) (iR : Nat → Int32) (R : Nat → Int64) (sz : Int32) (h0 : Heap) (n0 : Nat) (Z0 : n0 ≤ h0.size) (hpi : pi = Int32.ofNat m_) (hP : own_P pr) (hD : own_dim nm nw nb half) (hmn : m_ < nm) (E_fo : Exa Z h0 fo "com/example/nearside/nearside/slotted/delay/OfferSet") (F_words : Fld Z h0 fo "com/example/nearside/nearside/slotted/delay/OfferSet" "words" "[J" (.ref aw)) (F_inBlocks : Fld Z h0 fo "com/example/nearside/nearside/slotted/delay/OfferSet" "inBlocks" "[I" (.ref ab)) (F_inRacks : Fld Z h0 fo "com/example/nearside/nearside/slotted/delay/OfferSet" "inRacks" "[I" (.ref ar)) (F_racks : Fld Z h0 fo "com/example/nearside/nearside/slotted/delay/OfferSet" "racks" "[J" (.ref ak)) (F_rackOf : Fld Z h0 fo "com/example/nearside/nearside/slotted/delay/OfferSet" "rackOf" "[I" (.ref ao)) (F_blocked : Fld Z h0 fo "com/example/nearside/nearside/slotted/delay/OfferSet" "blocked" "Z" (.int (nar .boolean (Int32.ofNat (nb - 1))))) (F_size : Fld Z h0 fo "com/example/nearside/nearside/slotted/delay/OfferSet" "size" "I" (.int sz)) (V_aw : OwnArr Z h0 aw .long nw (fun k => .long (W k))) (V_ab : OwnArr Z h0 ab .int nb (fun k => .int (iB k))) (V_ar : OwnArr Z h0 ar .int (nm / pr) (fun k => .int (iR k))) (V_ak : OwnArr Z h0 ak .long ((nm / pr + 63) / 64) (fun k => .long (R k))) (V_ao : OwnArr Z h0 ao .int nm (fun k => .int (Int32.ofNat (k / pr)))) (ne_fo_aw : fo ≠ aw) (ne_fo_ab : fo ≠ ab) (ne_fo_ar : fo ≠ ar) (ne_fo_ak : fo ≠ ak) (ne_fo_ao : fo ≠ ao) (ne_aw_ab : aw ≠ ab) (ne_aw_ar : aw ≠ ar) (ne_aw_ak : aw ≠ ak) (ne_aw_ao : aw ≠ ao) (ne_ab_ar : ab ≠ ar) (ne_ab_ak : ab ≠ ak) (ne_ab_ao : ab ≠ ao) (ne_ar_ak : ar ≠ ak) (ne_ar_ao : ar ≠ ao) (ne_ak_ao : ak ≠ ao) (g_fo : n0 ≤ fo) (g_aw : n0 ≤ aw) (g_ab : n0 ≤ ab) (g_ar : n0 ≤ ar) (g_ak : n0 ≤ ak) :
    OwnCtr l Z (⟨"com/example/nearside/nearside/slotted/delay/OfferSet", "remove", "(I)V"⟩ : MethodName) ws prog_158_method_8_code 4 none ({ frames := 0, cells := 0, slots := 0, locals := 0 } : Room) #[(.ref fo), (.int pi)] h0 (fun v h L => v = none ∧ Fr n0 L ∧ Keep h0 h [fo, aw, ab, ar, ak] ∧ Exa Z h fo "com/example/nearside/nearside/slotted/delay/OfferSet" ∧ Fld Z h fo "com/example/nearside/nearside/slotted/delay/OfferSet" "words" "[J" (.ref aw) ∧ Fld Z h fo "com/example/nearside/nearside/slotted/delay/OfferSet" "inBlocks" "[I" (.ref ab) ∧ Fld Z h fo "com/example/nearside/nearside/slotted/delay/OfferSet" "racks" "[J" (.ref ak) ∧ Fld Z h fo "com/example/nearside/nearside/slotted/delay/OfferSet" "size" "I" (.int (sz - (1 : Int32))) ∧ OwnArr Z h aw .long nw (fun k => .long (own_rmW W m_ k)) ∧ OwnArr Z h ab .int nb (fun k => .int (own_rmB nb iB m_ k)) ∧ OwnArr Z h ak .long ((nm / pr + 63) / 64) (fun k => .long (own_rmR R iR m_ pr k))) := by
  refine own_body (g0 := fun m => mkF m 0 #[rv fo, iv pi, .unset, .unset] []) pn_10 (fun m => ef_10 m fo pi) ?_
  intro p e s m below meth c s₁ X0 hx hby hml hown hnm hZ e0 hret hlk
  have hml : c.maxLocals = 4 := hml
  have hown : s.vm.findClass "com/example/nearside/nearside/slotted/delay/OfferSet" = some m.cls := hown
  have hnm : meth.name = "remove" := hnm
  have hret : meth.sig.returnType = none := hret
  have N0 := Fr.nil n0
  have K0 := Keep.refl h0 [fo, aw, ab, ar, ak]
  show OwnFin p e below s _ _ _ (s₁.setTop (mkF m 0 #[rv fo, iv pi, .unset, .unset] []))
  have d0 := own_d0 hD
  have d1 := own_d1 hP hD
  have hmr := own_d2 hP hD hmn
  refine own_go (fun t_ k_ => XS.aloadN X0.here hx rfl (hb hby d10_0) rfl rfl k_) ?_
  show OwnFin p e below s _ _ _ (s₁.setTop (mkF m 1 #[rv fo, iv pi, .unset, .unset] [(.ref fo)]))
  obtain ⟨T1, X1, e1, st1⟩ := getF X0 hx hZ hown (host := "") (Or.inl (hw _ (List.mem_of_getElem? (i := 12) rfl))) Via.refl e0 F_words (g := (mkF m 1 #[rv fo, iv pi, .unset, .unset] [(.ref fo)])) rfl rfl (hb hby d10_1)
  refine own_go st1 ?_
  show OwnFin p e below s _ _ _ (T1.setTop (mkF m 4 #[rv fo, iv pi, .unset, .unset] [(.ref aw)]))
  refine own_go (fun t_ k_ => XS.iloadN X1.here hx rfl (hb hby d10_4) rfl k_) ?_
  show OwnFin p e below s _ _ _ (T1.setTop (mkF m 5 #[rv fo, iv pi, .unset, .unset] [(.int pi), (.ref aw)]))
  refine own_go (fun t_ k_ => XS.bipush X1.here hx rfl (hb hby d10_5) k_) ?_
  show OwnFin p e below s _ _ _ (T1.setTop (mkF m 7 #[rv fo, iv pi, .unset, .unset] [(.int (6 : Int32)), (.int pi), (.ref aw)]))
  refine own_go (fun t_ k_ => XS.iushr X1.here hx rfl (hb hby d10_7) rfl k_) ?_
  show OwnFin p e below s _ _ _ (T1.setTop (mkF m 8 #[rv fo, iv pi, .unset, .unset] [(.int ((pi.toUInt32 >>> ((6 : Int32) &&& 31).toUInt32).toInt32)), (.ref aw)]))
  rw [show ((pi.toUInt32 >>> ((6 : Int32) &&& 31).toUInt32).toInt32) = (Int32.ofNat (m_ / 64)) from own_shr6' hpi (by omega)]
  show OwnFin p e below s _ _ _ (T1.setTop (mkF m 8 #[rv fo, iv pi, .unset, .unset] [(.int (Int32.ofNat (m_ / 64))), (.ref aw)]))
  refine own_go (fun t_ k_ => Jvm.Free.XT.dup2 X1.here hx rfl (hb hby d10_8) rfl rfl rfl k_) ?_
  show OwnFin p e below s _ _ _ (T1.setTop (mkF m 9 #[rv fo, iv pi, .unset, .unset] [(.int (Int32.ofNat (m_ / 64))), (.ref aw), (.int (Int32.ofNat (m_ / 64))), (.ref aw)]))
  refine own_go (own_laload X1 hx hZ e1 V_aw (i := (m_ / 64)) rfl (by omega) (g := (mkF m 9 #[rv fo, iv pi, .unset, .unset] [(.int (Int32.ofNat (m_ / 64))), (.ref aw), (.int (Int32.ofNat (m_ / 64))), (.ref aw)])) rfl rfl (hb hby d10_9)) ?_
  show OwnFin p e below s _ _ _ (T1.setTop (mkF m 10 #[rv fo, iv pi, .unset, .unset] [(.long (W (m_ / 64))), (.int (Int32.ofNat (m_ / 64))), (.ref aw)]))
  refine own_go (fun t_ k_ => XS.lconst X1.here hx rfl (hb hby d10_10) k_) ?_
  show OwnFin p e below s _ _ _ (T1.setTop (mkF m 11 #[rv fo, iv pi, .unset, .unset] [(.long (1 : Int64)), (.long (W (m_ / 64))), (.int (Int32.ofNat (m_ / 64))), (.ref aw)]))
  refine own_go (fun t_ k_ => XS.iloadN X1.here hx rfl (hb hby d10_11) rfl k_) ?_
  show OwnFin p e below s _ _ _ (T1.setTop (mkF m 12 #[rv fo, iv pi, .unset, .unset] [(.int pi), (.long (1 : Int64)), (.long (W (m_ / 64))), (.int (Int32.ofNat (m_ / 64))), (.ref aw)]))
  refine own_go (fun t_ k_ => XS.lshl X1.here hx rfl (hb hby d10_12) rfl k_) ?_
  show OwnFin p e below s _ _ _ (T1.setTop (mkF m 13 #[rv fo, iv pi, .unset, .unset] [(.long ((1 : Int64) <<< (pi &&& 0x3f).toInt64)), (.long (W (m_ / 64))), (.int (Int32.ofNat (m_ / 64))), (.ref aw)]))
  rw [show ((1 : Int64) <<< (pi &&& 0x3f).toInt64) = (own_z m_) from by rw [hpi]; rfl]
  show OwnFin p e below s _ _ _ (T1.setTop (mkF m 13 #[rv fo, iv pi, .unset, .unset] [(.long (own_z m_)), (.long (W (m_ / 64))), (.int (Int32.ofNat (m_ / 64))), (.ref aw)]))
  refine own_go (X1.ldc2Long hx hown (mvT hZ (hw _ (List.mem_of_getElem? (i := 45) rfl))) (g := (mkF m 13 #[rv fo, iv pi, .unset, .unset] [(.long (own_z m_)), (.long (W (m_ / 64))), (.int (Int32.ofNat (m_ / 64))), (.ref aw)])) rfl (hb hby d10_13)) ?_
  show OwnFin p e below s _ _ _ (T1.setTop (mkF m 16 #[rv fo, iv pi, .unset, .unset] [(.long (-1 : Int64)), (.long (own_z m_)), (.long (W (m_ / 64))), (.int (Int32.ofNat (m_ / 64))), (.ref aw)]))
  refine own_go (fun t_ k_ => XS.lxor X1.here hx rfl (hb hby d10_16) rfl k_) ?_
  show OwnFin p e below s _ _ _ (T1.setTop (mkF m 17 #[rv fo, iv pi, .unset, .unset] [(.long ((own_z m_) ^^^ (-1 : Int64))), (.long (W (m_ / 64))), (.int (Int32.ofNat (m_ / 64))), (.ref aw)]))
  refine own_go (fun t_ k_ => XS.land X1.here hx rfl (hb hby d10_17) rfl k_) ?_
  show OwnFin p e below s _ _ _ (T1.setTop (mkF m 18 #[rv fo, iv pi, .unset, .unset] [(.long ((W (m_ / 64)) &&& ((own_z m_) ^^^ (-1 : Int64)))), (.int (Int32.ofNat (m_ / 64))), (.ref aw)]))
  obtain ⟨T2, h2, X2, e2, W2, A2, st2⟩ := own_lastore X1 hx hZ e1 V_aw (i := (m_ / 64)) rfl (by omega) (g := (mkF m 18 #[rv fo, iv pi, .unset, .unset] [(.long ((W (m_ / 64)) &&& ((own_z m_) ^^^ (-1 : Int64)))), (.int (Int32.ofNat (m_ / 64))), (.ref aw)])) rfl rfl (hb hby d10_18)
  have E_fo_2 := E_fo.wr W2
  have F_words_2 := F_words.other W2 (Or.inl ne_fo_aw)
  have F_inBlocks_2 := F_inBlocks.other W2 (Or.inl ne_fo_aw)
  have F_inRacks_2 := F_inRacks.other W2 (Or.inl ne_fo_aw)
  have F_racks_2 := F_racks.other W2 (Or.inl ne_fo_aw)
  have F_rackOf_2 := F_rackOf.other W2 (Or.inl ne_fo_aw)
  have F_blocked_2 := F_blocked.other W2 (Or.inl ne_fo_aw)
  have F_size_2 := F_size.other W2 (Or.inl ne_fo_aw)
  have V_ab_2 := V_ab.other W2 (Ne.symm ne_aw_ab)
  have V_ar_2 := V_ar.other W2 (Ne.symm ne_aw_ar)
  have V_ak_2 := V_ak.other W2 (Ne.symm ne_aw_ak)
  have V_ao_2 := V_ao.other W2 (Ne.symm ne_aw_ao)
  have Z2 : n0 ≤ h2.size := Nat.le_trans Z0 (Keep.of_wr W2).1
  have K2 : Keep h0 h2 [fo, aw, ab, ar, ak] := K0.wr W2 (Or.inl (List.mem_of_getElem? (i := 1) rfl))
  have N2 := Fr.snoc X2 N0 g_aw
  refine own_go st2 ?_
  show OwnFin p e below s _ _ _ (T2.setTop (mkF m 19 #[rv fo, iv pi, .unset, .unset] []))
  refine own_go (fun t_ k_ => XS.aloadN X2.here hx rfl (hb hby d10_19) rfl rfl k_) ?_
  show OwnFin p e below s _ _ _ (T2.setTop (mkF m 20 #[rv fo, iv pi, .unset, .unset] [(.ref fo)]))
  obtain ⟨T3, X3, e3, st3⟩ := getF X2 hx hZ hown (host := "") (Or.inl (hw _ (List.mem_of_getElem? (i := 17) rfl))) Via.refl e2 F_blocked_2 (g := (mkF m 20 #[rv fo, iv pi, .unset, .unset] [(.ref fo)])) rfl rfl (hb hby d10_20)
  refine own_go st3 ?_
  show OwnFin p e below s _ _ _ (T3.setTop (mkF m 23 #[rv fo, iv pi, .unset, .unset] [(.int (nar .boolean (Int32.ofNat (nb - 1))))]))
  by_cases hc23 : (nar .boolean (Int32.ofNat (nb - 1))) = (0 : Int32)
  · refine own_go (fun t_ k_ => XS.ifYes X3.here hx rfl (pc0 := 23) (pc' := 42) rfl (hb hby d10_23) rfl ((if0 _ _).trans (teq hc23).1) (by decide) (by decide) k_) ?_
    show OwnFin p e below s _ _ _ (T3.setTop (mkF m 42 #[rv fo, iv pi, .unset, .unset] []))
    refine own_go (fun t_ k_ => XS.aloadN X3.here hx rfl (hb hby d10_42) rfl rfl k_) ?_
    show OwnFin p e below s _ _ _ (T3.setTop (mkF m 43 #[rv fo, iv pi, .unset, .unset] [(.ref fo)]))
    refine own_go (fun t_ k_ => XS.dup X3.here hx rfl (hb hby d10_43) rfl rfl k_) ?_
    show OwnFin p e below s _ _ _ (T3.setTop (mkF m 44 #[rv fo, iv pi, .unset, .unset] [(.ref fo), (.ref fo)]))
    obtain ⟨T4, X4, e4, st4⟩ := getF X3 hx hZ hown (host := "") (Or.inl (hw _ (List.mem_of_getElem? (i := 32) rfl))) Via.refl e3 F_size_2 (g := (mkF m 44 #[rv fo, iv pi, .unset, .unset] [(.ref fo), (.ref fo)])) rfl rfl (hb hby d10_44)
    refine own_go st4 ?_
    show OwnFin p e below s _ _ _ (T4.setTop (mkF m 47 #[rv fo, iv pi, .unset, .unset] [(.int sz), (.ref fo)]))
    refine own_go (fun t_ k_ => XS.iconst X4.here hx rfl (hb hby d10_47) k_) ?_
    show OwnFin p e below s _ _ _ (T4.setTop (mkF m 48 #[rv fo, iv pi, .unset, .unset] [(.int (1 : Int32)), (.int sz), (.ref fo)]))
    refine own_go (fun t_ k_ => XS.isub X4.here hx rfl (hb hby d10_48) rfl k_) ?_
    show OwnFin p e below s _ _ _ (T4.setTop (mkF m 49 #[rv fo, iv pi, .unset, .unset] [(.int (sz - (1 : Int32))), (.ref fo)]))
    obtain ⟨T5, h5, X5, e5, W5, st5⟩ := putF X4 hx hZ hown (host := "") (Or.inl (hw _ (List.mem_of_getElem? (i := 32) rfl))) Via.refl e4 F_size_2 E_fo_2 (Or.inl (hw _ (List.mem_of_getElem? (i := 33) rfl))) (hw _ (List.mem_of_getElem? (i := 4) rfl)) (ty := .int) (by decide) rfl rfl (g := (mkF m 49 #[rv fo, iv pi, .unset, .unset] [(.int (sz - (1 : Int32))), (.ref fo)])) rfl rfl (hb hby d10_49)
    have E_fo_5 := E_fo_2.wr W5
    have F_words_5 := F_words_2.other W5 (Or.inr (slot_ne (Or.inr (hw _ (List.mem_of_getElem? (i := 13) rfl))) (Or.inl (hw _ (List.mem_of_getElem? (i := 33) rfl))) (by decide) (t := (.array .long)) (t' := .int) (by decide) (by decide)))
    have F_inBlocks_5 := F_inBlocks_2.other W5 (Or.inr (slot_ne (Or.inr (hw _ (List.mem_of_getElem? (i := 16) rfl))) (Or.inl (hw _ (List.mem_of_getElem? (i := 33) rfl))) (by decide) (t := (.array .int)) (t' := .int) (by decide) (by decide)))
    have F_inRacks_5 := F_inRacks_2.other W5 (Or.inr (slot_ne (Or.inr (hw _ (List.mem_of_getElem? (i := 20) rfl))) (Or.inl (hw _ (List.mem_of_getElem? (i := 33) rfl))) (by decide) (t := (.array .int)) (t' := .int) (by decide) (by decide)))
    have F_racks_5 := F_racks_2.other W5 (Or.inr (slot_ne (Or.inr (hw _ (List.mem_of_getElem? (i := 22) rfl))) (Or.inl (hw _ (List.mem_of_getElem? (i := 33) rfl))) (by decide) (t := (.array .long)) (t' := .int) (by decide) (by decide)))
    have F_rackOf_5 := F_rackOf_2.other W5 (Or.inr (slot_ne (Or.inr (hw _ (List.mem_of_getElem? (i := 24) rfl))) (Or.inl (hw _ (List.mem_of_getElem? (i := 33) rfl))) (by decide) (t := (.array .int)) (t' := .int) (by decide) (by decide)))
    have F_blocked_5 := F_blocked_2.other W5 (Or.inr (slot_ne (Or.inr (hw _ (List.mem_of_getElem? (i := 18) rfl))) (Or.inl (hw _ (List.mem_of_getElem? (i := 33) rfl))) (by decide) (t := .boolean) (t' := .int) (by decide) (by decide)))
    have F_size_5 := F_size_2.same W5
    have V_aw_5 := A2.other W5 (Ne.symm ne_fo_aw)
    have V_ab_5 := V_ab_2.other W5 (Ne.symm ne_fo_ab)
    have V_ar_5 := V_ar_2.other W5 (Ne.symm ne_fo_ar)
    have V_ak_5 := V_ak_2.other W5 (Ne.symm ne_fo_ak)
    have V_ao_5 := V_ao_2.other W5 (Ne.symm ne_fo_ao)
    have Z5 : n0 ≤ h5.size := Nat.le_trans Z2 (Keep.of_wr W5).1
    have K5 : Keep h0 h5 [fo, aw, ab, ar, ak] := K2.wr W5 (Or.inl (List.mem_of_getElem? (i := 0) rfl))
    have N5 := Fr.snoc X5 N2 g_fo
    refine own_go st5 ?_
    show OwnFin p e below s _ _ _ (T5.setTop (mkF m 52 #[rv fo, iv pi, .unset, .unset] []))
    refine own_go (fun t_ k_ => XS.aloadN X5.here hx rfl (hb hby d10_52) rfl rfl k_) ?_
    show OwnFin p e below s _ _ _ (T5.setTop (mkF m 53 #[rv fo, iv pi, .unset, .unset] [(.ref fo)]))
    obtain ⟨T6, X6, e6, st6⟩ := getF X5 hx hZ hown (host := "") (Or.inl (hw _ (List.mem_of_getElem? (i := 23) rfl))) Via.refl e5 F_rackOf_5 (g := (mkF m 53 #[rv fo, iv pi, .unset, .unset] [(.ref fo)])) rfl rfl (hb hby d10_53)
    refine own_go st6 ?_
    show OwnFin p e below s _ _ _ (T6.setTop (mkF m 56 #[rv fo, iv pi, .unset, .unset] [(.ref ao)]))
    refine own_go (fun t_ k_ => XS.iloadN X6.here hx rfl (hb hby d10_56) rfl k_) ?_
    show OwnFin p e below s _ _ _ (T6.setTop (mkF m 57 #[rv fo, iv pi, .unset, .unset] [(.int pi), (.ref ao)]))
    refine own_go (own_iaload X6 hx hZ e6 V_ao_5 (i := m_) hpi hmn (g := (mkF m 57 #[rv fo, iv pi, .unset, .unset] [(.int pi), (.ref ao)])) rfl rfl (hb hby d10_57)) ?_
    show OwnFin p e below s _ _ _ (T6.setTop (mkF m 58 #[rv fo, iv pi, .unset, .unset] [(.int (Int32.ofNat (m_ / pr)))]))
    refine own_go (fun t_ k_ => XS.istoreN X6.here hx rfl (hb hby d10_58) rfl (l' := #[rv fo, iv pi, iv (Int32.ofNat (m_ / pr)), .unset]) rfl k_) ?_
    show OwnFin p e below s _ _ _ (T6.setTop (mkF m 59 #[rv fo, iv pi, iv (Int32.ofNat (m_ / pr)), .unset] []))
    refine own_go (fun t_ k_ => XS.aloadN X6.here hx rfl (hb hby d10_59) rfl rfl k_) ?_
    show OwnFin p e below s _ _ _ (T6.setTop (mkF m 60 #[rv fo, iv pi, iv (Int32.ofNat (m_ / pr)), .unset] [(.ref fo)]))
    obtain ⟨T7, X7, e7, st7⟩ := getF X6 hx hZ hown (host := "") (Or.inl (hw _ (List.mem_of_getElem? (i := 19) rfl))) Via.refl e6 F_inRacks_5 (g := (mkF m 60 #[rv fo, iv pi, iv (Int32.ofNat (m_ / pr)), .unset] [(.ref fo)])) rfl rfl (hb hby d10_60)
    refine own_go st7 ?_
    show OwnFin p e below s _ _ _ (T7.setTop (mkF m 63 #[rv fo, iv pi, iv (Int32.ofNat (m_ / pr)), .unset] [(.ref ar)]))
    refine own_go (fun t_ k_ => XS.iloadN X7.here hx rfl (hb hby d10_63) rfl k_) ?_
    show OwnFin p e below s _ _ _ (T7.setTop (mkF m 64 #[rv fo, iv pi, iv (Int32.ofNat (m_ / pr)), .unset] [(.int (Int32.ofNat (m_ / pr))), (.ref ar)]))
    refine own_go (own_iaload X7 hx hZ e7 V_ar_5 (i := (m_ / pr)) rfl hmr (g := (mkF m 64 #[rv fo, iv pi, iv (Int32.ofNat (m_ / pr)), .unset] [(.int (Int32.ofNat (m_ / pr))), (.ref ar)])) rfl rfl (hb hby d10_64)) ?_
    show OwnFin p e below s _ _ _ (T7.setTop (mkF m 65 #[rv fo, iv pi, iv (Int32.ofNat (m_ / pr)), .unset] [(.int (iR (m_ / pr)))]))
    refine own_go (fun t_ k_ => XS.iconst X7.here hx rfl (hb hby d10_65) k_) ?_
    show OwnFin p e below s _ _ _ (T7.setTop (mkF m 66 #[rv fo, iv pi, iv (Int32.ofNat (m_ / pr)), .unset] [(.int (1 : Int32)), (.int (iR (m_ / pr)))]))
    refine own_go (fun t_ k_ => XS.isub X7.here hx rfl (hb hby d10_66) rfl k_) ?_
    show OwnFin p e below s _ _ _ (T7.setTop (mkF m 67 #[rv fo, iv pi, iv (Int32.ofNat (m_ / pr)), .unset] [(.int ((iR (m_ / pr)) - (1 : Int32)))]))
    refine own_go (fun t_ k_ => XS.istoreN X7.here hx rfl (hb hby d10_67) rfl (l' := #[rv fo, iv pi, iv (Int32.ofNat (m_ / pr)), iv ((iR (m_ / pr)) - (1 : Int32))]) rfl k_) ?_
    show OwnFin p e below s _ _ _ (T7.setTop (mkF m 68 #[rv fo, iv pi, iv (Int32.ofNat (m_ / pr)), iv ((iR (m_ / pr)) - (1 : Int32))] []))
    refine own_go (fun t_ k_ => XS.aloadN X7.here hx rfl (hb hby d10_68) rfl rfl k_) ?_
    show OwnFin p e below s _ _ _ (T7.setTop (mkF m 69 #[rv fo, iv pi, iv (Int32.ofNat (m_ / pr)), iv ((iR (m_ / pr)) - (1 : Int32))] [(.ref fo)]))
    obtain ⟨T8, X8, e8, st8⟩ := getF X7 hx hZ hown (host := "") (Or.inl (hw _ (List.mem_of_getElem? (i := 19) rfl))) Via.refl e7 F_inRacks_5 (g := (mkF m 69 #[rv fo, iv pi, iv (Int32.ofNat (m_ / pr)), iv ((iR (m_ / pr)) - (1 : Int32))] [(.ref fo)])) rfl rfl (hb hby d10_69)
    refine own_go st8 ?_
    show OwnFin p e below s _ _ _ (T8.setTop (mkF m 72 #[rv fo, iv pi, iv (Int32.ofNat (m_ / pr)), iv ((iR (m_ / pr)) - (1 : Int32))] [(.ref ar)]))
    refine own_go (fun t_ k_ => XS.iloadN X8.here hx rfl (hb hby d10_72) rfl k_) ?_
    show OwnFin p e below s _ _ _ (T8.setTop (mkF m 73 #[rv fo, iv pi, iv (Int32.ofNat (m_ / pr)), iv ((iR (m_ / pr)) - (1 : Int32))] [(.int (Int32.ofNat (m_ / pr))), (.ref ar)]))
    refine own_go (fun t_ k_ => XS.iloadN X8.here hx rfl (hb hby d10_73) rfl k_) ?_
    show OwnFin p e below s _ _ _ (T8.setTop (mkF m 74 #[rv fo, iv pi, iv (Int32.ofNat (m_ / pr)), iv ((iR (m_ / pr)) - (1 : Int32))] [(.int ((iR (m_ / pr)) - (1 : Int32))), (.int (Int32.ofNat (m_ / pr))), (.ref ar)]))
    obtain ⟨T9, h9, X9, e9, W9, A9, st9⟩ := own_iastore X8 hx hZ e8 V_ar_5 (i := (m_ / pr)) rfl hmr (g := (mkF m 74 #[rv fo, iv pi, iv (Int32.ofNat (m_ / pr)), iv ((iR (m_ / pr)) - (1 : Int32))] [(.int ((iR (m_ / pr)) - (1 : Int32))), (.int (Int32.ofNat (m_ / pr))), (.ref ar)])) rfl rfl (hb hby d10_74)
    have E_fo_9 := E_fo_5.wr W9
    have F_words_9 := F_words_5.other W9 (Or.inl ne_fo_ar)
    have F_inBlocks_9 := F_inBlocks_5.other W9 (Or.inl ne_fo_ar)
    have F_inRacks_9 := F_inRacks_5.other W9 (Or.inl ne_fo_ar)
    have F_racks_9 := F_racks_5.other W9 (Or.inl ne_fo_ar)
    have F_rackOf_9 := F_rackOf_5.other W9 (Or.inl ne_fo_ar)
    have F_blocked_9 := F_blocked_5.other W9 (Or.inl ne_fo_ar)
    have F_size_9 := F_size_5.other W9 (Or.inl ne_fo_ar)
    have V_aw_9 := V_aw_5.other W9 ne_aw_ar
    have V_ab_9 := V_ab_5.other W9 ne_ab_ar
    have V_ak_9 := V_ak_5.other W9 (Ne.symm ne_ar_ak)
    have V_ao_9 := V_ao_5.other W9 (Ne.symm ne_ar_ao)
    have Z9 : n0 ≤ h9.size := Nat.le_trans Z5 (Keep.of_wr W9).1
    have K9 : Keep h0 h9 [fo, aw, ab, ar, ak] := K5.wr W9 (Or.inl (List.mem_of_getElem? (i := 3) rfl))
    have N9 := Fr.snoc X9 N5 g_ar
    refine own_go st9 ?_
    show OwnFin p e below s _ _ _ (T9.setTop (mkF m 75 #[rv fo, iv pi, iv (Int32.ofNat (m_ / pr)), iv ((iR (m_ / pr)) - (1 : Int32))] []))
    refine own_go (fun t_ k_ => XS.aloadN X9.here hx rfl (hb hby d10_75) rfl rfl k_) ?_
    show OwnFin p e below s _ _ _ (T9.setTop (mkF m 76 #[rv fo, iv pi, iv (Int32.ofNat (m_ / pr)), iv ((iR (m_ / pr)) - (1 : Int32))] [(.ref fo)]))
    obtain ⟨T10, X10, e10, st10⟩ := getF X9 hx hZ hown (host := "") (Or.inl (hw _ (List.mem_of_getElem? (i := 21) rfl))) Via.refl e9 F_racks_9 (g := (mkF m 76 #[rv fo, iv pi, iv (Int32.ofNat (m_ / pr)), iv ((iR (m_ / pr)) - (1 : Int32))] [(.ref fo)])) rfl rfl (hb hby d10_76)
    refine own_go st10 ?_
    show OwnFin p e below s _ _ _ (T10.setTop (mkF m 79 #[rv fo, iv pi, iv (Int32.ofNat (m_ / pr)), iv ((iR (m_ / pr)) - (1 : Int32))] [(.ref ak)]))
    refine own_go (fun t_ k_ => XS.iloadN X10.here hx rfl (hb hby d10_79) rfl k_) ?_
    show OwnFin p e below s _ _ _ (T10.setTop (mkF m 80 #[rv fo, iv pi, iv (Int32.ofNat (m_ / pr)), iv ((iR (m_ / pr)) - (1 : Int32))] [(.int (Int32.ofNat (m_ / pr))), (.ref ak)]))
    refine own_go (fun t_ k_ => XS.bipush X10.here hx rfl (hb hby d10_80) k_) ?_
    show OwnFin p e below s _ _ _ (T10.setTop (mkF m 82 #[rv fo, iv pi, iv (Int32.ofNat (m_ / pr)), iv ((iR (m_ / pr)) - (1 : Int32))] [(.int (6 : Int32)), (.int (Int32.ofNat (m_ / pr))), (.ref ak)]))
    refine own_go (fun t_ k_ => XS.iushr X10.here hx rfl (hb hby d10_82) rfl k_) ?_
    show OwnFin p e below s _ _ _ (T10.setTop (mkF m 83 #[rv fo, iv pi, iv (Int32.ofNat (m_ / pr)), iv ((iR (m_ / pr)) - (1 : Int32))] [(.int (((Int32.ofNat (m_ / pr)).toUInt32 >>> ((6 : Int32) &&& 31).toUInt32).toInt32)), (.ref ak)]))
    rw [show (((Int32.ofNat (m_ / pr)).toUInt32 >>> ((6 : Int32) &&& 31).toUInt32).toInt32) = (Int32.ofNat (m_ / pr / 64)) from own_shr6' rfl (by omega)]
    show OwnFin p e below s _ _ _ (T10.setTop (mkF m 83 #[rv fo, iv pi, iv (Int32.ofNat (m_ / pr)), iv ((iR (m_ / pr)) - (1 : Int32))] [(.int (Int32.ofNat (m_ / pr / 64))), (.ref ak)]))
    refine own_go (fun t_ k_ => Jvm.Free.XT.dup2 X10.here hx rfl (hb hby d10_83) rfl rfl rfl k_) ?_
    show OwnFin p e below s _ _ _ (T10.setTop (mkF m 84 #[rv fo, iv pi, iv (Int32.ofNat (m_ / pr)), iv ((iR (m_ / pr)) - (1 : Int32))] [(.int (Int32.ofNat (m_ / pr / 64))), (.ref ak), (.int (Int32.ofNat (m_ / pr / 64))), (.ref ak)]))
    refine own_go (own_laload X10 hx hZ e10 V_ak_9 (i := (m_ / pr / 64)) rfl (by omega) (g := (mkF m 84 #[rv fo, iv pi, iv (Int32.ofNat (m_ / pr)), iv ((iR (m_ / pr)) - (1 : Int32))] [(.int (Int32.ofNat (m_ / pr / 64))), (.ref ak), (.int (Int32.ofNat (m_ / pr / 64))), (.ref ak)])) rfl rfl (hb hby d10_84)) ?_
    show OwnFin p e below s _ _ _ (T10.setTop (mkF m 85 #[rv fo, iv pi, iv (Int32.ofNat (m_ / pr)), iv ((iR (m_ / pr)) - (1 : Int32))] [(.long (R (m_ / pr / 64))), (.int (Int32.ofNat (m_ / pr / 64))), (.ref ak)]))
    refine own_go (fun t_ k_ => XS.iloadN X10.here hx rfl (hb hby d10_85) rfl k_) ?_
    show OwnFin p e below s _ _ _ (T10.setTop (mkF m 86 #[rv fo, iv pi, iv (Int32.ofNat (m_ / pr)), iv ((iR (m_ / pr)) - (1 : Int32))] [(.int ((iR (m_ / pr)) - (1 : Int32))), (.long (R (m_ / pr / 64))), (.int (Int32.ofNat (m_ / pr / 64))), (.ref ak)]))
    by_cases hc86 : ((iR (m_ / pr)) - (1 : Int32)) = (0 : Int32)
    · refine own_go (fun t_ k_ => XS.ifNo X10.here hx rfl (hb hby d10_86) rfl ((if0 _ _).trans (teq hc86).2) k_) ?_
      show OwnFin p e below s _ _ _ (T10.setTop (mkF m 89 #[rv fo, iv pi, iv (Int32.ofNat (m_ / pr)), iv ((iR (m_ / pr)) - (1 : Int32))] [(.long (R (m_ / pr / 64))), (.int (Int32.ofNat (m_ / pr / 64))), (.ref ak)]))
      refine own_go (fun t_ k_ => XS.lconst X10.here hx rfl (hb hby d10_89) k_) ?_
      show OwnFin p e below s _ _ _ (T10.setTop (mkF m 90 #[rv fo, iv pi, iv (Int32.ofNat (m_ / pr)), iv ((iR (m_ / pr)) - (1 : Int32))] [(.long (1 : Int64)), (.long (R (m_ / pr / 64))), (.int (Int32.ofNat (m_ / pr / 64))), (.ref ak)]))
      refine own_go (fun t_ k_ => XS.iloadN X10.here hx rfl (hb hby d10_90) rfl k_) ?_
      show OwnFin p e below s _ _ _ (T10.setTop (mkF m 91 #[rv fo, iv pi, iv (Int32.ofNat (m_ / pr)), iv ((iR (m_ / pr)) - (1 : Int32))] [(.int (Int32.ofNat (m_ / pr))), (.long (1 : Int64)), (.long (R (m_ / pr / 64))), (.int (Int32.ofNat (m_ / pr / 64))), (.ref ak)]))
      refine own_go (fun t_ k_ => XS.lshl X10.here hx rfl (hb hby d10_91) rfl k_) ?_
      show OwnFin p e below s _ _ _ (T10.setTop (mkF m 92 #[rv fo, iv pi, iv (Int32.ofNat (m_ / pr)), iv ((iR (m_ / pr)) - (1 : Int32))] [(.long ((1 : Int64) <<< ((Int32.ofNat (m_ / pr)) &&& 0x3f).toInt64)), (.long (R (m_ / pr / 64))), (.int (Int32.ofNat (m_ / pr / 64))), (.ref ak)]))
      show OwnFin p e below s _ _ _ (T10.setTop (mkF m 92 #[rv fo, iv pi, iv (Int32.ofNat (m_ / pr)), iv ((iR (m_ / pr)) - (1 : Int32))] [(.long (own_z (m_ / pr))), (.long (R (m_ / pr / 64))), (.int (Int32.ofNat (m_ / pr / 64))), (.ref ak)]))
      refine own_go (X10.ldc2Long hx hown (mvT hZ (hw _ (List.mem_of_getElem? (i := 45) rfl))) (g := (mkF m 92 #[rv fo, iv pi, iv (Int32.ofNat (m_ / pr)), iv ((iR (m_ / pr)) - (1 : Int32))] [(.long (own_z (m_ / pr))), (.long (R (m_ / pr / 64))), (.int (Int32.ofNat (m_ / pr / 64))), (.ref ak)])) rfl (hb hby d10_92)) ?_
      show OwnFin p e below s _ _ _ (T10.setTop (mkF m 95 #[rv fo, iv pi, iv (Int32.ofNat (m_ / pr)), iv ((iR (m_ / pr)) - (1 : Int32))] [(.long (-1 : Int64)), (.long (own_z (m_ / pr))), (.long (R (m_ / pr / 64))), (.int (Int32.ofNat (m_ / pr / 64))), (.ref ak)]))
      refine own_go (fun t_ k_ => XS.lxor X10.here hx rfl (hb hby d10_95) rfl k_) ?_
      show OwnFin p e below s _ _ _ (T10.setTop (mkF m 96 #[rv fo, iv pi, iv (Int32.ofNat (m_ / pr)), iv ((iR (m_ / pr)) - (1 : Int32))] [(.long ((own_z (m_ / pr)) ^^^ (-1 : Int64))), (.long (R (m_ / pr / 64))), (.int (Int32.ofNat (m_ / pr / 64))), (.ref ak)]))
      refine own_go (fun t_ k_ => XS.goto X10.here hx rfl (pc0 := 96) (pc' := 102) rfl (hb hby d10_96) (by decide) (by decide) k_) ?_
      show OwnFin p e below s _ _ _ (T10.setTop (mkF m 102 #[rv fo, iv pi, iv (Int32.ofNat (m_ / pr)), iv ((iR (m_ / pr)) - (1 : Int32))] [(.long ((own_z (m_ / pr)) ^^^ (-1 : Int64))), (.long (R (m_ / pr / 64))), (.int (Int32.ofNat (m_ / pr / 64))), (.ref ak)]))
      refine own_go (fun t_ k_ => XS.land X10.here hx rfl (hb hby d10_102) rfl k_) ?_
      show OwnFin p e below s _ _ _ (T10.setTop (mkF m 103 #[rv fo, iv pi, iv (Int32.ofNat (m_ / pr)), iv ((iR (m_ / pr)) - (1 : Int32))] [(.long ((R (m_ / pr / 64)) &&& ((own_z (m_ / pr)) ^^^ (-1 : Int64)))), (.int (Int32.ofNat (m_ / pr / 64))), (.ref ak)]))
      obtain ⟨T11, h11, X11, e11, W11, A11, st11⟩ := own_lastore X10 hx hZ e10 V_ak_9 (i := (m_ / pr / 64)) rfl (by omega) (g := (mkF m 103 #[rv fo, iv pi, iv (Int32.ofNat (m_ / pr)), iv ((iR (m_ / pr)) - (1 : Int32))] [(.long ((R (m_ / pr / 64)) &&& ((own_z (m_ / pr)) ^^^ (-1 : Int64)))), (.int (Int32.ofNat (m_ / pr / 64))), (.ref ak)])) rfl rfl (hb hby d10_103)
      have E_fo_11 := E_fo_9.wr W11
      have F_words_11 := F_words_9.other W11 (Or.inl ne_fo_ak)
      have F_inBlocks_11 := F_inBlocks_9.other W11 (Or.inl ne_fo_ak)
      have F_inRacks_11 := F_inRacks_9.other W11 (Or.inl ne_fo_ak)
      have F_racks_11 := F_racks_9.other W11 (Or.inl ne_fo_ak)
      have F_rackOf_11 := F_rackOf_9.other W11 (Or.inl ne_fo_ak)
      have F_blocked_11 := F_blocked_9.other W11 (Or.inl ne_fo_ak)
      have F_size_11 := F_size_9.other W11 (Or.inl ne_fo_ak)
      have V_aw_11 := V_aw_9.other W11 ne_aw_ak
      have V_ab_11 := V_ab_9.other W11 ne_ab_ak
      have V_ar_11 := A9.other W11 ne_ar_ak
      have V_ao_11 := V_ao_9.other W11 (Ne.symm ne_ak_ao)
      have Z11 : n0 ≤ h11.size := Nat.le_trans Z9 (Keep.of_wr W11).1
      have K11 : Keep h0 h11 [fo, aw, ab, ar, ak] := K9.wr W11 (Or.inl (List.mem_of_getElem? (i := 4) rfl))
      have N11 := Fr.snoc X11 N9 g_ak
      refine own_go st11 ?_
      show OwnFin p e below s _ _ _ (T11.setTop (mkF m 104 #[rv fo, iv pi, iv (Int32.ofNat (m_ / pr)), iv ((iR (m_ / pr)) - (1 : Int32))] []))
      refine own_ret X11 (v := none) hlk (fun _ => rfl) (fun fs hr => X11.returnOut hx hret (hb hby d10_104) hr) (by decide) (by decide) ?_
      rw [e11]
      refine ⟨rfl, N11, K11, E_fo_11, F_words_11, F_inBlocks_11, F_racks_11, F_size_11, ?_, ?_, ?_⟩
      · exact V_aw_11.congr (fun z hz => by show _ = Value.long (own_rmW W m_ z); unfold own_rmW; (try dsimp only); split <;> rfl)
      · exact V_ab_11.congr (fun z hz => by show _ = Value.int (own_rmB nb iB m_ z); unfold own_rmB; rw [if_pos ((own_blk hD).mp hc23)])
      · exact A11.congr (fun z hz => by show _ = Value.long (own_rmR R iR m_ pr z); unfold own_rmR; rw [if_pos hc86]; (try dsimp only); split <;> rfl)
    · refine own_go (fun t_ k_ => XS.ifYes X10.here hx rfl (pc0 := 86) (pc' := 99) rfl (hb hby d10_86) rfl ((if0 _ _).trans (feq hc86).2) (by decide) (by decide) k_) ?_
      show OwnFin p e below s _ _ _ (T10.setTop (mkF m 99 #[rv fo, iv pi, iv (Int32.ofNat (m_ / pr)), iv ((iR (m_ / pr)) - (1 : Int32))] [(.long (R (m_ / pr / 64))), (.int (Int32.ofNat (m_ / pr / 64))), (.ref ak)]))
      refine own_go (X10.ldc2Long hx hown (mvT hZ (hw _ (List.mem_of_getElem? (i := 45) rfl))) (g := (mkF m 99 #[rv fo, iv pi, iv (Int32.ofNat (m_ / pr)), iv ((iR (m_ / pr)) - (1 : Int32))] [(.long (R (m_ / pr / 64))), (.int (Int32.ofNat (m_ / pr / 64))), (.ref ak)])) rfl (hb hby d10_99)) ?_
      show OwnFin p e below s _ _ _ (T10.setTop (mkF m 102 #[rv fo, iv pi, iv (Int32.ofNat (m_ / pr)), iv ((iR (m_ / pr)) - (1 : Int32))] [(.long (-1 : Int64)), (.long (R (m_ / pr / 64))), (.int (Int32.ofNat (m_ / pr / 64))), (.ref ak)]))
      refine own_go (fun t_ k_ => XS.land X10.here hx rfl (hb hby d10_102) rfl k_) ?_
      show OwnFin p e below s _ _ _ (T10.setTop (mkF m 103 #[rv fo, iv pi, iv (Int32.ofNat (m_ / pr)), iv ((iR (m_ / pr)) - (1 : Int32))] [(.long ((R (m_ / pr / 64)) &&& (-1 : Int64))), (.int (Int32.ofNat (m_ / pr / 64))), (.ref ak)]))
      obtain ⟨T12, h12, X12, e12, W12, A12, st12⟩ := own_lastore X10 hx hZ e10 V_ak_9 (i := (m_ / pr / 64)) rfl (by omega) (g := (mkF m 103 #[rv fo, iv pi, iv (Int32.ofNat (m_ / pr)), iv ((iR (m_ / pr)) - (1 : Int32))] [(.long ((R (m_ / pr / 64)) &&& (-1 : Int64))), (.int (Int32.ofNat (m_ / pr / 64))), (.ref ak)])) rfl rfl (hb hby d10_103)
      have E_fo_12 := E_fo_9.wr W12
      have F_words_12 := F_words_9.other W12 (Or.inl ne_fo_ak)
      have F_inBlocks_12 := F_inBlocks_9.other W12 (Or.inl ne_fo_ak)
      have F_inRacks_12 := F_inRacks_9.other W12 (Or.inl ne_fo_ak)
      have F_racks_12 := F_racks_9.other W12 (Or.inl ne_fo_ak)
      have F_rackOf_12 := F_rackOf_9.other W12 (Or.inl ne_fo_ak)
      have F_blocked_12 := F_blocked_9.other W12 (Or.inl ne_fo_ak)
      have F_size_12 := F_size_9.other W12 (Or.inl ne_fo_ak)
      have V_aw_12 := V_aw_9.other W12 ne_aw_ak
      have V_ab_12 := V_ab_9.other W12 ne_ab_ak
      have V_ar_12 := A9.other W12 ne_ar_ak
      have V_ao_12 := V_ao_9.other W12 (Ne.symm ne_ak_ao)
      have Z12 : n0 ≤ h12.size := Nat.le_trans Z9 (Keep.of_wr W12).1
      have K12 : Keep h0 h12 [fo, aw, ab, ar, ak] := K9.wr W12 (Or.inl (List.mem_of_getElem? (i := 4) rfl))
      have N12 := Fr.snoc X12 N9 g_ak
      refine own_go st12 ?_
      show OwnFin p e below s _ _ _ (T12.setTop (mkF m 104 #[rv fo, iv pi, iv (Int32.ofNat (m_ / pr)), iv ((iR (m_ / pr)) - (1 : Int32))] []))
      refine own_ret X12 (v := none) hlk (fun _ => rfl) (fun fs hr => X12.returnOut hx hret (hb hby d10_104) hr) (by decide) (by decide) ?_
      rw [e12]
      refine ⟨rfl, N12, K12, E_fo_12, F_words_12, F_inBlocks_12, F_racks_12, F_size_12, ?_, ?_, ?_⟩
      · exact V_aw_12.congr (fun z hz => by show _ = Value.long (own_rmW W m_ z); unfold own_rmW; (try dsimp only); split <;> rfl)
      · exact V_ab_12.congr (fun z hz => by show _ = Value.int (own_rmB nb iB m_ z); unfold own_rmB; rw [if_pos ((own_blk hD).mp hc23)])
      · exact A12.congr (fun z hz => by show _ = Value.long (own_rmR R iR m_ pr z); unfold own_rmR; rw [if_neg hc86]; (try dsimp only); split <;> rfl)
  · refine own_go (fun t_ k_ => XS.ifNo X3.here hx rfl (hb hby d10_23) rfl ((if0 _ _).trans (feq hc23).1) k_) ?_
    show OwnFin p e below s _ _ _ (T3.setTop (mkF m 26 #[rv fo, iv pi, .unset, .unset] []))
    refine own_go (fun t_ k_ => XS.aloadN X3.here hx rfl (hb hby d10_26) rfl rfl k_) ?_
    show OwnFin p e below s _ _ _ (T3.setTop (mkF m 27 #[rv fo, iv pi, .unset, .unset] [(.ref fo)]))
    obtain ⟨T13, X13, e13, st13⟩ := getF X3 hx hZ hown (host := "") (Or.inl (hw _ (List.mem_of_getElem? (i := 15) rfl))) Via.refl e3 F_inBlocks_2 (g := (mkF m 27 #[rv fo, iv pi, .unset, .unset] [(.ref fo)])) rfl rfl (hb hby d10_27)
    refine own_go st13 ?_
    show OwnFin p e below s _ _ _ (T13.setTop (mkF m 30 #[rv fo, iv pi, .unset, .unset] [(.ref ab)]))
    refine own_go (fun t_ k_ => XS.iloadN X13.here hx rfl (hb hby d10_30) rfl k_) ?_
    show OwnFin p e below s _ _ _ (T13.setTop (mkF m 31 #[rv fo, iv pi, .unset, .unset] [(.int pi), (.ref ab)]))
    refine own_go (fun t_ k_ => XS.bipush X13.here hx rfl (hb hby d10_31) k_) ?_
    show OwnFin p e below s _ _ _ (T13.setTop (mkF m 33 #[rv fo, iv pi, .unset, .unset] [(.int (6 : Int32)), (.int pi), (.ref ab)]))
    refine own_go (fun t_ k_ => XS.iushr X13.here hx rfl (hb hby d10_33) rfl k_) ?_
    show OwnFin p e below s _ _ _ (T13.setTop (mkF m 34 #[rv fo, iv pi, .unset, .unset] [(.int ((pi.toUInt32 >>> ((6 : Int32) &&& 31).toUInt32).toInt32)), (.ref ab)]))
    rw [show ((pi.toUInt32 >>> ((6 : Int32) &&& 31).toUInt32).toInt32) = (Int32.ofNat (m_ / 64)) from own_shr6' hpi (by omega)]
    show OwnFin p e below s _ _ _ (T13.setTop (mkF m 34 #[rv fo, iv pi, .unset, .unset] [(.int (Int32.ofNat (m_ / 64))), (.ref ab)]))
    refine own_go (fun t_ k_ => XS.bipush X13.here hx rfl (hb hby d10_34) k_) ?_
    show OwnFin p e below s _ _ _ (T13.setTop (mkF m 36 #[rv fo, iv pi, .unset, .unset] [(.int (8 : Int32)), (.int (Int32.ofNat (m_ / 64))), (.ref ab)]))
    refine own_go (fun t_ k_ => XS.idiv X13.here hx rfl (hb hby d10_36) rfl (by decide) k_) ?_
    show OwnFin p e below s _ _ _ (T13.setTop (mkF m 37 #[rv fo, iv pi, .unset, .unset] [(.int ((Int32.ofNat (m_ / 64)) / (8 : Int32))), (.ref ab)]))
    rw [show ((Int32.ofNat (m_ / 64)) / (8 : Int32)) = (Int32.ofNat (m_ / 64 / 8)) from own_divN (b := 8) (by omega) (by decide)]
    show OwnFin p e below s _ _ _ (T13.setTop (mkF m 37 #[rv fo, iv pi, .unset, .unset] [(.int (Int32.ofNat (m_ / 64 / 8))), (.ref ab)]))
    refine own_go (fun t_ k_ => Jvm.Free.XT.dup2 X13.here hx rfl (hb hby d10_37) rfl rfl rfl k_) ?_
    show OwnFin p e below s _ _ _ (T13.setTop (mkF m 38 #[rv fo, iv pi, .unset, .unset] [(.int (Int32.ofNat (m_ / 64 / 8))), (.ref ab), (.int (Int32.ofNat (m_ / 64 / 8))), (.ref ab)]))
    refine own_go (own_iaload X13 hx hZ e13 V_ab_2 (i := (m_ / 64 / 8)) rfl (by omega) (g := (mkF m 38 #[rv fo, iv pi, .unset, .unset] [(.int (Int32.ofNat (m_ / 64 / 8))), (.ref ab), (.int (Int32.ofNat (m_ / 64 / 8))), (.ref ab)])) rfl rfl (hb hby d10_38)) ?_
    show OwnFin p e below s _ _ _ (T13.setTop (mkF m 39 #[rv fo, iv pi, .unset, .unset] [(.int (iB (m_ / 64 / 8))), (.int (Int32.ofNat (m_ / 64 / 8))), (.ref ab)]))
    refine own_go (fun t_ k_ => XS.iconst X13.here hx rfl (hb hby d10_39) k_) ?_
    show OwnFin p e below s _ _ _ (T13.setTop (mkF m 40 #[rv fo, iv pi, .unset, .unset] [(.int (1 : Int32)), (.int (iB (m_ / 64 / 8))), (.int (Int32.ofNat (m_ / 64 / 8))), (.ref ab)]))
    refine own_go (fun t_ k_ => XS.isub X13.here hx rfl (hb hby d10_40) rfl k_) ?_
    show OwnFin p e below s _ _ _ (T13.setTop (mkF m 41 #[rv fo, iv pi, .unset, .unset] [(.int ((iB (m_ / 64 / 8)) - (1 : Int32))), (.int (Int32.ofNat (m_ / 64 / 8))), (.ref ab)]))
    obtain ⟨T14, h14, X14, e14, W14, A14, st14⟩ := own_iastore X13 hx hZ e13 V_ab_2 (i := (m_ / 64 / 8)) rfl (by omega) (g := (mkF m 41 #[rv fo, iv pi, .unset, .unset] [(.int ((iB (m_ / 64 / 8)) - (1 : Int32))), (.int (Int32.ofNat (m_ / 64 / 8))), (.ref ab)])) rfl rfl (hb hby d10_41)
    have E_fo_14 := E_fo_2.wr W14
    have F_words_14 := F_words_2.other W14 (Or.inl ne_fo_ab)
    have F_inBlocks_14 := F_inBlocks_2.other W14 (Or.inl ne_fo_ab)
    have F_inRacks_14 := F_inRacks_2.other W14 (Or.inl ne_fo_ab)
    have F_racks_14 := F_racks_2.other W14 (Or.inl ne_fo_ab)
    have F_rackOf_14 := F_rackOf_2.other W14 (Or.inl ne_fo_ab)
    have F_blocked_14 := F_blocked_2.other W14 (Or.inl ne_fo_ab)
    have F_size_14 := F_size_2.other W14 (Or.inl ne_fo_ab)
    have V_aw_14 := A2.other W14 ne_aw_ab
    have V_ar_14 := V_ar_2.other W14 (Ne.symm ne_ab_ar)
    have V_ak_14 := V_ak_2.other W14 (Ne.symm ne_ab_ak)
    have V_ao_14 := V_ao_2.other W14 (Ne.symm ne_ab_ao)
    have Z14 : n0 ≤ h14.size := Nat.le_trans Z2 (Keep.of_wr W14).1
    have K14 : Keep h0 h14 [fo, aw, ab, ar, ak] := K2.wr W14 (Or.inl (List.mem_of_getElem? (i := 2) rfl))
    have N14 := Fr.snoc X14 N2 g_ab
    refine own_go st14 ?_
    show OwnFin p e below s _ _ _ (T14.setTop (mkF m 42 #[rv fo, iv pi, .unset, .unset] []))
    refine own_go (fun t_ k_ => XS.aloadN X14.here hx rfl (hb hby d10_42) rfl rfl k_) ?_
    show OwnFin p e below s _ _ _ (T14.setTop (mkF m 43 #[rv fo, iv pi, .unset, .unset] [(.ref fo)]))
    refine own_go (fun t_ k_ => XS.dup X14.here hx rfl (hb hby d10_43) rfl rfl k_) ?_
    show OwnFin p e below s _ _ _ (T14.setTop (mkF m 44 #[rv fo, iv pi, .unset, .unset] [(.ref fo), (.ref fo)]))
    obtain ⟨T15, X15, e15, st15⟩ := getF X14 hx hZ hown (host := "") (Or.inl (hw _ (List.mem_of_getElem? (i := 32) rfl))) Via.refl e14 F_size_14 (g := (mkF m 44 #[rv fo, iv pi, .unset, .unset] [(.ref fo), (.ref fo)])) rfl rfl (hb hby d10_44)
    refine own_go st15 ?_
    show OwnFin p e below s _ _ _ (T15.setTop (mkF m 47 #[rv fo, iv pi, .unset, .unset] [(.int sz), (.ref fo)]))
    refine own_go (fun t_ k_ => XS.iconst X15.here hx rfl (hb hby d10_47) k_) ?_
    show OwnFin p e below s _ _ _ (T15.setTop (mkF m 48 #[rv fo, iv pi, .unset, .unset] [(.int (1 : Int32)), (.int sz), (.ref fo)]))
    refine own_go (fun t_ k_ => XS.isub X15.here hx rfl (hb hby d10_48) rfl k_) ?_
    show OwnFin p e below s _ _ _ (T15.setTop (mkF m 49 #[rv fo, iv pi, .unset, .unset] [(.int (sz - (1 : Int32))), (.ref fo)]))
    obtain ⟨T16, h16, X16, e16, W16, st16⟩ := putF X15 hx hZ hown (host := "") (Or.inl (hw _ (List.mem_of_getElem? (i := 32) rfl))) Via.refl e15 F_size_14 E_fo_14 (Or.inl (hw _ (List.mem_of_getElem? (i := 33) rfl))) (hw _ (List.mem_of_getElem? (i := 4) rfl)) (ty := .int) (by decide) rfl rfl (g := (mkF m 49 #[rv fo, iv pi, .unset, .unset] [(.int (sz - (1 : Int32))), (.ref fo)])) rfl rfl (hb hby d10_49)
    have E_fo_16 := E_fo_14.wr W16
    have F_words_16 := F_words_14.other W16 (Or.inr (slot_ne (Or.inr (hw _ (List.mem_of_getElem? (i := 13) rfl))) (Or.inl (hw _ (List.mem_of_getElem? (i := 33) rfl))) (by decide) (t := (.array .long)) (t' := .int) (by decide) (by decide)))
    have F_inBlocks_16 := F_inBlocks_14.other W16 (Or.inr (slot_ne (Or.inr (hw _ (List.mem_of_getElem? (i := 16) rfl))) (Or.inl (hw _ (List.mem_of_getElem? (i := 33) rfl))) (by decide) (t := (.array .int)) (t' := .int) (by decide) (by decide)))
    have F_inRacks_16 := F_inRacks_14.other W16 (Or.inr (slot_ne (Or.inr (hw _ (List.mem_of_getElem? (i := 20) rfl))) (Or.inl (hw _ (List.mem_of_getElem? (i := 33) rfl))) (by decide) (t := (.array .int)) (t' := .int) (by decide) (by decide)))
    have F_racks_16 := F_racks_14.other W16 (Or.inr (slot_ne (Or.inr (hw _ (List.mem_of_getElem? (i := 22) rfl))) (Or.inl (hw _ (List.mem_of_getElem? (i := 33) rfl))) (by decide) (t := (.array .long)) (t' := .int) (by decide) (by decide)))
    have F_rackOf_16 := F_rackOf_14.other W16 (Or.inr (slot_ne (Or.inr (hw _ (List.mem_of_getElem? (i := 24) rfl))) (Or.inl (hw _ (List.mem_of_getElem? (i := 33) rfl))) (by decide) (t := (.array .int)) (t' := .int) (by decide) (by decide)))
    have F_blocked_16 := F_blocked_14.other W16 (Or.inr (slot_ne (Or.inr (hw _ (List.mem_of_getElem? (i := 18) rfl))) (Or.inl (hw _ (List.mem_of_getElem? (i := 33) rfl))) (by decide) (t := .boolean) (t' := .int) (by decide) (by decide)))
    have F_size_16 := F_size_14.same W16
    have V_aw_16 := V_aw_14.other W16 (Ne.symm ne_fo_aw)
    have V_ab_16 := A14.other W16 (Ne.symm ne_fo_ab)
    have V_ar_16 := V_ar_14.other W16 (Ne.symm ne_fo_ar)
    have V_ak_16 := V_ak_14.other W16 (Ne.symm ne_fo_ak)
    have V_ao_16 := V_ao_14.other W16 (Ne.symm ne_fo_ao)
    have Z16 : n0 ≤ h16.size := Nat.le_trans Z14 (Keep.of_wr W16).1
    have K16 : Keep h0 h16 [fo, aw, ab, ar, ak] := K14.wr W16 (Or.inl (List.mem_of_getElem? (i := 0) rfl))
    have N16 := Fr.snoc X16 N14 g_fo
    refine own_go st16 ?_
    show OwnFin p e below s _ _ _ (T16.setTop (mkF m 52 #[rv fo, iv pi, .unset, .unset] []))
    refine own_go (fun t_ k_ => XS.aloadN X16.here hx rfl (hb hby d10_52) rfl rfl k_) ?_
    show OwnFin p e below s _ _ _ (T16.setTop (mkF m 53 #[rv fo, iv pi, .unset, .unset] [(.ref fo)]))
    obtain ⟨T17, X17, e17, st17⟩ := getF X16 hx hZ hown (host := "") (Or.inl (hw _ (List.mem_of_getElem? (i := 23) rfl))) Via.refl e16 F_rackOf_16 (g := (mkF m 53 #[rv fo, iv pi, .unset, .unset] [(.ref fo)])) rfl rfl (hb hby d10_53)
    refine own_go st17 ?_
    show OwnFin p e below s _ _ _ (T17.setTop (mkF m 56 #[rv fo, iv pi, .unset, .unset] [(.ref ao)]))
    refine own_go (fun t_ k_ => XS.iloadN X17.here hx rfl (hb hby d10_56) rfl k_) ?_
    show OwnFin p e below s _ _ _ (T17.setTop (mkF m 57 #[rv fo, iv pi, .unset, .unset] [(.int pi), (.ref ao)]))
    refine own_go (own_iaload X17 hx hZ e17 V_ao_16 (i := m_) hpi hmn (g := (mkF m 57 #[rv fo, iv pi, .unset, .unset] [(.int pi), (.ref ao)])) rfl rfl (hb hby d10_57)) ?_
    show OwnFin p e below s _ _ _ (T17.setTop (mkF m 58 #[rv fo, iv pi, .unset, .unset] [(.int (Int32.ofNat (m_ / pr)))]))
    refine own_go (fun t_ k_ => XS.istoreN X17.here hx rfl (hb hby d10_58) rfl (l' := #[rv fo, iv pi, iv (Int32.ofNat (m_ / pr)), .unset]) rfl k_) ?_
    show OwnFin p e below s _ _ _ (T17.setTop (mkF m 59 #[rv fo, iv pi, iv (Int32.ofNat (m_ / pr)), .unset] []))
    refine own_go (fun t_ k_ => XS.aloadN X17.here hx rfl (hb hby d10_59) rfl rfl k_) ?_
    show OwnFin p e below s _ _ _ (T17.setTop (mkF m 60 #[rv fo, iv pi, iv (Int32.ofNat (m_ / pr)), .unset] [(.ref fo)]))
    obtain ⟨T18, X18, e18, st18⟩ := getF X17 hx hZ hown (host := "") (Or.inl (hw _ (List.mem_of_getElem? (i := 19) rfl))) Via.refl e17 F_inRacks_16 (g := (mkF m 60 #[rv fo, iv pi, iv (Int32.ofNat (m_ / pr)), .unset] [(.ref fo)])) rfl rfl (hb hby d10_60)
    refine own_go st18 ?_
    show OwnFin p e below s _ _ _ (T18.setTop (mkF m 63 #[rv fo, iv pi, iv (Int32.ofNat (m_ / pr)), .unset] [(.ref ar)]))
    refine own_go (fun t_ k_ => XS.iloadN X18.here hx rfl (hb hby d10_63) rfl k_) ?_
    show OwnFin p e below s _ _ _ (T18.setTop (mkF m 64 #[rv fo, iv pi, iv (Int32.ofNat (m_ / pr)), .unset] [(.int (Int32.ofNat (m_ / pr))), (.ref ar)]))
    refine own_go (own_iaload X18 hx hZ e18 V_ar_16 (i := (m_ / pr)) rfl hmr (g := (mkF m 64 #[rv fo, iv pi, iv (Int32.ofNat (m_ / pr)), .unset] [(.int (Int32.ofNat (m_ / pr))), (.ref ar)])) rfl rfl (hb hby d10_64)) ?_
    show OwnFin p e below s _ _ _ (T18.setTop (mkF m 65 #[rv fo, iv pi, iv (Int32.ofNat (m_ / pr)), .unset] [(.int (iR (m_ / pr)))]))
    refine own_go (fun t_ k_ => XS.iconst X18.here hx rfl (hb hby d10_65) k_) ?_
    show OwnFin p e below s _ _ _ (T18.setTop (mkF m 66 #[rv fo, iv pi, iv (Int32.ofNat (m_ / pr)), .unset] [(.int (1 : Int32)), (.int (iR (m_ / pr)))]))
    refine own_go (fun t_ k_ => XS.isub X18.here hx rfl (hb hby d10_66) rfl k_) ?_
    show OwnFin p e below s _ _ _ (T18.setTop (mkF m 67 #[rv fo, iv pi, iv (Int32.ofNat (m_ / pr)), .unset] [(.int ((iR (m_ / pr)) - (1 : Int32)))]))
    refine own_go (fun t_ k_ => XS.istoreN X18.here hx rfl (hb hby d10_67) rfl (l' := #[rv fo, iv pi, iv (Int32.ofNat (m_ / pr)), iv ((iR (m_ / pr)) - (1 : Int32))]) rfl k_) ?_
    show OwnFin p e below s _ _ _ (T18.setTop (mkF m 68 #[rv fo, iv pi, iv (Int32.ofNat (m_ / pr)), iv ((iR (m_ / pr)) - (1 : Int32))] []))
    refine own_go (fun t_ k_ => XS.aloadN X18.here hx rfl (hb hby d10_68) rfl rfl k_) ?_
    show OwnFin p e below s _ _ _ (T18.setTop (mkF m 69 #[rv fo, iv pi, iv (Int32.ofNat (m_ / pr)), iv ((iR (m_ / pr)) - (1 : Int32))] [(.ref fo)]))
    obtain ⟨T19, X19, e19, st19⟩ := getF X18 hx hZ hown (host := "") (Or.inl (hw _ (List.mem_of_getElem? (i := 19) rfl))) Via.refl e18 F_inRacks_16 (g := (mkF m 69 #[rv fo, iv pi, iv (Int32.ofNat (m_ / pr)), iv ((iR (m_ / pr)) - (1 : Int32))] [(.ref fo)])) rfl rfl (hb hby d10_69)
    refine own_go st19 ?_
    show OwnFin p e below s _ _ _ (T19.setTop (mkF m 72 #[rv fo, iv pi, iv (Int32.ofNat (m_ / pr)), iv ((iR (m_ / pr)) - (1 : Int32))] [(.ref ar)]))
    refine own_go (fun t_ k_ => XS.iloadN X19.here hx rfl (hb hby d10_72) rfl k_) ?_
    show OwnFin p e below s _ _ _ (T19.setTop (mkF m 73 #[rv fo, iv pi, iv (Int32.ofNat (m_ / pr)), iv ((iR (m_ / pr)) - (1 : Int32))] [(.int (Int32.ofNat (m_ / pr))), (.ref ar)]))
    refine own_go (fun t_ k_ => XS.iloadN X19.here hx rfl (hb hby d10_73) rfl k_) ?_
    show OwnFin p e below s _ _ _ (T19.setTop (mkF m 74 #[rv fo, iv pi, iv (Int32.ofNat (m_ / pr)), iv ((iR (m_ / pr)) - (1 : Int32))] [(.int ((iR (m_ / pr)) - (1 : Int32))), (.int (Int32.ofNat (m_ / pr))), (.ref ar)]))
    obtain ⟨T20, h20, X20, e20, W20, A20, st20⟩ := own_iastore X19 hx hZ e19 V_ar_16 (i := (m_ / pr)) rfl hmr (g := (mkF m 74 #[rv fo, iv pi, iv (Int32.ofNat (m_ / pr)), iv ((iR (m_ / pr)) - (1 : Int32))] [(.int ((iR (m_ / pr)) - (1 : Int32))), (.int (Int32.ofNat (m_ / pr))), (.ref ar)])) rfl rfl (hb hby d10_74)
    have E_fo_20 := E_fo_16.wr W20
    have F_words_20 := F_words_16.other W20 (Or.inl ne_fo_ar)
    have F_inBlocks_20 := F_inBlocks_16.other W20 (Or.inl ne_fo_ar)
    have F_inRacks_20 := F_inRacks_16.other W20 (Or.inl ne_fo_ar)
    have F_racks_20 := F_racks_16.other W20 (Or.inl ne_fo_ar)
    have F_rackOf_20 := F_rackOf_16.other W20 (Or.inl ne_fo_ar)
    have F_blocked_20 := F_blocked_16.other W20 (Or.inl ne_fo_ar)
    have F_size_20 := F_size_16.other W20 (Or.inl ne_fo_ar)
    have V_aw_20 := V_aw_16.other W20 ne_aw_ar
    have V_ab_20 := V_ab_16.other W20 ne_ab_ar
    have V_ak_20 := V_ak_16.other W20 (Ne.symm ne_ar_ak)
    have V_ao_20 := V_ao_16.other W20 (Ne.symm ne_ar_ao)
    have Z20 : n0 ≤ h20.size := Nat.le_trans Z16 (Keep.of_wr W20).1
    have K20 : Keep h0 h20 [fo, aw, ab, ar, ak] := K16.wr W20 (Or.inl (List.mem_of_getElem? (i := 3) rfl))
    have N20 := Fr.snoc X20 N16 g_ar
    refine own_go st20 ?_
    show OwnFin p e below s _ _ _ (T20.setTop (mkF m 75 #[rv fo, iv pi, iv (Int32.ofNat (m_ / pr)), iv ((iR (m_ / pr)) - (1 : Int32))] []))
    refine own_go (fun t_ k_ => XS.aloadN X20.here hx rfl (hb hby d10_75) rfl rfl k_) ?_
    show OwnFin p e below s _ _ _ (T20.setTop (mkF m 76 #[rv fo, iv pi, iv (Int32.ofNat (m_ / pr)), iv ((iR (m_ / pr)) - (1 : Int32))] [(.ref fo)]))
    obtain ⟨T21, X21, e21, st21⟩ := getF X20 hx hZ hown (host := "") (Or.inl (hw _ (List.mem_of_getElem? (i := 21) rfl))) Via.refl e20 F_racks_20 (g := (mkF m 76 #[rv fo, iv pi, iv (Int32.ofNat (m_ / pr)), iv ((iR (m_ / pr)) - (1 : Int32))] [(.ref fo)])) rfl rfl (hb hby d10_76)
    refine own_go st21 ?_
    show OwnFin p e below s _ _ _ (T21.setTop (mkF m 79 #[rv fo, iv pi, iv (Int32.ofNat (m_ / pr)), iv ((iR (m_ / pr)) - (1 : Int32))] [(.ref ak)]))
    refine own_go (fun t_ k_ => XS.iloadN X21.here hx rfl (hb hby d10_79) rfl k_) ?_
    show OwnFin p e below s _ _ _ (T21.setTop (mkF m 80 #[rv fo, iv pi, iv (Int32.ofNat (m_ / pr)), iv ((iR (m_ / pr)) - (1 : Int32))] [(.int (Int32.ofNat (m_ / pr))), (.ref ak)]))
    refine own_go (fun t_ k_ => XS.bipush X21.here hx rfl (hb hby d10_80) k_) ?_
    show OwnFin p e below s _ _ _ (T21.setTop (mkF m 82 #[rv fo, iv pi, iv (Int32.ofNat (m_ / pr)), iv ((iR (m_ / pr)) - (1 : Int32))] [(.int (6 : Int32)), (.int (Int32.ofNat (m_ / pr))), (.ref ak)]))
    refine own_go (fun t_ k_ => XS.iushr X21.here hx rfl (hb hby d10_82) rfl k_) ?_
    show OwnFin p e below s _ _ _ (T21.setTop (mkF m 83 #[rv fo, iv pi, iv (Int32.ofNat (m_ / pr)), iv ((iR (m_ / pr)) - (1 : Int32))] [(.int (((Int32.ofNat (m_ / pr)).toUInt32 >>> ((6 : Int32) &&& 31).toUInt32).toInt32)), (.ref ak)]))
    rw [show (((Int32.ofNat (m_ / pr)).toUInt32 >>> ((6 : Int32) &&& 31).toUInt32).toInt32) = (Int32.ofNat (m_ / pr / 64)) from own_shr6' rfl (by omega)]
    show OwnFin p e below s _ _ _ (T21.setTop (mkF m 83 #[rv fo, iv pi, iv (Int32.ofNat (m_ / pr)), iv ((iR (m_ / pr)) - (1 : Int32))] [(.int (Int32.ofNat (m_ / pr / 64))), (.ref ak)]))
    refine own_go (fun t_ k_ => Jvm.Free.XT.dup2 X21.here hx rfl (hb hby d10_83) rfl rfl rfl k_) ?_
    show OwnFin p e below s _ _ _ (T21.setTop (mkF m 84 #[rv fo, iv pi, iv (Int32.ofNat (m_ / pr)), iv ((iR (m_ / pr)) - (1 : Int32))] [(.int (Int32.ofNat (m_ / pr / 64))), (.ref ak), (.int (Int32.ofNat (m_ / pr / 64))), (.ref ak)]))
    refine own_go (own_laload X21 hx hZ e21 V_ak_20 (i := (m_ / pr / 64)) rfl (by omega) (g := (mkF m 84 #[rv fo, iv pi, iv (Int32.ofNat (m_ / pr)), iv ((iR (m_ / pr)) - (1 : Int32))] [(.int (Int32.ofNat (m_ / pr / 64))), (.ref ak), (.int (Int32.ofNat (m_ / pr / 64))), (.ref ak)])) rfl rfl (hb hby d10_84)) ?_
    show OwnFin p e below s _ _ _ (T21.setTop (mkF m 85 #[rv fo, iv pi, iv (Int32.ofNat (m_ / pr)), iv ((iR (m_ / pr)) - (1 : Int32))] [(.long (R (m_ / pr / 64))), (.int (Int32.ofNat (m_ / pr / 64))), (.ref ak)]))
    refine own_go (fun t_ k_ => XS.iloadN X21.here hx rfl (hb hby d10_85) rfl k_) ?_
    show OwnFin p e below s _ _ _ (T21.setTop (mkF m 86 #[rv fo, iv pi, iv (Int32.ofNat (m_ / pr)), iv ((iR (m_ / pr)) - (1 : Int32))] [(.int ((iR (m_ / pr)) - (1 : Int32))), (.long (R (m_ / pr / 64))), (.int (Int32.ofNat (m_ / pr / 64))), (.ref ak)]))
    by_cases hc86 : ((iR (m_ / pr)) - (1 : Int32)) = (0 : Int32)
    · refine own_go (fun t_ k_ => XS.ifNo X21.here hx rfl (hb hby d10_86) rfl ((if0 _ _).trans (teq hc86).2) k_) ?_
      show OwnFin p e below s _ _ _ (T21.setTop (mkF m 89 #[rv fo, iv pi, iv (Int32.ofNat (m_ / pr)), iv ((iR (m_ / pr)) - (1 : Int32))] [(.long (R (m_ / pr / 64))), (.int (Int32.ofNat (m_ / pr / 64))), (.ref ak)]))
      refine own_go (fun t_ k_ => XS.lconst X21.here hx rfl (hb hby d10_89) k_) ?_
      show OwnFin p e below s _ _ _ (T21.setTop (mkF m 90 #[rv fo, iv pi, iv (Int32.ofNat (m_ / pr)), iv ((iR (m_ / pr)) - (1 : Int32))] [(.long (1 : Int64)), (.long (R (m_ / pr / 64))), (.int (Int32.ofNat (m_ / pr / 64))), (.ref ak)]))
      refine own_go (fun t_ k_ => XS.iloadN X21.here hx rfl (hb hby d10_90) rfl k_) ?_
      show OwnFin p e below s _ _ _ (T21.setTop (mkF m 91 #[rv fo, iv pi, iv (Int32.ofNat (m_ / pr)), iv ((iR (m_ / pr)) - (1 : Int32))] [(.int (Int32.ofNat (m_ / pr))), (.long (1 : Int64)), (.long (R (m_ / pr / 64))), (.int (Int32.ofNat (m_ / pr / 64))), (.ref ak)]))
      refine own_go (fun t_ k_ => XS.lshl X21.here hx rfl (hb hby d10_91) rfl k_) ?_
      show OwnFin p e below s _ _ _ (T21.setTop (mkF m 92 #[rv fo, iv pi, iv (Int32.ofNat (m_ / pr)), iv ((iR (m_ / pr)) - (1 : Int32))] [(.long ((1 : Int64) <<< ((Int32.ofNat (m_ / pr)) &&& 0x3f).toInt64)), (.long (R (m_ / pr / 64))), (.int (Int32.ofNat (m_ / pr / 64))), (.ref ak)]))
      show OwnFin p e below s _ _ _ (T21.setTop (mkF m 92 #[rv fo, iv pi, iv (Int32.ofNat (m_ / pr)), iv ((iR (m_ / pr)) - (1 : Int32))] [(.long (own_z (m_ / pr))), (.long (R (m_ / pr / 64))), (.int (Int32.ofNat (m_ / pr / 64))), (.ref ak)]))
      refine own_go (X21.ldc2Long hx hown (mvT hZ (hw _ (List.mem_of_getElem? (i := 45) rfl))) (g := (mkF m 92 #[rv fo, iv pi, iv (Int32.ofNat (m_ / pr)), iv ((iR (m_ / pr)) - (1 : Int32))] [(.long (own_z (m_ / pr))), (.long (R (m_ / pr / 64))), (.int (Int32.ofNat (m_ / pr / 64))), (.ref ak)])) rfl (hb hby d10_92)) ?_
      show OwnFin p e below s _ _ _ (T21.setTop (mkF m 95 #[rv fo, iv pi, iv (Int32.ofNat (m_ / pr)), iv ((iR (m_ / pr)) - (1 : Int32))] [(.long (-1 : Int64)), (.long (own_z (m_ / pr))), (.long (R (m_ / pr / 64))), (.int (Int32.ofNat (m_ / pr / 64))), (.ref ak)]))
      refine own_go (fun t_ k_ => XS.lxor X21.here hx rfl (hb hby d10_95) rfl k_) ?_
      show OwnFin p e below s _ _ _ (T21.setTop (mkF m 96 #[rv fo, iv pi, iv (Int32.ofNat (m_ / pr)), iv ((iR (m_ / pr)) - (1 : Int32))] [(.long ((own_z (m_ / pr)) ^^^ (-1 : Int64))), (.long (R (m_ / pr / 64))), (.int (Int32.ofNat (m_ / pr / 64))), (.ref ak)]))
      refine own_go (fun t_ k_ => XS.goto X21.here hx rfl (pc0 := 96) (pc' := 102) rfl (hb hby d10_96) (by decide) (by decide) k_) ?_
      show OwnFin p e below s _ _ _ (T21.setTop (mkF m 102 #[rv fo, iv pi, iv (Int32.ofNat (m_ / pr)), iv ((iR (m_ / pr)) - (1 : Int32))] [(.long ((own_z (m_ / pr)) ^^^ (-1 : Int64))), (.long (R (m_ / pr / 64))), (.int (Int32.ofNat (m_ / pr / 64))), (.ref ak)]))
      refine own_go (fun t_ k_ => XS.land X21.here hx rfl (hb hby d10_102) rfl k_) ?_
      show OwnFin p e below s _ _ _ (T21.setTop (mkF m 103 #[rv fo, iv pi, iv (Int32.ofNat (m_ / pr)), iv ((iR (m_ / pr)) - (1 : Int32))] [(.long ((R (m_ / pr / 64)) &&& ((own_z (m_ / pr)) ^^^ (-1 : Int64)))), (.int (Int32.ofNat (m_ / pr / 64))), (.ref ak)]))
      obtain ⟨T22, h22, X22, e22, W22, A22, st22⟩ := own_lastore X21 hx hZ e21 V_ak_20 (i := (m_ / pr / 64)) rfl (by omega) (g := (mkF m 103 #[rv fo, iv pi, iv (Int32.ofNat (m_ / pr)), iv ((iR (m_ / pr)) - (1 : Int32))] [(.long ((R (m_ / pr / 64)) &&& ((own_z (m_ / pr)) ^^^ (-1 : Int64)))), (.int (Int32.ofNat (m_ / pr / 64))), (.ref ak)])) rfl rfl (hb hby d10_103)
      have E_fo_22 := E_fo_20.wr W22
      have F_words_22 := F_words_20.other W22 (Or.inl ne_fo_ak)
      have F_inBlocks_22 := F_inBlocks_20.other W22 (Or.inl ne_fo_ak)
      have F_inRacks_22 := F_inRacks_20.other W22 (Or.inl ne_fo_ak)
      have F_racks_22 := F_racks_20.other W22 (Or.inl ne_fo_ak)
      have F_rackOf_22 := F_rackOf_20.other W22 (Or.inl ne_fo_ak)
      have F_blocked_22 := F_blocked_20.other W22 (Or.inl ne_fo_ak)
      have F_size_22 := F_size_20.other W22 (Or.inl ne_fo_ak)
      have V_aw_22 := V_aw_20.other W22 ne_aw_ak
      have V_ab_22 := V_ab_20.other W22 ne_ab_ak
      have V_ar_22 := A20.other W22 ne_ar_ak
      have V_ao_22 := V_ao_20.other W22 (Ne.symm ne_ak_ao)
      have Z22 : n0 ≤ h22.size := Nat.le_trans Z20 (Keep.of_wr W22).1
      have K22 : Keep h0 h22 [fo, aw, ab, ar, ak] := K20.wr W22 (Or.inl (List.mem_of_getElem? (i := 4) rfl))
      have N22 := Fr.snoc X22 N20 g_ak
      refine own_go st22 ?_
      show OwnFin p e below s _ _ _ (T22.setTop (mkF m 104 #[rv fo, iv pi, iv (Int32.ofNat (m_ / pr)), iv ((iR (m_ / pr)) - (1 : Int32))] []))
      refine own_ret X22 (v := none) hlk (fun _ => rfl) (fun fs hr => X22.returnOut hx hret (hb hby d10_104) hr) (by decide) (by decide) ?_
      rw [e22]
      refine ⟨rfl, N22, K22, E_fo_22, F_words_22, F_inBlocks_22, F_racks_22, F_size_22, ?_, ?_, ?_⟩
      · exact V_aw_22.congr (fun z hz => by show _ = Value.long (own_rmW W m_ z); unfold own_rmW; (try dsimp only); split <;> rfl)
      · exact V_ab_22.congr (fun z hz => by show _ = Value.int (own_rmB nb iB m_ z); unfold own_rmB; rw [if_neg (mt (own_blk hD).mpr hc23)]; (try dsimp only); split <;> rfl)
      · exact A22.congr (fun z hz => by show _ = Value.long (own_rmR R iR m_ pr z); unfold own_rmR; rw [if_pos hc86]; (try dsimp only); split <;> rfl)
    · refine own_go (fun t_ k_ => XS.ifYes X21.here hx rfl (pc0 := 86) (pc' := 99) rfl (hb hby d10_86) rfl ((if0 _ _).trans (feq hc86).2) (by decide) (by decide) k_) ?_
      show OwnFin p e below s _ _ _ (T21.setTop (mkF m 99 #[rv fo, iv pi, iv (Int32.ofNat (m_ / pr)), iv ((iR (m_ / pr)) - (1 : Int32))] [(.long (R (m_ / pr / 64))), (.int (Int32.ofNat (m_ / pr / 64))), (.ref ak)]))
      refine own_go (X21.ldc2Long hx hown (mvT hZ (hw _ (List.mem_of_getElem? (i := 45) rfl))) (g := (mkF m 99 #[rv fo, iv pi, iv (Int32.ofNat (m_ / pr)), iv ((iR (m_ / pr)) - (1 : Int32))] [(.long (R (m_ / pr / 64))), (.int (Int32.ofNat (m_ / pr / 64))), (.ref ak)])) rfl (hb hby d10_99)) ?_
      show OwnFin p e below s _ _ _ (T21.setTop (mkF m 102 #[rv fo, iv pi, iv (Int32.ofNat (m_ / pr)), iv ((iR (m_ / pr)) - (1 : Int32))] [(.long (-1 : Int64)), (.long (R (m_ / pr / 64))), (.int (Int32.ofNat (m_ / pr / 64))), (.ref ak)]))
      refine own_go (fun t_ k_ => XS.land X21.here hx rfl (hb hby d10_102) rfl k_) ?_
      show OwnFin p e below s _ _ _ (T21.setTop (mkF m 103 #[rv fo, iv pi, iv (Int32.ofNat (m_ / pr)), iv ((iR (m_ / pr)) - (1 : Int32))] [(.long ((R (m_ / pr / 64)) &&& (-1 : Int64))), (.int (Int32.ofNat (m_ / pr / 64))), (.ref ak)]))
      obtain ⟨T23, h23, X23, e23, W23, A23, st23⟩ := own_lastore X21 hx hZ e21 V_ak_20 (i := (m_ / pr / 64)) rfl (by omega) (g := (mkF m 103 #[rv fo, iv pi, iv (Int32.ofNat (m_ / pr)), iv ((iR (m_ / pr)) - (1 : Int32))] [(.long ((R (m_ / pr / 64)) &&& (-1 : Int64))), (.int (Int32.ofNat (m_ / pr / 64))), (.ref ak)])) rfl rfl (hb hby d10_103)
      have E_fo_23 := E_fo_20.wr W23
      have F_words_23 := F_words_20.other W23 (Or.inl ne_fo_ak)
      have F_inBlocks_23 := F_inBlocks_20.other W23 (Or.inl ne_fo_ak)
      have F_inRacks_23 := F_inRacks_20.other W23 (Or.inl ne_fo_ak)
      have F_racks_23 := F_racks_20.other W23 (Or.inl ne_fo_ak)
      have F_rackOf_23 := F_rackOf_20.other W23 (Or.inl ne_fo_ak)
      have F_blocked_23 := F_blocked_20.other W23 (Or.inl ne_fo_ak)
      have F_size_23 := F_size_20.other W23 (Or.inl ne_fo_ak)
      have V_aw_23 := V_aw_20.other W23 ne_aw_ak
      have V_ab_23 := V_ab_20.other W23 ne_ab_ak
      have V_ar_23 := A20.other W23 ne_ar_ak
      have V_ao_23 := V_ao_20.other W23 (Ne.symm ne_ak_ao)
      have Z23 : n0 ≤ h23.size := Nat.le_trans Z20 (Keep.of_wr W23).1
      have K23 : Keep h0 h23 [fo, aw, ab, ar, ak] := K20.wr W23 (Or.inl (List.mem_of_getElem? (i := 4) rfl))
      have N23 := Fr.snoc X23 N20 g_ak
      refine own_go st23 ?_
      show OwnFin p e below s _ _ _ (T23.setTop (mkF m 104 #[rv fo, iv pi, iv (Int32.ofNat (m_ / pr)), iv ((iR (m_ / pr)) - (1 : Int32))] []))
      refine own_ret X23 (v := none) hlk (fun _ => rfl) (fun fs hr => X23.returnOut hx hret (hb hby d10_104) hr) (by decide) (by decide) ?_
      rw [e23]
      refine ⟨rfl, N23, K23, E_fo_23, F_words_23, F_inBlocks_23, F_racks_23, F_size_23, ?_, ?_, ?_⟩
      · exact V_aw_23.congr (fun z hz => by show _ = Value.long (own_rmW W m_ z); unfold own_rmW; (try dsimp only); split <;> rfl)
      · exact V_ab_23.congr (fun z hz => by show _ = Value.int (own_rmB nb iB m_ z); unfold own_rmB; rw [if_neg (mt (own_blk hD).mpr hc23)]; (try dsimp only); split <;> rfl)
      · exact A23.congr (fun z hz => by show _ = Value.long (own_rmR R iR m_ pr z); unfold own_rmR; rw [if_neg hc86]; (try dsimp only); split <;> rfl)
theorem d3_0 : decode prog_158_method_2_code 0 = .ok (.aload_n 0, 1) := by decide +kernel
theorem d3_1 : decode prog_158_method_2_code 1 = .ok (.iconst 0, 1) := by decide +kernel
theorem d3_2 : decode prog_158_method_2_code 2 = .ok (.putfield 34, 3) := by decide +kernel
theorem d3_5 : decode prog_158_method_2_code 5 = .ok (.iconst 0, 1) := by decide +kernel
theorem d3_6 : decode prog_158_method_2_code 6 = .ok (.istore_n 2, 1) := by decide +kernel
theorem d3_7 : decode prog_158_method_2_code 7 = .ok (.iload_n 2, 1) := by decide +kernel
theorem d3_8 : decode prog_158_method_2_code 8 = .ok (.aload_n 0, 1) := by decide +kernel
theorem d3_9 : decode prog_158_method_2_code 9 = .ok (.getfield 13, 3) := by decide +kernel
theorem d3_12 : decode prog_158_method_2_code 12 = .ok (.arraylength, 1) := by decide +kernel
theorem d3_13 : decode prog_158_method_2_code 13 = .ok (.if_icmp .ge 16, 3) := by decide +kernel
theorem d3_16 : decode prog_158_method_2_code 16 = .ok (.aload_n 0, 1) := by decide +kernel
theorem d3_17 : decode prog_158_method_2_code 17 = .ok (.getfield 13, 3) := by decide +kernel
theorem d3_20 : decode prog_158_method_2_code 20 = .ok (.iload_n 2, 1) := by decide +kernel
theorem d3_21 : decode prog_158_method_2_code 21 = .ok (.iconst 0, 1) := by decide +kernel
theorem d3_22 : decode prog_158_method_2_code 22 = .ok (.iastore, 1) := by decide +kernel
theorem d3_23 : decode prog_158_method_2_code 23 = .ok (.iinc 2 1, 3) := by decide +kernel
theorem d3_26 : decode prog_158_method_2_code 26 = .ok (.goto (-19), 3) := by decide +kernel
theorem d3_29 : decode prog_158_method_2_code 29 = .ok (.iconst 0, 1) := by decide +kernel
theorem d3_30 : decode prog_158_method_2_code 30 = .ok (.istore_n 2, 1) := by decide +kernel
theorem d3_31 : decode prog_158_method_2_code 31 = .ok (.iload_n 2, 1) := by decide +kernel
theorem d3_32 : decode prog_158_method_2_code 32 = .ok (.aload_n 0, 1) := by decide +kernel
theorem d3_33 : decode prog_158_method_2_code 33 = .ok (.getfield 7, 3) := by decide +kernel
theorem d3_36 : decode prog_158_method_2_code 36 = .ok (.arraylength, 1) := by decide +kernel
theorem d3_37 : decode prog_158_method_2_code 37 = .ok (.if_icmp .ge 48, 3) := by decide +kernel
theorem d3_40 : decode prog_158_method_2_code 40 = .ok (.aload_n 0, 1) := by decide +kernel
theorem d3_41 : decode prog_158_method_2_code 41 = .ok (.getfield 7, 3) := by decide +kernel
theorem d3_44 : decode prog_158_method_2_code 44 = .ok (.iload_n 2, 1) := by decide +kernel
theorem d3_45 : decode prog_158_method_2_code 45 = .ok (.aload_n 1, 1) := by decide +kernel
theorem d3_46 : decode prog_158_method_2_code 46 = .ok (.iload_n 2, 1) := by decide +kernel
theorem d3_47 : decode prog_158_method_2_code 47 = .ok (.laload, 1) := by decide +kernel
theorem d3_48 : decode prog_158_method_2_code 48 = .ok (.lastore, 1) := by decide +kernel
theorem d3_49 : decode prog_158_method_2_code 49 = .ok (.aload_n 1, 1) := by decide +kernel
theorem d3_50 : decode prog_158_method_2_code 50 = .ok (.iload_n 2, 1) := by decide +kernel
theorem d3_51 : decode prog_158_method_2_code 51 = .ok (.laload, 1) := by decide +kernel
theorem d3_52 : decode prog_158_method_2_code 52 = .ok (.invokestatic 37, 3) := by decide +kernel
theorem d3_55 : decode prog_158_method_2_code 55 = .ok (.istore_n 3, 1) := by decide +kernel
theorem d3_56 : decode prog_158_method_2_code 56 = .ok (.aload_n 0, 1) := by decide +kernel
theorem d3_57 : decode prog_158_method_2_code 57 = .ok (.getfield 13, 3) := by decide +kernel
theorem d3_60 : decode prog_158_method_2_code 60 = .ok (.iload_n 2, 1) := by decide +kernel
theorem d3_61 : decode prog_158_method_2_code 61 = .ok (.bipush 8, 2) := by decide +kernel
theorem d3_63 : decode prog_158_method_2_code 63 = .ok (.idiv, 1) := by decide +kernel
theorem d3_64 : decode prog_158_method_2_code 64 = .ok (.dup2, 1) := by decide +kernel
theorem d3_65 : decode prog_158_method_2_code 65 = .ok (.iaload, 1) := by decide +kernel
theorem d3_66 : decode prog_158_method_2_code 66 = .ok (.iload_n 3, 1) := by decide +kernel
theorem d3_67 : decode prog_158_method_2_code 67 = .ok (.iadd, 1) := by decide +kernel
theorem d3_68 : decode prog_158_method_2_code 68 = .ok (.iastore, 1) := by decide +kernel
theorem d3_69 : decode prog_158_method_2_code 69 = .ok (.aload_n 0, 1) := by decide +kernel
theorem d3_70 : decode prog_158_method_2_code 70 = .ok (.dup, 1) := by decide +kernel
theorem d3_71 : decode prog_158_method_2_code 71 = .ok (.getfield 34, 3) := by decide +kernel
theorem d3_74 : decode prog_158_method_2_code 74 = .ok (.iload_n 3, 1) := by decide +kernel
theorem d3_75 : decode prog_158_method_2_code 75 = .ok (.iadd, 1) := by decide +kernel
theorem d3_76 : decode prog_158_method_2_code 76 = .ok (.putfield 34, 3) := by decide +kernel
theorem d3_79 : decode prog_158_method_2_code 79 = .ok (.iinc 2 1, 3) := by decide +kernel
theorem d3_82 : decode prog_158_method_2_code 82 = .ok (.goto (-51), 3) := by decide +kernel
theorem d3_85 : decode prog_158_method_2_code 85 = .ok (.iconst 0, 1) := by decide +kernel
theorem d3_86 : decode prog_158_method_2_code 86 = .ok (.istore_n 2, 1) := by decide +kernel
theorem d3_87 : decode prog_158_method_2_code 87 = .ok (.iload_n 2, 1) := by decide +kernel
theorem d3_88 : decode prog_158_method_2_code 88 = .ok (.aload_n 0, 1) := by decide +kernel
theorem d3_89 : decode prog_158_method_2_code 89 = .ok (.getfield 24, 3) := by decide +kernel
theorem d3_92 : decode prog_158_method_2_code 92 = .ok (.arraylength, 1) := by decide +kernel
theorem d3_93 : decode prog_158_method_2_code 93 = .ok (.if_icmp .ge 16, 3) := by decide +kernel
theorem d3_96 : decode prog_158_method_2_code 96 = .ok (.aload_n 0, 1) := by decide +kernel
theorem d3_97 : decode prog_158_method_2_code 97 = .ok (.getfield 24, 3) := by decide +kernel
theorem d3_100 : decode prog_158_method_2_code 100 = .ok (.iload_n 2, 1) := by decide +kernel
theorem d3_101 : decode prog_158_method_2_code 101 = .ok (.lconst 0, 1) := by decide +kernel
theorem d3_102 : decode prog_158_method_2_code 102 = .ok (.lastore, 1) := by decide +kernel
theorem d3_103 : decode prog_158_method_2_code 103 = .ok (.iinc 2 1, 3) := by decide +kernel
theorem d3_106 : decode prog_158_method_2_code 106 = .ok (.goto (-19), 3) := by decide +kernel
theorem d3_109 : decode prog_158_method_2_code 109 = .ok (.iconst 0, 1) := by decide +kernel
theorem d3_110 : decode prog_158_method_2_code 110 = .ok (.istore_n 2, 1) := by decide +kernel
theorem d3_111 : decode prog_158_method_2_code 111 = .ok (.iload_n 2, 1) := by decide +kernel
theorem d3_112 : decode prog_158_method_2_code 112 = .ok (.aload_n 0, 1) := by decide +kernel
theorem d3_113 : decode prog_158_method_2_code 113 = .ok (.getfield 21, 3) := by decide +kernel
theorem d3_116 : decode prog_158_method_2_code 116 = .ok (.arraylength, 1) := by decide +kernel
theorem d3_117 : decode prog_158_method_2_code 117 = .ok (.if_icmp .ge 58, 3) := by decide +kernel
theorem d3_120 : decode prog_158_method_2_code 120 = .ok (.aload_n 0, 1) := by decide +kernel
theorem d3_121 : decode prog_158_method_2_code 121 = .ok (.iload_n 2, 1) := by decide +kernel
theorem d3_122 : decode prog_158_method_2_code 122 = .ok (.aload_n 0, 1) := by decide +kernel
theorem d3_123 : decode prog_158_method_2_code 123 = .ok (.getfield 30, 3) := by decide +kernel
theorem d3_126 : decode prog_158_method_2_code 126 = .ok (.imul, 1) := by decide +kernel
theorem d3_127 : decode prog_158_method_2_code 127 = .ok (.iload_n 2, 1) := by decide +kernel
theorem d3_128 : decode prog_158_method_2_code 128 = .ok (.iconst 1, 1) := by decide +kernel
theorem d3_129 : decode prog_158_method_2_code 129 = .ok (.iadd, 1) := by decide +kernel
theorem d3_130 : decode prog_158_method_2_code 130 = .ok (.aload_n 0, 1) := by decide +kernel
theorem d3_131 : decode prog_158_method_2_code 131 = .ok (.getfield 30, 3) := by decide +kernel
theorem d3_134 : decode prog_158_method_2_code 134 = .ok (.imul, 1) := by decide +kernel
theorem d3_135 : decode prog_158_method_2_code 135 = .ok (.invokevirtual 43, 3) := by decide +kernel
theorem d3_138 : decode prog_158_method_2_code 138 = .ok (.istore_n 3, 1) := by decide +kernel
theorem d3_139 : decode prog_158_method_2_code 139 = .ok (.aload_n 0, 1) := by decide +kernel
theorem d3_140 : decode prog_158_method_2_code 140 = .ok (.getfield 21, 3) := by decide +kernel
theorem d3_143 : decode prog_158_method_2_code 143 = .ok (.iload_n 2, 1) := by decide +kernel
theorem d3_144 : decode prog_158_method_2_code 144 = .ok (.iload_n 3, 1) := by decide +kernel
theorem d3_145 : decode prog_158_method_2_code 145 = .ok (.iastore, 1) := by decide +kernel
theorem d3_146 : decode prog_158_method_2_code 146 = .ok (.aload_n 0, 1) := by decide +kernel
theorem d3_147 : decode prog_158_method_2_code 147 = .ok (.getfield 24, 3) := by decide +kernel
theorem d3_150 : decode prog_158_method_2_code 150 = .ok (.iload_n 2, 1) := by decide +kernel
theorem d3_151 : decode prog_158_method_2_code 151 = .ok (.bipush 6, 2) := by decide +kernel
theorem d3_153 : decode prog_158_method_2_code 153 = .ok (.iushr, 1) := by decide +kernel
theorem d3_154 : decode prog_158_method_2_code 154 = .ok (.dup2, 1) := by decide +kernel
theorem d3_155 : decode prog_158_method_2_code 155 = .ok (.laload, 1) := by decide +kernel
theorem d3_156 : decode prog_158_method_2_code 156 = .ok (.iload_n 3, 1) := by decide +kernel
theorem d3_157 : decode prog_158_method_2_code 157 = .ok (.ifCond .ne 7, 3) := by decide +kernel
theorem d3_160 : decode prog_158_method_2_code 160 = .ok (.lconst 0, 1) := by decide +kernel
theorem d3_161 : decode prog_158_method_2_code 161 = .ok (.goto 6, 3) := by decide +kernel
theorem d3_164 : decode prog_158_method_2_code 164 = .ok (.lconst 1, 1) := by decide +kernel
theorem d3_165 : decode prog_158_method_2_code 165 = .ok (.iload_n 2, 1) := by decide +kernel
theorem d3_166 : decode prog_158_method_2_code 166 = .ok (.lshl, 1) := by decide +kernel
theorem d3_167 : decode prog_158_method_2_code 167 = .ok (.lor, 1) := by decide +kernel
theorem d3_168 : decode prog_158_method_2_code 168 = .ok (.lastore, 1) := by decide +kernel
theorem d3_169 : decode prog_158_method_2_code 169 = .ok (.iinc 2 1, 3) := by decide +kernel
theorem d3_172 : decode prog_158_method_2_code 172 = .ok (.goto (-61), 3) := by decide +kernel
theorem d3_175 : decode prog_158_method_2_code 175 = .ok (.return_, 1) := by decide +kernel
theorem pn_3 : plainFor (⟨"com/example/nearside/nearside/slotted/delay/OfferSet", "setAll", "([J)V"⟩ : MethodName) = true := plainFor_of_name (by first | (simp [plainName, overriddenIn]; done) | decide +kernel)
theorem pd_3_4 : parseMethodDescriptor "(II)I" = some ⟨[.int, .int], some .int⟩ := by decide +kernel
theorem pd_3_3 : parseMethodDescriptor "(J)I" = some ⟨[.long], some .int⟩ := by decide +kernel
theorem ef_3 (m : MethodId) (fo : Addr) (aa : Addr) : entryFrame m #[(.ref fo), (.ref aa)] 4 = mkF m 0 #[rv fo, rv aa, .unset, .unset] [] := by first | (simp [entryFrame, mkF, argsToLocals, Value.category]; done) | rfl
set_option maxRecDepth 65536 in
set_option maxHeartbeats 40000000 in
theorem rm3 (l : Launch) (Z : State) (a0 : Array Value) (hw : ∀ d ∈ tables_1, d.before a0 Z = true) (ws : List Jvm.Cond) (fo : Addr) (aa : Addr) (aw : Addr) (ab : Addr) (ar : Addr) (ak : Addr) (ao : Addr) (nm : Nat) (nw : Nat) (nb : Nat) (half : Nat) (pr : Nat) (A : Nat → Int64) (W : Nat → Int64) (iB : Nat → Int32) (iR : Nat → Int32) (R : Nat → Int64) (sz : Int32) (h0 : Heap) (n0 : Nat) (Z0 : n0 ≤ h0.size) (hP : own_P pr) (hD : own_dim nm nw nb half) (E_fo : Exa Z h0 fo "com/example/nearside/nearside/slotted/delay/OfferSet") (F_words : Fld Z h0 fo "com/example/nearside/nearside/slotted/delay/OfferSet" "words" "[J" (.ref aw)) (F_inBlocks : Fld Z h0 fo "com/example/nearside/nearside/slotted/delay/OfferSet" "inBlocks" "[I" (.ref ab)) (F_inRacks : Fld Z h0 fo "com/example/nearside/nearside/slotted/delay/OfferSet" "inRacks" "[I" (.ref ar)) (F_racks : Fld Z h0 fo "com/example/nearside/nearside/slotted/delay/OfferSet" "racks" "[J" (.ref ak)) (F_rackOf : Fld Z h0 fo "com/example/nearside/nearside/slotted/delay/OfferSet" "rackOf" "[I" (.ref ao)) (F_blocked : Fld Z h0 fo "com/example/nearside/nearside/slotted/delay/OfferSet" "blocked" "Z" (.int (nar .boolean (Int32.ofNat (nb - 1))))) (F_perRack : Fld Z h0 fo "com/example/nearside/nearside/slotted/delay/OfferSet" "perRack" "I" (.int (Int32.ofNat pr))) (F_size : Fld Z h0 fo "com/example/nearside/nearside/slotted/delay/OfferSet" "size" "I" (.int sz)) (V_aw : OwnArr Z h0 aw .long nw (fun k => .long (W k))) (V_ab : OwnArr Z h0 ab .int nb (fun k => .int (iB k))) (V_ar : OwnArr Z h0 ar .int (nm / pr) (fun k => .int (iR k))) (V_ak : OwnArr Z h0 ak .long ((nm / pr + 63) / 64) (fun k => .long (R k))) (V_aa : OwnArr Z h0 aa .long 10 (fun k => .long (A k))) (ne_fo_aw : fo ≠ aw) (ne_fo_ab : fo ≠ ab) (ne_fo_ar : fo ≠ ar) (ne_fo_ak : fo ≠ ak) (ne_fo_aa : fo ≠ aa) (ne_aw_ab : aw ≠ ab) (ne_aw_ar : aw ≠ ar) (ne_aw_ak : aw ≠ ak) (ne_aw_aa : aw ≠ aa) (ne_ab_ar : ab ≠ ar) (ne_ab_ak : ab ≠ ak) (ne_ab_aa : ab ≠ aa) (ne_ar_ak : ar ≠ ak) (ne_ar_aa : ar ≠ aa) (ne_ak_aa : ak ≠ aa) (g_fo : n0 ≤ fo) (g_aw : n0 ≤ aw) (g_ab : n0 ≤ ab) (g_ar : n0 ≤ ar) (g_ak : n0 ≤ ak) :
    OwnCtr l Z (⟨"com/example/nearside/nearside/slotted/delay/OfferSet", "setAll", "([J)V"⟩ : MethodName) ws prog_158_method_2_code 4 none ({ frames := 2, cells := 0, slots := 0, locals := 40 } : Room) #[(.ref fo), (.ref aa)] h0 (fun v h L => v = none ∧ Fr n0 L ∧ Keep h0 h [fo, aw, ab, ar, ak] ∧ Exa Z h fo "com/example/nearside/nearside/slotted/delay/OfferSet" ∧ Fld Z h fo "com/example/nearside/nearside/slotted/delay/OfferSet" "words" "[J" (.ref aw) ∧ Fld Z h fo "com/example/nearside/nearside/slotted/delay/OfferSet" "inBlocks" "[I" (.ref ab) ∧ Fld Z h fo "com/example/nearside/nearside/slotted/delay/OfferSet" "inRacks" "[I" (.ref ar) ∧ Fld Z h fo "com/example/nearside/nearside/slotted/delay/OfferSet" "racks" "[J" (.ref ak) ∧ Fld Z h fo "com/example/nearside/nearside/slotted/delay/OfferSet" "rackOf" "[I" (.ref ao) ∧ Fld Z h fo "com/example/nearside/nearside/slotted/delay/OfferSet" "blocked" "Z" (.int (nar .boolean (Int32.ofNat (nb - 1)))) ∧ Fld Z h fo "com/example/nearside/nearside/slotted/delay/OfferSet" "perRack" "I" (.int (Int32.ofNat pr)) ∧ ∃ (sz' : Int32) (iB' : Nat → Int32) (R' : Nat → Int64), Fld Z h fo "com/example/nearside/nearside/slotted/delay/OfferSet" "size" "I" (.int sz') ∧ OwnArr Z h aw .long nw (fun k => .long (A k)) ∧ OwnArr Z h ab .int nb (fun k => .int (iB' k)) ∧ OwnArr Z h ar .int (nm / pr) (fun k => .int (own_ci A pr k)) ∧ OwnArr Z h ak .long ((nm / pr + 63) / 64) (fun k => .long (R' k))) := by
  refine own_body (g0 := fun m => mkF m 0 #[rv fo, rv aa, .unset, .unset] []) pn_3 (fun m => ef_3 m fo aa) ?_
  intro p e s m below meth c s₁ X0 hx hby hml hown hnm hZ e0 hret hlk
  have hml : c.maxLocals = 4 := hml
  have hown : s.vm.findClass "com/example/nearside/nearside/slotted/delay/OfferSet" = some m.cls := hown
  have hnm : meth.name = "setAll" := hnm
  have hret : meth.sig.returnType = none := hret
  have N0 := Fr.nil n0
  have K0 := Keep.refl h0 [fo, aw, ab, ar, ak]
  show OwnFin p e below s _ _ _ (s₁.setTop (mkF m 0 #[rv fo, rv aa, .unset, .unset] []))
  have d0 := own_d0 hD
  have d1 := own_d1 hP hD
  refine own_go (fun t_ k_ => XS.aloadN X0.here hx rfl (hb hby d3_0) rfl rfl k_) ?_
  show OwnFin p e below s _ _ _ (s₁.setTop (mkF m 1 #[rv fo, rv aa, .unset, .unset] [(.ref fo)]))
  refine own_go (fun t_ k_ => XS.iconst X0.here hx rfl (hb hby d3_1) k_) ?_
  show OwnFin p e below s _ _ _ (s₁.setTop (mkF m 2 #[rv fo, rv aa, .unset, .unset] [(.int (0 : Int32)), (.ref fo)]))
  obtain ⟨T1, h1, X1, e1, W1, st1⟩ := putF X0 hx hZ hown (host := "") (Or.inl (hw _ (List.mem_of_getElem? (i := 32) rfl))) Via.refl e0 F_size E_fo (Or.inl (hw _ (List.mem_of_getElem? (i := 33) rfl))) (hw _ (List.mem_of_getElem? (i := 4) rfl)) (ty := .int) (by decide) rfl rfl (g := (mkF m 2 #[rv fo, rv aa, .unset, .unset] [(.int (0 : Int32)), (.ref fo)])) rfl rfl (hb hby d3_2)
  have E_fo_1 := E_fo.wr W1
  have F_words_1 := F_words.other W1 (Or.inr (slot_ne (Or.inr (hw _ (List.mem_of_getElem? (i := 13) rfl))) (Or.inl (hw _ (List.mem_of_getElem? (i := 33) rfl))) (by decide) (t := (.array .long)) (t' := .int) (by decide) (by decide)))
  have F_inBlocks_1 := F_inBlocks.other W1 (Or.inr (slot_ne (Or.inr (hw _ (List.mem_of_getElem? (i := 16) rfl))) (Or.inl (hw _ (List.mem_of_getElem? (i := 33) rfl))) (by decide) (t := (.array .int)) (t' := .int) (by decide) (by decide)))
  have F_inRacks_1 := F_inRacks.other W1 (Or.inr (slot_ne (Or.inr (hw _ (List.mem_of_getElem? (i := 20) rfl))) (Or.inl (hw _ (List.mem_of_getElem? (i := 33) rfl))) (by decide) (t := (.array .int)) (t' := .int) (by decide) (by decide)))
  have F_racks_1 := F_racks.other W1 (Or.inr (slot_ne (Or.inr (hw _ (List.mem_of_getElem? (i := 22) rfl))) (Or.inl (hw _ (List.mem_of_getElem? (i := 33) rfl))) (by decide) (t := (.array .long)) (t' := .int) (by decide) (by decide)))
  have F_rackOf_1 := F_rackOf.other W1 (Or.inr (slot_ne (Or.inr (hw _ (List.mem_of_getElem? (i := 24) rfl))) (Or.inl (hw _ (List.mem_of_getElem? (i := 33) rfl))) (by decide) (t := (.array .int)) (t' := .int) (by decide) (by decide)))
  have F_blocked_1 := F_blocked.other W1 (Or.inr (slot_ne (Or.inr (hw _ (List.mem_of_getElem? (i := 18) rfl))) (Or.inl (hw _ (List.mem_of_getElem? (i := 33) rfl))) (by decide) (t := .boolean) (t' := .int) (by decide) (by decide)))
  have F_perRack_1 := F_perRack.other W1 (Or.inr (slot_ne (Or.inr (hw _ (List.mem_of_getElem? (i := 26) rfl))) (Or.inl (hw _ (List.mem_of_getElem? (i := 33) rfl))) (by decide) (t := .int) (t' := .int) (by decide) (by decide)))
  have F_size_1 := F_size.same W1
  have V_aw_1 := V_aw.other W1 (Ne.symm ne_fo_aw)
  have V_ab_1 := V_ab.other W1 (Ne.symm ne_fo_ab)
  have V_ar_1 := V_ar.other W1 (Ne.symm ne_fo_ar)
  have V_ak_1 := V_ak.other W1 (Ne.symm ne_fo_ak)
  have V_aa_1 := V_aa.other W1 (Ne.symm ne_fo_aa)
  have Z1 : n0 ≤ h1.size := Nat.le_trans Z0 (Keep.of_wr W1).1
  have K1 : Keep h0 h1 [fo, aw, ab, ar, ak] := K0.wr W1 (Or.inl (List.mem_of_getElem? (i := 0) rfl))
  have N1 := Fr.snoc X1 N0 g_fo
  refine own_go st1 ?_
  show OwnFin p e below s _ _ _ (T1.setTop (mkF m 5 #[rv fo, rv aa, .unset, .unset] []))
  refine own_go (fun t_ k_ => XS.iconst X1.here hx rfl (hb hby d3_5) k_) ?_
  show OwnFin p e below s _ _ _ (T1.setTop (mkF m 6 #[rv fo, rv aa, .unset, .unset] [(.int (0 : Int32))]))
  refine own_go (fun t_ k_ => XS.istoreN X1.here hx rfl (hb hby d3_6) rfl (l' := #[rv fo, rv aa, iv (0 : Int32), .unset]) rfl k_) ?_
  show OwnFin p e below s _ _ _ (T1.setTop (mkF m 7 #[rv fo, rv aa, iv (0 : Int32), .unset] []))
  have lp1 : ∀ (d : Nat) (i : Nat) (iBv : Nat → Int32) (T1 : State) (locs1 : List Loc) (h1 : Heap), Stand p l e ({ frames := 2, cells := 0, slots := 0, locals := 40 } : Room) s m #[(.ref fo), (.ref aa)] below meth c T1 locs1 0 0 → T1.heap = h1 → Fr n0 locs1 → Keep h0 h1 [fo, aw, ab, ar, ak] → Exa Z h1 fo "com/example/nearside/nearside/slotted/delay/OfferSet" → Fld Z h1 fo "com/example/nearside/nearside/slotted/delay/OfferSet" "words" "[J" (.ref aw) → Fld Z h1 fo "com/example/nearside/nearside/slotted/delay/OfferSet" "inBlocks" "[I" (.ref ab) → Fld Z h1 fo "com/example/nearside/nearside/slotted/delay/OfferSet" "inRacks" "[I" (.ref ar) → Fld Z h1 fo "com/example/nearside/nearside/slotted/delay/OfferSet" "racks" "[J" (.ref ak) → Fld Z h1 fo "com/example/nearside/nearside/slotted/delay/OfferSet" "rackOf" "[I" (.ref ao) → Fld Z h1 fo "com/example/nearside/nearside/slotted/delay/OfferSet" "blocked" "Z" (.int (nar .boolean (Int32.ofNat (nb - 1)))) → Fld Z h1 fo "com/example/nearside/nearside/slotted/delay/OfferSet" "perRack" "I" (.int (Int32.ofNat pr)) → Fld Z h1 fo "com/example/nearside/nearside/slotted/delay/OfferSet" "size" "I" (.int (0 : Int32)) → OwnArr Z h1 aw .long nw (fun k => .long (W k)) → OwnArr Z h1 ab .int nb (fun k => .int (iBv k)) → OwnArr Z h1 ar .int (nm / pr) (fun k => .int (iR k)) → OwnArr Z h1 ak .long ((nm / pr + 63) / 64) (fun k => .long (R k)) → OwnArr Z h1 aa .long 10 (fun k => .long (A k)) → (i + d = nb) → OwnFin p e below s (fun v h L => v = none ∧ Fr n0 L ∧ Keep h0 h [fo, aw, ab, ar, ak] ∧ Exa Z h fo "com/example/nearside/nearside/slotted/delay/OfferSet" ∧ Fld Z h fo "com/example/nearside/nearside/slotted/delay/OfferSet" "words" "[J" (.ref aw) ∧ Fld Z h fo "com/example/nearside/nearside/slotted/delay/OfferSet" "inBlocks" "[I" (.ref ab) ∧ Fld Z h fo "com/example/nearside/nearside/slotted/delay/OfferSet" "inRacks" "[I" (.ref ar) ∧ Fld Z h fo "com/example/nearside/nearside/slotted/delay/OfferSet" "racks" "[J" (.ref ak) ∧ Fld Z h fo "com/example/nearside/nearside/slotted/delay/OfferSet" "rackOf" "[I" (.ref ao) ∧ Fld Z h fo "com/example/nearside/nearside/slotted/delay/OfferSet" "blocked" "Z" (.int (nar .boolean (Int32.ofNat (nb - 1)))) ∧ Fld Z h fo "com/example/nearside/nearside/slotted/delay/OfferSet" "perRack" "I" (.int (Int32.ofNat pr)) ∧ ∃ (sz' : Int32) (iB' : Nat → Int32) (R' : Nat → Int64), Fld Z h fo "com/example/nearside/nearside/slotted/delay/OfferSet" "size" "I" (.int sz') ∧ OwnArr Z h aw .long nw (fun k => .long (A k)) ∧ OwnArr Z h ab .int nb (fun k => .int (iB' k)) ∧ OwnArr Z h ar .int (nm / pr) (fun k => .int (own_ci A pr k)) ∧ OwnArr Z h ak .long ((nm / pr + 63) / 64) (fun k => .long (R' k))) 0 0 (T1.setTop (mkF m 7 #[rv fo, rv aa, iv (Int32.ofNat i), .unset] [])) := by
    intro d
    induction d with
    | zero =>
      intro i iBv T1 locs1 h1 X1 e1 N1 K1 H0 H1 H2 H3 H4 H5 H6 H7 H8 H9 H10 H11 H12 H13 hid
      have Z1 : n0 ≤ h1.size := Nat.le_trans Z0 K1.1
      refine own_go (fun t_ k_ => XS.iloadN X1.here hx rfl (hb hby d3_7) rfl k_) ?_
      show OwnFin p e below s _ _ _ (T1.setTop (mkF m 8 #[rv fo, rv aa, iv (Int32.ofNat i), .unset] [(.int (Int32.ofNat i))]))
      refine own_go (fun t_ k_ => XS.aloadN X1.here hx rfl (hb hby d3_8) rfl rfl k_) ?_
      show OwnFin p e below s _ _ _ (T1.setTop (mkF m 9 #[rv fo, rv aa, iv (Int32.ofNat i), .unset] [(.ref fo), (.int (Int32.ofNat i))]))
      obtain ⟨T2, X2, e2, st2⟩ := getF X1 hx hZ hown (host := "") (Or.inl (hw _ (List.mem_of_getElem? (i := 15) rfl))) Via.refl e1 H2 (g := (mkF m 9 #[rv fo, rv aa, iv (Int32.ofNat i), .unset] [(.ref fo), (.int (Int32.ofNat i))])) rfl rfl (hb hby d3_9)
      refine own_go st2 ?_
      show OwnFin p e below s _ _ _ (T2.setTop (mkF m 12 #[rv fo, rv aa, iv (Int32.ofNat i), .unset] [(.ref ab), (.int (Int32.ofNat i))]))
      refine own_go (own_alength X2 hx hZ e2 H10 (g := (mkF m 12 #[rv fo, rv aa, iv (Int32.ofNat i), .unset] [(.ref ab), (.int (Int32.ofNat i))])) rfl rfl (hb hby d3_12)) ?_
      show OwnFin p e below s _ _ _ (T2.setTop (mkF m 13 #[rv fo, rv aa, iv (Int32.ofNat i), .unset] [(.int (Int32.ofNat nb)), (.int (Int32.ofNat i))]))
      have hc13 : ¬ ((Int32.ofNat i) < (Int32.ofNat nb)) := by rw [own_ltN (by omega) (by omega)]; omega
      refine own_go (fun t_ k_ => XS.icmpYes X2.here hx rfl (pc0 := 13) (pc' := 29) rfl (hb hby d3_13) rfl (flt hc13).2.1 (by decide) (by decide) k_) ?_
      show OwnFin p e below s _ _ _ (T2.setTop (mkF m 29 #[rv fo, rv aa, iv (Int32.ofNat i), .unset] []))
      refine own_go (fun t_ k_ => XS.iconst X2.here hx rfl (hb hby d3_29) k_) ?_
      show OwnFin p e below s _ _ _ (T2.setTop (mkF m 30 #[rv fo, rv aa, iv (Int32.ofNat i), .unset] [(.int (0 : Int32))]))
      refine own_go (fun t_ k_ => XS.istoreN X2.here hx rfl (hb hby d3_30) rfl (l' := #[rv fo, rv aa, iv (0 : Int32), .unset]) rfl k_) ?_
      show OwnFin p e below s _ _ _ (T2.setTop (mkF m 31 #[rv fo, rv aa, iv (0 : Int32), .unset] []))
      have lp2 : ∀ (d : Nat) (i : Nat) (szw : Int32) (iBw : Nat → Int32) (Wv : Nat → Int64) (l3 : Slot) (T1 : State) (locs1 : List Loc) (h1 : Heap), Stand p l e ({ frames := 2, cells := 0, slots := 0, locals := 40 } : Room) s m #[(.ref fo), (.ref aa)] below meth c T1 locs1 0 0 → T1.heap = h1 → Fr n0 locs1 → Keep h0 h1 [fo, aw, ab, ar, ak] → Exa Z h1 fo "com/example/nearside/nearside/slotted/delay/OfferSet" → Fld Z h1 fo "com/example/nearside/nearside/slotted/delay/OfferSet" "words" "[J" (.ref aw) → Fld Z h1 fo "com/example/nearside/nearside/slotted/delay/OfferSet" "inBlocks" "[I" (.ref ab) → Fld Z h1 fo "com/example/nearside/nearside/slotted/delay/OfferSet" "inRacks" "[I" (.ref ar) → Fld Z h1 fo "com/example/nearside/nearside/slotted/delay/OfferSet" "racks" "[J" (.ref ak) → Fld Z h1 fo "com/example/nearside/nearside/slotted/delay/OfferSet" "rackOf" "[I" (.ref ao) → Fld Z h1 fo "com/example/nearside/nearside/slotted/delay/OfferSet" "blocked" "Z" (.int (nar .boolean (Int32.ofNat (nb - 1)))) → Fld Z h1 fo "com/example/nearside/nearside/slotted/delay/OfferSet" "perRack" "I" (.int (Int32.ofNat pr)) → Fld Z h1 fo "com/example/nearside/nearside/slotted/delay/OfferSet" "size" "I" (.int szw) → OwnArr Z h1 aw .long nw (fun k => .long (Wv k)) → OwnArr Z h1 ab .int nb (fun k => .int (iBw k)) → OwnArr Z h1 ar .int (nm / pr) (fun k => .int (iR k)) → OwnArr Z h1 ak .long ((nm / pr + 63) / 64) (fun k => .long (R k)) → OwnArr Z h1 aa .long 10 (fun k => .long (A k)) → (i + d = nw) → (∀ k, k < i → Wv k = A k) → (One l3) → OwnFin p e below s (fun v h L => v = none ∧ Fr n0 L ∧ Keep h0 h [fo, aw, ab, ar, ak] ∧ Exa Z h fo "com/example/nearside/nearside/slotted/delay/OfferSet" ∧ Fld Z h fo "com/example/nearside/nearside/slotted/delay/OfferSet" "words" "[J" (.ref aw) ∧ Fld Z h fo "com/example/nearside/nearside/slotted/delay/OfferSet" "inBlocks" "[I" (.ref ab) ∧ Fld Z h fo "com/example/nearside/nearside/slotted/delay/OfferSet" "inRacks" "[I" (.ref ar) ∧ Fld Z h fo "com/example/nearside/nearside/slotted/delay/OfferSet" "racks" "[J" (.ref ak) ∧ Fld Z h fo "com/example/nearside/nearside/slotted/delay/OfferSet" "rackOf" "[I" (.ref ao) ∧ Fld Z h fo "com/example/nearside/nearside/slotted/delay/OfferSet" "blocked" "Z" (.int (nar .boolean (Int32.ofNat (nb - 1)))) ∧ Fld Z h fo "com/example/nearside/nearside/slotted/delay/OfferSet" "perRack" "I" (.int (Int32.ofNat pr)) ∧ ∃ (sz' : Int32) (iB' : Nat → Int32) (R' : Nat → Int64), Fld Z h fo "com/example/nearside/nearside/slotted/delay/OfferSet" "size" "I" (.int sz') ∧ OwnArr Z h aw .long nw (fun k => .long (A k)) ∧ OwnArr Z h ab .int nb (fun k => .int (iB' k)) ∧ OwnArr Z h ar .int (nm / pr) (fun k => .int (own_ci A pr k)) ∧ OwnArr Z h ak .long ((nm / pr + 63) / 64) (fun k => .long (R' k))) 0 0 (T1.setTop (mkF m 31 #[rv fo, rv aa, iv (Int32.ofNat i), l3] [])) := by
        intro d
        induction d with
        | zero =>
          intro i szw iBw Wv l3 T1 locs1 h1 X1 e1 N1 K1 H0 H1 H2 H3 H4 H5 H6 H7 H8 H9 H10 H11 H12 H13 hid hW hl3
          have Z1 : n0 ≤ h1.size := Nat.le_trans Z0 K1.1
          refine own_go (fun t_ k_ => XS.iloadN X1.here hx rfl (hb hby d3_31) rfl k_) ?_
          show OwnFin p e below s _ _ _ (T1.setTop (mkF m 32 #[rv fo, rv aa, iv (Int32.ofNat i), l3] [(.int (Int32.ofNat i))]))
          refine own_go (fun t_ k_ => XS.aloadN X1.here hx rfl (hb hby d3_32) rfl rfl k_) ?_
          show OwnFin p e below s _ _ _ (T1.setTop (mkF m 33 #[rv fo, rv aa, iv (Int32.ofNat i), l3] [(.ref fo), (.int (Int32.ofNat i))]))
          obtain ⟨T3, X3, e3, st3⟩ := getF X1 hx hZ hown (host := "") (Or.inl (hw _ (List.mem_of_getElem? (i := 12) rfl))) Via.refl e1 H1 (g := (mkF m 33 #[rv fo, rv aa, iv (Int32.ofNat i), l3] [(.ref fo), (.int (Int32.ofNat i))])) rfl rfl (hb hby d3_33)
          refine own_go st3 ?_
          show OwnFin p e below s _ _ _ (T3.setTop (mkF m 36 #[rv fo, rv aa, iv (Int32.ofNat i), l3] [(.ref aw), (.int (Int32.ofNat i))]))
          refine own_go (own_alength X3 hx hZ e3 H9 (g := (mkF m 36 #[rv fo, rv aa, iv (Int32.ofNat i), l3] [(.ref aw), (.int (Int32.ofNat i))])) rfl rfl (hb hby d3_36)) ?_
          show OwnFin p e below s _ _ _ (T3.setTop (mkF m 37 #[rv fo, rv aa, iv (Int32.ofNat i), l3] [(.int (Int32.ofNat nw)), (.int (Int32.ofNat i))]))
          have hc37 : ¬ ((Int32.ofNat i) < (Int32.ofNat nw)) := by rw [own_ltN (by omega) (by omega)]; omega
          refine own_go (fun t_ k_ => XS.icmpYes X3.here hx rfl (pc0 := 37) (pc' := 85) rfl (hb hby d3_37) rfl (flt hc37).2.1 (by decide) (by decide) k_) ?_
          show OwnFin p e below s _ _ _ (T3.setTop (mkF m 85 #[rv fo, rv aa, iv (Int32.ofNat i), l3] []))
          have R4 : OwnArr Z h1 aw .long nw (fun j => .long (A j)) := H9.congr (fun z hz => by show Value.long (Wv z) = Value.long (A z); rw [hW z (by omega)])
          refine own_go (fun t_ k_ => XS.iconst X3.here hx rfl (hb hby d3_85) k_) ?_
          show OwnFin p e below s _ _ _ (T3.setTop (mkF m 86 #[rv fo, rv aa, iv (Int32.ofNat i), l3] [(.int (0 : Int32))]))
          refine own_go (fun t_ k_ => XS.istoreN X3.here hx rfl (hb hby d3_86) rfl (l' := #[rv fo, rv aa, iv (0 : Int32), l3]) rfl k_) ?_
          show OwnFin p e below s _ _ _ (T3.setTop (mkF m 87 #[rv fo, rv aa, iv (0 : Int32), l3] []))
          have lp3 : ∀ (d : Nat) (i : Nat) (Rz : Nat → Int64) (T1 : State) (locs1 : List Loc) (h1 : Heap), Stand p l e ({ frames := 2, cells := 0, slots := 0, locals := 40 } : Room) s m #[(.ref fo), (.ref aa)] below meth c T1 locs1 0 0 → T1.heap = h1 → Fr n0 locs1 → Keep h0 h1 [fo, aw, ab, ar, ak] → Exa Z h1 fo "com/example/nearside/nearside/slotted/delay/OfferSet" → Fld Z h1 fo "com/example/nearside/nearside/slotted/delay/OfferSet" "words" "[J" (.ref aw) → Fld Z h1 fo "com/example/nearside/nearside/slotted/delay/OfferSet" "inBlocks" "[I" (.ref ab) → Fld Z h1 fo "com/example/nearside/nearside/slotted/delay/OfferSet" "inRacks" "[I" (.ref ar) → Fld Z h1 fo "com/example/nearside/nearside/slotted/delay/OfferSet" "racks" "[J" (.ref ak) → Fld Z h1 fo "com/example/nearside/nearside/slotted/delay/OfferSet" "rackOf" "[I" (.ref ao) → Fld Z h1 fo "com/example/nearside/nearside/slotted/delay/OfferSet" "blocked" "Z" (.int (nar .boolean (Int32.ofNat (nb - 1)))) → Fld Z h1 fo "com/example/nearside/nearside/slotted/delay/OfferSet" "perRack" "I" (.int (Int32.ofNat pr)) → Fld Z h1 fo "com/example/nearside/nearside/slotted/delay/OfferSet" "size" "I" (.int szw) → OwnArr Z h1 aw .long nw (fun j => .long (A j)) → OwnArr Z h1 ab .int nb (fun k => .int (iBw k)) → OwnArr Z h1 ar .int (nm / pr) (fun k => .int (iR k)) → OwnArr Z h1 ak .long ((nm / pr + 63) / 64) (fun k => .long (Rz k)) → OwnArr Z h1 aa .long 10 (fun k => .long (A k)) → (i + d = ((nm / pr + 63) / 64)) → OwnFin p e below s (fun v h L => v = none ∧ Fr n0 L ∧ Keep h0 h [fo, aw, ab, ar, ak] ∧ Exa Z h fo "com/example/nearside/nearside/slotted/delay/OfferSet" ∧ Fld Z h fo "com/example/nearside/nearside/slotted/delay/OfferSet" "words" "[J" (.ref aw) ∧ Fld Z h fo "com/example/nearside/nearside/slotted/delay/OfferSet" "inBlocks" "[I" (.ref ab) ∧ Fld Z h fo "com/example/nearside/nearside/slotted/delay/OfferSet" "inRacks" "[I" (.ref ar) ∧ Fld Z h fo "com/example/nearside/nearside/slotted/delay/OfferSet" "racks" "[J" (.ref ak) ∧ Fld Z h fo "com/example/nearside/nearside/slotted/delay/OfferSet" "rackOf" "[I" (.ref ao) ∧ Fld Z h fo "com/example/nearside/nearside/slotted/delay/OfferSet" "blocked" "Z" (.int (nar .boolean (Int32.ofNat (nb - 1)))) ∧ Fld Z h fo "com/example/nearside/nearside/slotted/delay/OfferSet" "perRack" "I" (.int (Int32.ofNat pr)) ∧ ∃ (sz' : Int32) (iB' : Nat → Int32) (R' : Nat → Int64), Fld Z h fo "com/example/nearside/nearside/slotted/delay/OfferSet" "size" "I" (.int sz') ∧ OwnArr Z h aw .long nw (fun k => .long (A k)) ∧ OwnArr Z h ab .int nb (fun k => .int (iB' k)) ∧ OwnArr Z h ar .int (nm / pr) (fun k => .int (own_ci A pr k)) ∧ OwnArr Z h ak .long ((nm / pr + 63) / 64) (fun k => .long (R' k))) 0 0 (T1.setTop (mkF m 87 #[rv fo, rv aa, iv (Int32.ofNat i), l3] [])) := by
            intro d
            induction d with
            | zero =>
              intro i Rz T1 locs1 h1 X1 e1 N1 K1 H0 H1 H2 H3 H4 H5 H6 H7 H8 H9 H10 H11 H12 H13 hid
              have Z1 : n0 ≤ h1.size := Nat.le_trans Z0 K1.1
              refine own_go (fun t_ k_ => XS.iloadN X1.here hx rfl (hb hby d3_87) rfl k_) ?_
              show OwnFin p e below s _ _ _ (T1.setTop (mkF m 88 #[rv fo, rv aa, iv (Int32.ofNat i), l3] [(.int (Int32.ofNat i))]))
              refine own_go (fun t_ k_ => XS.aloadN X1.here hx rfl (hb hby d3_88) rfl rfl k_) ?_
              show OwnFin p e below s _ _ _ (T1.setTop (mkF m 89 #[rv fo, rv aa, iv (Int32.ofNat i), l3] [(.ref fo), (.int (Int32.ofNat i))]))
              obtain ⟨T5, X5, e5, st5⟩ := getF X1 hx hZ hown (host := "") (Or.inl (hw _ (List.mem_of_getElem? (i := 21) rfl))) Via.refl e1 H4 (g := (mkF m 89 #[rv fo, rv aa, iv (Int32.ofNat i), l3] [(.ref fo), (.int (Int32.ofNat i))])) rfl rfl (hb hby d3_89)
              refine own_go st5 ?_
              show OwnFin p e below s _ _ _ (T5.setTop (mkF m 92 #[rv fo, rv aa, iv (Int32.ofNat i), l3] [(.ref ak), (.int (Int32.ofNat i))]))
              refine own_go (own_alength X5 hx hZ e5 H12 (g := (mkF m 92 #[rv fo, rv aa, iv (Int32.ofNat i), l3] [(.ref ak), (.int (Int32.ofNat i))])) rfl rfl (hb hby d3_92)) ?_
              show OwnFin p e below s _ _ _ (T5.setTop (mkF m 93 #[rv fo, rv aa, iv (Int32.ofNat i), l3] [(.int (Int32.ofNat ((nm / pr + 63) / 64))), (.int (Int32.ofNat i))]))
              have hc93 : ¬ ((Int32.ofNat i) < (Int32.ofNat ((nm / pr + 63) / 64))) := by rw [own_ltN (by omega) (by omega)]; omega
              refine own_go (fun t_ k_ => XS.icmpYes X5.here hx rfl (pc0 := 93) (pc' := 109) rfl (hb hby d3_93) rfl (flt hc93).2.1 (by decide) (by decide) k_) ?_
              show OwnFin p e below s _ _ _ (T5.setTop (mkF m 109 #[rv fo, rv aa, iv (Int32.ofNat i), l3] []))
              refine own_go (fun t_ k_ => XS.iconst X5.here hx rfl (hb hby d3_109) k_) ?_
              show OwnFin p e below s _ _ _ (T5.setTop (mkF m 110 #[rv fo, rv aa, iv (Int32.ofNat i), l3] [(.int (0 : Int32))]))
              refine own_go (fun t_ k_ => XS.istoreN X5.here hx rfl (hb hby d3_110) rfl (l' := #[rv fo, rv aa, iv (0 : Int32), l3]) rfl k_) ?_
              show OwnFin p e below s _ _ _ (T5.setTop (mkF m 111 #[rv fo, rv aa, iv (0 : Int32), l3] []))
              have lp4 : ∀ (d : Nat) (r : Nat) (iRy : Nat → Int32) (Ry : Nat → Int64) (l4 : Slot) (T1 : State) (locs1 : List Loc) (h1 : Heap), Stand p l e ({ frames := 2, cells := 0, slots := 0, locals := 40 } : Room) s m #[(.ref fo), (.ref aa)] below meth c T1 locs1 0 0 → T1.heap = h1 → Fr n0 locs1 → Keep h0 h1 [fo, aw, ab, ar, ak] → Exa Z h1 fo "com/example/nearside/nearside/slotted/delay/OfferSet" → Fld Z h1 fo "com/example/nearside/nearside/slotted/delay/OfferSet" "words" "[J" (.ref aw) → Fld Z h1 fo "com/example/nearside/nearside/slotted/delay/OfferSet" "inBlocks" "[I" (.ref ab) → Fld Z h1 fo "com/example/nearside/nearside/slotted/delay/OfferSet" "inRacks" "[I" (.ref ar) → Fld Z h1 fo "com/example/nearside/nearside/slotted/delay/OfferSet" "racks" "[J" (.ref ak) → Fld Z h1 fo "com/example/nearside/nearside/slotted/delay/OfferSet" "rackOf" "[I" (.ref ao) → Fld Z h1 fo "com/example/nearside/nearside/slotted/delay/OfferSet" "blocked" "Z" (.int (nar .boolean (Int32.ofNat (nb - 1)))) → Fld Z h1 fo "com/example/nearside/nearside/slotted/delay/OfferSet" "perRack" "I" (.int (Int32.ofNat pr)) → Fld Z h1 fo "com/example/nearside/nearside/slotted/delay/OfferSet" "size" "I" (.int szw) → OwnArr Z h1 aw .long nw (fun j => .long (A j)) → OwnArr Z h1 ab .int nb (fun k => .int (iBw k)) → OwnArr Z h1 ar .int (nm / pr) (fun k => .int (iRy k)) → OwnArr Z h1 ak .long ((nm / pr + 63) / 64) (fun k => .long (Ry k)) → OwnArr Z h1 aa .long 10 (fun k => .long (A k)) → (r + d = nm / pr) → (∀ k, k < r → iRy k = own_ci A pr k) → (One l4) → OwnFin p e below s (fun v h L => v = none ∧ Fr n0 L ∧ Keep h0 h [fo, aw, ab, ar, ak] ∧ Exa Z h fo "com/example/nearside/nearside/slotted/delay/OfferSet" ∧ Fld Z h fo "com/example/nearside/nearside/slotted/delay/OfferSet" "words" "[J" (.ref aw) ∧ Fld Z h fo "com/example/nearside/nearside/slotted/delay/OfferSet" "inBlocks" "[I" (.ref ab) ∧ Fld Z h fo "com/example/nearside/nearside/slotted/delay/OfferSet" "inRacks" "[I" (.ref ar) ∧ Fld Z h fo "com/example/nearside/nearside/slotted/delay/OfferSet" "racks" "[J" (.ref ak) ∧ Fld Z h fo "com/example/nearside/nearside/slotted/delay/OfferSet" "rackOf" "[I" (.ref ao) ∧ Fld Z h fo "com/example/nearside/nearside/slotted/delay/OfferSet" "blocked" "Z" (.int (nar .boolean (Int32.ofNat (nb - 1)))) ∧ Fld Z h fo "com/example/nearside/nearside/slotted/delay/OfferSet" "perRack" "I" (.int (Int32.ofNat pr)) ∧ ∃ (sz' : Int32) (iB' : Nat → Int32) (R' : Nat → Int64), Fld Z h fo "com/example/nearside/nearside/slotted/delay/OfferSet" "size" "I" (.int sz') ∧ OwnArr Z h aw .long nw (fun k => .long (A k)) ∧ OwnArr Z h ab .int nb (fun k => .int (iB' k)) ∧ OwnArr Z h ar .int (nm / pr) (fun k => .int (own_ci A pr k)) ∧ OwnArr Z h ak .long ((nm / pr + 63) / 64) (fun k => .long (R' k))) 0 0 (T1.setTop (mkF m 111 #[rv fo, rv aa, iv (Int32.ofNat r), l4] [])) := by
                intro d
                induction d with
                | zero =>
                  intro r iRy Ry l4 T1 locs1 h1 X1 e1 N1 K1 H0 H1 H2 H3 H4 H5 H6 H7 H8 H9 H10 H11 H12 H13 hrd hR hl4
                  have Z1 : n0 ≤ h1.size := Nat.le_trans Z0 K1.1
                  refine own_go (fun t_ k_ => XS.iloadN X1.here hx rfl (hb hby d3_111) rfl k_) ?_
                  show OwnFin p e below s _ _ _ (T1.setTop (mkF m 112 #[rv fo, rv aa, iv (Int32.ofNat r), l4] [(.int (Int32.ofNat r))]))
                  refine own_go (fun t_ k_ => XS.aloadN X1.here hx rfl (hb hby d3_112) rfl rfl k_) ?_
                  show OwnFin p e below s _ _ _ (T1.setTop (mkF m 113 #[rv fo, rv aa, iv (Int32.ofNat r), l4] [(.ref fo), (.int (Int32.ofNat r))]))
                  obtain ⟨T6, X6, e6, st6⟩ := getF X1 hx hZ hown (host := "") (Or.inl (hw _ (List.mem_of_getElem? (i := 19) rfl))) Via.refl e1 H3 (g := (mkF m 113 #[rv fo, rv aa, iv (Int32.ofNat r), l4] [(.ref fo), (.int (Int32.ofNat r))])) rfl rfl (hb hby d3_113)
                  refine own_go st6 ?_
                  show OwnFin p e below s _ _ _ (T6.setTop (mkF m 116 #[rv fo, rv aa, iv (Int32.ofNat r), l4] [(.ref ar), (.int (Int32.ofNat r))]))
                  refine own_go (own_alength X6 hx hZ e6 H11 (g := (mkF m 116 #[rv fo, rv aa, iv (Int32.ofNat r), l4] [(.ref ar), (.int (Int32.ofNat r))])) rfl rfl (hb hby d3_116)) ?_
                  show OwnFin p e below s _ _ _ (T6.setTop (mkF m 117 #[rv fo, rv aa, iv (Int32.ofNat r), l4] [(.int (Int32.ofNat (nm / pr))), (.int (Int32.ofNat r))]))
                  have hc117 : ¬ ((Int32.ofNat r) < (Int32.ofNat (nm / pr))) := by rw [own_ltN (by omega) (by omega)]; omega
                  refine own_go (fun t_ k_ => XS.icmpYes X6.here hx rfl (pc0 := 117) (pc' := 175) rfl (hb hby d3_117) rfl (flt hc117).2.1 (by decide) (by decide) k_) ?_
                  show OwnFin p e below s _ _ _ (T6.setTop (mkF m 175 #[rv fo, rv aa, iv (Int32.ofNat r), l4] []))
                  refine own_ret X6 (v := none) hlk (fun _ => rfl) (fun fs hr => X6.returnOut hx hret (hb hby d3_175) hr) (by decide) (by decide) ?_
                  rw [e6]
                  exact ⟨rfl, N1, K1, H0, H1, H2, H3, H4, H5, H6, H7, _, _, _, H8, H9, H10, H11.congr (fun z hz => by show Value.int (iRy z) = Value.int (own_ci A pr z); rw [hR z (by omega)]), H12⟩
                | succ d ih =>
                  intro r iRy Ry l4 T1 locs1 h1 X1 e1 N1 K1 H0 H1 H2 H3 H4 H5 H6 H7 H8 H9 H10 H11 H12 H13 hrd hR hl4
                  have Z1 : n0 ≤ h1.size := Nat.le_trans Z0 K1.1
                  refine own_go (fun t_ k_ => XS.iloadN X1.here hx rfl (hb hby d3_111) rfl k_) ?_
                  show OwnFin p e below s _ _ _ (T1.setTop (mkF m 112 #[rv fo, rv aa, iv (Int32.ofNat r), l4] [(.int (Int32.ofNat r))]))
                  refine own_go (fun t_ k_ => XS.aloadN X1.here hx rfl (hb hby d3_112) rfl rfl k_) ?_
                  show OwnFin p e below s _ _ _ (T1.setTop (mkF m 113 #[rv fo, rv aa, iv (Int32.ofNat r), l4] [(.ref fo), (.int (Int32.ofNat r))]))
                  obtain ⟨T7, X7, e7, st7⟩ := getF X1 hx hZ hown (host := "") (Or.inl (hw _ (List.mem_of_getElem? (i := 19) rfl))) Via.refl e1 H3 (g := (mkF m 113 #[rv fo, rv aa, iv (Int32.ofNat r), l4] [(.ref fo), (.int (Int32.ofNat r))])) rfl rfl (hb hby d3_113)
                  refine own_go st7 ?_
                  show OwnFin p e below s _ _ _ (T7.setTop (mkF m 116 #[rv fo, rv aa, iv (Int32.ofNat r), l4] [(.ref ar), (.int (Int32.ofNat r))]))
                  refine own_go (own_alength X7 hx hZ e7 H11 (g := (mkF m 116 #[rv fo, rv aa, iv (Int32.ofNat r), l4] [(.ref ar), (.int (Int32.ofNat r))])) rfl rfl (hb hby d3_116)) ?_
                  show OwnFin p e below s _ _ _ (T7.setTop (mkF m 117 #[rv fo, rv aa, iv (Int32.ofNat r), l4] [(.int (Int32.ofNat (nm / pr))), (.int (Int32.ofNat r))]))
                  have hc117 : (Int32.ofNat r) < (Int32.ofNat (nm / pr)) := by rw [own_ltN (by omega) (by omega)]; omega
                  refine own_go (fun t_ k_ => XS.icmpNo X7.here hx rfl (hb hby d3_117) rfl (tlt hc117).2.1 k_) ?_
                  show OwnFin p e below s _ _ _ (T7.setTop (mkF m 120 #[rv fo, rv aa, iv (Int32.ofNat r), l4] []))
                  refine own_go (fun t_ k_ => XS.aloadN X7.here hx rfl (hb hby d3_120) rfl rfl k_) ?_
                  show OwnFin p e below s _ _ _ (T7.setTop (mkF m 121 #[rv fo, rv aa, iv (Int32.ofNat r), l4] [(.ref fo)]))
                  refine own_go (fun t_ k_ => XS.iloadN X7.here hx rfl (hb hby d3_121) rfl k_) ?_
                  show OwnFin p e below s _ _ _ (T7.setTop (mkF m 122 #[rv fo, rv aa, iv (Int32.ofNat r), l4] [(.int (Int32.ofNat r)), (.ref fo)]))
                  refine own_go (fun t_ k_ => XS.aloadN X7.here hx rfl (hb hby d3_122) rfl rfl k_) ?_
                  show OwnFin p e below s _ _ _ (T7.setTop (mkF m 123 #[rv fo, rv aa, iv (Int32.ofNat r), l4] [(.ref fo), (.int (Int32.ofNat r)), (.ref fo)]))
                  obtain ⟨T8, X8, e8, st8⟩ := getF X7 hx hZ hown (host := "") (Or.inl (hw _ (List.mem_of_getElem? (i := 25) rfl))) Via.refl e7 H7 (g := (mkF m 123 #[rv fo, rv aa, iv (Int32.ofNat r), l4] [(.ref fo), (.int (Int32.ofNat r)), (.ref fo)])) rfl rfl (hb hby d3_123)
                  refine own_go st8 ?_
                  show OwnFin p e below s _ _ _ (T8.setTop (mkF m 126 #[rv fo, rv aa, iv (Int32.ofNat r), l4] [(.int (Int32.ofNat pr)), (.int (Int32.ofNat r)), (.ref fo)]))
                  refine own_go (fun t_ k_ => XS.imul X8.here hx rfl (hb hby d3_126) rfl k_) ?_
                  show OwnFin p e below s _ _ _ (T8.setTop (mkF m 127 #[rv fo, rv aa, iv (Int32.ofNat r), l4] [(.int ((Int32.ofNat r) * (Int32.ofNat pr))), (.ref fo)]))
                  rw [show ((Int32.ofNat r) * (Int32.ofNat pr)) = (Int32.ofNat (r * pr)) from own_mulN _ _]
                  show OwnFin p e below s _ _ _ (T8.setTop (mkF m 127 #[rv fo, rv aa, iv (Int32.ofNat r), l4] [(.int (Int32.ofNat (r * pr))), (.ref fo)]))
                  refine own_go (fun t_ k_ => XS.iloadN X8.here hx rfl (hb hby d3_127) rfl k_) ?_
                  show OwnFin p e below s _ _ _ (T8.setTop (mkF m 128 #[rv fo, rv aa, iv (Int32.ofNat r), l4] [(.int (Int32.ofNat r)), (.int (Int32.ofNat (r * pr))), (.ref fo)]))
                  refine own_go (fun t_ k_ => XS.iconst X8.here hx rfl (hb hby d3_128) k_) ?_
                  show OwnFin p e below s _ _ _ (T8.setTop (mkF m 129 #[rv fo, rv aa, iv (Int32.ofNat r), l4] [(.int (1 : Int32)), (.int (Int32.ofNat r)), (.int (Int32.ofNat (r * pr))), (.ref fo)]))
                  refine own_go (fun t_ k_ => XS.iadd X8.here hx rfl (hb hby d3_129) rfl k_) ?_
                  show OwnFin p e below s _ _ _ (T8.setTop (mkF m 130 #[rv fo, rv aa, iv (Int32.ofNat r), l4] [(.int ((Int32.ofNat r) + (1 : Int32))), (.int (Int32.ofNat (r * pr))), (.ref fo)]))
                  rw [show ((Int32.ofNat r) + (1 : Int32)) = (Int32.ofNat (r + 1)) from own_addN _ 1]
                  show OwnFin p e below s _ _ _ (T8.setTop (mkF m 130 #[rv fo, rv aa, iv (Int32.ofNat r), l4] [(.int (Int32.ofNat (r + 1))), (.int (Int32.ofNat (r * pr))), (.ref fo)]))
                  refine own_go (fun t_ k_ => XS.aloadN X8.here hx rfl (hb hby d3_130) rfl rfl k_) ?_
                  show OwnFin p e below s _ _ _ (T8.setTop (mkF m 131 #[rv fo, rv aa, iv (Int32.ofNat r), l4] [(.ref fo), (.int (Int32.ofNat (r + 1))), (.int (Int32.ofNat (r * pr))), (.ref fo)]))
                  obtain ⟨T9, X9, e9, st9⟩ := getF X8 hx hZ hown (host := "") (Or.inl (hw _ (List.mem_of_getElem? (i := 25) rfl))) Via.refl e8 H7 (g := (mkF m 131 #[rv fo, rv aa, iv (Int32.ofNat r), l4] [(.ref fo), (.int (Int32.ofNat (r + 1))), (.int (Int32.ofNat (r * pr))), (.ref fo)])) rfl rfl (hb hby d3_131)
                  refine own_go st9 ?_
                  show OwnFin p e below s _ _ _ (T9.setTop (mkF m 134 #[rv fo, rv aa, iv (Int32.ofNat r), l4] [(.int (Int32.ofNat pr)), (.int (Int32.ofNat (r + 1))), (.int (Int32.ofNat (r * pr))), (.ref fo)]))
                  refine own_go (fun t_ k_ => XS.imul X9.here hx rfl (hb hby d3_134) rfl k_) ?_
                  show OwnFin p e below s _ _ _ (T9.setTop (mkF m 135 #[rv fo, rv aa, iv (Int32.ofNat r), l4] [(.int ((Int32.ofNat (r + 1)) * (Int32.ofNat pr))), (.int (Int32.ofNat (r * pr))), (.ref fo)]))
                  rw [show ((Int32.ofNat (r + 1)) * (Int32.ofNat pr)) = (Int32.ofNat ((r + 1) * pr)) from own_mulN _ _]
                  show OwnFin p e below s _ _ _ (T9.setTop (mkF m 135 #[rv fo, rv aa, iv (Int32.ofNat r), l4] [(.int (Int32.ofNat ((r + 1) * pr))), (.int (Int32.ofNat (r * pr))), (.ref fo)]))
                  obtain ⟨v10, T10, L10, X10, hQ10, st10⟩ := own_callP X9 hx hZ (y := (⟨"com/example/nearside/nearside/slotted/delay/OfferSet", "countIn", "(II)I"⟩ : MethodName)) hown (hw _ (List.mem_of_getElem? (i := 41) rfl)) (hw _ (List.mem_of_getElem? (i := 42) rfl)) (own_selP (hw _ (List.mem_of_getElem? (i := 42) rfl)) (hw _ (List.mem_of_getElem? (i := 43) rfl)) (own_nf (y' := (⟨"com/example/nearside/nearside/slotted/delay/OfferSet", "setAll", "([J)V"⟩ : MethodName)) (args := a0) ((hw _ (List.mem_of_getElem? (i := 30) rfl))) rfl) (by decide)) (hw _ (List.mem_of_getElem? (i := 43) rfl)) (hw _ (List.mem_of_getElem? (i := 5) rfl)) (hw _ (List.mem_of_getElem? (i := 44) rfl)) (by decide) (W := 0) (rm5 l Z a0 hw [] fo (Int32.ofNat (r * pr)) (Int32.ofNat ((r + 1) * pr)) aw nm nw nb half pr r A h1 n0 Z1 rfl rfl hP hD (by omega) H1 H9) (by decide) (by decide) H0 (g := (mkF m 135 #[rv fo, rv aa, iv (Int32.ofNat r), l4] [(.int (Int32.ofNat ((r + 1) * pr))), (.int (Int32.ofNat (r * pr))), (.ref fo)])) rfl (by rw [hml]; rfl) (argsL := [(.int (Int32.ofNat (r * pr))), (.int (Int32.ofNat ((r + 1) * pr)))]) (rest := []) (lenOf pd_3_4 rfl) rfl (by show 2 * 0 + _ ≤ _; exact Nat.le_of_eq rfl) (hb hby d3_135) e9 rfl (by decide) (by decide)
                  obtain ⟨rfl, Nq10, e10⟩ := hQ10
                  have N10 := Fr.app N1 Nq10
                  refine own_go st10 ?_
                  show OwnFin p e below s _ _ _ (T10.setTop (mkF m 138 #[rv fo, rv aa, iv (Int32.ofNat r), l4] [(.int (own_ci A pr r))]))
                  refine own_go (fun t_ k_ => XS.istoreN X10.here hx rfl (hb hby d3_138) rfl (l' := #[rv fo, rv aa, iv (Int32.ofNat r), iv (own_ci A pr r)]) (by rcases hl4 with rfl | ⟨w, rfl, hw9⟩ <;> first | rfl | (cases w <;> first | rfl | (simp [Value.category] at hw9; done))) k_) ?_
                  show OwnFin p e below s _ _ _ (T10.setTop (mkF m 139 #[rv fo, rv aa, iv (Int32.ofNat r), iv (own_ci A pr r)] []))
                  refine own_go (fun t_ k_ => XS.aloadN X10.here hx rfl (hb hby d3_139) rfl rfl k_) ?_
                  show OwnFin p e below s _ _ _ (T10.setTop (mkF m 140 #[rv fo, rv aa, iv (Int32.ofNat r), iv (own_ci A pr r)] [(.ref fo)]))
                  obtain ⟨T11, X11, e11, st11⟩ := getF X10 hx hZ hown (host := "") (Or.inl (hw _ (List.mem_of_getElem? (i := 19) rfl))) Via.refl e10 H3 (g := (mkF m 140 #[rv fo, rv aa, iv (Int32.ofNat r), iv (own_ci A pr r)] [(.ref fo)])) rfl rfl (hb hby d3_140)
                  refine own_go st11 ?_
                  show OwnFin p e below s _ _ _ (T11.setTop (mkF m 143 #[rv fo, rv aa, iv (Int32.ofNat r), iv (own_ci A pr r)] [(.ref ar)]))
                  refine own_go (fun t_ k_ => XS.iloadN X11.here hx rfl (hb hby d3_143) rfl k_) ?_
                  show OwnFin p e below s _ _ _ (T11.setTop (mkF m 144 #[rv fo, rv aa, iv (Int32.ofNat r), iv (own_ci A pr r)] [(.int (Int32.ofNat r)), (.ref ar)]))
                  refine own_go (fun t_ k_ => XS.iloadN X11.here hx rfl (hb hby d3_144) rfl k_) ?_
                  show OwnFin p e below s _ _ _ (T11.setTop (mkF m 145 #[rv fo, rv aa, iv (Int32.ofNat r), iv (own_ci A pr r)] [(.int (own_ci A pr r)), (.int (Int32.ofNat r)), (.ref ar)]))
                  obtain ⟨T12, h12, X12, e12, W12, A12, st12⟩ := own_iastore X11 hx hZ e11 H11 (i := r) rfl (by omega) (g := (mkF m 145 #[rv fo, rv aa, iv (Int32.ofNat r), iv (own_ci A pr r)] [(.int (own_ci A pr r)), (.int (Int32.ofNat r)), (.ref ar)])) rfl rfl (hb hby d3_145)
                  have H0_12 := H0.wr W12
                  have H1_12 := H1.other W12 (Or.inl ne_fo_ar)
                  have H2_12 := H2.other W12 (Or.inl ne_fo_ar)
                  have H3_12 := H3.other W12 (Or.inl ne_fo_ar)
                  have H4_12 := H4.other W12 (Or.inl ne_fo_ar)
                  have H5_12 := H5.other W12 (Or.inl ne_fo_ar)
                  have H6_12 := H6.other W12 (Or.inl ne_fo_ar)
                  have H7_12 := H7.other W12 (Or.inl ne_fo_ar)
                  have H8_12 := H8.other W12 (Or.inl ne_fo_ar)
                  have H9_12 := H9.other W12 ne_aw_ar
                  have H10_12 := H10.other W12 ne_ab_ar
                  have H12_12 := H12.other W12 (Ne.symm ne_ar_ak)
                  have H13_12 := H13.other W12 (Ne.symm ne_ar_aa)
                  have Z12 : n0 ≤ h12.size := Nat.le_trans Z1 (Keep.of_wr W12).1
                  have K12 : Keep h0 h12 [fo, aw, ab, ar, ak] := K1.wr W12 (Or.inl (List.mem_of_getElem? (i := 3) rfl))
                  have N12 := Fr.snoc X12 N10 g_ar
                  refine own_go st12 ?_
                  show OwnFin p e below s _ _ _ (T12.setTop (mkF m 146 #[rv fo, rv aa, iv (Int32.ofNat r), iv (own_ci A pr r)] []))
                  refine own_go (fun t_ k_ => XS.aloadN X12.here hx rfl (hb hby d3_146) rfl rfl k_) ?_
                  show OwnFin p e below s _ _ _ (T12.setTop (mkF m 147 #[rv fo, rv aa, iv (Int32.ofNat r), iv (own_ci A pr r)] [(.ref fo)]))
                  obtain ⟨T13, X13, e13, st13⟩ := getF X12 hx hZ hown (host := "") (Or.inl (hw _ (List.mem_of_getElem? (i := 21) rfl))) Via.refl e12 H4_12 (g := (mkF m 147 #[rv fo, rv aa, iv (Int32.ofNat r), iv (own_ci A pr r)] [(.ref fo)])) rfl rfl (hb hby d3_147)
                  refine own_go st13 ?_
                  show OwnFin p e below s _ _ _ (T13.setTop (mkF m 150 #[rv fo, rv aa, iv (Int32.ofNat r), iv (own_ci A pr r)] [(.ref ak)]))
                  refine own_go (fun t_ k_ => XS.iloadN X13.here hx rfl (hb hby d3_150) rfl k_) ?_
                  show OwnFin p e below s _ _ _ (T13.setTop (mkF m 151 #[rv fo, rv aa, iv (Int32.ofNat r), iv (own_ci A pr r)] [(.int (Int32.ofNat r)), (.ref ak)]))
                  refine own_go (fun t_ k_ => XS.bipush X13.here hx rfl (hb hby d3_151) k_) ?_
                  show OwnFin p e below s _ _ _ (T13.setTop (mkF m 153 #[rv fo, rv aa, iv (Int32.ofNat r), iv (own_ci A pr r)] [(.int (6 : Int32)), (.int (Int32.ofNat r)), (.ref ak)]))
                  refine own_go (fun t_ k_ => XS.iushr X13.here hx rfl (hb hby d3_153) rfl k_) ?_
                  show OwnFin p e below s _ _ _ (T13.setTop (mkF m 154 #[rv fo, rv aa, iv (Int32.ofNat r), iv (own_ci A pr r)] [(.int (((Int32.ofNat r).toUInt32 >>> ((6 : Int32) &&& 31).toUInt32).toInt32)), (.ref ak)]))
                  rw [show (((Int32.ofNat r).toUInt32 >>> ((6 : Int32) &&& 31).toUInt32).toInt32) = (Int32.ofNat (r / 64)) from own_shr6' rfl (by omega)]
                  show OwnFin p e below s _ _ _ (T13.setTop (mkF m 154 #[rv fo, rv aa, iv (Int32.ofNat r), iv (own_ci A pr r)] [(.int (Int32.ofNat (r / 64))), (.ref ak)]))
                  refine own_go (fun t_ k_ => Jvm.Free.XT.dup2 X13.here hx rfl (hb hby d3_154) rfl rfl rfl k_) ?_
                  show OwnFin p e below s _ _ _ (T13.setTop (mkF m 155 #[rv fo, rv aa, iv (Int32.ofNat r), iv (own_ci A pr r)] [(.int (Int32.ofNat (r / 64))), (.ref ak), (.int (Int32.ofNat (r / 64))), (.ref ak)]))
                  refine own_go (own_laload X13 hx hZ e13 H12_12 (i := (r / 64)) rfl (by omega) (g := (mkF m 155 #[rv fo, rv aa, iv (Int32.ofNat r), iv (own_ci A pr r)] [(.int (Int32.ofNat (r / 64))), (.ref ak), (.int (Int32.ofNat (r / 64))), (.ref ak)])) rfl rfl (hb hby d3_155)) ?_
                  show OwnFin p e below s _ _ _ (T13.setTop (mkF m 156 #[rv fo, rv aa, iv (Int32.ofNat r), iv (own_ci A pr r)] [(.long (Ry (r / 64))), (.int (Int32.ofNat (r / 64))), (.ref ak)]))
                  refine own_go (fun t_ k_ => XS.iloadN X13.here hx rfl (hb hby d3_156) rfl k_) ?_
                  show OwnFin p e below s _ _ _ (T13.setTop (mkF m 157 #[rv fo, rv aa, iv (Int32.ofNat r), iv (own_ci A pr r)] [(.int (own_ci A pr r)), (.long (Ry (r / 64))), (.int (Int32.ofNat (r / 64))), (.ref ak)]))
                  by_cases hc157 : (own_ci A pr r) = (0 : Int32)
                  · refine own_go (fun t_ k_ => XS.ifNo X13.here hx rfl (hb hby d3_157) rfl ((if0 _ _).trans (teq hc157).2) k_) ?_
                    show OwnFin p e below s _ _ _ (T13.setTop (mkF m 160 #[rv fo, rv aa, iv (Int32.ofNat r), iv (own_ci A pr r)] [(.long (Ry (r / 64))), (.int (Int32.ofNat (r / 64))), (.ref ak)]))
                    refine own_go (fun t_ k_ => XS.lconst X13.here hx rfl (hb hby d3_160) k_) ?_
                    show OwnFin p e below s _ _ _ (T13.setTop (mkF m 161 #[rv fo, rv aa, iv (Int32.ofNat r), iv (own_ci A pr r)] [(.long (0 : Int64)), (.long (Ry (r / 64))), (.int (Int32.ofNat (r / 64))), (.ref ak)]))
                    refine own_go (fun t_ k_ => XS.goto X13.here hx rfl (pc0 := 161) (pc' := 167) rfl (hb hby d3_161) (by decide) (by decide) k_) ?_
                    show OwnFin p e below s _ _ _ (T13.setTop (mkF m 167 #[rv fo, rv aa, iv (Int32.ofNat r), iv (own_ci A pr r)] [(.long (0 : Int64)), (.long (Ry (r / 64))), (.int (Int32.ofNat (r / 64))), (.ref ak)]))
                    refine own_go (fun t_ k_ => XS.lor X13.here hx rfl (hb hby d3_167) rfl k_) ?_
                    show OwnFin p e below s _ _ _ (T13.setTop (mkF m 168 #[rv fo, rv aa, iv (Int32.ofNat r), iv (own_ci A pr r)] [(.long ((Ry (r / 64)) ||| (0 : Int64))), (.int (Int32.ofNat (r / 64))), (.ref ak)]))
                    obtain ⟨T14, h14, X14, e14, W14, A14, st14⟩ := own_lastore X13 hx hZ e13 H12_12 (i := (r / 64)) rfl (by omega) (g := (mkF m 168 #[rv fo, rv aa, iv (Int32.ofNat r), iv (own_ci A pr r)] [(.long ((Ry (r / 64)) ||| (0 : Int64))), (.int (Int32.ofNat (r / 64))), (.ref ak)])) rfl rfl (hb hby d3_168)
                    have H0_14 := H0_12.wr W14
                    have H1_14 := H1_12.other W14 (Or.inl ne_fo_ak)
                    have H2_14 := H2_12.other W14 (Or.inl ne_fo_ak)
                    have H3_14 := H3_12.other W14 (Or.inl ne_fo_ak)
                    have H4_14 := H4_12.other W14 (Or.inl ne_fo_ak)
                    have H5_14 := H5_12.other W14 (Or.inl ne_fo_ak)
                    have H6_14 := H6_12.other W14 (Or.inl ne_fo_ak)
                    have H7_14 := H7_12.other W14 (Or.inl ne_fo_ak)
                    have H8_14 := H8_12.other W14 (Or.inl ne_fo_ak)
                    have H9_14 := H9_12.other W14 ne_aw_ak
                    have H10_14 := H10_12.other W14 ne_ab_ak
                    have H11_14 := A12.other W14 ne_ar_ak
                    have H13_14 := H13_12.other W14 (Ne.symm ne_ak_aa)
                    have Z14 : n0 ≤ h14.size := Nat.le_trans Z12 (Keep.of_wr W14).1
                    have K14 : Keep h0 h14 [fo, aw, ab, ar, ak] := K12.wr W14 (Or.inl (List.mem_of_getElem? (i := 4) rfl))
                    have N14 := Fr.snoc X14 N12 g_ak
                    refine own_go st14 ?_
                    show OwnFin p e below s _ _ _ (T14.setTop (mkF m 169 #[rv fo, rv aa, iv (Int32.ofNat r), iv (own_ci A pr r)] []))
                    refine own_go (fun t_ k_ => XS.iinc X14.here hx rfl (hb hby d3_169) rfl (l' := #[rv fo, rv aa, iv ((Int32.ofNat r) + (1 : Int32)), iv (own_ci A pr r)]) rfl k_) ?_
                    show OwnFin p e below s _ _ _ (T14.setTop (mkF m 172 #[rv fo, rv aa, iv ((Int32.ofNat r) + (1 : Int32)), iv (own_ci A pr r)] []))
                    refine own_go (fun t_ k_ => XS.goto X14.here hx rfl (pc0 := 172) (pc' := 111) rfl (hb hby d3_172) (by decide) (by decide) k_) ?_
                    show OwnFin p e below s _ _ _ (T14.setTop (mkF m 111 #[rv fo, rv aa, iv ((Int32.ofNat r) + (1 : Int32)), iv (own_ci A pr r)] []))
                    have R15 : OwnArr Z h14 ar .int (nm / pr) (fun j => .int ((fun k => if k = r then own_ci A pr r else iRy k) j)) := H11_14.congr (fun z hz => by (try dsimp only); split <;> rfl)
                    have R16 : OwnArr Z h14 ak .long ((nm / pr + 63) / 64) (fun j => .long ((fun k => if k = (r / 64) then ((Ry (r / 64)) ||| (0 : Int64)) else Ry k) j)) := A14.congr (fun z hz => by (try dsimp only); split <;> rfl)
                    have einc : Int32.ofNat r + (1 : Int32) = Int32.ofNat (r + 1) := (inc_ofNat r).symm
                    rw [einc]
                    exact ih (r + 1) _ _ _ T14 _ _ X14 e14 N14 K14 H0_14 H1_14 H2_14 H3_14 H4_14 H5_14 H6_14 H7_14 H8_14 H9_14 H10_14 R15 R16 H13_14 (by omega) (fun k hk => by rcases Nat.lt_succ_iff_lt_or_eq.mp hk with q | q; exact (if_neg (Nat.ne_of_lt q)).trans (hR k q); exact (if_pos q).trans (by rw [q])) (One.val rfl)
                  · refine own_go (fun t_ k_ => XS.ifYes X13.here hx rfl (pc0 := 157) (pc' := 164) rfl (hb hby d3_157) rfl ((if0 _ _).trans (feq hc157).2) (by decide) (by decide) k_) ?_
                    show OwnFin p e below s _ _ _ (T13.setTop (mkF m 164 #[rv fo, rv aa, iv (Int32.ofNat r), iv (own_ci A pr r)] [(.long (Ry (r / 64))), (.int (Int32.ofNat (r / 64))), (.ref ak)]))
                    refine own_go (fun t_ k_ => XS.lconst X13.here hx rfl (hb hby d3_164) k_) ?_
                    show OwnFin p e below s _ _ _ (T13.setTop (mkF m 165 #[rv fo, rv aa, iv (Int32.ofNat r), iv (own_ci A pr r)] [(.long (1 : Int64)), (.long (Ry (r / 64))), (.int (Int32.ofNat (r / 64))), (.ref ak)]))
                    refine own_go (fun t_ k_ => XS.iloadN X13.here hx rfl (hb hby d3_165) rfl k_) ?_
                    show OwnFin p e below s _ _ _ (T13.setTop (mkF m 166 #[rv fo, rv aa, iv (Int32.ofNat r), iv (own_ci A pr r)] [(.int (Int32.ofNat r)), (.long (1 : Int64)), (.long (Ry (r / 64))), (.int (Int32.ofNat (r / 64))), (.ref ak)]))
                    refine own_go (fun t_ k_ => XS.lshl X13.here hx rfl (hb hby d3_166) rfl k_) ?_
                    show OwnFin p e below s _ _ _ (T13.setTop (mkF m 167 #[rv fo, rv aa, iv (Int32.ofNat r), iv (own_ci A pr r)] [(.long ((1 : Int64) <<< ((Int32.ofNat r) &&& 0x3f).toInt64)), (.long (Ry (r / 64))), (.int (Int32.ofNat (r / 64))), (.ref ak)]))
                    refine own_go (fun t_ k_ => XS.lor X13.here hx rfl (hb hby d3_167) rfl k_) ?_
                    show OwnFin p e below s _ _ _ (T13.setTop (mkF m 168 #[rv fo, rv aa, iv (Int32.ofNat r), iv (own_ci A pr r)] [(.long ((Ry (r / 64)) ||| ((1 : Int64) <<< ((Int32.ofNat r) &&& 0x3f).toInt64))), (.int (Int32.ofNat (r / 64))), (.ref ak)]))
                    obtain ⟨T17, h17, X17, e17, W17, A17, st17⟩ := own_lastore X13 hx hZ e13 H12_12 (i := (r / 64)) rfl (by omega) (g := (mkF m 168 #[rv fo, rv aa, iv (Int32.ofNat r), iv (own_ci A pr r)] [(.long ((Ry (r / 64)) ||| ((1 : Int64) <<< ((Int32.ofNat r) &&& 0x3f).toInt64))), (.int (Int32.ofNat (r / 64))), (.ref ak)])) rfl rfl (hb hby d3_168)
                    have H0_17 := H0_12.wr W17
                    have H1_17 := H1_12.other W17 (Or.inl ne_fo_ak)
                    have H2_17 := H2_12.other W17 (Or.inl ne_fo_ak)
                    have H3_17 := H3_12.other W17 (Or.inl ne_fo_ak)
                    have H4_17 := H4_12.other W17 (Or.inl ne_fo_ak)
                    have H5_17 := H5_12.other W17 (Or.inl ne_fo_ak)
                    have H6_17 := H6_12.other W17 (Or.inl ne_fo_ak)
                    have H7_17 := H7_12.other W17 (Or.inl ne_fo_ak)
                    have H8_17 := H8_12.other W17 (Or.inl ne_fo_ak)
                    have H9_17 := H9_12.other W17 ne_aw_ak
                    have H10_17 := H10_12.other W17 ne_ab_ak
                    have H11_17 := A12.other W17 ne_ar_ak
                    have H13_17 := H13_12.other W17 (Ne.symm ne_ak_aa)
                    have Z17 : n0 ≤ h17.size := Nat.le_trans Z12 (Keep.of_wr W17).1
                    have K17 : Keep h0 h17 [fo, aw, ab, ar, ak] := K12.wr W17 (Or.inl (List.mem_of_getElem? (i := 4) rfl))
                    have N17 := Fr.snoc X17 N12 g_ak
                    refine own_go st17 ?_
                    show OwnFin p e below s _ _ _ (T17.setTop (mkF m 169 #[rv fo, rv aa, iv (Int32.ofNat r), iv (own_ci A pr r)] []))
                    refine own_go (fun t_ k_ => XS.iinc X17.here hx rfl (hb hby d3_169) rfl (l' := #[rv fo, rv aa, iv ((Int32.ofNat r) + (1 : Int32)), iv (own_ci A pr r)]) rfl k_) ?_
                    show OwnFin p e below s _ _ _ (T17.setTop (mkF m 172 #[rv fo, rv aa, iv ((Int32.ofNat r) + (1 : Int32)), iv (own_ci A pr r)] []))
                    refine own_go (fun t_ k_ => XS.goto X17.here hx rfl (pc0 := 172) (pc' := 111) rfl (hb hby d3_172) (by decide) (by decide) k_) ?_
                    show OwnFin p e below s _ _ _ (T17.setTop (mkF m 111 #[rv fo, rv aa, iv ((Int32.ofNat r) + (1 : Int32)), iv (own_ci A pr r)] []))
                    have R18 : OwnArr Z h17 ar .int (nm / pr) (fun j => .int ((fun k => if k = r then own_ci A pr r else iRy k) j)) := H11_17.congr (fun z hz => by (try dsimp only); split <;> rfl)
                    have R19 : OwnArr Z h17 ak .long ((nm / pr + 63) / 64) (fun j => .long ((fun k => if k = (r / 64) then ((Ry (r / 64)) ||| ((1 : Int64) <<< ((Int32.ofNat r) &&& 0x3f).toInt64)) else Ry k) j)) := A17.congr (fun z hz => by (try dsimp only); split <;> rfl)
                    have einc : Int32.ofNat r + (1 : Int32) = Int32.ofNat (r + 1) := (inc_ofNat r).symm
                    rw [einc]
                    exact ih (r + 1) _ _ _ T17 _ _ X17 e17 N17 K17 H0_17 H1_17 H2_17 H3_17 H4_17 H5_17 H6_17 H7_17 H8_17 H9_17 H10_17 R18 R19 H13_17 (by omega) (fun k hk => by rcases Nat.lt_succ_iff_lt_or_eq.mp hk with q | q; exact (if_neg (Nat.ne_of_lt q)).trans (hR k q); exact (if_pos q).trans (by rw [q])) (One.val rfl)
              exact lp4 (nm / pr) 0 _ _ _ T5 _ _ X5 e5 N1 K1 H0 H1 H2 H3 H4 H5 H6 H7 H8 H9 H10 H11 H12 H13 (by omega) (fun k hk => absurd hk (Nat.not_lt_zero k)) hl3
            | succ d ih =>
              intro i Rz T1 locs1 h1 X1 e1 N1 K1 H0 H1 H2 H3 H4 H5 H6 H7 H8 H9 H10 H11 H12 H13 hid
              have Z1 : n0 ≤ h1.size := Nat.le_trans Z0 K1.1
              refine own_go (fun t_ k_ => XS.iloadN X1.here hx rfl (hb hby d3_87) rfl k_) ?_
              show OwnFin p e below s _ _ _ (T1.setTop (mkF m 88 #[rv fo, rv aa, iv (Int32.ofNat i), l3] [(.int (Int32.ofNat i))]))
              refine own_go (fun t_ k_ => XS.aloadN X1.here hx rfl (hb hby d3_88) rfl rfl k_) ?_
              show OwnFin p e below s _ _ _ (T1.setTop (mkF m 89 #[rv fo, rv aa, iv (Int32.ofNat i), l3] [(.ref fo), (.int (Int32.ofNat i))]))
              obtain ⟨T20, X20, e20, st20⟩ := getF X1 hx hZ hown (host := "") (Or.inl (hw _ (List.mem_of_getElem? (i := 21) rfl))) Via.refl e1 H4 (g := (mkF m 89 #[rv fo, rv aa, iv (Int32.ofNat i), l3] [(.ref fo), (.int (Int32.ofNat i))])) rfl rfl (hb hby d3_89)
              refine own_go st20 ?_
              show OwnFin p e below s _ _ _ (T20.setTop (mkF m 92 #[rv fo, rv aa, iv (Int32.ofNat i), l3] [(.ref ak), (.int (Int32.ofNat i))]))
              refine own_go (own_alength X20 hx hZ e20 H12 (g := (mkF m 92 #[rv fo, rv aa, iv (Int32.ofNat i), l3] [(.ref ak), (.int (Int32.ofNat i))])) rfl rfl (hb hby d3_92)) ?_
              show OwnFin p e below s _ _ _ (T20.setTop (mkF m 93 #[rv fo, rv aa, iv (Int32.ofNat i), l3] [(.int (Int32.ofNat ((nm / pr + 63) / 64))), (.int (Int32.ofNat i))]))
              have hc93 : (Int32.ofNat i) < (Int32.ofNat ((nm / pr + 63) / 64)) := by rw [own_ltN (by omega) (by omega)]; omega
              refine own_go (fun t_ k_ => XS.icmpNo X20.here hx rfl (hb hby d3_93) rfl (tlt hc93).2.1 k_) ?_
              show OwnFin p e below s _ _ _ (T20.setTop (mkF m 96 #[rv fo, rv aa, iv (Int32.ofNat i), l3] []))
              refine own_go (fun t_ k_ => XS.aloadN X20.here hx rfl (hb hby d3_96) rfl rfl k_) ?_
              show OwnFin p e below s _ _ _ (T20.setTop (mkF m 97 #[rv fo, rv aa, iv (Int32.ofNat i), l3] [(.ref fo)]))
              obtain ⟨T21, X21, e21, st21⟩ := getF X20 hx hZ hown (host := "") (Or.inl (hw _ (List.mem_of_getElem? (i := 21) rfl))) Via.refl e20 H4 (g := (mkF m 97 #[rv fo, rv aa, iv (Int32.ofNat i), l3] [(.ref fo)])) rfl rfl (hb hby d3_97)
              refine own_go st21 ?_
              show OwnFin p e below s _ _ _ (T21.setTop (mkF m 100 #[rv fo, rv aa, iv (Int32.ofNat i), l3] [(.ref ak)]))
              refine own_go (fun t_ k_ => XS.iloadN X21.here hx rfl (hb hby d3_100) rfl k_) ?_
              show OwnFin p e below s _ _ _ (T21.setTop (mkF m 101 #[rv fo, rv aa, iv (Int32.ofNat i), l3] [(.int (Int32.ofNat i)), (.ref ak)]))
              refine own_go (fun t_ k_ => XS.lconst X21.here hx rfl (hb hby d3_101) k_) ?_
              show OwnFin p e below s _ _ _ (T21.setTop (mkF m 102 #[rv fo, rv aa, iv (Int32.ofNat i), l3] [(.long (0 : Int64)), (.int (Int32.ofNat i)), (.ref ak)]))
              obtain ⟨T22, h22, X22, e22, W22, A22, st22⟩ := own_lastore X21 hx hZ e21 H12 (i := i) rfl (by omega) (g := (mkF m 102 #[rv fo, rv aa, iv (Int32.ofNat i), l3] [(.long (0 : Int64)), (.int (Int32.ofNat i)), (.ref ak)])) rfl rfl (hb hby d3_102)
              have H0_22 := H0.wr W22
              have H1_22 := H1.other W22 (Or.inl ne_fo_ak)
              have H2_22 := H2.other W22 (Or.inl ne_fo_ak)
              have H3_22 := H3.other W22 (Or.inl ne_fo_ak)
              have H4_22 := H4.other W22 (Or.inl ne_fo_ak)
              have H5_22 := H5.other W22 (Or.inl ne_fo_ak)
              have H6_22 := H6.other W22 (Or.inl ne_fo_ak)
              have H7_22 := H7.other W22 (Or.inl ne_fo_ak)
              have H8_22 := H8.other W22 (Or.inl ne_fo_ak)
              have H9_22 := H9.other W22 ne_aw_ak
              have H10_22 := H10.other W22 ne_ab_ak
              have H11_22 := H11.other W22 ne_ar_ak
              have H13_22 := H13.other W22 (Ne.symm ne_ak_aa)
              have Z22 : n0 ≤ h22.size := Nat.le_trans Z1 (Keep.of_wr W22).1
              have K22 : Keep h0 h22 [fo, aw, ab, ar, ak] := K1.wr W22 (Or.inl (List.mem_of_getElem? (i := 4) rfl))
              have N22 := Fr.snoc X22 N1 g_ak
              refine own_go st22 ?_
              show OwnFin p e below s _ _ _ (T22.setTop (mkF m 103 #[rv fo, rv aa, iv (Int32.ofNat i), l3] []))
              refine own_go (fun t_ k_ => XS.iinc X22.here hx rfl (hb hby d3_103) rfl (l' := #[rv fo, rv aa, iv ((Int32.ofNat i) + (1 : Int32)), l3]) rfl k_) ?_
              show OwnFin p e below s _ _ _ (T22.setTop (mkF m 106 #[rv fo, rv aa, iv ((Int32.ofNat i) + (1 : Int32)), l3] []))
              refine own_go (fun t_ k_ => XS.goto X22.here hx rfl (pc0 := 106) (pc' := 87) rfl (hb hby d3_106) (by decide) (by decide) k_) ?_
              show OwnFin p e below s _ _ _ (T22.setTop (mkF m 87 #[rv fo, rv aa, iv ((Int32.ofNat i) + (1 : Int32)), l3] []))
              have R23 : OwnArr Z h22 ak .long ((nm / pr + 63) / 64) (fun j => .long ((fun k => if k = i then (0 : Int64) else Rz k) j)) := A22.congr (fun z hz => by (try dsimp only); split <;> rfl)
              have einc : Int32.ofNat i + (1 : Int32) = Int32.ofNat (i + 1) := (inc_ofNat i).symm
              rw [einc]
              exact ih (i + 1) _ T22 _ _ X22 e22 N22 K22 H0_22 H1_22 H2_22 H3_22 H4_22 H5_22 H6_22 H7_22 H8_22 H9_22 H10_22 H11_22 R23 H13_22 (by omega)
          exact lp3 ((nm / pr + 63) / 64) 0 _ T3 _ _ X3 e3 N1 K1 H0 H1 H2 H3 H4 H5 H6 H7 H8 R4 H10 H11 H12 H13 (by omega)
        | succ d ih =>
          intro i szw iBw Wv l3 T1 locs1 h1 X1 e1 N1 K1 H0 H1 H2 H3 H4 H5 H6 H7 H8 H9 H10 H11 H12 H13 hid hW hl3
          have Z1 : n0 ≤ h1.size := Nat.le_trans Z0 K1.1
          refine own_go (fun t_ k_ => XS.iloadN X1.here hx rfl (hb hby d3_31) rfl k_) ?_
          show OwnFin p e below s _ _ _ (T1.setTop (mkF m 32 #[rv fo, rv aa, iv (Int32.ofNat i), l3] [(.int (Int32.ofNat i))]))
          refine own_go (fun t_ k_ => XS.aloadN X1.here hx rfl (hb hby d3_32) rfl rfl k_) ?_
          show OwnFin p e below s _ _ _ (T1.setTop (mkF m 33 #[rv fo, rv aa, iv (Int32.ofNat i), l3] [(.ref fo), (.int (Int32.ofNat i))]))
          obtain ⟨T24, X24, e24, st24⟩ := getF X1 hx hZ hown (host := "") (Or.inl (hw _ (List.mem_of_getElem? (i := 12) rfl))) Via.refl e1 H1 (g := (mkF m 33 #[rv fo, rv aa, iv (Int32.ofNat i), l3] [(.ref fo), (.int (Int32.ofNat i))])) rfl rfl (hb hby d3_33)
          refine own_go st24 ?_
          show OwnFin p e below s _ _ _ (T24.setTop (mkF m 36 #[rv fo, rv aa, iv (Int32.ofNat i), l3] [(.ref aw), (.int (Int32.ofNat i))]))
          refine own_go (own_alength X24 hx hZ e24 H9 (g := (mkF m 36 #[rv fo, rv aa, iv (Int32.ofNat i), l3] [(.ref aw), (.int (Int32.ofNat i))])) rfl rfl (hb hby d3_36)) ?_
          show OwnFin p e below s _ _ _ (T24.setTop (mkF m 37 #[rv fo, rv aa, iv (Int32.ofNat i), l3] [(.int (Int32.ofNat nw)), (.int (Int32.ofNat i))]))
          have hc37 : (Int32.ofNat i) < (Int32.ofNat nw) := by rw [own_ltN (by omega) (by omega)]; omega
          refine own_go (fun t_ k_ => XS.icmpNo X24.here hx rfl (hb hby d3_37) rfl (tlt hc37).2.1 k_) ?_
          show OwnFin p e below s _ _ _ (T24.setTop (mkF m 40 #[rv fo, rv aa, iv (Int32.ofNat i), l3] []))
          refine own_go (fun t_ k_ => XS.aloadN X24.here hx rfl (hb hby d3_40) rfl rfl k_) ?_
          show OwnFin p e below s _ _ _ (T24.setTop (mkF m 41 #[rv fo, rv aa, iv (Int32.ofNat i), l3] [(.ref fo)]))
          obtain ⟨T25, X25, e25, st25⟩ := getF X24 hx hZ hown (host := "") (Or.inl (hw _ (List.mem_of_getElem? (i := 12) rfl))) Via.refl e24 H1 (g := (mkF m 41 #[rv fo, rv aa, iv (Int32.ofNat i), l3] [(.ref fo)])) rfl rfl (hb hby d3_41)
          refine own_go st25 ?_
          show OwnFin p e below s _ _ _ (T25.setTop (mkF m 44 #[rv fo, rv aa, iv (Int32.ofNat i), l3] [(.ref aw)]))
          refine own_go (fun t_ k_ => XS.iloadN X25.here hx rfl (hb hby d3_44) rfl k_) ?_
          show OwnFin p e below s _ _ _ (T25.setTop (mkF m 45 #[rv fo, rv aa, iv (Int32.ofNat i), l3] [(.int (Int32.ofNat i)), (.ref aw)]))
          refine own_go (fun t_ k_ => XS.aloadN X25.here hx rfl (hb hby d3_45) rfl rfl k_) ?_
          show OwnFin p e below s _ _ _ (T25.setTop (mkF m 46 #[rv fo, rv aa, iv (Int32.ofNat i), l3] [(.ref aa), (.int (Int32.ofNat i)), (.ref aw)]))
          refine own_go (fun t_ k_ => XS.iloadN X25.here hx rfl (hb hby d3_46) rfl k_) ?_
          show OwnFin p e below s _ _ _ (T25.setTop (mkF m 47 #[rv fo, rv aa, iv (Int32.ofNat i), l3] [(.int (Int32.ofNat i)), (.ref aa), (.int (Int32.ofNat i)), (.ref aw)]))
          refine own_go (own_laload X25 hx hZ e25 H13 (i := i) rfl (by omega) (g := (mkF m 47 #[rv fo, rv aa, iv (Int32.ofNat i), l3] [(.int (Int32.ofNat i)), (.ref aa), (.int (Int32.ofNat i)), (.ref aw)])) rfl rfl (hb hby d3_47)) ?_
          show OwnFin p e below s _ _ _ (T25.setTop (mkF m 48 #[rv fo, rv aa, iv (Int32.ofNat i), l3] [(.long (A i)), (.int (Int32.ofNat i)), (.ref aw)]))
          obtain ⟨T26, h26, X26, e26, W26, A26, st26⟩ := own_lastore X25 hx hZ e25 H9 (i := i) rfl (by omega) (g := (mkF m 48 #[rv fo, rv aa, iv (Int32.ofNat i), l3] [(.long (A i)), (.int (Int32.ofNat i)), (.ref aw)])) rfl rfl (hb hby d3_48)
          have H0_26 := H0.wr W26
          have H1_26 := H1.other W26 (Or.inl ne_fo_aw)
          have H2_26 := H2.other W26 (Or.inl ne_fo_aw)
          have H3_26 := H3.other W26 (Or.inl ne_fo_aw)
          have H4_26 := H4.other W26 (Or.inl ne_fo_aw)
          have H5_26 := H5.other W26 (Or.inl ne_fo_aw)
          have H6_26 := H6.other W26 (Or.inl ne_fo_aw)
          have H7_26 := H7.other W26 (Or.inl ne_fo_aw)
          have H8_26 := H8.other W26 (Or.inl ne_fo_aw)
          have H10_26 := H10.other W26 (Ne.symm ne_aw_ab)
          have H11_26 := H11.other W26 (Ne.symm ne_aw_ar)
          have H12_26 := H12.other W26 (Ne.symm ne_aw_ak)
          have H13_26 := H13.other W26 (Ne.symm ne_aw_aa)
          have Z26 : n0 ≤ h26.size := Nat.le_trans Z1 (Keep.of_wr W26).1
          have K26 : Keep h0 h26 [fo, aw, ab, ar, ak] := K1.wr W26 (Or.inl (List.mem_of_getElem? (i := 1) rfl))
          have N26 := Fr.snoc X26 N1 g_aw
          refine own_go st26 ?_
          show OwnFin p e below s _ _ _ (T26.setTop (mkF m 49 #[rv fo, rv aa, iv (Int32.ofNat i), l3] []))
          refine own_go (fun t_ k_ => XS.aloadN X26.here hx rfl (hb hby d3_49) rfl rfl k_) ?_
          show OwnFin p e below s _ _ _ (T26.setTop (mkF m 50 #[rv fo, rv aa, iv (Int32.ofNat i), l3] [(.ref aa)]))
          refine own_go (fun t_ k_ => XS.iloadN X26.here hx rfl (hb hby d3_50) rfl k_) ?_
          show OwnFin p e below s _ _ _ (T26.setTop (mkF m 51 #[rv fo, rv aa, iv (Int32.ofNat i), l3] [(.int (Int32.ofNat i)), (.ref aa)]))
          refine own_go (own_laload X26 hx hZ e26 H13_26 (i := i) rfl (by omega) (g := (mkF m 51 #[rv fo, rv aa, iv (Int32.ofNat i), l3] [(.int (Int32.ofNat i)), (.ref aa)])) rfl rfl (hb hby d3_51)) ?_
          show OwnFin p e below s _ _ _ (T26.setTop (mkF m 52 #[rv fo, rv aa, iv (Int32.ofNat i), l3] [(.long (A i))]))
          obtain ⟨v27, T27, L27, X27, hQ27, st27⟩ := own_callS X26 hx hZ (y := (⟨"java/lang/Long", "bitCount", "(J)I"⟩ : MethodName)) hown (hw _ (List.mem_of_getElem? (i := 34) rfl)) (hw _ (List.mem_of_getElem? (i := 35) rfl)) (hw _ (List.mem_of_getElem? (i := 36) rfl)) (hw _ (List.mem_of_getElem? (i := 37) rfl)) (by decide) (W := 0) (rm4 l Z a0 hw [] (A i) h26 n0 Z26) (by decide) (by decide) (g := (mkF m 52 #[rv fo, rv aa, iv (Int32.ofNat i), l3] [(.long (A i))])) rfl (by rw [hml]; rfl) (argsL := [(.long (A i))]) (rest := []) (lenOf pd_3_3 rfl) rfl (by show 2 * 0 + _ ≤ _; exact Nat.le_of_eq rfl) (hb hby d3_52) e26 rfl (by decide) (by decide)
          obtain ⟨rfl, Nq27, e27⟩ := hQ27
          have N27 := Fr.app N26 Nq27
          refine own_go st27 ?_
          show OwnFin p e below s _ _ _ (T27.setTop (mkF m 55 #[rv fo, rv aa, iv (Int32.ofNat i), l3] [(.int (own_bc (A i)))]))
          refine own_go (fun t_ k_ => XS.istoreN X27.here hx rfl (hb hby d3_55) rfl (l' := #[rv fo, rv aa, iv (Int32.ofNat i), iv (own_bc (A i))]) (by rcases hl3 with rfl | ⟨w, rfl, hw9⟩ <;> first | rfl | (cases w <;> first | rfl | (simp [Value.category] at hw9; done))) k_) ?_
          show OwnFin p e below s _ _ _ (T27.setTop (mkF m 56 #[rv fo, rv aa, iv (Int32.ofNat i), iv (own_bc (A i))] []))
          refine own_go (fun t_ k_ => XS.aloadN X27.here hx rfl (hb hby d3_56) rfl rfl k_) ?_
          show OwnFin p e below s _ _ _ (T27.setTop (mkF m 57 #[rv fo, rv aa, iv (Int32.ofNat i), iv (own_bc (A i))] [(.ref fo)]))
          obtain ⟨T28, X28, e28, st28⟩ := getF X27 hx hZ hown (host := "") (Or.inl (hw _ (List.mem_of_getElem? (i := 15) rfl))) Via.refl e27 H2_26 (g := (mkF m 57 #[rv fo, rv aa, iv (Int32.ofNat i), iv (own_bc (A i))] [(.ref fo)])) rfl rfl (hb hby d3_57)
          refine own_go st28 ?_
          show OwnFin p e below s _ _ _ (T28.setTop (mkF m 60 #[rv fo, rv aa, iv (Int32.ofNat i), iv (own_bc (A i))] [(.ref ab)]))
          refine own_go (fun t_ k_ => XS.iloadN X28.here hx rfl (hb hby d3_60) rfl k_) ?_
          show OwnFin p e below s _ _ _ (T28.setTop (mkF m 61 #[rv fo, rv aa, iv (Int32.ofNat i), iv (own_bc (A i))] [(.int (Int32.ofNat i)), (.ref ab)]))
          refine own_go (fun t_ k_ => XS.bipush X28.here hx rfl (hb hby d3_61) k_) ?_
          show OwnFin p e below s _ _ _ (T28.setTop (mkF m 63 #[rv fo, rv aa, iv (Int32.ofNat i), iv (own_bc (A i))] [(.int (8 : Int32)), (.int (Int32.ofNat i)), (.ref ab)]))
          refine own_go (fun t_ k_ => XS.idiv X28.here hx rfl (hb hby d3_63) rfl (by decide) k_) ?_
          show OwnFin p e below s _ _ _ (T28.setTop (mkF m 64 #[rv fo, rv aa, iv (Int32.ofNat i), iv (own_bc (A i))] [(.int ((Int32.ofNat i) / (8 : Int32))), (.ref ab)]))
          rw [show ((Int32.ofNat i) / (8 : Int32)) = (Int32.ofNat (i / 8)) from own_divN (b := 8) (by omega) (by decide)]
          show OwnFin p e below s _ _ _ (T28.setTop (mkF m 64 #[rv fo, rv aa, iv (Int32.ofNat i), iv (own_bc (A i))] [(.int (Int32.ofNat (i / 8))), (.ref ab)]))
          refine own_go (fun t_ k_ => Jvm.Free.XT.dup2 X28.here hx rfl (hb hby d3_64) rfl rfl rfl k_) ?_
          show OwnFin p e below s _ _ _ (T28.setTop (mkF m 65 #[rv fo, rv aa, iv (Int32.ofNat i), iv (own_bc (A i))] [(.int (Int32.ofNat (i / 8))), (.ref ab), (.int (Int32.ofNat (i / 8))), (.ref ab)]))
          refine own_go (own_iaload X28 hx hZ e28 H10_26 (i := (i / 8)) rfl (by omega) (g := (mkF m 65 #[rv fo, rv aa, iv (Int32.ofNat i), iv (own_bc (A i))] [(.int (Int32.ofNat (i / 8))), (.ref ab), (.int (Int32.ofNat (i / 8))), (.ref ab)])) rfl rfl (hb hby d3_65)) ?_
          show OwnFin p e below s _ _ _ (T28.setTop (mkF m 66 #[rv fo, rv aa, iv (Int32.ofNat i), iv (own_bc (A i))] [(.int (iBw (i / 8))), (.int (Int32.ofNat (i / 8))), (.ref ab)]))
          refine own_go (fun t_ k_ => XS.iloadN X28.here hx rfl (hb hby d3_66) rfl k_) ?_
          show OwnFin p e below s _ _ _ (T28.setTop (mkF m 67 #[rv fo, rv aa, iv (Int32.ofNat i), iv (own_bc (A i))] [(.int (own_bc (A i))), (.int (iBw (i / 8))), (.int (Int32.ofNat (i / 8))), (.ref ab)]))
          refine own_go (fun t_ k_ => XS.iadd X28.here hx rfl (hb hby d3_67) rfl k_) ?_
          show OwnFin p e below s _ _ _ (T28.setTop (mkF m 68 #[rv fo, rv aa, iv (Int32.ofNat i), iv (own_bc (A i))] [(.int ((iBw (i / 8)) + (own_bc (A i)))), (.int (Int32.ofNat (i / 8))), (.ref ab)]))
          obtain ⟨T29, h29, X29, e29, W29, A29, st29⟩ := own_iastore X28 hx hZ e28 H10_26 (i := (i / 8)) rfl (by omega) (g := (mkF m 68 #[rv fo, rv aa, iv (Int32.ofNat i), iv (own_bc (A i))] [(.int ((iBw (i / 8)) + (own_bc (A i)))), (.int (Int32.ofNat (i / 8))), (.ref ab)])) rfl rfl (hb hby d3_68)
          have H0_29 := H0_26.wr W29
          have H1_29 := H1_26.other W29 (Or.inl ne_fo_ab)
          have H2_29 := H2_26.other W29 (Or.inl ne_fo_ab)
          have H3_29 := H3_26.other W29 (Or.inl ne_fo_ab)
          have H4_29 := H4_26.other W29 (Or.inl ne_fo_ab)
          have H5_29 := H5_26.other W29 (Or.inl ne_fo_ab)
          have H6_29 := H6_26.other W29 (Or.inl ne_fo_ab)
          have H7_29 := H7_26.other W29 (Or.inl ne_fo_ab)
          have H8_29 := H8_26.other W29 (Or.inl ne_fo_ab)
          have H9_29 := A26.other W29 ne_aw_ab
          have H11_29 := H11_26.other W29 (Ne.symm ne_ab_ar)
          have H12_29 := H12_26.other W29 (Ne.symm ne_ab_ak)
          have H13_29 := H13_26.other W29 (Ne.symm ne_ab_aa)
          have Z29 : n0 ≤ h29.size := Nat.le_trans Z26 (Keep.of_wr W29).1
          have K29 : Keep h0 h29 [fo, aw, ab, ar, ak] := K26.wr W29 (Or.inl (List.mem_of_getElem? (i := 2) rfl))
          have N29 := Fr.snoc X29 N27 g_ab
          refine own_go st29 ?_
          show OwnFin p e below s _ _ _ (T29.setTop (mkF m 69 #[rv fo, rv aa, iv (Int32.ofNat i), iv (own_bc (A i))] []))
          refine own_go (fun t_ k_ => XS.aloadN X29.here hx rfl (hb hby d3_69) rfl rfl k_) ?_
          show OwnFin p e below s _ _ _ (T29.setTop (mkF m 70 #[rv fo, rv aa, iv (Int32.ofNat i), iv (own_bc (A i))] [(.ref fo)]))
          refine own_go (fun t_ k_ => XS.dup X29.here hx rfl (hb hby d3_70) rfl rfl k_) ?_
          show OwnFin p e below s _ _ _ (T29.setTop (mkF m 71 #[rv fo, rv aa, iv (Int32.ofNat i), iv (own_bc (A i))] [(.ref fo), (.ref fo)]))
          obtain ⟨T30, X30, e30, st30⟩ := getF X29 hx hZ hown (host := "") (Or.inl (hw _ (List.mem_of_getElem? (i := 32) rfl))) Via.refl e29 H8_29 (g := (mkF m 71 #[rv fo, rv aa, iv (Int32.ofNat i), iv (own_bc (A i))] [(.ref fo), (.ref fo)])) rfl rfl (hb hby d3_71)
          refine own_go st30 ?_
          show OwnFin p e below s _ _ _ (T30.setTop (mkF m 74 #[rv fo, rv aa, iv (Int32.ofNat i), iv (own_bc (A i))] [(.int szw), (.ref fo)]))
          refine own_go (fun t_ k_ => XS.iloadN X30.here hx rfl (hb hby d3_74) rfl k_) ?_
          show OwnFin p e below s _ _ _ (T30.setTop (mkF m 75 #[rv fo, rv aa, iv (Int32.ofNat i), iv (own_bc (A i))] [(.int (own_bc (A i))), (.int szw), (.ref fo)]))
          refine own_go (fun t_ k_ => XS.iadd X30.here hx rfl (hb hby d3_75) rfl k_) ?_
          show OwnFin p e below s _ _ _ (T30.setTop (mkF m 76 #[rv fo, rv aa, iv (Int32.ofNat i), iv (own_bc (A i))] [(.int (szw + (own_bc (A i)))), (.ref fo)]))
          obtain ⟨T31, h31, X31, e31, W31, st31⟩ := putF X30 hx hZ hown (host := "") (Or.inl (hw _ (List.mem_of_getElem? (i := 32) rfl))) Via.refl e30 H8_29 H0_29 (Or.inl (hw _ (List.mem_of_getElem? (i := 33) rfl))) (hw _ (List.mem_of_getElem? (i := 4) rfl)) (ty := .int) (by decide) rfl rfl (g := (mkF m 76 #[rv fo, rv aa, iv (Int32.ofNat i), iv (own_bc (A i))] [(.int (szw + (own_bc (A i)))), (.ref fo)])) rfl rfl (hb hby d3_76)
          have H0_31 := H0_29.wr W31
          have H1_31 := H1_29.other W31 (Or.inr (slot_ne (Or.inr (hw _ (List.mem_of_getElem? (i := 13) rfl))) (Or.inl (hw _ (List.mem_of_getElem? (i := 33) rfl))) (by decide) (t := (.array .long)) (t' := .int) (by decide) (by decide)))
          have H2_31 := H2_29.other W31 (Or.inr (slot_ne (Or.inr (hw _ (List.mem_of_getElem? (i := 16) rfl))) (Or.inl (hw _ (List.mem_of_getElem? (i := 33) rfl))) (by decide) (t := (.array .int)) (t' := .int) (by decide) (by decide)))
          have H3_31 := H3_29.other W31 (Or.inr (slot_ne (Or.inr (hw _ (List.mem_of_getElem? (i := 20) rfl))) (Or.inl (hw _ (List.mem_of_getElem? (i := 33) rfl))) (by decide) (t := (.array .int)) (t' := .int) (by decide) (by decide)))
          have H4_31 := H4_29.other W31 (Or.inr (slot_ne (Or.inr (hw _ (List.mem_of_getElem? (i := 22) rfl))) (Or.inl (hw _ (List.mem_of_getElem? (i := 33) rfl))) (by decide) (t := (.array .long)) (t' := .int) (by decide) (by decide)))
          have H5_31 := H5_29.other W31 (Or.inr (slot_ne (Or.inr (hw _ (List.mem_of_getElem? (i := 24) rfl))) (Or.inl (hw _ (List.mem_of_getElem? (i := 33) rfl))) (by decide) (t := (.array .int)) (t' := .int) (by decide) (by decide)))
          have H6_31 := H6_29.other W31 (Or.inr (slot_ne (Or.inr (hw _ (List.mem_of_getElem? (i := 18) rfl))) (Or.inl (hw _ (List.mem_of_getElem? (i := 33) rfl))) (by decide) (t := .boolean) (t' := .int) (by decide) (by decide)))
          have H7_31 := H7_29.other W31 (Or.inr (slot_ne (Or.inr (hw _ (List.mem_of_getElem? (i := 26) rfl))) (Or.inl (hw _ (List.mem_of_getElem? (i := 33) rfl))) (by decide) (t := .int) (t' := .int) (by decide) (by decide)))
          have H8_31 := H8_29.same W31
          have H9_31 := H9_29.other W31 (Ne.symm ne_fo_aw)
          have H10_31 := A29.other W31 (Ne.symm ne_fo_ab)
          have H11_31 := H11_29.other W31 (Ne.symm ne_fo_ar)
          have H12_31 := H12_29.other W31 (Ne.symm ne_fo_ak)
          have H13_31 := H13_29.other W31 (Ne.symm ne_fo_aa)
          have Z31 : n0 ≤ h31.size := Nat.le_trans Z29 (Keep.of_wr W31).1
          have K31 : Keep h0 h31 [fo, aw, ab, ar, ak] := K29.wr W31 (Or.inl (List.mem_of_getElem? (i := 0) rfl))
          have N31 := Fr.snoc X31 N29 g_fo
          refine own_go st31 ?_
          show OwnFin p e below s _ _ _ (T31.setTop (mkF m 79 #[rv fo, rv aa, iv (Int32.ofNat i), iv (own_bc (A i))] []))
          refine own_go (fun t_ k_ => XS.iinc X31.here hx rfl (hb hby d3_79) rfl (l' := #[rv fo, rv aa, iv ((Int32.ofNat i) + (1 : Int32)), iv (own_bc (A i))]) rfl k_) ?_
          show OwnFin p e below s _ _ _ (T31.setTop (mkF m 82 #[rv fo, rv aa, iv ((Int32.ofNat i) + (1 : Int32)), iv (own_bc (A i))] []))
          refine own_go (fun t_ k_ => XS.goto X31.here hx rfl (pc0 := 82) (pc' := 31) rfl (hb hby d3_82) (by decide) (by decide) k_) ?_
          show OwnFin p e below s _ _ _ (T31.setTop (mkF m 31 #[rv fo, rv aa, iv ((Int32.ofNat i) + (1 : Int32)), iv (own_bc (A i))] []))
          have R32 : OwnArr Z h31 aw .long nw (fun j => .long ((fun k => if k = i then A i else Wv k) j)) := H9_31.congr (fun z hz => by (try dsimp only); split <;> rfl)
          have R33 : OwnArr Z h31 ab .int nb (fun j => .int ((fun k => if k = (i / 8) then (iBw (i / 8) + own_bc (A i)) else iBw k) j)) := H10_31.congr (fun z hz => by (try dsimp only); split <;> rfl)
          have einc : Int32.ofNat i + (1 : Int32) = Int32.ofNat (i + 1) := (inc_ofNat i).symm
          rw [einc]
          exact ih (i + 1) _ _ _ _ T31 _ _ X31 e31 N31 K31 H0_31 H1_31 H2_31 H3_31 H4_31 H5_31 H6_31 H7_31 H8_31 R32 R33 H11_31 H12_31 H13_31 (by omega) (fun k hk => by rcases Nat.lt_succ_iff_lt_or_eq.mp hk with q | q; exact (if_neg (Nat.ne_of_lt q)).trans (hW k q); exact (if_pos q).trans (by rw [q])) (One.val rfl)
      exact lp2 nw 0 _ _ _ _ T2 _ _ X2 e2 N1 K1 H0 H1 H2 H3 H4 H5 H6 H7 H8 H9 H10 H11 H12 H13 (by omega) (fun k hk => absurd hk (Nat.not_lt_zero k)) One.u
    | succ d ih =>
      intro i iBv T1 locs1 h1 X1 e1 N1 K1 H0 H1 H2 H3 H4 H5 H6 H7 H8 H9 H10 H11 H12 H13 hid
      have Z1 : n0 ≤ h1.size := Nat.le_trans Z0 K1.1
      refine own_go (fun t_ k_ => XS.iloadN X1.here hx rfl (hb hby d3_7) rfl k_) ?_
      show OwnFin p e below s _ _ _ (T1.setTop (mkF m 8 #[rv fo, rv aa, iv (Int32.ofNat i), .unset] [(.int (Int32.ofNat i))]))
      refine own_go (fun t_ k_ => XS.aloadN X1.here hx rfl (hb hby d3_8) rfl rfl k_) ?_
      show OwnFin p e below s _ _ _ (T1.setTop (mkF m 9 #[rv fo, rv aa, iv (Int32.ofNat i), .unset] [(.ref fo), (.int (Int32.ofNat i))]))
      obtain ⟨T34, X34, e34, st34⟩ := getF X1 hx hZ hown (host := "") (Or.inl (hw _ (List.mem_of_getElem? (i := 15) rfl))) Via.refl e1 H2 (g := (mkF m 9 #[rv fo, rv aa, iv (Int32.ofNat i), .unset] [(.ref fo), (.int (Int32.ofNat i))])) rfl rfl (hb hby d3_9)
      refine own_go st34 ?_
      show OwnFin p e below s _ _ _ (T34.setTop (mkF m 12 #[rv fo, rv aa, iv (Int32.ofNat i), .unset] [(.ref ab), (.int (Int32.ofNat i))]))
      refine own_go (own_alength X34 hx hZ e34 H10 (g := (mkF m 12 #[rv fo, rv aa, iv (Int32.ofNat i), .unset] [(.ref ab), (.int (Int32.ofNat i))])) rfl rfl (hb hby d3_12)) ?_
      show OwnFin p e below s _ _ _ (T34.setTop (mkF m 13 #[rv fo, rv aa, iv (Int32.ofNat i), .unset] [(.int (Int32.ofNat nb)), (.int (Int32.ofNat i))]))
      have hc13 : (Int32.ofNat i) < (Int32.ofNat nb) := by rw [own_ltN (by omega) (by omega)]; omega
      refine own_go (fun t_ k_ => XS.icmpNo X34.here hx rfl (hb hby d3_13) rfl (tlt hc13).2.1 k_) ?_
      show OwnFin p e below s _ _ _ (T34.setTop (mkF m 16 #[rv fo, rv aa, iv (Int32.ofNat i), .unset] []))
      refine own_go (fun t_ k_ => XS.aloadN X34.here hx rfl (hb hby d3_16) rfl rfl k_) ?_
      show OwnFin p e below s _ _ _ (T34.setTop (mkF m 17 #[rv fo, rv aa, iv (Int32.ofNat i), .unset] [(.ref fo)]))
      obtain ⟨T35, X35, e35, st35⟩ := getF X34 hx hZ hown (host := "") (Or.inl (hw _ (List.mem_of_getElem? (i := 15) rfl))) Via.refl e34 H2 (g := (mkF m 17 #[rv fo, rv aa, iv (Int32.ofNat i), .unset] [(.ref fo)])) rfl rfl (hb hby d3_17)
      refine own_go st35 ?_
      show OwnFin p e below s _ _ _ (T35.setTop (mkF m 20 #[rv fo, rv aa, iv (Int32.ofNat i), .unset] [(.ref ab)]))
      refine own_go (fun t_ k_ => XS.iloadN X35.here hx rfl (hb hby d3_20) rfl k_) ?_
      show OwnFin p e below s _ _ _ (T35.setTop (mkF m 21 #[rv fo, rv aa, iv (Int32.ofNat i), .unset] [(.int (Int32.ofNat i)), (.ref ab)]))
      refine own_go (fun t_ k_ => XS.iconst X35.here hx rfl (hb hby d3_21) k_) ?_
      show OwnFin p e below s _ _ _ (T35.setTop (mkF m 22 #[rv fo, rv aa, iv (Int32.ofNat i), .unset] [(.int (0 : Int32)), (.int (Int32.ofNat i)), (.ref ab)]))
      obtain ⟨T36, h36, X36, e36, W36, A36, st36⟩ := own_iastore X35 hx hZ e35 H10 (i := i) rfl (by omega) (g := (mkF m 22 #[rv fo, rv aa, iv (Int32.ofNat i), .unset] [(.int (0 : Int32)), (.int (Int32.ofNat i)), (.ref ab)])) rfl rfl (hb hby d3_22)
      have H0_36 := H0.wr W36
      have H1_36 := H1.other W36 (Or.inl ne_fo_ab)
      have H2_36 := H2.other W36 (Or.inl ne_fo_ab)
      have H3_36 := H3.other W36 (Or.inl ne_fo_ab)
      have H4_36 := H4.other W36 (Or.inl ne_fo_ab)
      have H5_36 := H5.other W36 (Or.inl ne_fo_ab)
      have H6_36 := H6.other W36 (Or.inl ne_fo_ab)
      have H7_36 := H7.other W36 (Or.inl ne_fo_ab)
      have H8_36 := H8.other W36 (Or.inl ne_fo_ab)
      have H9_36 := H9.other W36 ne_aw_ab
      have H11_36 := H11.other W36 (Ne.symm ne_ab_ar)
      have H12_36 := H12.other W36 (Ne.symm ne_ab_ak)
      have H13_36 := H13.other W36 (Ne.symm ne_ab_aa)
      have Z36 : n0 ≤ h36.size := Nat.le_trans Z1 (Keep.of_wr W36).1
      have K36 : Keep h0 h36 [fo, aw, ab, ar, ak] := K1.wr W36 (Or.inl (List.mem_of_getElem? (i := 2) rfl))
      have N36 := Fr.snoc X36 N1 g_ab
      refine own_go st36 ?_
      show OwnFin p e below s _ _ _ (T36.setTop (mkF m 23 #[rv fo, rv aa, iv (Int32.ofNat i), .unset] []))
      refine own_go (fun t_ k_ => XS.iinc X36.here hx rfl (hb hby d3_23) rfl (l' := #[rv fo, rv aa, iv ((Int32.ofNat i) + (1 : Int32)), .unset]) rfl k_) ?_
      show OwnFin p e below s _ _ _ (T36.setTop (mkF m 26 #[rv fo, rv aa, iv ((Int32.ofNat i) + (1 : Int32)), .unset] []))
      refine own_go (fun t_ k_ => XS.goto X36.here hx rfl (pc0 := 26) (pc' := 7) rfl (hb hby d3_26) (by decide) (by decide) k_) ?_
      show OwnFin p e below s _ _ _ (T36.setTop (mkF m 7 #[rv fo, rv aa, iv ((Int32.ofNat i) + (1 : Int32)), .unset] []))
      have R37 : OwnArr Z h36 ab .int nb (fun j => .int ((fun k => if k = i then (0 : Int32) else iBv k) j)) := A36.congr (fun z hz => by (try dsimp only); split <;> rfl)
      have einc : Int32.ofNat i + (1 : Int32) = Int32.ofNat (i + 1) := (inc_ofNat i).symm
      rw [einc]
      exact ih (i + 1) _ T36 _ _ X36 e36 N36 K36 H0_36 H1_36 H2_36 H3_36 H4_36 H5_36 H6_36 H7_36 H8_36 H9_36 R37 H11_36 H12_36 H13_36 (by omega)
  exact lp1 nb 0 _ T1 _ _ X1 e1 N1 K1 E_fo_1 F_words_1 F_inBlocks_1 F_inRacks_1 F_racks_1 F_rackOf_1 F_blocked_1 F_perRack_1 F_size_1 V_aw_1 V_ab_1 V_ar_1 V_ak_1 V_aa_1 (by omega)
theorem pn_0 : plainFor (⟨"com/example/nearside/nearside/slotted/delay/OfferSetRemovePinLaw", "law", "(IIJJJ)Z"⟩ : MethodName) = true := plainFor_of_name (by first | (simp [plainName, overriddenIn]; done) | decide +kernel)
theorem pd_0_0 : parseMethodDescriptor "(II)V" = some ⟨[.int, .int], none⟩ := by decide +kernel
theorem pd_0_2 : parseMethodDescriptor "([J)V" = some ⟨[(.array .long)], none⟩ := by decide +kernel
theorem pd_0_5 : parseMethodDescriptor "()I" = some ⟨[], some .int⟩ := by decide +kernel
theorem pd_0_4 : parseMethodDescriptor "(II)I" = some ⟨[.int, .int], some .int⟩ := by decide +kernel
theorem pd_0_7 : parseMethodDescriptor "(I)J" = some ⟨[.int], some .long⟩ := by decide +kernel
theorem pd_0_8 : parseMethodDescriptor "(I)V" = some ⟨[.int], none⟩ := by decide +kernel
theorem ef_0 (m : MethodId) (fl : Int32) (pk : Int32) (qa : Int64) (qb : Int64) (qc : Int64) : entryFrame m #[(.int fl), (.int pk), (.long qa), (.long qb), (.long qc)] maxLocals = mkF m 0 #[iv fl, iv pk, .val (.long qa), .second, .val (.long qb), .second, .val (.long qc), .second, .unset, .unset, .unset, .unset, .unset, .unset, .unset, .unset, .unset, .unset, .unset, .unset, .unset, .unset, .unset, .unset, .unset, .unset, .unset, .unset, .unset] [] := by first | (simp [entryFrame, mkF, argsToLocals, Value.category, maxLocals]; done) | rfl
set_option maxRecDepth 65536 in
set_option maxHeartbeats 40000000 in
theorem rm0 (l : Launch) (Z : State) (a0 : Array Value) (hw : ∀ d ∈ tables_1, d.before a0 Z = true) (ws : List Jvm.Cond) (fl : Int32) (pk : Int32) (qa : Int64) (qb : Int64) (qc : Int64) (h0 : Heap) (n0 : Nat) (Z0 : n0 ≤ h0.size) :
    OwnCtr l Z x ws code maxLocals ret room_1 #[(.int fl), (.int pk), (.long qa), (.long qb), (.long qc)] h0 (fun v h L => v = some (.int 1) ∧ Fr n0 L) := by
  refine own_body (g0 := fun m => mkF m 0 #[iv fl, iv pk, .val (.long qa), .second, .val (.long qb), .second, .val (.long qc), .second, .unset, .unset, .unset, .unset, .unset, .unset, .unset, .unset, .unset, .unset, .unset, .unset, .unset, .unset, .unset, .unset, .unset, .unset, .unset, .unset, .unset] []) pn_0 (fun m => ef_0 m fl pk qa qb qc) ?_
  intro p e s m below meth c s₁ X0 hx hby hml hown hnm hZ e0 hret hlk
  have hml : c.maxLocals = 29 := hml
  have hown : s.vm.findClass "com/example/nearside/nearside/slotted/delay/OfferSetRemovePinLaw" = some m.cls := hown
  have hnm : meth.name = "law" := hnm
  have hret : meth.sig.returnType = (some .boolean) := hret
  have N0 := Fr.nil n0
  show OwnFin p e below s _ _ _ (s₁.setTop (mkF m 0 #[iv fl, iv pk, .val (.long qa), .second, .val (.long qb), .second, .val (.long qc), .second, .unset, .unset, .unset, .unset, .unset, .unset, .unset, .unset, .unset, .unset, .unset, .unset, .unset, .unset, .unset, .unset, .unset, .unset, .unset, .unset, .unset] []))
  have mid : ∀ (lg : Int32) (nm : Nat) (nw : Nat) (nb : Nat) (half : Nat) (pr : Nat) (T1 : State) (locs1 : List Loc) (h1 : Heap), Stand p l e room_1 s m #[(.int fl), (.int pk), (.long qa), (.long qb), (.long qc)] below meth c T1 locs1 0 0 → T1.heap = h1 → Fr n0 locs1 → n0 ≤ h1.size → (own_dim nm nw nb half) → (own_P pr) → OwnFin p e below s (fun v h L => v = some (.int 1) ∧ Fr n0 L) room_1.cells room_1.slots (T1.setTop (mkF m 54 #[iv fl, iv pk, .val (.long qa), .second, .val (.long qb), .second, .val (.long qc), .second, iv lg, iv (Int32.ofNat nm), iv (Int32.ofNat pr), iv (Int32.ofNat half), .unset, .unset, .unset, .unset, .unset, .unset, .unset, .unset, .unset, .unset, .unset, .unset, .unset, .unset, .unset, .unset, .unset] [])) := by
    intro lg nm nw nb half pr T1 locs1 h1 X1 e1 N1 Z1 hD hP
    have d0 := own_d0 hD
    have d1 := own_d1 hP hD
    refine own_go (fun t_ k_ => XS.iloadN X1.here hx rfl (hb hby at_54) rfl k_) ?_
    show OwnFin p e below s _ _ _ (T1.setTop (mkF m 55 #[iv fl, iv pk, .val (.long qa), .second, .val (.long qb), .second, .val (.long qc), .second, iv lg, iv (Int32.ofNat nm), iv (Int32.ofNat pr), iv (Int32.ofNat half), .unset, .unset, .unset, .unset, .unset, .unset, .unset, .unset, .unset, .unset, .unset, .unset, .unset, .unset, .unset, .unset, .unset] [(.int pk)]))
    refine own_go (X1.ldcInt hx hown (mvT hZ (hw _ (List.mem_of_getElem? (i := 0) rfl))) (g := (mkF m 55 #[iv fl, iv pk, .val (.long qa), .second, .val (.long qb), .second, .val (.long qc), .second, iv lg, iv (Int32.ofNat nm), iv (Int32.ofNat pr), iv (Int32.ofNat half), .unset, .unset, .unset, .unset, .unset, .unset, .unset, .unset, .unset, .unset, .unset, .unset, .unset, .unset, .unset, .unset, .unset] [(.int pk)])) rfl (hb hby at_55)) ?_
    show OwnFin p e below s _ _ _ (T1.setTop (mkF m 57 #[iv fl, iv pk, .val (.long qa), .second, .val (.long qb), .second, .val (.long qc), .second, iv lg, iv (Int32.ofNat nm), iv (Int32.ofNat pr), iv (Int32.ofNat half), .unset, .unset, .unset, .unset, .unset, .unset, .unset, .unset, .unset, .unset, .unset, .unset, .unset, .unset, .unset, .unset, .unset] [(.int (2147483647 : Int32)), (.int pk)]))
    refine own_go (fun t_ k_ => XS.iand X1.here hx rfl (hb hby at_57) rfl k_) ?_
    show OwnFin p e below s _ _ _ (T1.setTop (mkF m 58 #[iv fl, iv pk, .val (.long qa), .second, .val (.long qb), .second, .val (.long qc), .second, iv lg, iv (Int32.ofNat nm), iv (Int32.ofNat pr), iv (Int32.ofNat half), .unset, .unset, .unset, .unset, .unset, .unset, .unset, .unset, .unset, .unset, .unset, .unset, .unset, .unset, .unset, .unset, .unset] [(.int (pk &&& (2147483647 : Int32)))]))
    refine own_go (fun t_ k_ => XS.iload X1.here hx rfl (hb hby at_58) rfl k_) ?_
    show OwnFin p e below s _ _ _ (T1.setTop (mkF m 60 #[iv fl, iv pk, .val (.long qa), .second, .val (.long qb), .second, .val (.long qc), .second, iv lg, iv (Int32.ofNat nm), iv (Int32.ofNat pr), iv (Int32.ofNat half), .unset, .unset, .unset, .unset, .unset, .unset, .unset, .unset, .unset, .unset, .unset, .unset, .unset, .unset, .unset, .unset, .unset] [(.int (Int32.ofNat nm)), (.int (pk &&& (2147483647 : Int32)))]))
    refine own_go (fun t_ k_ => Jvm.RoadKit.iremM X1 hx rfl (hb hby at_60) rfl (own_nz (by omega) (by omega)) k_) ?_
    show OwnFin p e below s _ _ _ (T1.setTop (mkF m 61 #[iv fl, iv pk, .val (.long qa), .second, .val (.long qb), .second, .val (.long qc), .second, iv lg, iv (Int32.ofNat nm), iv (Int32.ofNat pr), iv (Int32.ofNat half), .unset, .unset, .unset, .unset, .unset, .unset, .unset, .unset, .unset, .unset, .unset, .unset, .unset, .unset, .unset, .unset, .unset] [(.int ((pk &&& (2147483647 : Int32)) % (Int32.ofNat nm)))]))
    obtain ⟨m_, hm_, hmn⟩ : ∃ k : Nat, ((pk &&& (2147483647 : Int32)) % (Int32.ofNat nm)) = Int32.ofNat k ∧ k < nm := own_rem _ (by omega) (by omega)
    rw [hm_]
    show OwnFin p e below s _ _ _ (T1.setTop (mkF m 61 #[iv fl, iv pk, .val (.long qa), .second, .val (.long qb), .second, .val (.long qc), .second, iv lg, iv (Int32.ofNat nm), iv (Int32.ofNat pr), iv (Int32.ofNat half), .unset, .unset, .unset, .unset, .unset, .unset, .unset, .unset, .unset, .unset, .unset, .unset, .unset, .unset, .unset, .unset, .unset] [(.int (Int32.ofNat m_))]))
    have hmr := own_d2 hP hD hmn
    have hm640 : m_ < 640 := by omega
    refine own_go (fun t_ k_ => XS.istore X1.here hx rfl (hb hby at_61) rfl (l' := #[iv fl, iv pk, .val (.long qa), .second, .val (.long qb), .second, .val (.long qc), .second, iv lg, iv (Int32.ofNat nm), iv (Int32.ofNat pr), iv (Int32.ofNat half), iv (Int32.ofNat m_), .unset, .unset, .unset, .unset, .unset, .unset, .unset, .unset, .unset, .unset, .unset, .unset, .unset, .unset, .unset, .unset]) rfl k_) ?_
    show OwnFin p e below s _ _ _ (T1.setTop (mkF m 63 #[iv fl, iv pk, .val (.long qa), .second, .val (.long qb), .second, .val (.long qc), .second, iv lg, iv (Int32.ofNat nm), iv (Int32.ofNat pr), iv (Int32.ofNat half), iv (Int32.ofNat m_), .unset, .unset, .unset, .unset, .unset, .unset, .unset, .unset, .unset, .unset, .unset, .unset, .unset, .unset, .unset, .unset] []))
    refine own_go (fun t_ k_ => XS.iload X1.here hx rfl (hb hby at_63) rfl k_) ?_
    show OwnFin p e below s _ _ _ (T1.setTop (mkF m 65 #[iv fl, iv pk, .val (.long qa), .second, .val (.long qb), .second, .val (.long qc), .second, iv lg, iv (Int32.ofNat nm), iv (Int32.ofNat pr), iv (Int32.ofNat half), iv (Int32.ofNat m_), .unset, .unset, .unset, .unset, .unset, .unset, .unset, .unset, .unset, .unset, .unset, .unset, .unset, .unset, .unset, .unset] [(.int (Int32.ofNat m_))]))
    refine own_go (fun t_ k_ => XS.bipush X1.here hx rfl (hb hby at_65) k_) ?_
    show OwnFin p e below s _ _ _ (T1.setTop (mkF m 67 #[iv fl, iv pk, .val (.long qa), .second, .val (.long qb), .second, .val (.long qc), .second, iv lg, iv (Int32.ofNat nm), iv (Int32.ofNat pr), iv (Int32.ofNat half), iv (Int32.ofNat m_), .unset, .unset, .unset, .unset, .unset, .unset, .unset, .unset, .unset, .unset, .unset, .unset, .unset, .unset, .unset, .unset] [(.int (6 : Int32)), (.int (Int32.ofNat m_))]))
    refine own_go (fun t_ k_ => XS.iushr X1.here hx rfl (hb hby at_67) rfl k_) ?_
    show OwnFin p e below s _ _ _ (T1.setTop (mkF m 68 #[iv fl, iv pk, .val (.long qa), .second, .val (.long qb), .second, .val (.long qc), .second, iv lg, iv (Int32.ofNat nm), iv (Int32.ofNat pr), iv (Int32.ofNat half), iv (Int32.ofNat m_), .unset, .unset, .unset, .unset, .unset, .unset, .unset, .unset, .unset, .unset, .unset, .unset, .unset, .unset, .unset, .unset] [(.int (((Int32.ofNat m_).toUInt32 >>> ((6 : Int32) &&& 31).toUInt32).toInt32))]))
    rw [show (((Int32.ofNat m_).toUInt32 >>> ((6 : Int32) &&& 31).toUInt32).toInt32) = (Int32.ofNat (m_ / 64)) from own_shr6' rfl (by omega)]
    show OwnFin p e below s _ _ _ (T1.setTop (mkF m 68 #[iv fl, iv pk, .val (.long qa), .second, .val (.long qb), .second, .val (.long qc), .second, iv lg, iv (Int32.ofNat nm), iv (Int32.ofNat pr), iv (Int32.ofNat half), iv (Int32.ofNat m_), .unset, .unset, .unset, .unset, .unset, .unset, .unset, .unset, .unset, .unset, .unset, .unset, .unset, .unset, .unset, .unset] [(.int (Int32.ofNat (m_ / 64)))]))
    refine own_go (fun t_ k_ => XS.istore X1.here hx rfl (hb hby at_68) rfl (l' := #[iv fl, iv pk, .val (.long qa), .second, .val (.long qb), .second, .val (.long qc), .second, iv lg, iv (Int32.ofNat nm), iv (Int32.ofNat pr), iv (Int32.ofNat half), iv (Int32.ofNat m_), iv (Int32.ofNat (m_ / 64)), .unset, .unset, .unset, .unset, .unset, .unset, .unset, .unset, .unset, .unset, .unset, .unset, .unset, .unset, .unset]) rfl k_) ?_
    show OwnFin p e below s _ _ _ (T1.setTop (mkF m 70 #[iv fl, iv pk, .val (.long qa), .second, .val (.long qb), .second, .val (.long qc), .second, iv lg, iv (Int32.ofNat nm), iv (Int32.ofNat pr), iv (Int32.ofNat half), iv (Int32.ofNat m_), iv (Int32.ofNat (m_ / 64)), .unset, .unset, .unset, .unset, .unset, .unset, .unset, .unset, .unset, .unset, .unset, .unset, .unset, .unset, .unset] []))
    refine own_go (fun t_ k_ => XS.bipush X1.here hx rfl (hb hby at_70) k_) ?_
    show OwnFin p e below s _ _ _ (T1.setTop (mkF m 72 #[iv fl, iv pk, .val (.long qa), .second, .val (.long qb), .second, .val (.long qc), .second, iv lg, iv (Int32.ofNat nm), iv (Int32.ofNat pr), iv (Int32.ofNat half), iv (Int32.ofNat m_), iv (Int32.ofNat (m_ / 64)), .unset, .unset, .unset, .unset, .unset, .unset, .unset, .unset, .unset, .unset, .unset, .unset, .unset, .unset, .unset] [(.int (10 : Int32))]))
    obtain ⟨T11, h11, X11, e11, E11, A11, st11⟩ := own_newarr X1 hx hZ (hw _ (List.mem_of_getElem? (i := 1) rfl)) e1 (g := (mkF m 72 #[iv fl, iv pk, .val (.long qa), .second, .val (.long qb), .second, .val (.long qc), .second, iv lg, iv (Int32.ofNat nm), iv (Int32.ofNat pr), iv (Int32.ofNat half), iv (Int32.ofNat m_), iv (Int32.ofNat (m_ / 64)), .unset, .unset, .unset, .unset, .unset, .unset, .unset, .unset, .unset, .unset, .unset, .unset, .unset, .unset, .unset] [(.int (10 : Int32))])) rfl (hb hby at_72) rfl (n := 10) (cap := 10) (by decide) (by decide) (by decide) (by decide) (by decide)
    obtain ⟨b11, g11⟩ : ∃ z, z = h1.size := ⟨_, rfl⟩
    rw [← g11] at A11 st11
    have g_b11 : n0 ≤ b11 := Nat.le_trans Z1 (Nat.le_of_eq g11.symm)
    have Z11 : n0 ≤ h11.size := Nat.le_trans Z1 E11.1
    have V_b11 : OwnArr Z h11 b11 .long 10 (fun _ => (.long (0 : Int64))) := A11
    refine own_go st11 ?_
    show OwnFin p e below s _ _ _ (T11.setTop (mkF m 74 #[iv fl, iv pk, .val (.long qa), .second, .val (.long qb), .second, .val (.long qc), .second, iv lg, iv (Int32.ofNat nm), iv (Int32.ofNat pr), iv (Int32.ofNat half), iv (Int32.ofNat m_), iv (Int32.ofNat (m_ / 64)), .unset, .unset, .unset, .unset, .unset, .unset, .unset, .unset, .unset, .unset, .unset, .unset, .unset, .unset, .unset] [(.ref b11)]))
    refine own_go (fun t_ k_ => XS.dup X11.here hx rfl (hb hby at_74) rfl rfl k_) ?_
    show OwnFin p e below s _ _ _ (T11.setTop (mkF m 75 #[iv fl, iv pk, .val (.long qa), .second, .val (.long qb), .second, .val (.long qc), .second, iv lg, iv (Int32.ofNat nm), iv (Int32.ofNat pr), iv (Int32.ofNat half), iv (Int32.ofNat m_), iv (Int32.ofNat (m_ / 64)), .unset, .unset, .unset, .unset, .unset, .unset, .unset, .unset, .unset, .unset, .unset, .unset, .unset, .unset, .unset] [(.ref b11), (.ref b11)]))
    refine own_go (fun t_ k_ => XS.iconst X11.here hx rfl (hb hby at_75) k_) ?_
    show OwnFin p e below s _ _ _ (T11.setTop (mkF m 76 #[iv fl, iv pk, .val (.long qa), .second, .val (.long qb), .second, .val (.long qc), .second, iv lg, iv (Int32.ofNat nm), iv (Int32.ofNat pr), iv (Int32.ofNat half), iv (Int32.ofNat m_), iv (Int32.ofNat (m_ / 64)), .unset, .unset, .unset, .unset, .unset, .unset, .unset, .unset, .unset, .unset, .unset, .unset, .unset, .unset, .unset] [(.int (0 : Int32)), (.ref b11), (.ref b11)]))
    refine own_go (fun t_ k_ => XS.lloadN X11.here hx rfl (hb hby at_76) rfl k_) ?_
    show OwnFin p e below s _ _ _ (T11.setTop (mkF m 77 #[iv fl, iv pk, .val (.long qa), .second, .val (.long qb), .second, .val (.long qc), .second, iv lg, iv (Int32.ofNat nm), iv (Int32.ofNat pr), iv (Int32.ofNat half), iv (Int32.ofNat m_), iv (Int32.ofNat (m_ / 64)), .unset, .unset, .unset, .unset, .unset, .unset, .unset, .unset, .unset, .unset, .unset, .unset, .unset, .unset, .unset] [(.long qa), (.int (0 : Int32)), (.ref b11), (.ref b11)]))
    obtain ⟨T12, h12, X12, e12, W12, A12, st12⟩ := own_lastore X11 hx hZ e11 V_b11 (i := 0) (by decide) (by decide) (g := (mkF m 77 #[iv fl, iv pk, .val (.long qa), .second, .val (.long qb), .second, .val (.long qc), .second, iv lg, iv (Int32.ofNat nm), iv (Int32.ofNat pr), iv (Int32.ofNat half), iv (Int32.ofNat m_), iv (Int32.ofNat (m_ / 64)), .unset, .unset, .unset, .unset, .unset, .unset, .unset, .unset, .unset, .unset, .unset, .unset, .unset, .unset, .unset] [(.long qa), (.int (0 : Int32)), (.ref b11), (.ref b11)])) rfl rfl (hb hby at_77)
    have Z12 : n0 ≤ h12.size := Nat.le_trans Z11 (Keep.of_wr W12).1
    have N12 := Fr.snoc X12 N1 g_b11
    refine own_go st12 ?_
    show OwnFin p e below s _ _ _ (T12.setTop (mkF m 78 #[iv fl, iv pk, .val (.long qa), .second, .val (.long qb), .second, .val (.long qc), .second, iv lg, iv (Int32.ofNat nm), iv (Int32.ofNat pr), iv (Int32.ofNat half), iv (Int32.ofNat m_), iv (Int32.ofNat (m_ / 64)), .unset, .unset, .unset, .unset, .unset, .unset, .unset, .unset, .unset, .unset, .unset, .unset, .unset, .unset, .unset] [(.ref b11)]))
    refine own_go (fun t_ k_ => XS.dup X12.here hx rfl (hb hby at_78) rfl rfl k_) ?_
    show OwnFin p e below s _ _ _ (T12.setTop (mkF m 79 #[iv fl, iv pk, .val (.long qa), .second, .val (.long qb), .second, .val (.long qc), .second, iv lg, iv (Int32.ofNat nm), iv (Int32.ofNat pr), iv (Int32.ofNat half), iv (Int32.ofNat m_), iv (Int32.ofNat (m_ / 64)), .unset, .unset, .unset, .unset, .unset, .unset, .unset, .unset, .unset, .unset, .unset, .unset, .unset, .unset, .unset] [(.ref b11), (.ref b11)]))
    refine own_go (fun t_ k_ => XS.iconst X12.here hx rfl (hb hby at_79) k_) ?_
    show OwnFin p e below s _ _ _ (T12.setTop (mkF m 80 #[iv fl, iv pk, .val (.long qa), .second, .val (.long qb), .second, .val (.long qc), .second, iv lg, iv (Int32.ofNat nm), iv (Int32.ofNat pr), iv (Int32.ofNat half), iv (Int32.ofNat m_), iv (Int32.ofNat (m_ / 64)), .unset, .unset, .unset, .unset, .unset, .unset, .unset, .unset, .unset, .unset, .unset, .unset, .unset, .unset, .unset] [(.int (1 : Int32)), (.ref b11), (.ref b11)]))
    refine own_go (fun t_ k_ => XS.lload X12.here hx rfl (hb hby at_80) rfl k_) ?_
    show OwnFin p e below s _ _ _ (T12.setTop (mkF m 82 #[iv fl, iv pk, .val (.long qa), .second, .val (.long qb), .second, .val (.long qc), .second, iv lg, iv (Int32.ofNat nm), iv (Int32.ofNat pr), iv (Int32.ofNat half), iv (Int32.ofNat m_), iv (Int32.ofNat (m_ / 64)), .unset, .unset, .unset, .unset, .unset, .unset, .unset, .unset, .unset, .unset, .unset, .unset, .unset, .unset, .unset] [(.long qb), (.int (1 : Int32)), (.ref b11), (.ref b11)]))
    obtain ⟨T13, h13, X13, e13, W13, A13, st13⟩ := own_lastore X12 hx hZ e12 A12 (i := 1) (by decide) (by decide) (g := (mkF m 82 #[iv fl, iv pk, .val (.long qa), .second, .val (.long qb), .second, .val (.long qc), .second, iv lg, iv (Int32.ofNat nm), iv (Int32.ofNat pr), iv (Int32.ofNat half), iv (Int32.ofNat m_), iv (Int32.ofNat (m_ / 64)), .unset, .unset, .unset, .unset, .unset, .unset, .unset, .unset, .unset, .unset, .unset, .unset, .unset, .unset, .unset] [(.long qb), (.int (1 : Int32)), (.ref b11), (.ref b11)])) rfl rfl (hb hby at_82)
    have Z13 : n0 ≤ h13.size := Nat.le_trans Z12 (Keep.of_wr W13).1
    have N13 := Fr.snoc X13 N12 g_b11
    refine own_go st13 ?_
    show OwnFin p e below s _ _ _ (T13.setTop (mkF m 83 #[iv fl, iv pk, .val (.long qa), .second, .val (.long qb), .second, .val (.long qc), .second, iv lg, iv (Int32.ofNat nm), iv (Int32.ofNat pr), iv (Int32.ofNat half), iv (Int32.ofNat m_), iv (Int32.ofNat (m_ / 64)), .unset, .unset, .unset, .unset, .unset, .unset, .unset, .unset, .unset, .unset, .unset, .unset, .unset, .unset, .unset] [(.ref b11)]))
    refine own_go (fun t_ k_ => XS.dup X13.here hx rfl (hb hby at_83) rfl rfl k_) ?_
    show OwnFin p e below s _ _ _ (T13.setTop (mkF m 84 #[iv fl, iv pk, .val (.long qa), .second, .val (.long qb), .second, .val (.long qc), .second, iv lg, iv (Int32.ofNat nm), iv (Int32.ofNat pr), iv (Int32.ofNat half), iv (Int32.ofNat m_), iv (Int32.ofNat (m_ / 64)), .unset, .unset, .unset, .unset, .unset, .unset, .unset, .unset, .unset, .unset, .unset, .unset, .unset, .unset, .unset] [(.ref b11), (.ref b11)]))
    refine own_go (fun t_ k_ => XS.iconst X13.here hx rfl (hb hby at_84) k_) ?_
    show OwnFin p e below s _ _ _ (T13.setTop (mkF m 85 #[iv fl, iv pk, .val (.long qa), .second, .val (.long qb), .second, .val (.long qc), .second, iv lg, iv (Int32.ofNat nm), iv (Int32.ofNat pr), iv (Int32.ofNat half), iv (Int32.ofNat m_), iv (Int32.ofNat (m_ / 64)), .unset, .unset, .unset, .unset, .unset, .unset, .unset, .unset, .unset, .unset, .unset, .unset, .unset, .unset, .unset] [(.int (2 : Int32)), (.ref b11), (.ref b11)]))
    refine own_go (fun t_ k_ => XS.lload X13.here hx rfl (hb hby at_85) rfl k_) ?_
    show OwnFin p e below s _ _ _ (T13.setTop (mkF m 87 #[iv fl, iv pk, .val (.long qa), .second, .val (.long qb), .second, .val (.long qc), .second, iv lg, iv (Int32.ofNat nm), iv (Int32.ofNat pr), iv (Int32.ofNat half), iv (Int32.ofNat m_), iv (Int32.ofNat (m_ / 64)), .unset, .unset, .unset, .unset, .unset, .unset, .unset, .unset, .unset, .unset, .unset, .unset, .unset, .unset, .unset] [(.long qc), (.int (2 : Int32)), (.ref b11), (.ref b11)]))
    obtain ⟨T14, h14, X14, e14, W14, A14, st14⟩ := own_lastore X13 hx hZ e13 A13 (i := 2) (by decide) (by decide) (g := (mkF m 87 #[iv fl, iv pk, .val (.long qa), .second, .val (.long qb), .second, .val (.long qc), .second, iv lg, iv (Int32.ofNat nm), iv (Int32.ofNat pr), iv (Int32.ofNat half), iv (Int32.ofNat m_), iv (Int32.ofNat (m_ / 64)), .unset, .unset, .unset, .unset, .unset, .unset, .unset, .unset, .unset, .unset, .unset, .unset, .unset, .unset, .unset] [(.long qc), (.int (2 : Int32)), (.ref b11), (.ref b11)])) rfl rfl (hb hby at_87)
    have Z14 : n0 ≤ h14.size := Nat.le_trans Z13 (Keep.of_wr W14).1
    have N14 := Fr.snoc X14 N13 g_b11
    refine own_go st14 ?_
    show OwnFin p e below s _ _ _ (T14.setTop (mkF m 88 #[iv fl, iv pk, .val (.long qa), .second, .val (.long qb), .second, .val (.long qc), .second, iv lg, iv (Int32.ofNat nm), iv (Int32.ofNat pr), iv (Int32.ofNat half), iv (Int32.ofNat m_), iv (Int32.ofNat (m_ / 64)), .unset, .unset, .unset, .unset, .unset, .unset, .unset, .unset, .unset, .unset, .unset, .unset, .unset, .unset, .unset] [(.ref b11)]))
    refine own_go (fun t_ k_ => XS.dup X14.here hx rfl (hb hby at_88) rfl rfl k_) ?_
    show OwnFin p e below s _ _ _ (T14.setTop (mkF m 89 #[iv fl, iv pk, .val (.long qa), .second, .val (.long qb), .second, .val (.long qc), .second, iv lg, iv (Int32.ofNat nm), iv (Int32.ofNat pr), iv (Int32.ofNat half), iv (Int32.ofNat m_), iv (Int32.ofNat (m_ / 64)), .unset, .unset, .unset, .unset, .unset, .unset, .unset, .unset, .unset, .unset, .unset, .unset, .unset, .unset, .unset] [(.ref b11), (.ref b11)]))
    refine own_go (fun t_ k_ => XS.iconst X14.here hx rfl (hb hby at_89) k_) ?_
    show OwnFin p e below s _ _ _ (T14.setTop (mkF m 90 #[iv fl, iv pk, .val (.long qa), .second, .val (.long qb), .second, .val (.long qc), .second, iv lg, iv (Int32.ofNat nm), iv (Int32.ofNat pr), iv (Int32.ofNat half), iv (Int32.ofNat m_), iv (Int32.ofNat (m_ / 64)), .unset, .unset, .unset, .unset, .unset, .unset, .unset, .unset, .unset, .unset, .unset, .unset, .unset, .unset, .unset] [(.int (3 : Int32)), (.ref b11), (.ref b11)]))
    refine own_go (fun t_ k_ => XS.lloadN X14.here hx rfl (hb hby at_90) rfl k_) ?_
    show OwnFin p e below s _ _ _ (T14.setTop (mkF m 91 #[iv fl, iv pk, .val (.long qa), .second, .val (.long qb), .second, .val (.long qc), .second, iv lg, iv (Int32.ofNat nm), iv (Int32.ofNat pr), iv (Int32.ofNat half), iv (Int32.ofNat m_), iv (Int32.ofNat (m_ / 64)), .unset, .unset, .unset, .unset, .unset, .unset, .unset, .unset, .unset, .unset, .unset, .unset, .unset, .unset, .unset] [(.long qa), (.int (3 : Int32)), (.ref b11), (.ref b11)]))
    refine own_go (fun t_ k_ => XS.lload X14.here hx rfl (hb hby at_91) rfl k_) ?_
    show OwnFin p e below s _ _ _ (T14.setTop (mkF m 93 #[iv fl, iv pk, .val (.long qa), .second, .val (.long qb), .second, .val (.long qc), .second, iv lg, iv (Int32.ofNat nm), iv (Int32.ofNat pr), iv (Int32.ofNat half), iv (Int32.ofNat m_), iv (Int32.ofNat (m_ / 64)), .unset, .unset, .unset, .unset, .unset, .unset, .unset, .unset, .unset, .unset, .unset, .unset, .unset, .unset, .unset] [(.long qb), (.long qa), (.int (3 : Int32)), (.ref b11), (.ref b11)]))
    refine own_go (fun t_ k_ => XS.lxor X14.here hx rfl (hb hby at_93) rfl k_) ?_
    show OwnFin p e below s _ _ _ (T14.setTop (mkF m 94 #[iv fl, iv pk, .val (.long qa), .second, .val (.long qb), .second, .val (.long qc), .second, iv lg, iv (Int32.ofNat nm), iv (Int32.ofNat pr), iv (Int32.ofNat half), iv (Int32.ofNat m_), iv (Int32.ofNat (m_ / 64)), .unset, .unset, .unset, .unset, .unset, .unset, .unset, .unset, .unset, .unset, .unset, .unset, .unset, .unset, .unset] [(.long (qa ^^^ qb)), (.int (3 : Int32)), (.ref b11), (.ref b11)]))
    obtain ⟨T15, h15, X15, e15, W15, A15, st15⟩ := own_lastore X14 hx hZ e14 A14 (i := 3) (by decide) (by decide) (g := (mkF m 94 #[iv fl, iv pk, .val (.long qa), .second, .val (.long qb), .second, .val (.long qc), .second, iv lg, iv (Int32.ofNat nm), iv (Int32.ofNat pr), iv (Int32.ofNat half), iv (Int32.ofNat m_), iv (Int32.ofNat (m_ / 64)), .unset, .unset, .unset, .unset, .unset, .unset, .unset, .unset, .unset, .unset, .unset, .unset, .unset, .unset, .unset] [(.long (qa ^^^ qb)), (.int (3 : Int32)), (.ref b11), (.ref b11)])) rfl rfl (hb hby at_94)
    have Z15 : n0 ≤ h15.size := Nat.le_trans Z14 (Keep.of_wr W15).1
    have N15 := Fr.snoc X15 N14 g_b11
    refine own_go st15 ?_
    show OwnFin p e below s _ _ _ (T15.setTop (mkF m 95 #[iv fl, iv pk, .val (.long qa), .second, .val (.long qb), .second, .val (.long qc), .second, iv lg, iv (Int32.ofNat nm), iv (Int32.ofNat pr), iv (Int32.ofNat half), iv (Int32.ofNat m_), iv (Int32.ofNat (m_ / 64)), .unset, .unset, .unset, .unset, .unset, .unset, .unset, .unset, .unset, .unset, .unset, .unset, .unset, .unset, .unset] [(.ref b11)]))
    refine own_go (fun t_ k_ => XS.dup X15.here hx rfl (hb hby at_95) rfl rfl k_) ?_
    show OwnFin p e below s _ _ _ (T15.setTop (mkF m 96 #[iv fl, iv pk, .val (.long qa), .second, .val (.long qb), .second, .val (.long qc), .second, iv lg, iv (Int32.ofNat nm), iv (Int32.ofNat pr), iv (Int32.ofNat half), iv (Int32.ofNat m_), iv (Int32.ofNat (m_ / 64)), .unset, .unset, .unset, .unset, .unset, .unset, .unset, .unset, .unset, .unset, .unset, .unset, .unset, .unset, .unset] [(.ref b11), (.ref b11)]))
    refine own_go (fun t_ k_ => XS.iconst X15.here hx rfl (hb hby at_96) k_) ?_
    show OwnFin p e below s _ _ _ (T15.setTop (mkF m 97 #[iv fl, iv pk, .val (.long qa), .second, .val (.long qb), .second, .val (.long qc), .second, iv lg, iv (Int32.ofNat nm), iv (Int32.ofNat pr), iv (Int32.ofNat half), iv (Int32.ofNat m_), iv (Int32.ofNat (m_ / 64)), .unset, .unset, .unset, .unset, .unset, .unset, .unset, .unset, .unset, .unset, .unset, .unset, .unset, .unset, .unset] [(.int (4 : Int32)), (.ref b11), (.ref b11)]))
    refine own_go (fun t_ k_ => XS.lload X15.here hx rfl (hb hby at_97) rfl k_) ?_
    show OwnFin p e below s _ _ _ (T15.setTop (mkF m 99 #[iv fl, iv pk, .val (.long qa), .second, .val (.long qb), .second, .val (.long qc), .second, iv lg, iv (Int32.ofNat nm), iv (Int32.ofNat pr), iv (Int32.ofNat half), iv (Int32.ofNat m_), iv (Int32.ofNat (m_ / 64)), .unset, .unset, .unset, .unset, .unset, .unset, .unset, .unset, .unset, .unset, .unset, .unset, .unset, .unset, .unset] [(.long qb), (.int (4 : Int32)), (.ref b11), (.ref b11)]))
    refine own_go (fun t_ k_ => XS.lload X15.here hx rfl (hb hby at_99) rfl k_) ?_
    show OwnFin p e below s _ _ _ (T15.setTop (mkF m 101 #[iv fl, iv pk, .val (.long qa), .second, .val (.long qb), .second, .val (.long qc), .second, iv lg, iv (Int32.ofNat nm), iv (Int32.ofNat pr), iv (Int32.ofNat half), iv (Int32.ofNat m_), iv (Int32.ofNat (m_ / 64)), .unset, .unset, .unset, .unset, .unset, .unset, .unset, .unset, .unset, .unset, .unset, .unset, .unset, .unset, .unset] [(.long qc), (.long qb), (.int (4 : Int32)), (.ref b11), (.ref b11)]))
    refine own_go (fun t_ k_ => XS.lxor X15.here hx rfl (hb hby at_101) rfl k_) ?_
    show OwnFin p e below s _ _ _ (T15.setTop (mkF m 102 #[iv fl, iv pk, .val (.long qa), .second, .val (.long qb), .second, .val (.long qc), .second, iv lg, iv (Int32.ofNat nm), iv (Int32.ofNat pr), iv (Int32.ofNat half), iv (Int32.ofNat m_), iv (Int32.ofNat (m_ / 64)), .unset, .unset, .unset, .unset, .unset, .unset, .unset, .unset, .unset, .unset, .unset, .unset, .unset, .unset, .unset] [(.long (qb ^^^ qc)), (.int (4 : Int32)), (.ref b11), (.ref b11)]))
    obtain ⟨T16, h16, X16, e16, W16, A16, st16⟩ := own_lastore X15 hx hZ e15 A15 (i := 4) (by decide) (by decide) (g := (mkF m 102 #[iv fl, iv pk, .val (.long qa), .second, .val (.long qb), .second, .val (.long qc), .second, iv lg, iv (Int32.ofNat nm), iv (Int32.ofNat pr), iv (Int32.ofNat half), iv (Int32.ofNat m_), iv (Int32.ofNat (m_ / 64)), .unset, .unset, .unset, .unset, .unset, .unset, .unset, .unset, .unset, .unset, .unset, .unset, .unset, .unset, .unset] [(.long (qb ^^^ qc)), (.int (4 : Int32)), (.ref b11), (.ref b11)])) rfl rfl (hb hby at_102)
    have Z16 : n0 ≤ h16.size := Nat.le_trans Z15 (Keep.of_wr W16).1
    have N16 := Fr.snoc X16 N15 g_b11
    refine own_go st16 ?_
    show OwnFin p e below s _ _ _ (T16.setTop (mkF m 103 #[iv fl, iv pk, .val (.long qa), .second, .val (.long qb), .second, .val (.long qc), .second, iv lg, iv (Int32.ofNat nm), iv (Int32.ofNat pr), iv (Int32.ofNat half), iv (Int32.ofNat m_), iv (Int32.ofNat (m_ / 64)), .unset, .unset, .unset, .unset, .unset, .unset, .unset, .unset, .unset, .unset, .unset, .unset, .unset, .unset, .unset] [(.ref b11)]))
    refine own_go (fun t_ k_ => XS.dup X16.here hx rfl (hb hby at_103) rfl rfl k_) ?_
    show OwnFin p e below s _ _ _ (T16.setTop (mkF m 104 #[iv fl, iv pk, .val (.long qa), .second, .val (.long qb), .second, .val (.long qc), .second, iv lg, iv (Int32.ofNat nm), iv (Int32.ofNat pr), iv (Int32.ofNat half), iv (Int32.ofNat m_), iv (Int32.ofNat (m_ / 64)), .unset, .unset, .unset, .unset, .unset, .unset, .unset, .unset, .unset, .unset, .unset, .unset, .unset, .unset, .unset] [(.ref b11), (.ref b11)]))
    refine own_go (fun t_ k_ => XS.iconst X16.here hx rfl (hb hby at_104) k_) ?_
    show OwnFin p e below s _ _ _ (T16.setTop (mkF m 105 #[iv fl, iv pk, .val (.long qa), .second, .val (.long qb), .second, .val (.long qc), .second, iv lg, iv (Int32.ofNat nm), iv (Int32.ofNat pr), iv (Int32.ofNat half), iv (Int32.ofNat m_), iv (Int32.ofNat (m_ / 64)), .unset, .unset, .unset, .unset, .unset, .unset, .unset, .unset, .unset, .unset, .unset, .unset, .unset, .unset, .unset] [(.int (5 : Int32)), (.ref b11), (.ref b11)]))
    refine own_go (fun t_ k_ => XS.lload X16.here hx rfl (hb hby at_105) rfl k_) ?_
    show OwnFin p e below s _ _ _ (T16.setTop (mkF m 107 #[iv fl, iv pk, .val (.long qa), .second, .val (.long qb), .second, .val (.long qc), .second, iv lg, iv (Int32.ofNat nm), iv (Int32.ofNat pr), iv (Int32.ofNat half), iv (Int32.ofNat m_), iv (Int32.ofNat (m_ / 64)), .unset, .unset, .unset, .unset, .unset, .unset, .unset, .unset, .unset, .unset, .unset, .unset, .unset, .unset, .unset] [(.long qc), (.int (5 : Int32)), (.ref b11), (.ref b11)]))
    refine own_go (fun t_ k_ => XS.lloadN X16.here hx rfl (hb hby at_107) rfl k_) ?_
    show OwnFin p e below s _ _ _ (T16.setTop (mkF m 108 #[iv fl, iv pk, .val (.long qa), .second, .val (.long qb), .second, .val (.long qc), .second, iv lg, iv (Int32.ofNat nm), iv (Int32.ofNat pr), iv (Int32.ofNat half), iv (Int32.ofNat m_), iv (Int32.ofNat (m_ / 64)), .unset, .unset, .unset, .unset, .unset, .unset, .unset, .unset, .unset, .unset, .unset, .unset, .unset, .unset, .unset] [(.long qa), (.long qc), (.int (5 : Int32)), (.ref b11), (.ref b11)]))
    refine own_go (fun t_ k_ => XS.lxor X16.here hx rfl (hb hby at_108) rfl k_) ?_
    show OwnFin p e below s _ _ _ (T16.setTop (mkF m 109 #[iv fl, iv pk, .val (.long qa), .second, .val (.long qb), .second, .val (.long qc), .second, iv lg, iv (Int32.ofNat nm), iv (Int32.ofNat pr), iv (Int32.ofNat half), iv (Int32.ofNat m_), iv (Int32.ofNat (m_ / 64)), .unset, .unset, .unset, .unset, .unset, .unset, .unset, .unset, .unset, .unset, .unset, .unset, .unset, .unset, .unset] [(.long (qc ^^^ qa)), (.int (5 : Int32)), (.ref b11), (.ref b11)]))
    obtain ⟨T17, h17, X17, e17, W17, A17, st17⟩ := own_lastore X16 hx hZ e16 A16 (i := 5) (by decide) (by decide) (g := (mkF m 109 #[iv fl, iv pk, .val (.long qa), .second, .val (.long qb), .second, .val (.long qc), .second, iv lg, iv (Int32.ofNat nm), iv (Int32.ofNat pr), iv (Int32.ofNat half), iv (Int32.ofNat m_), iv (Int32.ofNat (m_ / 64)), .unset, .unset, .unset, .unset, .unset, .unset, .unset, .unset, .unset, .unset, .unset, .unset, .unset, .unset, .unset] [(.long (qc ^^^ qa)), (.int (5 : Int32)), (.ref b11), (.ref b11)])) rfl rfl (hb hby at_109)
    have Z17 : n0 ≤ h17.size := Nat.le_trans Z16 (Keep.of_wr W17).1
    have N17 := Fr.snoc X17 N16 g_b11
    refine own_go st17 ?_
    show OwnFin p e below s _ _ _ (T17.setTop (mkF m 110 #[iv fl, iv pk, .val (.long qa), .second, .val (.long qb), .second, .val (.long qc), .second, iv lg, iv (Int32.ofNat nm), iv (Int32.ofNat pr), iv (Int32.ofNat half), iv (Int32.ofNat m_), iv (Int32.ofNat (m_ / 64)), .unset, .unset, .unset, .unset, .unset, .unset, .unset, .unset, .unset, .unset, .unset, .unset, .unset, .unset, .unset] [(.ref b11)]))
    refine own_go (fun t_ k_ => XS.dup X17.here hx rfl (hb hby at_110) rfl rfl k_) ?_
    show OwnFin p e below s _ _ _ (T17.setTop (mkF m 111 #[iv fl, iv pk, .val (.long qa), .second, .val (.long qb), .second, .val (.long qc), .second, iv lg, iv (Int32.ofNat nm), iv (Int32.ofNat pr), iv (Int32.ofNat half), iv (Int32.ofNat m_), iv (Int32.ofNat (m_ / 64)), .unset, .unset, .unset, .unset, .unset, .unset, .unset, .unset, .unset, .unset, .unset, .unset, .unset, .unset, .unset] [(.ref b11), (.ref b11)]))
    refine own_go (fun t_ k_ => XS.bipush X17.here hx rfl (hb hby at_111) k_) ?_
    show OwnFin p e below s _ _ _ (T17.setTop (mkF m 113 #[iv fl, iv pk, .val (.long qa), .second, .val (.long qb), .second, .val (.long qc), .second, iv lg, iv (Int32.ofNat nm), iv (Int32.ofNat pr), iv (Int32.ofNat half), iv (Int32.ofNat m_), iv (Int32.ofNat (m_ / 64)), .unset, .unset, .unset, .unset, .unset, .unset, .unset, .unset, .unset, .unset, .unset, .unset, .unset, .unset, .unset] [(.int (6 : Int32)), (.ref b11), (.ref b11)]))
    refine own_go (fun t_ k_ => XS.lloadN X17.here hx rfl (hb hby at_113) rfl k_) ?_
    show OwnFin p e below s _ _ _ (T17.setTop (mkF m 114 #[iv fl, iv pk, .val (.long qa), .second, .val (.long qb), .second, .val (.long qc), .second, iv lg, iv (Int32.ofNat nm), iv (Int32.ofNat pr), iv (Int32.ofNat half), iv (Int32.ofNat m_), iv (Int32.ofNat (m_ / 64)), .unset, .unset, .unset, .unset, .unset, .unset, .unset, .unset, .unset, .unset, .unset, .unset, .unset, .unset, .unset] [(.long qa), (.int (6 : Int32)), (.ref b11), (.ref b11)]))
    refine own_go (fun t_ k_ => XS.lload X17.here hx rfl (hb hby at_114) rfl k_) ?_
    show OwnFin p e below s _ _ _ (T17.setTop (mkF m 116 #[iv fl, iv pk, .val (.long qa), .second, .val (.long qb), .second, .val (.long qc), .second, iv lg, iv (Int32.ofNat nm), iv (Int32.ofNat pr), iv (Int32.ofNat half), iv (Int32.ofNat m_), iv (Int32.ofNat (m_ / 64)), .unset, .unset, .unset, .unset, .unset, .unset, .unset, .unset, .unset, .unset, .unset, .unset, .unset, .unset, .unset] [(.long qb), (.long qa), (.int (6 : Int32)), (.ref b11), (.ref b11)]))
    refine own_go (fun t_ k_ => XS.land X17.here hx rfl (hb hby at_116) rfl k_) ?_
    show OwnFin p e below s _ _ _ (T17.setTop (mkF m 117 #[iv fl, iv pk, .val (.long qa), .second, .val (.long qb), .second, .val (.long qc), .second, iv lg, iv (Int32.ofNat nm), iv (Int32.ofNat pr), iv (Int32.ofNat half), iv (Int32.ofNat m_), iv (Int32.ofNat (m_ / 64)), .unset, .unset, .unset, .unset, .unset, .unset, .unset, .unset, .unset, .unset, .unset, .unset, .unset, .unset, .unset] [(.long (qa &&& qb)), (.int (6 : Int32)), (.ref b11), (.ref b11)]))
    obtain ⟨T18, h18, X18, e18, W18, A18, st18⟩ := own_lastore X17 hx hZ e17 A17 (i := 6) (by decide) (by decide) (g := (mkF m 117 #[iv fl, iv pk, .val (.long qa), .second, .val (.long qb), .second, .val (.long qc), .second, iv lg, iv (Int32.ofNat nm), iv (Int32.ofNat pr), iv (Int32.ofNat half), iv (Int32.ofNat m_), iv (Int32.ofNat (m_ / 64)), .unset, .unset, .unset, .unset, .unset, .unset, .unset, .unset, .unset, .unset, .unset, .unset, .unset, .unset, .unset] [(.long (qa &&& qb)), (.int (6 : Int32)), (.ref b11), (.ref b11)])) rfl rfl (hb hby at_117)
    have Z18 : n0 ≤ h18.size := Nat.le_trans Z17 (Keep.of_wr W18).1
    have N18 := Fr.snoc X18 N17 g_b11
    refine own_go st18 ?_
    show OwnFin p e below s _ _ _ (T18.setTop (mkF m 118 #[iv fl, iv pk, .val (.long qa), .second, .val (.long qb), .second, .val (.long qc), .second, iv lg, iv (Int32.ofNat nm), iv (Int32.ofNat pr), iv (Int32.ofNat half), iv (Int32.ofNat m_), iv (Int32.ofNat (m_ / 64)), .unset, .unset, .unset, .unset, .unset, .unset, .unset, .unset, .unset, .unset, .unset, .unset, .unset, .unset, .unset] [(.ref b11)]))
    refine own_go (fun t_ k_ => XS.dup X18.here hx rfl (hb hby at_118) rfl rfl k_) ?_
    show OwnFin p e below s _ _ _ (T18.setTop (mkF m 119 #[iv fl, iv pk, .val (.long qa), .second, .val (.long qb), .second, .val (.long qc), .second, iv lg, iv (Int32.ofNat nm), iv (Int32.ofNat pr), iv (Int32.ofNat half), iv (Int32.ofNat m_), iv (Int32.ofNat (m_ / 64)), .unset, .unset, .unset, .unset, .unset, .unset, .unset, .unset, .unset, .unset, .unset, .unset, .unset, .unset, .unset] [(.ref b11), (.ref b11)]))
    refine own_go (fun t_ k_ => XS.bipush X18.here hx rfl (hb hby at_119) k_) ?_
    show OwnFin p e below s _ _ _ (T18.setTop (mkF m 121 #[iv fl, iv pk, .val (.long qa), .second, .val (.long qb), .second, .val (.long qc), .second, iv lg, iv (Int32.ofNat nm), iv (Int32.ofNat pr), iv (Int32.ofNat half), iv (Int32.ofNat m_), iv (Int32.ofNat (m_ / 64)), .unset, .unset, .unset, .unset, .unset, .unset, .unset, .unset, .unset, .unset, .unset, .unset, .unset, .unset, .unset] [(.int (7 : Int32)), (.ref b11), (.ref b11)]))
    refine own_go (fun t_ k_ => XS.lload X18.here hx rfl (hb hby at_121) rfl k_) ?_
    show OwnFin p e below s _ _ _ (T18.setTop (mkF m 123 #[iv fl, iv pk, .val (.long qa), .second, .val (.long qb), .second, .val (.long qc), .second, iv lg, iv (Int32.ofNat nm), iv (Int32.ofNat pr), iv (Int32.ofNat half), iv (Int32.ofNat m_), iv (Int32.ofNat (m_ / 64)), .unset, .unset, .unset, .unset, .unset, .unset, .unset, .unset, .unset, .unset, .unset, .unset, .unset, .unset, .unset] [(.long qb), (.int (7 : Int32)), (.ref b11), (.ref b11)]))
    refine own_go (fun t_ k_ => XS.lload X18.here hx rfl (hb hby at_123) rfl k_) ?_
    show OwnFin p e below s _ _ _ (T18.setTop (mkF m 125 #[iv fl, iv pk, .val (.long qa), .second, .val (.long qb), .second, .val (.long qc), .second, iv lg, iv (Int32.ofNat nm), iv (Int32.ofNat pr), iv (Int32.ofNat half), iv (Int32.ofNat m_), iv (Int32.ofNat (m_ / 64)), .unset, .unset, .unset, .unset, .unset, .unset, .unset, .unset, .unset, .unset, .unset, .unset, .unset, .unset, .unset] [(.long qc), (.long qb), (.int (7 : Int32)), (.ref b11), (.ref b11)]))
    refine own_go (fun t_ k_ => XS.lor X18.here hx rfl (hb hby at_125) rfl k_) ?_
    show OwnFin p e below s _ _ _ (T18.setTop (mkF m 126 #[iv fl, iv pk, .val (.long qa), .second, .val (.long qb), .second, .val (.long qc), .second, iv lg, iv (Int32.ofNat nm), iv (Int32.ofNat pr), iv (Int32.ofNat half), iv (Int32.ofNat m_), iv (Int32.ofNat (m_ / 64)), .unset, .unset, .unset, .unset, .unset, .unset, .unset, .unset, .unset, .unset, .unset, .unset, .unset, .unset, .unset] [(.long (qb ||| qc)), (.int (7 : Int32)), (.ref b11), (.ref b11)]))
    obtain ⟨T19, h19, X19, e19, W19, A19, st19⟩ := own_lastore X18 hx hZ e18 A18 (i := 7) (by decide) (by decide) (g := (mkF m 126 #[iv fl, iv pk, .val (.long qa), .second, .val (.long qb), .second, .val (.long qc), .second, iv lg, iv (Int32.ofNat nm), iv (Int32.ofNat pr), iv (Int32.ofNat half), iv (Int32.ofNat m_), iv (Int32.ofNat (m_ / 64)), .unset, .unset, .unset, .unset, .unset, .unset, .unset, .unset, .unset, .unset, .unset, .unset, .unset, .unset, .unset] [(.long (qb ||| qc)), (.int (7 : Int32)), (.ref b11), (.ref b11)])) rfl rfl (hb hby at_126)
    have Z19 : n0 ≤ h19.size := Nat.le_trans Z18 (Keep.of_wr W19).1
    have N19 := Fr.snoc X19 N18 g_b11
    refine own_go st19 ?_
    show OwnFin p e below s _ _ _ (T19.setTop (mkF m 127 #[iv fl, iv pk, .val (.long qa), .second, .val (.long qb), .second, .val (.long qc), .second, iv lg, iv (Int32.ofNat nm), iv (Int32.ofNat pr), iv (Int32.ofNat half), iv (Int32.ofNat m_), iv (Int32.ofNat (m_ / 64)), .unset, .unset, .unset, .unset, .unset, .unset, .unset, .unset, .unset, .unset, .unset, .unset, .unset, .unset, .unset] [(.ref b11)]))
    refine own_go (fun t_ k_ => XS.dup X19.here hx rfl (hb hby at_127) rfl rfl k_) ?_
    show OwnFin p e below s _ _ _ (T19.setTop (mkF m 128 #[iv fl, iv pk, .val (.long qa), .second, .val (.long qb), .second, .val (.long qc), .second, iv lg, iv (Int32.ofNat nm), iv (Int32.ofNat pr), iv (Int32.ofNat half), iv (Int32.ofNat m_), iv (Int32.ofNat (m_ / 64)), .unset, .unset, .unset, .unset, .unset, .unset, .unset, .unset, .unset, .unset, .unset, .unset, .unset, .unset, .unset] [(.ref b11), (.ref b11)]))
    refine own_go (fun t_ k_ => XS.bipush X19.here hx rfl (hb hby at_128) k_) ?_
    show OwnFin p e below s _ _ _ (T19.setTop (mkF m 130 #[iv fl, iv pk, .val (.long qa), .second, .val (.long qb), .second, .val (.long qc), .second, iv lg, iv (Int32.ofNat nm), iv (Int32.ofNat pr), iv (Int32.ofNat half), iv (Int32.ofNat m_), iv (Int32.ofNat (m_ / 64)), .unset, .unset, .unset, .unset, .unset, .unset, .unset, .unset, .unset, .unset, .unset, .unset, .unset, .unset, .unset] [(.int (8 : Int32)), (.ref b11), (.ref b11)]))
    refine own_go (fun t_ k_ => XS.lloadN X19.here hx rfl (hb hby at_130) rfl k_) ?_
    show OwnFin p e below s _ _ _ (T19.setTop (mkF m 131 #[iv fl, iv pk, .val (.long qa), .second, .val (.long qb), .second, .val (.long qc), .second, iv lg, iv (Int32.ofNat nm), iv (Int32.ofNat pr), iv (Int32.ofNat half), iv (Int32.ofNat m_), iv (Int32.ofNat (m_ / 64)), .unset, .unset, .unset, .unset, .unset, .unset, .unset, .unset, .unset, .unset, .unset, .unset, .unset, .unset, .unset] [(.long qa), (.int (8 : Int32)), (.ref b11), (.ref b11)]))
    refine own_go (X19.ldc2Long hx hown (mvT hZ (hw _ (List.mem_of_getElem? (i := 2) rfl))) (g := (mkF m 131 #[iv fl, iv pk, .val (.long qa), .second, .val (.long qb), .second, .val (.long qc), .second, iv lg, iv (Int32.ofNat nm), iv (Int32.ofNat pr), iv (Int32.ofNat half), iv (Int32.ofNat m_), iv (Int32.ofNat (m_ / 64)), .unset, .unset, .unset, .unset, .unset, .unset, .unset, .unset, .unset, .unset, .unset, .unset, .unset, .unset, .unset] [(.long qa), (.int (8 : Int32)), (.ref b11), (.ref b11)])) rfl (hb hby at_131)) ?_
    show OwnFin p e below s _ _ _ (T19.setTop (mkF m 134 #[iv fl, iv pk, .val (.long qa), .second, .val (.long qb), .second, .val (.long qc), .second, iv lg, iv (Int32.ofNat nm), iv (Int32.ofNat pr), iv (Int32.ofNat half), iv (Int32.ofNat m_), iv (Int32.ofNat (m_ / 64)), .unset, .unset, .unset, .unset, .unset, .unset, .unset, .unset, .unset, .unset, .unset, .unset, .unset, .unset, .unset] [(.long (-1 : Int64)), (.long qa), (.int (8 : Int32)), (.ref b11), (.ref b11)]))
    refine own_go (fun t_ k_ => XS.lxor X19.here hx rfl (hb hby at_134) rfl k_) ?_
    show OwnFin p e below s _ _ _ (T19.setTop (mkF m 135 #[iv fl, iv pk, .val (.long qa), .second, .val (.long qb), .second, .val (.long qc), .second, iv lg, iv (Int32.ofNat nm), iv (Int32.ofNat pr), iv (Int32.ofNat half), iv (Int32.ofNat m_), iv (Int32.ofNat (m_ / 64)), .unset, .unset, .unset, .unset, .unset, .unset, .unset, .unset, .unset, .unset, .unset, .unset, .unset, .unset, .unset] [(.long (qa ^^^ (-1 : Int64))), (.int (8 : Int32)), (.ref b11), (.ref b11)]))
    obtain ⟨T20, h20, X20, e20, W20, A20, st20⟩ := own_lastore X19 hx hZ e19 A19 (i := 8) (by decide) (by decide) (g := (mkF m 135 #[iv fl, iv pk, .val (.long qa), .second, .val (.long qb), .second, .val (.long qc), .second, iv lg, iv (Int32.ofNat nm), iv (Int32.ofNat pr), iv (Int32.ofNat half), iv (Int32.ofNat m_), iv (Int32.ofNat (m_ / 64)), .unset, .unset, .unset, .unset, .unset, .unset, .unset, .unset, .unset, .unset, .unset, .unset, .unset, .unset, .unset] [(.long (qa ^^^ (-1 : Int64))), (.int (8 : Int32)), (.ref b11), (.ref b11)])) rfl rfl (hb hby at_135)
    have Z20 : n0 ≤ h20.size := Nat.le_trans Z19 (Keep.of_wr W20).1
    have N20 := Fr.snoc X20 N19 g_b11
    refine own_go st20 ?_
    show OwnFin p e below s _ _ _ (T20.setTop (mkF m 136 #[iv fl, iv pk, .val (.long qa), .second, .val (.long qb), .second, .val (.long qc), .second, iv lg, iv (Int32.ofNat nm), iv (Int32.ofNat pr), iv (Int32.ofNat half), iv (Int32.ofNat m_), iv (Int32.ofNat (m_ / 64)), .unset, .unset, .unset, .unset, .unset, .unset, .unset, .unset, .unset, .unset, .unset, .unset, .unset, .unset, .unset] [(.ref b11)]))
    refine own_go (fun t_ k_ => XS.dup X20.here hx rfl (hb hby at_136) rfl rfl k_) ?_
    show OwnFin p e below s _ _ _ (T20.setTop (mkF m 137 #[iv fl, iv pk, .val (.long qa), .second, .val (.long qb), .second, .val (.long qc), .second, iv lg, iv (Int32.ofNat nm), iv (Int32.ofNat pr), iv (Int32.ofNat half), iv (Int32.ofNat m_), iv (Int32.ofNat (m_ / 64)), .unset, .unset, .unset, .unset, .unset, .unset, .unset, .unset, .unset, .unset, .unset, .unset, .unset, .unset, .unset] [(.ref b11), (.ref b11)]))
    refine own_go (fun t_ k_ => XS.bipush X20.here hx rfl (hb hby at_137) k_) ?_
    show OwnFin p e below s _ _ _ (T20.setTop (mkF m 139 #[iv fl, iv pk, .val (.long qa), .second, .val (.long qb), .second, .val (.long qc), .second, iv lg, iv (Int32.ofNat nm), iv (Int32.ofNat pr), iv (Int32.ofNat half), iv (Int32.ofNat m_), iv (Int32.ofNat (m_ / 64)), .unset, .unset, .unset, .unset, .unset, .unset, .unset, .unset, .unset, .unset, .unset, .unset, .unset, .unset, .unset] [(.int (9 : Int32)), (.ref b11), (.ref b11)]))
    refine own_go (fun t_ k_ => XS.lload X20.here hx rfl (hb hby at_139) rfl k_) ?_
    show OwnFin p e below s _ _ _ (T20.setTop (mkF m 141 #[iv fl, iv pk, .val (.long qa), .second, .val (.long qb), .second, .val (.long qc), .second, iv lg, iv (Int32.ofNat nm), iv (Int32.ofNat pr), iv (Int32.ofNat half), iv (Int32.ofNat m_), iv (Int32.ofNat (m_ / 64)), .unset, .unset, .unset, .unset, .unset, .unset, .unset, .unset, .unset, .unset, .unset, .unset, .unset, .unset, .unset] [(.long qc), (.int (9 : Int32)), (.ref b11), (.ref b11)]))
    obtain ⟨T21, h21, X21, e21, W21, A21, st21⟩ := own_lastore X20 hx hZ e20 A20 (i := 9) (by decide) (by decide) (g := (mkF m 141 #[iv fl, iv pk, .val (.long qa), .second, .val (.long qb), .second, .val (.long qc), .second, iv lg, iv (Int32.ofNat nm), iv (Int32.ofNat pr), iv (Int32.ofNat half), iv (Int32.ofNat m_), iv (Int32.ofNat (m_ / 64)), .unset, .unset, .unset, .unset, .unset, .unset, .unset, .unset, .unset, .unset, .unset, .unset, .unset, .unset, .unset] [(.long qc), (.int (9 : Int32)), (.ref b11), (.ref b11)])) rfl rfl (hb hby at_141)
    have Z21 : n0 ≤ h21.size := Nat.le_trans Z20 (Keep.of_wr W21).1
    have N21 := Fr.snoc X21 N20 g_b11
    refine own_go st21 ?_
    show OwnFin p e below s _ _ _ (T21.setTop (mkF m 142 #[iv fl, iv pk, .val (.long qa), .second, .val (.long qb), .second, .val (.long qc), .second, iv lg, iv (Int32.ofNat nm), iv (Int32.ofNat pr), iv (Int32.ofNat half), iv (Int32.ofNat m_), iv (Int32.ofNat (m_ / 64)), .unset, .unset, .unset, .unset, .unset, .unset, .unset, .unset, .unset, .unset, .unset, .unset, .unset, .unset, .unset] [(.ref b11)]))
    refine own_go (fun t_ k_ => XS.astore X21.here hx rfl (hb hby at_142) rfl rfl (l' := #[iv fl, iv pk, .val (.long qa), .second, .val (.long qb), .second, .val (.long qc), .second, iv lg, iv (Int32.ofNat nm), iv (Int32.ofNat pr), iv (Int32.ofNat half), iv (Int32.ofNat m_), iv (Int32.ofNat (m_ / 64)), rv b11, .unset, .unset, .unset, .unset, .unset, .unset, .unset, .unset, .unset, .unset, .unset, .unset, .unset, .unset]) rfl k_) ?_
    show OwnFin p e below s _ _ _ (T21.setTop (mkF m 144 #[iv fl, iv pk, .val (.long qa), .second, .val (.long qb), .second, .val (.long qc), .second, iv lg, iv (Int32.ofNat nm), iv (Int32.ofNat pr), iv (Int32.ofNat half), iv (Int32.ofNat m_), iv (Int32.ofNat (m_ / 64)), rv b11, .unset, .unset, .unset, .unset, .unset, .unset, .unset, .unset, .unset, .unset, .unset, .unset, .unset, .unset] []))
    obtain ⟨g_, V_g⟩ := own_longs A21 (by intro i hi; (try dsimp only); repeat (first | exact ⟨_, rfl⟩ | split))
    refine own_go (fun t_ k_ => XS.aload X21.here hx rfl (hb hby at_144) rfl rfl k_) ?_
    show OwnFin p e below s _ _ _ (T21.setTop (mkF m 146 #[iv fl, iv pk, .val (.long qa), .second, .val (.long qb), .second, .val (.long qc), .second, iv lg, iv (Int32.ofNat nm), iv (Int32.ofNat pr), iv (Int32.ofNat half), iv (Int32.ofNat m_), iv (Int32.ofNat (m_ / 64)), rv b11, .unset, .unset, .unset, .unset, .unset, .unset, .unset, .unset, .unset, .unset, .unset, .unset, .unset, .unset] [(.ref b11)]))
    refine own_go (fun t_ k_ => XS.iload X21.here hx rfl (hb hby at_146) rfl k_) ?_
    show OwnFin p e below s _ _ _ (T21.setTop (mkF m 148 #[iv fl, iv pk, .val (.long qa), .second, .val (.long qb), .second, .val (.long qc), .second, iv lg, iv (Int32.ofNat nm), iv (Int32.ofNat pr), iv (Int32.ofNat half), iv (Int32.ofNat m_), iv (Int32.ofNat (m_ / 64)), rv b11, .unset, .unset, .unset, .unset, .unset, .unset, .unset, .unset, .unset, .unset, .unset, .unset, .unset, .unset] [(.int (Int32.ofNat (m_ / 64))), (.ref b11)]))
    refine own_go (fun t_ k_ => Jvm.Free.XT.dup2 X21.here hx rfl (hb hby at_148) rfl rfl rfl k_) ?_
    show OwnFin p e below s _ _ _ (T21.setTop (mkF m 149 #[iv fl, iv pk, .val (.long qa), .second, .val (.long qb), .second, .val (.long qc), .second, iv lg, iv (Int32.ofNat nm), iv (Int32.ofNat pr), iv (Int32.ofNat half), iv (Int32.ofNat m_), iv (Int32.ofNat (m_ / 64)), rv b11, .unset, .unset, .unset, .unset, .unset, .unset, .unset, .unset, .unset, .unset, .unset, .unset, .unset, .unset] [(.int (Int32.ofNat (m_ / 64))), (.ref b11), (.int (Int32.ofNat (m_ / 64))), (.ref b11)]))
    refine own_go (own_laload X21 hx hZ e21 V_g (i := (m_ / 64)) rfl (by omega) (g := (mkF m 149 #[iv fl, iv pk, .val (.long qa), .second, .val (.long qb), .second, .val (.long qc), .second, iv lg, iv (Int32.ofNat nm), iv (Int32.ofNat pr), iv (Int32.ofNat half), iv (Int32.ofNat m_), iv (Int32.ofNat (m_ / 64)), rv b11, .unset, .unset, .unset, .unset, .unset, .unset, .unset, .unset, .unset, .unset, .unset, .unset, .unset, .unset] [(.int (Int32.ofNat (m_ / 64))), (.ref b11), (.int (Int32.ofNat (m_ / 64))), (.ref b11)])) rfl rfl (hb hby at_149)) ?_
    show OwnFin p e below s _ _ _ (T21.setTop (mkF m 150 #[iv fl, iv pk, .val (.long qa), .second, .val (.long qb), .second, .val (.long qc), .second, iv lg, iv (Int32.ofNat nm), iv (Int32.ofNat pr), iv (Int32.ofNat half), iv (Int32.ofNat m_), iv (Int32.ofNat (m_ / 64)), rv b11, .unset, .unset, .unset, .unset, .unset, .unset, .unset, .unset, .unset, .unset, .unset, .unset, .unset, .unset] [(.long (g_ (m_ / 64))), (.int (Int32.ofNat (m_ / 64))), (.ref b11)]))
    refine own_go (fun t_ k_ => XS.lconst X21.here hx rfl (hb hby at_150) k_) ?_
    show OwnFin p e below s _ _ _ (T21.setTop (mkF m 151 #[iv fl, iv pk, .val (.long qa), .second, .val (.long qb), .second, .val (.long qc), .second, iv lg, iv (Int32.ofNat nm), iv (Int32.ofNat pr), iv (Int32.ofNat half), iv (Int32.ofNat m_), iv (Int32.ofNat (m_ / 64)), rv b11, .unset, .unset, .unset, .unset, .unset, .unset, .unset, .unset, .unset, .unset, .unset, .unset, .unset, .unset] [(.long (1 : Int64)), (.long (g_ (m_ / 64))), (.int (Int32.ofNat (m_ / 64))), (.ref b11)]))
    refine own_go (fun t_ k_ => XS.iload X21.here hx rfl (hb hby at_151) rfl k_) ?_
    show OwnFin p e below s _ _ _ (T21.setTop (mkF m 153 #[iv fl, iv pk, .val (.long qa), .second, .val (.long qb), .second, .val (.long qc), .second, iv lg, iv (Int32.ofNat nm), iv (Int32.ofNat pr), iv (Int32.ofNat half), iv (Int32.ofNat m_), iv (Int32.ofNat (m_ / 64)), rv b11, .unset, .unset, .unset, .unset, .unset, .unset, .unset, .unset, .unset, .unset, .unset, .unset, .unset, .unset] [(.int (Int32.ofNat m_)), (.long (1 : Int64)), (.long (g_ (m_ / 64))), (.int (Int32.ofNat (m_ / 64))), (.ref b11)]))
    refine own_go (fun t_ k_ => XS.lshl X21.here hx rfl (hb hby at_153) rfl k_) ?_
    show OwnFin p e below s _ _ _ (T21.setTop (mkF m 154 #[iv fl, iv pk, .val (.long qa), .second, .val (.long qb), .second, .val (.long qc), .second, iv lg, iv (Int32.ofNat nm), iv (Int32.ofNat pr), iv (Int32.ofNat half), iv (Int32.ofNat m_), iv (Int32.ofNat (m_ / 64)), rv b11, .unset, .unset, .unset, .unset, .unset, .unset, .unset, .unset, .unset, .unset, .unset, .unset, .unset, .unset] [(.long ((1 : Int64) <<< ((Int32.ofNat m_) &&& 0x3f).toInt64)), (.long (g_ (m_ / 64))), (.int (Int32.ofNat (m_ / 64))), (.ref b11)]))
    show OwnFin p e below s _ _ _ (T21.setTop (mkF m 154 #[iv fl, iv pk, .val (.long qa), .second, .val (.long qb), .second, .val (.long qc), .second, iv lg, iv (Int32.ofNat nm), iv (Int32.ofNat pr), iv (Int32.ofNat half), iv (Int32.ofNat m_), iv (Int32.ofNat (m_ / 64)), rv b11, .unset, .unset, .unset, .unset, .unset, .unset, .unset, .unset, .unset, .unset, .unset, .unset, .unset, .unset] [(.long (own_z m_)), (.long (g_ (m_ / 64))), (.int (Int32.ofNat (m_ / 64))), (.ref b11)]))
    refine own_go (fun t_ k_ => XS.lor X21.here hx rfl (hb hby at_154) rfl k_) ?_
    show OwnFin p e below s _ _ _ (T21.setTop (mkF m 155 #[iv fl, iv pk, .val (.long qa), .second, .val (.long qb), .second, .val (.long qc), .second, iv lg, iv (Int32.ofNat nm), iv (Int32.ofNat pr), iv (Int32.ofNat half), iv (Int32.ofNat m_), iv (Int32.ofNat (m_ / 64)), rv b11, .unset, .unset, .unset, .unset, .unset, .unset, .unset, .unset, .unset, .unset, .unset, .unset, .unset, .unset] [(.long ((g_ (m_ / 64)) ||| (own_z m_))), (.int (Int32.ofNat (m_ / 64))), (.ref b11)]))
    obtain ⟨T22, h22, X22, e22, W22, A22, st22⟩ := own_lastore X21 hx hZ e21 V_g (i := (m_ / 64)) rfl (by omega) (g := (mkF m 155 #[iv fl, iv pk, .val (.long qa), .second, .val (.long qb), .second, .val (.long qc), .second, iv lg, iv (Int32.ofNat nm), iv (Int32.ofNat pr), iv (Int32.ofNat half), iv (Int32.ofNat m_), iv (Int32.ofNat (m_ / 64)), rv b11, .unset, .unset, .unset, .unset, .unset, .unset, .unset, .unset, .unset, .unset, .unset, .unset, .unset, .unset] [(.long ((g_ (m_ / 64)) ||| (own_z m_))), (.int (Int32.ofNat (m_ / 64))), (.ref b11)])) rfl rfl (hb hby at_155)
    have Z22 : n0 ≤ h22.size := Nat.le_trans Z21 (Keep.of_wr W22).1
    have N22 := Fr.snoc X22 N21 g_b11
    refine own_go st22 ?_
    show OwnFin p e below s _ _ _ (T22.setTop (mkF m 156 #[iv fl, iv pk, .val (.long qa), .second, .val (.long qb), .second, .val (.long qc), .second, iv lg, iv (Int32.ofNat nm), iv (Int32.ofNat pr), iv (Int32.ofNat half), iv (Int32.ofNat m_), iv (Int32.ofNat (m_ / 64)), rv b11, .unset, .unset, .unset, .unset, .unset, .unset, .unset, .unset, .unset, .unset, .unset, .unset, .unset, .unset] []))
    obtain ⟨A, hA⟩ : ∃ A : Nat → Int64, A = fun k => if k = m_ / 64 then g_ (m_ / 64) ||| own_z m_ else g_ k := ⟨_, rfl⟩
    have V_A : OwnArr Z h22 b11 .long 10 (fun k => .long (A k)) := A22.congr (fun z hz => by rw [hA]; (try dsimp only); split <;> rfl)
    have hbit : A (m_ / 64) &&& own_z m_ = own_z m_ := by
      have q : A (m_ / 64) = g_ (m_ / 64) ||| own_z m_ := by rw [hA]; exact if_pos rfl
      rw [q]; exact own_or1 _ _
    clear hA
    obtain ⟨T23, h23, X23, e23, E23, A23, D23, -, st23⟩ := newO X22 hx hZ hown (hw _ (List.mem_of_getElem? (i := 3) rfl)) (hw _ (List.mem_of_getElem? (i := 4) rfl)) (hw _ (List.mem_of_getElem? (i := 5) rfl)) e22 (g := (mkF m 156 #[iv fl, iv pk, .val (.long qa), .second, .val (.long qb), .second, .val (.long qc), .second, iv lg, iv (Int32.ofNat nm), iv (Int32.ofNat pr), iv (Int32.ofNat half), iv (Int32.ofNat m_), iv (Int32.ofNat (m_ / 64)), rv b11, .unset, .unset, .unset, .unset, .unset, .unset, .unset, .unset, .unset, .unset, .unset, .unset, .unset, .unset] [])) rfl (hb hby at_156) (by decide) (by decide)
    obtain ⟨b23, g23⟩ : ∃ z, z = h22.size := ⟨_, rfl⟩
    rw [← g23] at A23 D23 st23
    have g_b23 : n0 ≤ b23 := Nat.le_trans Z22 (Nat.le_of_eq g23.symm)
    have ne_b11_b23 : b11 ≠ b23 := Nat.ne_of_lt (Nat.lt_of_lt_of_le V_A.lt (Nat.le_of_eq g23.symm))
    have V_A_23 := V_A.ext E23
    have Z23 : n0 ≤ h23.size := Nat.le_trans Z22 E23.1
    have E_b23 := A23
    have F_words_b23 : Fld Z h23 b23 "com/example/nearside/nearside/slotted/delay/OfferSet" "words" "[J" .null := D23 (Or.inr (hw _ (List.mem_of_getElem? (i := 13) rfl))) (ty := (.array .long)) (by decide)
    have F_inBlocks_b23 : Fld Z h23 b23 "com/example/nearside/nearside/slotted/delay/OfferSet" "inBlocks" "[I" .null := D23 (Or.inr (hw _ (List.mem_of_getElem? (i := 16) rfl))) (ty := (.array .int)) (by decide)
    have F_blocked_b23 : Fld Z h23 b23 "com/example/nearside/nearside/slotted/delay/OfferSet" "blocked" "Z" (.int (0 : Int32)) := D23 (Or.inr (hw _ (List.mem_of_getElem? (i := 18) rfl))) (ty := .boolean) (by decide)
    have F_inRacks_b23 : Fld Z h23 b23 "com/example/nearside/nearside/slotted/delay/OfferSet" "inRacks" "[I" .null := D23 (Or.inr (hw _ (List.mem_of_getElem? (i := 20) rfl))) (ty := (.array .int)) (by decide)
    have F_racks_b23 : Fld Z h23 b23 "com/example/nearside/nearside/slotted/delay/OfferSet" "racks" "[J" .null := D23 (Or.inr (hw _ (List.mem_of_getElem? (i := 22) rfl))) (ty := (.array .long)) (by decide)
    have F_rackOf_b23 : Fld Z h23 b23 "com/example/nearside/nearside/slotted/delay/OfferSet" "rackOf" "[I" .null := D23 (Or.inr (hw _ (List.mem_of_getElem? (i := 24) rfl))) (ty := (.array .int)) (by decide)
    have F_perRack_b23 : Fld Z h23 b23 "com/example/nearside/nearside/slotted/delay/OfferSet" "perRack" "I" (.int (0 : Int32)) := D23 (Or.inr (hw _ (List.mem_of_getElem? (i := 26) rfl))) (ty := .int) (by decide)
    have F_size_b23 : Fld Z h23 b23 "com/example/nearside/nearside/slotted/delay/OfferSet" "size" "I" (.int (0 : Int32)) := D23 (Or.inl (hw _ (List.mem_of_getElem? (i := 33) rfl))) (ty := .int) (by decide)
    refine own_go st23 ?_
    show OwnFin p e below s _ _ _ (T23.setTop (mkF m 159 #[iv fl, iv pk, .val (.long qa), .second, .val (.long qb), .second, .val (.long qc), .second, iv lg, iv (Int32.ofNat nm), iv (Int32.ofNat pr), iv (Int32.ofNat half), iv (Int32.ofNat m_), iv (Int32.ofNat (m_ / 64)), rv b11, .unset, .unset, .unset, .unset, .unset, .unset, .unset, .unset, .unset, .unset, .unset, .unset, .unset, .unset] [(.ref b23)]))
    refine own_go (fun t_ k_ => XS.dup X23.here hx rfl (hb hby at_159) rfl rfl k_) ?_
    show OwnFin p e below s _ _ _ (T23.setTop (mkF m 160 #[iv fl, iv pk, .val (.long qa), .second, .val (.long qb), .second, .val (.long qc), .second, iv lg, iv (Int32.ofNat nm), iv (Int32.ofNat pr), iv (Int32.ofNat half), iv (Int32.ofNat m_), iv (Int32.ofNat (m_ / 64)), rv b11, .unset, .unset, .unset, .unset, .unset, .unset, .unset, .unset, .unset, .unset, .unset, .unset, .unset, .unset] [(.ref b23), (.ref b23)]))
    refine own_go (fun t_ k_ => XS.iload X23.here hx rfl (hb hby at_160) rfl k_) ?_
    show OwnFin p e below s _ _ _ (T23.setTop (mkF m 162 #[iv fl, iv pk, .val (.long qa), .second, .val (.long qb), .second, .val (.long qc), .second, iv lg, iv (Int32.ofNat nm), iv (Int32.ofNat pr), iv (Int32.ofNat half), iv (Int32.ofNat m_), iv (Int32.ofNat (m_ / 64)), rv b11, .unset, .unset, .unset, .unset, .unset, .unset, .unset, .unset, .unset, .unset, .unset, .unset, .unset, .unset] [(.int (Int32.ofNat nm)), (.ref b23), (.ref b23)]))
    refine own_go (fun t_ k_ => XS.iload X23.here hx rfl (hb hby at_162) rfl k_) ?_
    show OwnFin p e below s _ _ _ (T23.setTop (mkF m 164 #[iv fl, iv pk, .val (.long qa), .second, .val (.long qb), .second, .val (.long qc), .second, iv lg, iv (Int32.ofNat nm), iv (Int32.ofNat pr), iv (Int32.ofNat half), iv (Int32.ofNat m_), iv (Int32.ofNat (m_ / 64)), rv b11, .unset, .unset, .unset, .unset, .unset, .unset, .unset, .unset, .unset, .unset, .unset, .unset, .unset, .unset] [(.int (Int32.ofNat pr)), (.int (Int32.ofNat nm)), (.ref b23), (.ref b23)]))
    obtain ⟨v24, T24, L24, X24, hQ24, st24⟩ := own_callI X23 hx hZ (y := (⟨"com/example/nearside/nearside/slotted/delay/OfferSet", "<init>", "(II)V"⟩ : MethodName)) rfl hown (hw _ (List.mem_of_getElem? (i := 6) rfl)) (hw _ (List.mem_of_getElem? (i := 7) rfl)) (hw _ (List.mem_of_getElem? (i := 5) rfl)) (hw _ (List.mem_of_getElem? (i := 8) rfl)) (by decide) (W := 1) (rm1 l Z a0 hw [] b23 (Int32.ofNat nm) (Int32.ofNat pr) nm nw nb half pr h23 n0 Z23 rfl rfl hP hD E_b23 g_b23 F_words_b23 F_inBlocks_b23 F_inRacks_b23 F_racks_b23 F_rackOf_b23 F_blocked_b23 F_perRack_b23 F_size_b23) (by decide) (by decide) (g := (mkF m 164 #[iv fl, iv pk, .val (.long qa), .second, .val (.long qb), .second, .val (.long qc), .second, iv lg, iv (Int32.ofNat nm), iv (Int32.ofNat pr), iv (Int32.ofNat half), iv (Int32.ofNat m_), iv (Int32.ofNat (m_ / 64)), rv b11, .unset, .unset, .unset, .unset, .unset, .unset, .unset, .unset, .unset, .unset, .unset, .unset, .unset, .unset] [(.int (Int32.ofNat pr)), (.int (Int32.ofNat nm)), (.ref b23), (.ref b23)])) rfl (by rw [hml]; rfl) (a := b23) (argsL := [(.int (Int32.ofNat nm)), (.int (Int32.ofNat pr))]) (rest := [(.ref b23)]) (lenOf pd_0_0 rfl) rfl (by show 2 * 0 + _ ≤ _; exact Nat.le_of_eq rfl) (hb hby at_164) e23 rfl (by decide) (by decide)
    obtain ⟨rfl, Nq24, Kq24, Eq24, aw, ab, ar, ak, ao, Fq24_words, Fq24_inBlocks, Fq24_inRacks, Fq24_racks, Fq24_rackOf, Fq24_blocked, Fq24_perRack, Fq24_size, sz_aw, sz_ab, sz_ar, sz_ak, sz_ao, ne_aw_ab, ne_aw_ar, ne_aw_ak, ne_aw_ao, ne_ab_ar, ne_ab_ak, ne_ab_ao, ne_ar_ak, ne_ar_ao, ne_ak_ao, V_aw, V_ab, V_ar, V_ak, V_ao⟩ := hQ24
    have N24 := Fr.app N22 Nq24
    have ne_b11_aw : b11 ≠ aw := Nat.ne_of_lt (Nat.lt_of_lt_of_le V_A_23.lt sz_aw)
    have ne_b11_ab : b11 ≠ ab := Nat.ne_of_lt (Nat.lt_of_lt_of_le V_A_23.lt sz_ab)
    have ne_b11_ar : b11 ≠ ar := Nat.ne_of_lt (Nat.lt_of_lt_of_le V_A_23.lt sz_ar)
    have ne_b11_ak : b11 ≠ ak := Nat.ne_of_lt (Nat.lt_of_lt_of_le V_A_23.lt sz_ak)
    have ne_b11_ao : b11 ≠ ao := Nat.ne_of_lt (Nat.lt_of_lt_of_le V_A_23.lt sz_ao)
    have ne_b23_aw : b23 ≠ aw := Nat.ne_of_lt (Nat.lt_of_lt_of_le E_b23.lt sz_aw)
    have ne_b23_ab : b23 ≠ ab := Nat.ne_of_lt (Nat.lt_of_lt_of_le E_b23.lt sz_ab)
    have ne_b23_ar : b23 ≠ ar := Nat.ne_of_lt (Nat.lt_of_lt_of_le E_b23.lt sz_ar)
    have ne_b23_ak : b23 ≠ ak := Nat.ne_of_lt (Nat.lt_of_lt_of_le E_b23.lt sz_ak)
    have ne_b23_ao : b23 ≠ ao := Nat.ne_of_lt (Nat.lt_of_lt_of_le E_b23.lt sz_ao)
    have g_aw : n0 ≤ aw := Nat.le_trans Z23 sz_aw
    have g_ab : n0 ≤ ab := Nat.le_trans Z23 sz_ab
    have g_ar : n0 ≤ ar := Nat.le_trans Z23 sz_ar
    have g_ak : n0 ≤ ak := Nat.le_trans Z23 sz_ak
    have g_ao : n0 ≤ ao := Nat.le_trans Z23 sz_ao
    have V_A_24 := V_A_23.keep Kq24 (ninS ne_b11_b23 nin0)
    have E_b23_24 := E_b23.keep Kq24
    have Z24 : n0 ≤ T24.heap.size := Nat.le_trans Z23 Kq24.1
    refine own_go st24 ?_
    show OwnFin p e below s _ _ _ (T24.setTop (mkF m 167 #[iv fl, iv pk, .val (.long qa), .second, .val (.long qb), .second, .val (.long qc), .second, iv lg, iv (Int32.ofNat nm), iv (Int32.ofNat pr), iv (Int32.ofNat half), iv (Int32.ofNat m_), iv (Int32.ofNat (m_ / 64)), rv b11, .unset, .unset, .unset, .unset, .unset, .unset, .unset, .unset, .unset, .unset, .unset, .unset, .unset, .unset] [(.ref b23)]))
    refine own_go (fun t_ k_ => XS.astore X24.here hx rfl (hb hby at_167) rfl rfl (l' := #[iv fl, iv pk, .val (.long qa), .second, .val (.long qb), .second, .val (.long qc), .second, iv lg, iv (Int32.ofNat nm), iv (Int32.ofNat pr), iv (Int32.ofNat half), iv (Int32.ofNat m_), iv (Int32.ofNat (m_ / 64)), rv b11, rv b23, .unset, .unset, .unset, .unset, .unset, .unset, .unset, .unset, .unset, .unset, .unset, .unset, .unset]) rfl k_) ?_
    show OwnFin p e below s _ _ _ (T24.setTop (mkF m 169 #[iv fl, iv pk, .val (.long qa), .second, .val (.long qb), .second, .val (.long qc), .second, iv lg, iv (Int32.ofNat nm), iv (Int32.ofNat pr), iv (Int32.ofNat half), iv (Int32.ofNat m_), iv (Int32.ofNat (m_ / 64)), rv b11, rv b23, .unset, .unset, .unset, .unset, .unset, .unset, .unset, .unset, .unset, .unset, .unset, .unset, .unset] []))
    refine own_go (fun t_ k_ => XS.aload X24.here hx rfl (hb hby at_169) rfl rfl k_) ?_
    show OwnFin p e below s _ _ _ (T24.setTop (mkF m 171 #[iv fl, iv pk, .val (.long qa), .second, .val (.long qb), .second, .val (.long qc), .second, iv lg, iv (Int32.ofNat nm), iv (Int32.ofNat pr), iv (Int32.ofNat half), iv (Int32.ofNat m_), iv (Int32.ofNat (m_ / 64)), rv b11, rv b23, .unset, .unset, .unset, .unset, .unset, .unset, .unset, .unset, .unset, .unset, .unset, .unset, .unset] [(.ref b23)]))
    refine own_go (fun t_ k_ => XS.aload X24.here hx rfl (hb hby at_171) rfl rfl k_) ?_
    show OwnFin p e below s _ _ _ (T24.setTop (mkF m 173 #[iv fl, iv pk, .val (.long qa), .second, .val (.long qb), .second, .val (.long qc), .second, iv lg, iv (Int32.ofNat nm), iv (Int32.ofNat pr), iv (Int32.ofNat half), iv (Int32.ofNat m_), iv (Int32.ofNat (m_ / 64)), rv b11, rv b23, .unset, .unset, .unset, .unset, .unset, .unset, .unset, .unset, .unset, .unset, .unset, .unset, .unset] [(.ref b11), (.ref b23)]))
    obtain ⟨v25, T25, L25, X25, hQ25, st25⟩ := own_callV X24 hx hZ (y := (⟨"com/example/nearside/nearside/slotted/delay/OfferSet", "setAll", "([J)V"⟩ : MethodName)) (z := (⟨"com/example/nearside/nearside/slotted/delay/OfferSet", "setAll", "([J)V"⟩ : MethodName)) hown (hw _ (List.mem_of_getElem? (i := 27) rfl)) (hw _ (List.mem_of_getElem? (i := 28) rfl)) (notFace_of_selects (args := #[]) (mvT hZ (hw _ (List.mem_of_getElem? (i := 30) rfl)))) (hw _ (List.mem_of_getElem? (i := 30) rfl)) (hw _ (List.mem_of_getElem? (i := 29) rfl)) (hw _ (List.mem_of_getElem? (i := 5) rfl)) (hw _ (List.mem_of_getElem? (i := 31) rfl)) (by decide) (W := 0) (rm3 l Z a0 hw [] b23 b11 aw ab ar ak ao nm nw nb half pr A _ _ _ _ _ T24.heap n0 Z24 hP hD Eq24 Fq24_words Fq24_inBlocks Fq24_inRacks Fq24_racks Fq24_rackOf Fq24_blocked Fq24_perRack Fq24_size V_aw V_ab V_ar V_ak V_A_24 ne_b23_aw ne_b23_ab ne_b23_ar ne_b23_ak (Ne.symm ne_b11_b23) ne_aw_ab ne_aw_ar ne_aw_ak (Ne.symm ne_b11_aw) ne_ab_ar ne_ab_ak (Ne.symm ne_b11_ab) ne_ar_ak (Ne.symm ne_b11_ar) (Ne.symm ne_b11_ak) g_b23 g_aw g_ab g_ar g_ak) (by decide) (by decide) Eq24 (g := (mkF m 173 #[iv fl, iv pk, .val (.long qa), .second, .val (.long qb), .second, .val (.long qc), .second, iv lg, iv (Int32.ofNat nm), iv (Int32.ofNat pr), iv (Int32.ofNat half), iv (Int32.ofNat m_), iv (Int32.ofNat (m_ / 64)), rv b11, rv b23, .unset, .unset, .unset, .unset, .unset, .unset, .unset, .unset, .unset, .unset, .unset, .unset, .unset] [(.ref b11), (.ref b23)])) rfl (by rw [hml]; rfl) (argsL := [(.ref b11)]) (rest := []) (lenOf pd_0_2 rfl) rfl (by show 2 * 0 + _ ≤ _; exact Nat.le_of_eq rfl) (hb hby at_173) rfl rfl (by decide) (by decide)
    obtain ⟨rfl, Nq25, Kq25, Eq25, Fq25_words, Fq25_inBlocks, Fq25_inRacks, Fq25_racks, Fq25_rackOf, Fq25_blocked, Fq25_perRack, sz, iB, R, Fq25_size, Va_aw, Va_ab, Va_ar, Va_ak⟩ := hQ25
    have N25 := Fr.app N24 Nq25
    have V_A_25 := V_A_24.keep Kq25 (ninS ne_b11_b23 (ninS ne_b11_aw (ninS ne_b11_ab (ninS ne_b11_ar (ninS ne_b11_ak nin0)))))
    have Eq24_25 := Eq24.keep Kq25
    have V_ao_25 := V_ao.keep Kq25 (ninS (Ne.symm ne_b23_ao) (ninS (Ne.symm ne_aw_ao) (ninS (Ne.symm ne_ab_ao) (ninS (Ne.symm ne_ar_ao) (ninS (Ne.symm ne_ak_ao) nin0)))))
    have Z25 : n0 ≤ T25.heap.size := Nat.le_trans Z24 Kq25.1
    refine own_go st25 ?_
    show OwnFin p e below s _ _ _ (T25.setTop (mkF m 176 #[iv fl, iv pk, .val (.long qa), .second, .val (.long qb), .second, .val (.long qc), .second, iv lg, iv (Int32.ofNat nm), iv (Int32.ofNat pr), iv (Int32.ofNat half), iv (Int32.ofNat m_), iv (Int32.ofNat (m_ / 64)), rv b11, rv b23, .unset, .unset, .unset, .unset, .unset, .unset, .unset, .unset, .unset, .unset, .unset, .unset, .unset] []))
    refine own_go (fun t_ k_ => XS.aload X25.here hx rfl (hb hby at_176) rfl rfl k_) ?_
    show OwnFin p e below s _ _ _ (T25.setTop (mkF m 178 #[iv fl, iv pk, .val (.long qa), .second, .val (.long qb), .second, .val (.long qc), .second, iv lg, iv (Int32.ofNat nm), iv (Int32.ofNat pr), iv (Int32.ofNat half), iv (Int32.ofNat m_), iv (Int32.ofNat (m_ / 64)), rv b11, rv b23, .unset, .unset, .unset, .unset, .unset, .unset, .unset, .unset, .unset, .unset, .unset, .unset, .unset] [(.ref b23)]))
    obtain ⟨v26, T26, L26, X26, hQ26, st26⟩ := own_callV X25 hx hZ (y := (⟨"com/example/nearside/nearside/slotted/delay/OfferSet", "size", "()I"⟩ : MethodName)) (z := (⟨"com/example/nearside/nearside/slotted/delay/OfferSet", "size", "()I"⟩ : MethodName)) hown (hw _ (List.mem_of_getElem? (i := 46) rfl)) (hw _ (List.mem_of_getElem? (i := 47) rfl)) (notFace_of_selects (args := #[]) (mvT hZ (hw _ (List.mem_of_getElem? (i := 49) rfl)))) (hw _ (List.mem_of_getElem? (i := 49) rfl)) (hw _ (List.mem_of_getElem? (i := 48) rfl)) (hw _ (List.mem_of_getElem? (i := 5) rfl)) (hw _ (List.mem_of_getElem? (i := 50) rfl)) (by decide) (W := 0) (rm6 l Z a0 hw [] b23 T25.heap n0 Z25 Fq25_size) (by decide) (by decide) Eq25 (g := (mkF m 178 #[iv fl, iv pk, .val (.long qa), .second, .val (.long qb), .second, .val (.long qc), .second, iv lg, iv (Int32.ofNat nm), iv (Int32.ofNat pr), iv (Int32.ofNat half), iv (Int32.ofNat m_), iv (Int32.ofNat (m_ / 64)), rv b11, rv b23, .unset, .unset, .unset, .unset, .unset, .unset, .unset, .unset, .unset, .unset, .unset, .unset, .unset] [(.ref b23)])) rfl (by rw [hml]; rfl) (argsL := []) (rest := []) (lenOf pd_0_5 rfl) rfl (by show 2 * 0 + _ ≤ _; exact Nat.le_of_eq rfl) (hb hby at_178) rfl rfl (by decide) (by decide)
    obtain ⟨rfl, Nq26, e26⟩ := hQ26
    have N26 := Fr.app N25 Nq26
    refine own_go st26 ?_
    show OwnFin p e below s _ _ _ (T26.setTop (mkF m 181 #[iv fl, iv pk, .val (.long qa), .second, .val (.long qb), .second, .val (.long qc), .second, iv lg, iv (Int32.ofNat nm), iv (Int32.ofNat pr), iv (Int32.ofNat half), iv (Int32.ofNat m_), iv (Int32.ofNat (m_ / 64)), rv b11, rv b23, .unset, .unset, .unset, .unset, .unset, .unset, .unset, .unset, .unset, .unset, .unset, .unset, .unset] [(.int sz)]))
    refine own_go (fun t_ k_ => XS.istore X26.here hx rfl (hb hby at_181) rfl (l' := #[iv fl, iv pk, .val (.long qa), .second, .val (.long qb), .second, .val (.long qc), .second, iv lg, iv (Int32.ofNat nm), iv (Int32.ofNat pr), iv (Int32.ofNat half), iv (Int32.ofNat m_), iv (Int32.ofNat (m_ / 64)), rv b11, rv b23, iv sz, .unset, .unset, .unset, .unset, .unset, .unset, .unset, .unset, .unset, .unset, .unset, .unset]) rfl k_) ?_
    show OwnFin p e below s _ _ _ (T26.setTop (mkF m 183 #[iv fl, iv pk, .val (.long qa), .second, .val (.long qb), .second, .val (.long qc), .second, iv lg, iv (Int32.ofNat nm), iv (Int32.ofNat pr), iv (Int32.ofNat half), iv (Int32.ofNat m_), iv (Int32.ofNat (m_ / 64)), rv b11, rv b23, iv sz, .unset, .unset, .unset, .unset, .unset, .unset, .unset, .unset, .unset, .unset, .unset, .unset] []))
    refine own_go (fun t_ k_ => XS.aload X26.here hx rfl (hb hby at_183) rfl rfl k_) ?_
    show OwnFin p e below s _ _ _ (T26.setTop (mkF m 185 #[iv fl, iv pk, .val (.long qa), .second, .val (.long qb), .second, .val (.long qc), .second, iv lg, iv (Int32.ofNat nm), iv (Int32.ofNat pr), iv (Int32.ofNat half), iv (Int32.ofNat m_), iv (Int32.ofNat (m_ / 64)), rv b11, rv b23, iv sz, .unset, .unset, .unset, .unset, .unset, .unset, .unset, .unset, .unset, .unset, .unset, .unset] [(.ref b23)]))
    refine own_go (fun t_ k_ => XS.iconst X26.here hx rfl (hb hby at_185) k_) ?_
    show OwnFin p e below s _ _ _ (T26.setTop (mkF m 186 #[iv fl, iv pk, .val (.long qa), .second, .val (.long qb), .second, .val (.long qc), .second, iv lg, iv (Int32.ofNat nm), iv (Int32.ofNat pr), iv (Int32.ofNat half), iv (Int32.ofNat m_), iv (Int32.ofNat (m_ / 64)), rv b11, rv b23, iv sz, .unset, .unset, .unset, .unset, .unset, .unset, .unset, .unset, .unset, .unset, .unset, .unset] [(.int (0 : Int32)), (.ref b23)]))
    refine own_go (fun t_ k_ => XS.iload X26.here hx rfl (hb hby at_186) rfl k_) ?_
    show OwnFin p e below s _ _ _ (T26.setTop (mkF m 188 #[iv fl, iv pk, .val (.long qa), .second, .val (.long qb), .second, .val (.long qc), .second, iv lg, iv (Int32.ofNat nm), iv (Int32.ofNat pr), iv (Int32.ofNat half), iv (Int32.ofNat m_), iv (Int32.ofNat (m_ / 64)), rv b11, rv b23, iv sz, .unset, .unset, .unset, .unset, .unset, .unset, .unset, .unset, .unset, .unset, .unset, .unset] [(.int (Int32.ofNat half)), (.int (0 : Int32)), (.ref b23)]))
    obtain ⟨v27, T27, L27, X27, hQ27, st27⟩ := own_callV X26 hx hZ (y := (⟨"com/example/nearside/nearside/slotted/delay/OfferSet", "countBetween", "(II)I"⟩ : MethodName)) (z := (⟨"com/example/nearside/nearside/slotted/delay/OfferSet", "countBetween", "(II)I"⟩ : MethodName)) hown (hw _ (List.mem_of_getElem? (i := 51) rfl)) (hw _ (List.mem_of_getElem? (i := 52) rfl)) (notFace_of_selects (args := #[]) (mvT hZ (hw _ (List.mem_of_getElem? (i := 54) rfl)))) (hw _ (List.mem_of_getElem? (i := 54) rfl)) (hw _ (List.mem_of_getElem? (i := 53) rfl)) (hw _ (List.mem_of_getElem? (i := 5) rfl)) (hw _ (List.mem_of_getElem? (i := 55) rfl)) (by decide) (W := 0) (rm7 l Z a0 hw [] b23 (Int32.ofNat half) aw ab nm nw nb half _ _ T25.heap n0 Z25 rfl hD Eq25 Fq25_words Fq25_inBlocks Va_aw Va_ab) (by decide) (by decide) Eq25 (g := (mkF m 188 #[iv fl, iv pk, .val (.long qa), .second, .val (.long qb), .second, .val (.long qc), .second, iv lg, iv (Int32.ofNat nm), iv (Int32.ofNat pr), iv (Int32.ofNat half), iv (Int32.ofNat m_), iv (Int32.ofNat (m_ / 64)), rv b11, rv b23, iv sz, .unset, .unset, .unset, .unset, .unset, .unset, .unset, .unset, .unset, .unset, .unset, .unset] [(.int (Int32.ofNat half)), (.int (0 : Int32)), (.ref b23)])) rfl (by rw [hml]; rfl) (argsL := [(.int (0 : Int32)), (.int (Int32.ofNat half))]) (rest := []) (lenOf pd_0_4 rfl) rfl (by show 2 * 0 + _ ≤ _; exact Nat.le_of_eq rfl) (hb hby at_188) e26 rfl (by decide) (by decide)
    obtain ⟨rfl, Nq27, e27⟩ := hQ27
    have N27 := Fr.app N26 Nq27
    refine own_go st27 ?_
    show OwnFin p e below s _ _ _ (T27.setTop (mkF m 191 #[iv fl, iv pk, .val (.long qa), .second, .val (.long qb), .second, .val (.long qc), .second, iv lg, iv (Int32.ofNat nm), iv (Int32.ofNat pr), iv (Int32.ofNat half), iv (Int32.ofNat m_), iv (Int32.ofNat (m_ / 64)), rv b11, rv b23, iv sz, .unset, .unset, .unset, .unset, .unset, .unset, .unset, .unset, .unset, .unset, .unset, .unset] [(.int (own_low nw A iB))]))
    refine own_go (fun t_ k_ => XS.istore X27.here hx rfl (hb hby at_191) rfl (l' := #[iv fl, iv pk, .val (.long qa), .second, .val (.long qb), .second, .val (.long qc), .second, iv lg, iv (Int32.ofNat nm), iv (Int32.ofNat pr), iv (Int32.ofNat half), iv (Int32.ofNat m_), iv (Int32.ofNat (m_ / 64)), rv b11, rv b23, iv sz, iv (own_low nw A iB), .unset, .unset, .unset, .unset, .unset, .unset, .unset, .unset, .unset, .unset, .unset]) rfl k_) ?_
    show OwnFin p e below s _ _ _ (T27.setTop (mkF m 193 #[iv fl, iv pk, .val (.long qa), .second, .val (.long qb), .second, .val (.long qc), .second, iv lg, iv (Int32.ofNat nm), iv (Int32.ofNat pr), iv (Int32.ofNat half), iv (Int32.ofNat m_), iv (Int32.ofNat (m_ / 64)), rv b11, rv b23, iv sz, iv (own_low nw A iB), .unset, .unset, .unset, .unset, .unset, .unset, .unset, .unset, .unset, .unset, .unset] []))
    refine own_go (fun t_ k_ => XS.iload X27.here hx rfl (hb hby at_193) rfl k_) ?_
    show OwnFin p e below s _ _ _ (T27.setTop (mkF m 195 #[iv fl, iv pk, .val (.long qa), .second, .val (.long qb), .second, .val (.long qc), .second, iv lg, iv (Int32.ofNat nm), iv (Int32.ofNat pr), iv (Int32.ofNat half), iv (Int32.ofNat m_), iv (Int32.ofNat (m_ / 64)), rv b11, rv b23, iv sz, iv (own_low nw A iB), .unset, .unset, .unset, .unset, .unset, .unset, .unset, .unset, .unset, .unset, .unset] [(.int (Int32.ofNat m_))]))
    refine own_go (fun t_ k_ => XS.iload X27.here hx rfl (hb hby at_195) rfl k_) ?_
    show OwnFin p e below s _ _ _ (T27.setTop (mkF m 197 #[iv fl, iv pk, .val (.long qa), .second, .val (.long qb), .second, .val (.long qc), .second, iv lg, iv (Int32.ofNat nm), iv (Int32.ofNat pr), iv (Int32.ofNat half), iv (Int32.ofNat m_), iv (Int32.ofNat (m_ / 64)), rv b11, rv b23, iv sz, iv (own_low nw A iB), .unset, .unset, .unset, .unset, .unset, .unset, .unset, .unset, .unset, .unset, .unset] [(.int (Int32.ofNat pr)), (.int (Int32.ofNat m_))]))
    refine own_go (fun t_ k_ => XS.idiv X27.here hx rfl (hb hby at_197) rfl (own_nz (by omega) (by omega)) k_) ?_
    show OwnFin p e below s _ _ _ (T27.setTop (mkF m 198 #[iv fl, iv pk, .val (.long qa), .second, .val (.long qb), .second, .val (.long qc), .second, iv lg, iv (Int32.ofNat nm), iv (Int32.ofNat pr), iv (Int32.ofNat half), iv (Int32.ofNat m_), iv (Int32.ofNat (m_ / 64)), rv b11, rv b23, iv sz, iv (own_low nw A iB), .unset, .unset, .unset, .unset, .unset, .unset, .unset, .unset, .unset, .unset, .unset] [(.int ((Int32.ofNat m_) / (Int32.ofNat pr)))]))
    rw [show ((Int32.ofNat m_) / (Int32.ofNat pr)) = (Int32.ofNat (m_ / pr)) from own_divN (by omega) (by omega)]
    show OwnFin p e below s _ _ _ (T27.setTop (mkF m 198 #[iv fl, iv pk, .val (.long qa), .second, .val (.long qb), .second, .val (.long qc), .second, iv lg, iv (Int32.ofNat nm), iv (Int32.ofNat pr), iv (Int32.ofNat half), iv (Int32.ofNat m_), iv (Int32.ofNat (m_ / 64)), rv b11, rv b23, iv sz, iv (own_low nw A iB), .unset, .unset, .unset, .unset, .unset, .unset, .unset, .unset, .unset, .unset, .unset] [(.int (Int32.ofNat (m_ / pr)))]))
    refine own_go (fun t_ k_ => XS.istore X27.here hx rfl (hb hby at_198) rfl (l' := #[iv fl, iv pk, .val (.long qa), .second, .val (.long qb), .second, .val (.long qc), .second, iv lg, iv (Int32.ofNat nm), iv (Int32.ofNat pr), iv (Int32.ofNat half), iv (Int32.ofNat m_), iv (Int32.ofNat (m_ / 64)), rv b11, rv b23, iv sz, iv (own_low nw A iB), iv (Int32.ofNat (m_ / pr)), .unset, .unset, .unset, .unset, .unset, .unset, .unset, .unset, .unset, .unset]) rfl k_) ?_
    show OwnFin p e below s _ _ _ (T27.setTop (mkF m 200 #[iv fl, iv pk, .val (.long qa), .second, .val (.long qb), .second, .val (.long qc), .second, iv lg, iv (Int32.ofNat nm), iv (Int32.ofNat pr), iv (Int32.ofNat half), iv (Int32.ofNat m_), iv (Int32.ofNat (m_ / 64)), rv b11, rv b23, iv sz, iv (own_low nw A iB), iv (Int32.ofNat (m_ / pr)), .unset, .unset, .unset, .unset, .unset, .unset, .unset, .unset, .unset, .unset] []))
    refine own_go (fun t_ k_ => XS.aload X27.here hx rfl (hb hby at_200) rfl rfl k_) ?_
    show OwnFin p e below s _ _ _ (T27.setTop (mkF m 202 #[iv fl, iv pk, .val (.long qa), .second, .val (.long qb), .second, .val (.long qc), .second, iv lg, iv (Int32.ofNat nm), iv (Int32.ofNat pr), iv (Int32.ofNat half), iv (Int32.ofNat m_), iv (Int32.ofNat (m_ / 64)), rv b11, rv b23, iv sz, iv (own_low nw A iB), iv (Int32.ofNat (m_ / pr)), .unset, .unset, .unset, .unset, .unset, .unset, .unset, .unset, .unset, .unset] [(.ref b23)]))
    refine own_go (fun t_ k_ => XS.iload X27.here hx rfl (hb hby at_202) rfl k_) ?_
    show OwnFin p e below s _ _ _ (T27.setTop (mkF m 204 #[iv fl, iv pk, .val (.long qa), .second, .val (.long qb), .second, .val (.long qc), .second, iv lg, iv (Int32.ofNat nm), iv (Int32.ofNat pr), iv (Int32.ofNat half), iv (Int32.ofNat m_), iv (Int32.ofNat (m_ / 64)), rv b11, rv b23, iv sz, iv (own_low nw A iB), iv (Int32.ofNat (m_ / pr)), .unset, .unset, .unset, .unset, .unset, .unset, .unset, .unset, .unset, .unset] [(.int (Int32.ofNat (m_ / pr))), (.ref b23)]))
    refine own_go (fun t_ k_ => XS.bipush X27.here hx rfl (hb hby at_204) k_) ?_
    show OwnFin p e below s _ _ _ (T27.setTop (mkF m 206 #[iv fl, iv pk, .val (.long qa), .second, .val (.long qb), .second, .val (.long qc), .second, iv lg, iv (Int32.ofNat nm), iv (Int32.ofNat pr), iv (Int32.ofNat half), iv (Int32.ofNat m_), iv (Int32.ofNat (m_ / 64)), rv b11, rv b23, iv sz, iv (own_low nw A iB), iv (Int32.ofNat (m_ / pr)), .unset, .unset, .unset, .unset, .unset, .unset, .unset, .unset, .unset, .unset] [(.int (6 : Int32)), (.int (Int32.ofNat (m_ / pr))), (.ref b23)]))
    refine own_go (fun t_ k_ => XS.iushr X27.here hx rfl (hb hby at_206) rfl k_) ?_
    show OwnFin p e below s _ _ _ (T27.setTop (mkF m 207 #[iv fl, iv pk, .val (.long qa), .second, .val (.long qb), .second, .val (.long qc), .second, iv lg, iv (Int32.ofNat nm), iv (Int32.ofNat pr), iv (Int32.ofNat half), iv (Int32.ofNat m_), iv (Int32.ofNat (m_ / 64)), rv b11, rv b23, iv sz, iv (own_low nw A iB), iv (Int32.ofNat (m_ / pr)), .unset, .unset, .unset, .unset, .unset, .unset, .unset, .unset, .unset, .unset] [(.int (((Int32.ofNat (m_ / pr)).toUInt32 >>> ((6 : Int32) &&& 31).toUInt32).toInt32)), (.ref b23)]))
    rw [show (((Int32.ofNat (m_ / pr)).toUInt32 >>> ((6 : Int32) &&& 31).toUInt32).toInt32) = (Int32.ofNat (m_ / pr / 64)) from own_shr6' rfl (by omega)]
    show OwnFin p e below s _ _ _ (T27.setTop (mkF m 207 #[iv fl, iv pk, .val (.long qa), .second, .val (.long qb), .second, .val (.long qc), .second, iv lg, iv (Int32.ofNat nm), iv (Int32.ofNat pr), iv (Int32.ofNat half), iv (Int32.ofNat m_), iv (Int32.ofNat (m_ / 64)), rv b11, rv b23, iv sz, iv (own_low nw A iB), iv (Int32.ofNat (m_ / pr)), .unset, .unset, .unset, .unset, .unset, .unset, .unset, .unset, .unset, .unset] [(.int (Int32.ofNat (m_ / pr / 64))), (.ref b23)]))
    obtain ⟨v28, T28, L28, X28, hQ28, st28⟩ := own_callV X27 hx hZ (y := (⟨"com/example/nearside/nearside/slotted/delay/OfferSet", "racksWord", "(I)J"⟩ : MethodName)) (z := (⟨"com/example/nearside/nearside/slotted/delay/OfferSet", "racksWord", "(I)J"⟩ : MethodName)) hown (hw _ (List.mem_of_getElem? (i := 60) rfl)) (hw _ (List.mem_of_getElem? (i := 61) rfl)) (notFace_of_selects (args := #[]) (mvT hZ (hw _ (List.mem_of_getElem? (i := 63) rfl)))) (hw _ (List.mem_of_getElem? (i := 63) rfl)) (hw _ (List.mem_of_getElem? (i := 62) rfl)) (hw _ (List.mem_of_getElem? (i := 5) rfl)) (hw _ (List.mem_of_getElem? (i := 64) rfl)) (by decide) (W := 0) (rm9 l Z a0 hw [] b23 (Int32.ofNat (m_ / pr / 64)) ak ((nm / pr + 63) / 64) (m_ / pr / 64) _ T25.heap n0 Z25 rfl (by omega) Fq25_racks Va_ak) (by decide) (by decide) Eq25 (g := (mkF m 207 #[iv fl, iv pk, .val (.long qa), .second, .val (.long qb), .second, .val (.long qc), .second, iv lg, iv (Int32.ofNat nm), iv (Int32.ofNat pr), iv (Int32.ofNat half), iv (Int32.ofNat m_), iv (Int32.ofNat (m_ / 64)), rv b11, rv b23, iv sz, iv (own_low nw A iB), iv (Int32.ofNat (m_ / pr)), .unset, .unset, .unset, .unset, .unset, .unset, .unset, .unset, .unset, .unset] [(.int (Int32.ofNat (m_ / pr / 64))), (.ref b23)])) rfl (by rw [hml]; rfl) (argsL := [(.int (Int32.ofNat (m_ / pr / 64)))]) (rest := []) (lenOf pd_0_7 rfl) rfl (by show 2 * 0 + _ ≤ _; exact Nat.le_of_eq rfl) (hb hby at_207) e27 rfl (by decide) (by decide)
    obtain ⟨rfl, Nq28, e28⟩ := hQ28
    have N28 := Fr.app N27 Nq28
    refine own_go st28 ?_
    show OwnFin p e below s _ _ _ (T28.setTop (mkF m 210 #[iv fl, iv pk, .val (.long qa), .second, .val (.long qb), .second, .val (.long qc), .second, iv lg, iv (Int32.ofNat nm), iv (Int32.ofNat pr), iv (Int32.ofNat half), iv (Int32.ofNat m_), iv (Int32.ofNat (m_ / 64)), rv b11, rv b23, iv sz, iv (own_low nw A iB), iv (Int32.ofNat (m_ / pr)), .unset, .unset, .unset, .unset, .unset, .unset, .unset, .unset, .unset, .unset] [(.long (R (m_ / pr / 64)))]))
    refine own_go (fun t_ k_ => XS.lstore X28.here hx rfl (hb hby at_210) rfl (l' := #[iv fl, iv pk, .val (.long qa), .second, .val (.long qb), .second, .val (.long qc), .second, iv lg, iv (Int32.ofNat nm), iv (Int32.ofNat pr), iv (Int32.ofNat half), iv (Int32.ofNat m_), iv (Int32.ofNat (m_ / 64)), rv b11, rv b23, iv sz, iv (own_low nw A iB), iv (Int32.ofNat (m_ / pr)), .val (.long (R (m_ / pr / 64))), .second, .unset, .unset, .unset, .unset, .unset, .unset, .unset, .unset]) rfl k_) ?_
    show OwnFin p e below s _ _ _ (T28.setTop (mkF m 212 #[iv fl, iv pk, .val (.long qa), .second, .val (.long qb), .second, .val (.long qc), .second, iv lg, iv (Int32.ofNat nm), iv (Int32.ofNat pr), iv (Int32.ofNat half), iv (Int32.ofNat m_), iv (Int32.ofNat (m_ / 64)), rv b11, rv b23, iv sz, iv (own_low nw A iB), iv (Int32.ofNat (m_ / pr)), .val (.long (R (m_ / pr / 64))), .second, .unset, .unset, .unset, .unset, .unset, .unset, .unset, .unset] []))
    refine own_go (fun t_ k_ => XS.aload X28.here hx rfl (hb hby at_212) rfl rfl k_) ?_
    show OwnFin p e below s _ _ _ (T28.setTop (mkF m 214 #[iv fl, iv pk, .val (.long qa), .second, .val (.long qb), .second, .val (.long qc), .second, iv lg, iv (Int32.ofNat nm), iv (Int32.ofNat pr), iv (Int32.ofNat half), iv (Int32.ofNat m_), iv (Int32.ofNat (m_ / 64)), rv b11, rv b23, iv sz, iv (own_low nw A iB), iv (Int32.ofNat (m_ / pr)), .val (.long (R (m_ / pr / 64))), .second, .unset, .unset, .unset, .unset, .unset, .unset, .unset, .unset] [(.ref b23)]))
    refine own_go (fun t_ k_ => XS.iload X28.here hx rfl (hb hby at_214) rfl k_) ?_
    show OwnFin p e below s _ _ _ (T28.setTop (mkF m 216 #[iv fl, iv pk, .val (.long qa), .second, .val (.long qb), .second, .val (.long qc), .second, iv lg, iv (Int32.ofNat nm), iv (Int32.ofNat pr), iv (Int32.ofNat half), iv (Int32.ofNat m_), iv (Int32.ofNat (m_ / 64)), rv b11, rv b23, iv sz, iv (own_low nw A iB), iv (Int32.ofNat (m_ / pr)), .val (.long (R (m_ / pr / 64))), .second, .unset, .unset, .unset, .unset, .unset, .unset, .unset, .unset] [(.int (Int32.ofNat m_)), (.ref b23)]))
    obtain ⟨v29, T29, L29, X29, hQ29, st29⟩ := own_callV X28 hx hZ (y := (⟨"com/example/nearside/nearside/slotted/delay/OfferSet", "remove", "(I)V"⟩ : MethodName)) (z := (⟨"com/example/nearside/nearside/slotted/delay/OfferSet", "remove", "(I)V"⟩ : MethodName)) hown (hw _ (List.mem_of_getElem? (i := 65) rfl)) (hw _ (List.mem_of_getElem? (i := 66) rfl)) (notFace_of_selects (args := #[]) (mvT hZ (hw _ (List.mem_of_getElem? (i := 68) rfl)))) (hw _ (List.mem_of_getElem? (i := 68) rfl)) (hw _ (List.mem_of_getElem? (i := 67) rfl)) (hw _ (List.mem_of_getElem? (i := 5) rfl)) (hw _ (List.mem_of_getElem? (i := 69) rfl)) (by decide) (W := 0) (rm10 l Z a0 hw [] b23 (Int32.ofNat m_) aw ab ar ak ao nm nw nb half pr m_ A iB (own_ci A pr) R sz T25.heap n0 Z25 rfl hP hD hmn Eq25 Fq25_words Fq25_inBlocks Fq25_inRacks Fq25_racks Fq25_rackOf Fq25_blocked Fq25_size Va_aw Va_ab Va_ar Va_ak V_ao_25 ne_b23_aw ne_b23_ab ne_b23_ar ne_b23_ak ne_b23_ao ne_aw_ab ne_aw_ar ne_aw_ak ne_aw_ao ne_ab_ar ne_ab_ak ne_ab_ao ne_ar_ak ne_ar_ao ne_ak_ao g_b23 g_aw g_ab g_ar g_ak) (by decide) (by decide) Eq25 (g := (mkF m 216 #[iv fl, iv pk, .val (.long qa), .second, .val (.long qb), .second, .val (.long qc), .second, iv lg, iv (Int32.ofNat nm), iv (Int32.ofNat pr), iv (Int32.ofNat half), iv (Int32.ofNat m_), iv (Int32.ofNat (m_ / 64)), rv b11, rv b23, iv sz, iv (own_low nw A iB), iv (Int32.ofNat (m_ / pr)), .val (.long (R (m_ / pr / 64))), .second, .unset, .unset, .unset, .unset, .unset, .unset, .unset, .unset] [(.int (Int32.ofNat m_)), (.ref b23)])) rfl (by rw [hml]; rfl) (argsL := [(.int (Int32.ofNat m_))]) (rest := []) (lenOf pd_0_8 rfl) rfl (by show 2 * 0 + _ ≤ _; exact Nat.le_of_eq rfl) (hb hby at_216) e28 rfl (by decide) (by decide)
    obtain ⟨rfl, Nq29, Kq29, Eq29, Fq29_words, Fq29_inBlocks, Fq29_racks, Fq29_size, Vb_aw, Vb_ab, Vb_ak⟩ := hQ29
    have N29 := Fr.app N28 Nq29
    have V_A_29 := V_A_25.keep Kq29 (ninS ne_b11_b23 (ninS ne_b11_aw (ninS ne_b11_ab (ninS ne_b11_ar (ninS ne_b11_ak nin0)))))
    have Eq25_29 := Eq25.keep Kq29
    have V_ao_29 := V_ao_25.keep Kq29 (ninS (Ne.symm ne_b23_ao) (ninS (Ne.symm ne_aw_ao) (ninS (Ne.symm ne_ab_ao) (ninS (Ne.symm ne_ar_ao) (ninS (Ne.symm ne_ak_ao) nin0)))))
    have Z29 : n0 ≤ T29.heap.size := Nat.le_trans Z25 Kq29.1
    refine own_go st29 ?_
    show OwnFin p e below s _ _ _ (T29.setTop (mkF m 219 #[iv fl, iv pk, .val (.long qa), .second, .val (.long qb), .second, .val (.long qc), .second, iv lg, iv (Int32.ofNat nm), iv (Int32.ofNat pr), iv (Int32.ofNat half), iv (Int32.ofNat m_), iv (Int32.ofNat (m_ / 64)), rv b11, rv b23, iv sz, iv (own_low nw A iB), iv (Int32.ofNat (m_ / pr)), .val (.long (R (m_ / pr / 64))), .second, .unset, .unset, .unset, .unset, .unset, .unset, .unset, .unset] []))
    refine own_go (fun t_ k_ => XS.aload X29.here hx rfl (hb hby at_219) rfl rfl k_) ?_
    show OwnFin p e below s _ _ _ (T29.setTop (mkF m 221 #[iv fl, iv pk, .val (.long qa), .second, .val (.long qb), .second, .val (.long qc), .second, iv lg, iv (Int32.ofNat nm), iv (Int32.ofNat pr), iv (Int32.ofNat half), iv (Int32.ofNat m_), iv (Int32.ofNat (m_ / 64)), rv b11, rv b23, iv sz, iv (own_low nw A iB), iv (Int32.ofNat (m_ / pr)), .val (.long (R (m_ / pr / 64))), .second, .unset, .unset, .unset, .unset, .unset, .unset, .unset, .unset] [(.ref b11)]))
    refine own_go (fun t_ k_ => XS.iload X29.here hx rfl (hb hby at_221) rfl k_) ?_
    show OwnFin p e below s _ _ _ (T29.setTop (mkF m 223 #[iv fl, iv pk, .val (.long qa), .second, .val (.long qb), .second, .val (.long qc), .second, iv lg, iv (Int32.ofNat nm), iv (Int32.ofNat pr), iv (Int32.ofNat half), iv (Int32.ofNat m_), iv (Int32.ofNat (m_ / 64)), rv b11, rv b23, iv sz, iv (own_low nw A iB), iv (Int32.ofNat (m_ / pr)), .val (.long (R (m_ / pr / 64))), .second, .unset, .unset, .unset, .unset, .unset, .unset, .unset, .unset] [(.int (Int32.ofNat (m_ / 64))), (.ref b11)]))
    refine own_go (own_laload X29 hx hZ rfl V_A_29 (i := (m_ / 64)) rfl (by omega) (g := (mkF m 223 #[iv fl, iv pk, .val (.long qa), .second, .val (.long qb), .second, .val (.long qc), .second, iv lg, iv (Int32.ofNat nm), iv (Int32.ofNat pr), iv (Int32.ofNat half), iv (Int32.ofNat m_), iv (Int32.ofNat (m_ / 64)), rv b11, rv b23, iv sz, iv (own_low nw A iB), iv (Int32.ofNat (m_ / pr)), .val (.long (R (m_ / pr / 64))), .second, .unset, .unset, .unset, .unset, .unset, .unset, .unset, .unset] [(.int (Int32.ofNat (m_ / 64))), (.ref b11)])) rfl rfl (hb hby at_223)) ?_
    show OwnFin p e below s _ _ _ (T29.setTop (mkF m 224 #[iv fl, iv pk, .val (.long qa), .second, .val (.long qb), .second, .val (.long qc), .second, iv lg, iv (Int32.ofNat nm), iv (Int32.ofNat pr), iv (Int32.ofNat half), iv (Int32.ofNat m_), iv (Int32.ofNat (m_ / 64)), rv b11, rv b23, iv sz, iv (own_low nw A iB), iv (Int32.ofNat (m_ / pr)), .val (.long (R (m_ / pr / 64))), .second, .unset, .unset, .unset, .unset, .unset, .unset, .unset, .unset] [(.long (A (m_ / 64)))]))
    refine own_go (fun t_ k_ => XS.lconst X29.here hx rfl (hb hby at_224) k_) ?_
    show OwnFin p e below s _ _ _ (T29.setTop (mkF m 225 #[iv fl, iv pk, .val (.long qa), .second, .val (.long qb), .second, .val (.long qc), .second, iv lg, iv (Int32.ofNat nm), iv (Int32.ofNat pr), iv (Int32.ofNat half), iv (Int32.ofNat m_), iv (Int32.ofNat (m_ / 64)), rv b11, rv b23, iv sz, iv (own_low nw A iB), iv (Int32.ofNat (m_ / pr)), .val (.long (R (m_ / pr / 64))), .second, .unset, .unset, .unset, .unset, .unset, .unset, .unset, .unset] [(.long (1 : Int64)), (.long (A (m_ / 64)))]))
    refine own_go (fun t_ k_ => XS.iload X29.here hx rfl (hb hby at_225) rfl k_) ?_
    show OwnFin p e below s _ _ _ (T29.setTop (mkF m 227 #[iv fl, iv pk, .val (.long qa), .second, .val (.long qb), .second, .val (.long qc), .second, iv lg, iv (Int32.ofNat nm), iv (Int32.ofNat pr), iv (Int32.ofNat half), iv (Int32.ofNat m_), iv (Int32.ofNat (m_ / 64)), rv b11, rv b23, iv sz, iv (own_low nw A iB), iv (Int32.ofNat (m_ / pr)), .val (.long (R (m_ / pr / 64))), .second, .unset, .unset, .unset, .unset, .unset, .unset, .unset, .unset] [(.int (Int32.ofNat m_)), (.long (1 : Int64)), (.long (A (m_ / 64)))]))
    refine own_go (fun t_ k_ => XS.lshl X29.here hx rfl (hb hby at_227) rfl k_) ?_
    show OwnFin p e below s _ _ _ (T29.setTop (mkF m 228 #[iv fl, iv pk, .val (.long qa), .second, .val (.long qb), .second, .val (.long qc), .second, iv lg, iv (Int32.ofNat nm), iv (Int32.ofNat pr), iv (Int32.ofNat half), iv (Int32.ofNat m_), iv (Int32.ofNat (m_ / 64)), rv b11, rv b23, iv sz, iv (own_low nw A iB), iv (Int32.ofNat (m_ / pr)), .val (.long (R (m_ / pr / 64))), .second, .unset, .unset, .unset, .unset, .unset, .unset, .unset, .unset] [(.long ((1 : Int64) <<< ((Int32.ofNat m_) &&& 0x3f).toInt64)), (.long (A (m_ / 64)))]))
    show OwnFin p e below s _ _ _ (T29.setTop (mkF m 228 #[iv fl, iv pk, .val (.long qa), .second, .val (.long qb), .second, .val (.long qc), .second, iv lg, iv (Int32.ofNat nm), iv (Int32.ofNat pr), iv (Int32.ofNat half), iv (Int32.ofNat m_), iv (Int32.ofNat (m_ / 64)), rv b11, rv b23, iv sz, iv (own_low nw A iB), iv (Int32.ofNat (m_ / pr)), .val (.long (R (m_ / pr / 64))), .second, .unset, .unset, .unset, .unset, .unset, .unset, .unset, .unset] [(.long (own_z m_)), (.long (A (m_ / 64)))]))
    refine own_go (X29.ldc2Long hx hown (mvT hZ (hw _ (List.mem_of_getElem? (i := 2) rfl))) (g := (mkF m 228 #[iv fl, iv pk, .val (.long qa), .second, .val (.long qb), .second, .val (.long qc), .second, iv lg, iv (Int32.ofNat nm), iv (Int32.ofNat pr), iv (Int32.ofNat half), iv (Int32.ofNat m_), iv (Int32.ofNat (m_ / 64)), rv b11, rv b23, iv sz, iv (own_low nw A iB), iv (Int32.ofNat (m_ / pr)), .val (.long (R (m_ / pr / 64))), .second, .unset, .unset, .unset, .unset, .unset, .unset, .unset, .unset] [(.long (own_z m_)), (.long (A (m_ / 64)))])) rfl (hb hby at_228)) ?_
    show OwnFin p e below s _ _ _ (T29.setTop (mkF m 231 #[iv fl, iv pk, .val (.long qa), .second, .val (.long qb), .second, .val (.long qc), .second, iv lg, iv (Int32.ofNat nm), iv (Int32.ofNat pr), iv (Int32.ofNat half), iv (Int32.ofNat m_), iv (Int32.ofNat (m_ / 64)), rv b11, rv b23, iv sz, iv (own_low nw A iB), iv (Int32.ofNat (m_ / pr)), .val (.long (R (m_ / pr / 64))), .second, .unset, .unset, .unset, .unset, .unset, .unset, .unset, .unset] [(.long (-1 : Int64)), (.long (own_z m_)), (.long (A (m_ / 64)))]))
    refine own_go (fun t_ k_ => XS.lxor X29.here hx rfl (hb hby at_231) rfl k_) ?_
    show OwnFin p e below s _ _ _ (T29.setTop (mkF m 232 #[iv fl, iv pk, .val (.long qa), .second, .val (.long qb), .second, .val (.long qc), .second, iv lg, iv (Int32.ofNat nm), iv (Int32.ofNat pr), iv (Int32.ofNat half), iv (Int32.ofNat m_), iv (Int32.ofNat (m_ / 64)), rv b11, rv b23, iv sz, iv (own_low nw A iB), iv (Int32.ofNat (m_ / pr)), .val (.long (R (m_ / pr / 64))), .second, .unset, .unset, .unset, .unset, .unset, .unset, .unset, .unset] [(.long ((own_z m_) ^^^ (-1 : Int64))), (.long (A (m_ / 64)))]))
    refine own_go (fun t_ k_ => XS.land X29.here hx rfl (hb hby at_232) rfl k_) ?_
    show OwnFin p e below s _ _ _ (T29.setTop (mkF m 233 #[iv fl, iv pk, .val (.long qa), .second, .val (.long qb), .second, .val (.long qc), .second, iv lg, iv (Int32.ofNat nm), iv (Int32.ofNat pr), iv (Int32.ofNat half), iv (Int32.ofNat m_), iv (Int32.ofNat (m_ / 64)), rv b11, rv b23, iv sz, iv (own_low nw A iB), iv (Int32.ofNat (m_ / pr)), .val (.long (R (m_ / pr / 64))), .second, .unset, .unset, .unset, .unset, .unset, .unset, .unset, .unset] [(.long ((A (m_ / 64)) &&& ((own_z m_) ^^^ (-1 : Int64))))]))
    refine own_go (fun t_ k_ => XS.lstore X29.here hx rfl (hb hby at_233) rfl (l' := #[iv fl, iv pk, .val (.long qa), .second, .val (.long qb), .second, .val (.long qc), .second, iv lg, iv (Int32.ofNat nm), iv (Int32.ofNat pr), iv (Int32.ofNat half), iv (Int32.ofNat m_), iv (Int32.ofNat (m_ / 64)), rv b11, rv b23, iv sz, iv (own_low nw A iB), iv (Int32.ofNat (m_ / pr)), .val (.long (R (m_ / pr / 64))), .second, .val (.long ((A (m_ / 64)) &&& ((own_z m_) ^^^ (-1 : Int64)))), .second, .unset, .unset, .unset, .unset, .unset, .unset]) rfl k_) ?_
    show OwnFin p e below s _ _ _ (T29.setTop (mkF m 235 #[iv fl, iv pk, .val (.long qa), .second, .val (.long qb), .second, .val (.long qc), .second, iv lg, iv (Int32.ofNat nm), iv (Int32.ofNat pr), iv (Int32.ofNat half), iv (Int32.ofNat m_), iv (Int32.ofNat (m_ / 64)), rv b11, rv b23, iv sz, iv (own_low nw A iB), iv (Int32.ofNat (m_ / pr)), .val (.long (R (m_ / pr / 64))), .second, .val (.long ((A (m_ / 64)) &&& ((own_z m_) ^^^ (-1 : Int64)))), .second, .unset, .unset, .unset, .unset, .unset, .unset] []))
    have fin_ : ∀ (X : Int64) (l23 : Slot) (l26 : Slot) (l27 : Slot) (l28 : Slot) (T1 : State) (locs1 : List Loc) (h1 : Heap), Stand p l e room_1 s m #[(.int fl), (.int pk), (.long qa), (.long qb), (.long qc)] below meth c T1 locs1 (0 + 1 + 1 + 5 + 0 + 0 + 0 + 0 + 0) (0 + 10 + 8 + 1302 + 0 + 0 + 0 + 0 + 0) → T1.heap = h1 → Fr n0 locs1 → n0 ≤ h1.size → OwnArr Z h1 b11 .long 10 (fun k => .long (A k)) → Exa Z h1 b23 "com/example/nearside/nearside/slotted/delay/OfferSet" → OwnArr Z h1 ao .int nm (fun k => .int (Int32.ofNat (k / pr))) → Fld Z h1 b23 "com/example/nearside/nearside/slotted/delay/OfferSet" "words" "[J" (.ref aw) → Fld Z h1 b23 "com/example/nearside/nearside/slotted/delay/OfferSet" "inBlocks" "[I" (.ref ab) → Fld Z h1 b23 "com/example/nearside/nearside/slotted/delay/OfferSet" "racks" "[J" (.ref ak) → Fld Z h1 b23 "com/example/nearside/nearside/slotted/delay/OfferSet" "size" "I" (.int (sz - (1 : Int32))) → OwnArr Z h1 aw .long nw (fun k => (.long (own_rmW A m_ k))) → OwnArr Z h1 ab .int nb (fun k => (.int (own_rmB nb iB m_ k))) → OwnArr Z h1 ak .long ((nm / pr + 63) / 64) (fun k => (.long (own_rmR R (own_ci A pr) m_ pr k))) → (X = own_rmR R (own_ci A pr) m_ pr (m_ / pr / 64)) → OwnFin p e below s (fun v h L => v = some (.int 1) ∧ Fr n0 L) room_1.cells room_1.slots (T1.setTop (mkF m 381 #[iv fl, iv pk, .val (.long qa), .second, .val (.long qb), .second, .val (.long qc), .second, iv lg, iv (Int32.ofNat nm), iv (Int32.ofNat pr), iv (Int32.ofNat half), iv (Int32.ofNat m_), iv (Int32.ofNat (m_ / 64)), rv b11, rv b23, iv sz, iv (own_low nw A iB), iv (Int32.ofNat (m_ / pr)), .val (.long (R (m_ / pr / 64))), .second, .val (.long ((A (m_ / 64)) &&& ((own_z m_) ^^^ (-1 : Int64)))), .second, l23, .val (.long X), .second, l26, l27, l28] [])) := by
      intro X l23 l26 l27 l28 T1 locs1 h1 X1 e1 N1 Z1 H0 H1 H2 H3 H4 H5 H6 H7 H8 H9 hX
      obtain ⟨w1, hw1, hw1n, hw1d⟩ : ∃ w1, Int32.ofNat (m_ / 64) ^^^ (1 : Int32) = Int32.ofNat w1 ∧ ¬ w1 = m_ / 64 ∧ w1 / 2 = m_ / 64 / 2 := ⟨_, own_xor1 _ (by omega)⟩
      refine own_go (fun t_ k_ => XS.aload X1.here hx rfl (hb hby at_381) rfl rfl k_) ?_
      show OwnFin p e below s _ _ _ (T1.setTop (mkF m 383 #[iv fl, iv pk, .val (.long qa), .second, .val (.long qb), .second, .val (.long qc), .second, iv lg, iv (Int32.ofNat nm), iv (Int32.ofNat pr), iv (Int32.ofNat half), iv (Int32.ofNat m_), iv (Int32.ofNat (m_ / 64)), rv b11, rv b23, iv sz, iv (own_low nw A iB), iv (Int32.ofNat (m_ / pr)), .val (.long (R (m_ / pr / 64))), .second, .val (.long ((A (m_ / 64)) &&& ((own_z m_) ^^^ (-1 : Int64)))), .second, l23, .val (.long X), .second, l26, l27, l28] [(.ref b23)]))
      refine own_go (fun t_ k_ => XS.iload X1.here hx rfl (hb hby at_383) rfl k_) ?_
      show OwnFin p e below s _ _ _ (T1.setTop (mkF m 385 #[iv fl, iv pk, .val (.long qa), .second, .val (.long qb), .second, .val (.long qc), .second, iv lg, iv (Int32.ofNat nm), iv (Int32.ofNat pr), iv (Int32.ofNat half), iv (Int32.ofNat m_), iv (Int32.ofNat (m_ / 64)), rv b11, rv b23, iv sz, iv (own_low nw A iB), iv (Int32.ofNat (m_ / pr)), .val (.long (R (m_ / pr / 64))), .second, .val (.long ((A (m_ / 64)) &&& ((own_z m_) ^^^ (-1 : Int64)))), .second, l23, .val (.long X), .second, l26, l27, l28] [(.int (Int32.ofNat (m_ / 64))), (.ref b23)]))
      obtain ⟨v30, T30, L30, X30, hQ30, st30⟩ := own_callV X1 hx hZ (y := (⟨"com/example/nearside/nearside/slotted/delay/OfferSet", "word", "(I)J"⟩ : MethodName)) (z := (⟨"com/example/nearside/nearside/slotted/delay/OfferSet", "word", "(I)J"⟩ : MethodName)) hown (hw _ (List.mem_of_getElem? (i := 70) rfl)) (hw _ (List.mem_of_getElem? (i := 71) rfl)) (notFace_of_selects (args := #[]) (mvT hZ (hw _ (List.mem_of_getElem? (i := 73) rfl)))) (hw _ (List.mem_of_getElem? (i := 73) rfl)) (hw _ (List.mem_of_getElem? (i := 72) rfl)) (hw _ (List.mem_of_getElem? (i := 5) rfl)) (hw _ (List.mem_of_getElem? (i := 74) rfl)) (by decide) (W := 0) (rm11 l Z a0 hw [] b23 (Int32.ofNat (m_ / 64)) aw nw (m_ / 64) _ h1 n0 Z1 rfl (by omega) H3 H7) (by decide) (by decide) H1 (g := (mkF m 385 #[iv fl, iv pk, .val (.long qa), .second, .val (.long qb), .second, .val (.long qc), .second, iv lg, iv (Int32.ofNat nm), iv (Int32.ofNat pr), iv (Int32.ofNat half), iv (Int32.ofNat m_), iv (Int32.ofNat (m_ / 64)), rv b11, rv b23, iv sz, iv (own_low nw A iB), iv (Int32.ofNat (m_ / pr)), .val (.long (R (m_ / pr / 64))), .second, .val (.long ((A (m_ / 64)) &&& ((own_z m_) ^^^ (-1 : Int64)))), .second, l23, .val (.long X), .second, l26, l27, l28] [(.int (Int32.ofNat (m_ / 64))), (.ref b23)])) rfl (by rw [hml]; rfl) (argsL := [(.int (Int32.ofNat (m_ / 64)))]) (rest := []) (lenOf pd_0_7 rfl) rfl (by show 2 * 0 + _ ≤ _; exact Nat.le_of_eq rfl) (hb hby at_385) e1 rfl (by decide) (by decide)
      obtain ⟨rfl, Nq30, e30⟩ := hQ30
      have N30 := Fr.app N1 Nq30
      refine own_go st30 ?_
      show OwnFin p e below s _ _ _ (T30.setTop (mkF m 388 #[iv fl, iv pk, .val (.long qa), .second, .val (.long qb), .second, .val (.long qc), .second, iv lg, iv (Int32.ofNat nm), iv (Int32.ofNat pr), iv (Int32.ofNat half), iv (Int32.ofNat m_), iv (Int32.ofNat (m_ / 64)), rv b11, rv b23, iv sz, iv (own_low nw A iB), iv (Int32.ofNat (m_ / pr)), .val (.long (R (m_ / pr / 64))), .second, .val (.long ((A (m_ / 64)) &&& ((own_z m_) ^^^ (-1 : Int64)))), .second, l23, .val (.long X), .second, l26, l27, l28] [(.long (own_rmW A m_ (m_ / 64)))]))
      refine own_go (fun t_ k_ => XS.lload X30.here hx rfl (hb hby at_388) rfl k_) ?_
      show OwnFin p e below s _ _ _ (T30.setTop (mkF m 390 #[iv fl, iv pk, .val (.long qa), .second, .val (.long qb), .second, .val (.long qc), .second, iv lg, iv (Int32.ofNat nm), iv (Int32.ofNat pr), iv (Int32.ofNat half), iv (Int32.ofNat m_), iv (Int32.ofNat (m_ / 64)), rv b11, rv b23, iv sz, iv (own_low nw A iB), iv (Int32.ofNat (m_ / pr)), .val (.long (R (m_ / pr / 64))), .second, .val (.long ((A (m_ / 64)) &&& ((own_z m_) ^^^ (-1 : Int64)))), .second, l23, .val (.long X), .second, l26, l27, l28] [(.long ((A (m_ / 64)) &&& ((own_z m_) ^^^ (-1 : Int64)))), (.long (own_rmW A m_ (m_ / 64)))]))
      refine own_go (fun t_ k_ => XS.lcmp X30.here hx rfl (hb hby at_390) rfl k_) ?_
      show OwnFin p e below s _ _ _ (T30.setTop (mkF m 391 #[iv fl, iv pk, .val (.long qa), .second, .val (.long qb), .second, .val (.long qc), .second, iv lg, iv (Int32.ofNat nm), iv (Int32.ofNat pr), iv (Int32.ofNat half), iv (Int32.ofNat m_), iv (Int32.ofNat (m_ / 64)), rv b11, rv b23, iv sz, iv (own_low nw A iB), iv (Int32.ofNat (m_ / pr)), .val (.long (R (m_ / pr / 64))), .second, .val (.long ((A (m_ / 64)) &&& ((own_z m_) ^^^ (-1 : Int64)))), .second, l23, .val (.long X), .second, l26, l27, l28] [(.int (lcmpW (own_rmW A m_ (m_ / 64)) ((A (m_ / 64)) &&& ((own_z m_) ^^^ (-1 : Int64)))))]))
      have hc391 : (own_rmW A m_ (m_ / 64)) = ((A (m_ / 64)) &&& ((own_z m_) ^^^ (-1 : Int64))) := if_pos rfl
      refine own_go (fun t_ k_ => XS.ifNo X30.here hx rfl (hb hby at_391) rfl ((if0 _ _).trans (teq ((lw_eq (own_rmW A m_ (m_ / 64)) ((A (m_ / 64)) &&& ((own_z m_) ^^^ (-1 : Int64)))).mpr hc391)).2) k_) ?_
      show OwnFin p e below s _ _ _ (T30.setTop (mkF m 394 #[iv fl, iv pk, .val (.long qa), .second, .val (.long qb), .second, .val (.long qc), .second, iv lg, iv (Int32.ofNat nm), iv (Int32.ofNat pr), iv (Int32.ofNat half), iv (Int32.ofNat m_), iv (Int32.ofNat (m_ / 64)), rv b11, rv b23, iv sz, iv (own_low nw A iB), iv (Int32.ofNat (m_ / pr)), .val (.long (R (m_ / pr / 64))), .second, .val (.long ((A (m_ / 64)) &&& ((own_z m_) ^^^ (-1 : Int64)))), .second, l23, .val (.long X), .second, l26, l27, l28] []))
      refine own_go (fun t_ k_ => XS.aload X30.here hx rfl (hb hby at_394) rfl rfl k_) ?_
      show OwnFin p e below s _ _ _ (T30.setTop (mkF m 396 #[iv fl, iv pk, .val (.long qa), .second, .val (.long qb), .second, .val (.long qc), .second, iv lg, iv (Int32.ofNat nm), iv (Int32.ofNat pr), iv (Int32.ofNat half), iv (Int32.ofNat m_), iv (Int32.ofNat (m_ / 64)), rv b11, rv b23, iv sz, iv (own_low nw A iB), iv (Int32.ofNat (m_ / pr)), .val (.long (R (m_ / pr / 64))), .second, .val (.long ((A (m_ / 64)) &&& ((own_z m_) ^^^ (-1 : Int64)))), .second, l23, .val (.long X), .second, l26, l27, l28] [(.ref b23)]))
      refine own_go (fun t_ k_ => XS.iload X30.here hx rfl (hb hby at_396) rfl k_) ?_
      show OwnFin p e below s _ _ _ (T30.setTop (mkF m 398 #[iv fl, iv pk, .val (.long qa), .second, .val (.long qb), .second, .val (.long qc), .second, iv lg, iv (Int32.ofNat nm), iv (Int32.ofNat pr), iv (Int32.ofNat half), iv (Int32.ofNat m_), iv (Int32.ofNat (m_ / 64)), rv b11, rv b23, iv sz, iv (own_low nw A iB), iv (Int32.ofNat (m_ / pr)), .val (.long (R (m_ / pr / 64))), .second, .val (.long ((A (m_ / 64)) &&& ((own_z m_) ^^^ (-1 : Int64)))), .second, l23, .val (.long X), .second, l26, l27, l28] [(.int (Int32.ofNat (m_ / 64))), (.ref b23)]))
      refine own_go (fun t_ k_ => XS.iconst X30.here hx rfl (hb hby at_398) k_) ?_
      show OwnFin p e below s _ _ _ (T30.setTop (mkF m 399 #[iv fl, iv pk, .val (.long qa), .second, .val (.long qb), .second, .val (.long qc), .second, iv lg, iv (Int32.ofNat nm), iv (Int32.ofNat pr), iv (Int32.ofNat half), iv (Int32.ofNat m_), iv (Int32.ofNat (m_ / 64)), rv b11, rv b23, iv sz, iv (own_low nw A iB), iv (Int32.ofNat (m_ / pr)), .val (.long (R (m_ / pr / 64))), .second, .val (.long ((A (m_ / 64)) &&& ((own_z m_) ^^^ (-1 : Int64)))), .second, l23, .val (.long X), .second, l26, l27, l28] [(.int (1 : Int32)), (.int (Int32.ofNat (m_ / 64))), (.ref b23)]))
      refine own_go (fun t_ k_ => XS.ixor X30.here hx rfl (hb hby at_399) rfl k_) ?_
      show OwnFin p e below s _ _ _ (T30.setTop (mkF m 400 #[iv fl, iv pk, .val (.long qa), .second, .val (.long qb), .second, .val (.long qc), .second, iv lg, iv (Int32.ofNat nm), iv (Int32.ofNat pr), iv (Int32.ofNat half), iv (Int32.ofNat m_), iv (Int32.ofNat (m_ / 64)), rv b11, rv b23, iv sz, iv (own_low nw A iB), iv (Int32.ofNat (m_ / pr)), .val (.long (R (m_ / pr / 64))), .second, .val (.long ((A (m_ / 64)) &&& ((own_z m_) ^^^ (-1 : Int64)))), .second, l23, .val (.long X), .second, l26, l27, l28] [(.int ((Int32.ofNat (m_ / 64)) ^^^ (1 : Int32))), (.ref b23)]))
      rw [show ((Int32.ofNat (m_ / 64)) ^^^ (1 : Int32)) = (Int32.ofNat w1) from hw1]
      show OwnFin p e below s _ _ _ (T30.setTop (mkF m 400 #[iv fl, iv pk, .val (.long qa), .second, .val (.long qb), .second, .val (.long qc), .second, iv lg, iv (Int32.ofNat nm), iv (Int32.ofNat pr), iv (Int32.ofNat half), iv (Int32.ofNat m_), iv (Int32.ofNat (m_ / 64)), rv b11, rv b23, iv sz, iv (own_low nw A iB), iv (Int32.ofNat (m_ / pr)), .val (.long (R (m_ / pr / 64))), .second, .val (.long ((A (m_ / 64)) &&& ((own_z m_) ^^^ (-1 : Int64)))), .second, l23, .val (.long X), .second, l26, l27, l28] [(.int (Int32.ofNat w1)), (.ref b23)]))
      obtain ⟨v31, T31, L31, X31, hQ31, st31⟩ := own_callV X30 hx hZ (y := (⟨"com/example/nearside/nearside/slotted/delay/OfferSet", "word", "(I)J"⟩ : MethodName)) (z := (⟨"com/example/nearside/nearside/slotted/delay/OfferSet", "word", "(I)J"⟩ : MethodName)) hown (hw _ (List.mem_of_getElem? (i := 70) rfl)) (hw _ (List.mem_of_getElem? (i := 71) rfl)) (notFace_of_selects (args := #[]) (mvT hZ (hw _ (List.mem_of_getElem? (i := 73) rfl)))) (hw _ (List.mem_of_getElem? (i := 73) rfl)) (hw _ (List.mem_of_getElem? (i := 72) rfl)) (hw _ (List.mem_of_getElem? (i := 5) rfl)) (hw _ (List.mem_of_getElem? (i := 74) rfl)) (by decide) (W := 0) (rm11 l Z a0 hw [] b23 (Int32.ofNat w1) aw nw w1 _ h1 n0 Z1 rfl (by omega) H3 H7) (by decide) (by decide) H1 (g := (mkF m 400 #[iv fl, iv pk, .val (.long qa), .second, .val (.long qb), .second, .val (.long qc), .second, iv lg, iv (Int32.ofNat nm), iv (Int32.ofNat pr), iv (Int32.ofNat half), iv (Int32.ofNat m_), iv (Int32.ofNat (m_ / 64)), rv b11, rv b23, iv sz, iv (own_low nw A iB), iv (Int32.ofNat (m_ / pr)), .val (.long (R (m_ / pr / 64))), .second, .val (.long ((A (m_ / 64)) &&& ((own_z m_) ^^^ (-1 : Int64)))), .second, l23, .val (.long X), .second, l26, l27, l28] [(.int (Int32.ofNat w1)), (.ref b23)])) rfl (by rw [hml]; rfl) (argsL := [(.int (Int32.ofNat w1))]) (rest := []) (lenOf pd_0_7 rfl) rfl (by show 2 * 0 + _ ≤ _; exact Nat.le_of_eq rfl) (hb hby at_400) e30 rfl (by decide) (by decide)
      obtain ⟨rfl, Nq31, e31⟩ := hQ31
      have N31 := Fr.app N30 Nq31
      refine own_go st31 ?_
      show OwnFin p e below s _ _ _ (T31.setTop (mkF m 403 #[iv fl, iv pk, .val (.long qa), .second, .val (.long qb), .second, .val (.long qc), .second, iv lg, iv (Int32.ofNat nm), iv (Int32.ofNat pr), iv (Int32.ofNat half), iv (Int32.ofNat m_), iv (Int32.ofNat (m_ / 64)), rv b11, rv b23, iv sz, iv (own_low nw A iB), iv (Int32.ofNat (m_ / pr)), .val (.long (R (m_ / pr / 64))), .second, .val (.long ((A (m_ / 64)) &&& ((own_z m_) ^^^ (-1 : Int64)))), .second, l23, .val (.long X), .second, l26, l27, l28] [(.long (own_rmW A m_ w1))]))
      refine own_go (fun t_ k_ => XS.aload X31.here hx rfl (hb hby at_403) rfl rfl k_) ?_
      show OwnFin p e below s _ _ _ (T31.setTop (mkF m 405 #[iv fl, iv pk, .val (.long qa), .second, .val (.long qb), .second, .val (.long qc), .second, iv lg, iv (Int32.ofNat nm), iv (Int32.ofNat pr), iv (Int32.ofNat half), iv (Int32.ofNat m_), iv (Int32.ofNat (m_ / 64)), rv b11, rv b23, iv sz, iv (own_low nw A iB), iv (Int32.ofNat (m_ / pr)), .val (.long (R (m_ / pr / 64))), .second, .val (.long ((A (m_ / 64)) &&& ((own_z m_) ^^^ (-1 : Int64)))), .second, l23, .val (.long X), .second, l26, l27, l28] [(.ref b11), (.long (own_rmW A m_ w1))]))
      refine own_go (fun t_ k_ => XS.iload X31.here hx rfl (hb hby at_405) rfl k_) ?_
      show OwnFin p e below s _ _ _ (T31.setTop (mkF m 407 #[iv fl, iv pk, .val (.long qa), .second, .val (.long qb), .second, .val (.long qc), .second, iv lg, iv (Int32.ofNat nm), iv (Int32.ofNat pr), iv (Int32.ofNat half), iv (Int32.ofNat m_), iv (Int32.ofNat (m_ / 64)), rv b11, rv b23, iv sz, iv (own_low nw A iB), iv (Int32.ofNat (m_ / pr)), .val (.long (R (m_ / pr / 64))), .second, .val (.long ((A (m_ / 64)) &&& ((own_z m_) ^^^ (-1 : Int64)))), .second, l23, .val (.long X), .second, l26, l27, l28] [(.int (Int32.ofNat (m_ / 64))), (.ref b11), (.long (own_rmW A m_ w1))]))
      refine own_go (fun t_ k_ => XS.iconst X31.here hx rfl (hb hby at_407) k_) ?_
      show OwnFin p e below s _ _ _ (T31.setTop (mkF m 408 #[iv fl, iv pk, .val (.long qa), .second, .val (.long qb), .second, .val (.long qc), .second, iv lg, iv (Int32.ofNat nm), iv (Int32.ofNat pr), iv (Int32.ofNat half), iv (Int32.ofNat m_), iv (Int32.ofNat (m_ / 64)), rv b11, rv b23, iv sz, iv (own_low nw A iB), iv (Int32.ofNat (m_ / pr)), .val (.long (R (m_ / pr / 64))), .second, .val (.long ((A (m_ / 64)) &&& ((own_z m_) ^^^ (-1 : Int64)))), .second, l23, .val (.long X), .second, l26, l27, l28] [(.int (1 : Int32)), (.int (Int32.ofNat (m_ / 64))), (.ref b11), (.long (own_rmW A m_ w1))]))
      refine own_go (fun t_ k_ => XS.ixor X31.here hx rfl (hb hby at_408) rfl k_) ?_
      show OwnFin p e below s _ _ _ (T31.setTop (mkF m 409 #[iv fl, iv pk, .val (.long qa), .second, .val (.long qb), .second, .val (.long qc), .second, iv lg, iv (Int32.ofNat nm), iv (Int32.ofNat pr), iv (Int32.ofNat half), iv (Int32.ofNat m_), iv (Int32.ofNat (m_ / 64)), rv b11, rv b23, iv sz, iv (own_low nw A iB), iv (Int32.ofNat (m_ / pr)), .val (.long (R (m_ / pr / 64))), .second, .val (.long ((A (m_ / 64)) &&& ((own_z m_) ^^^ (-1 : Int64)))), .second, l23, .val (.long X), .second, l26, l27, l28] [(.int ((Int32.ofNat (m_ / 64)) ^^^ (1 : Int32))), (.ref b11), (.long (own_rmW A m_ w1))]))
      rw [show ((Int32.ofNat (m_ / 64)) ^^^ (1 : Int32)) = (Int32.ofNat w1) from hw1]
      show OwnFin p e below s _ _ _ (T31.setTop (mkF m 409 #[iv fl, iv pk, .val (.long qa), .second, .val (.long qb), .second, .val (.long qc), .second, iv lg, iv (Int32.ofNat nm), iv (Int32.ofNat pr), iv (Int32.ofNat half), iv (Int32.ofNat m_), iv (Int32.ofNat (m_ / 64)), rv b11, rv b23, iv sz, iv (own_low nw A iB), iv (Int32.ofNat (m_ / pr)), .val (.long (R (m_ / pr / 64))), .second, .val (.long ((A (m_ / 64)) &&& ((own_z m_) ^^^ (-1 : Int64)))), .second, l23, .val (.long X), .second, l26, l27, l28] [(.int (Int32.ofNat w1)), (.ref b11), (.long (own_rmW A m_ w1))]))
      refine own_go (own_laload X31 hx hZ e31 H0 (i := w1) rfl (by omega) (g := (mkF m 409 #[iv fl, iv pk, .val (.long qa), .second, .val (.long qb), .second, .val (.long qc), .second, iv lg, iv (Int32.ofNat nm), iv (Int32.ofNat pr), iv (Int32.ofNat half), iv (Int32.ofNat m_), iv (Int32.ofNat (m_ / 64)), rv b11, rv b23, iv sz, iv (own_low nw A iB), iv (Int32.ofNat (m_ / pr)), .val (.long (R (m_ / pr / 64))), .second, .val (.long ((A (m_ / 64)) &&& ((own_z m_) ^^^ (-1 : Int64)))), .second, l23, .val (.long X), .second, l26, l27, l28] [(.int (Int32.ofNat w1)), (.ref b11), (.long (own_rmW A m_ w1))])) rfl rfl (hb hby at_409)) ?_
      show OwnFin p e below s _ _ _ (T31.setTop (mkF m 410 #[iv fl, iv pk, .val (.long qa), .second, .val (.long qb), .second, .val (.long qc), .second, iv lg, iv (Int32.ofNat nm), iv (Int32.ofNat pr), iv (Int32.ofNat half), iv (Int32.ofNat m_), iv (Int32.ofNat (m_ / 64)), rv b11, rv b23, iv sz, iv (own_low nw A iB), iv (Int32.ofNat (m_ / pr)), .val (.long (R (m_ / pr / 64))), .second, .val (.long ((A (m_ / 64)) &&& ((own_z m_) ^^^ (-1 : Int64)))), .second, l23, .val (.long X), .second, l26, l27, l28] [(.long (A w1)), (.long (own_rmW A m_ w1))]))
      refine own_go (fun t_ k_ => XS.lcmp X31.here hx rfl (hb hby at_410) rfl k_) ?_
      show OwnFin p e below s _ _ _ (T31.setTop (mkF m 411 #[iv fl, iv pk, .val (.long qa), .second, .val (.long qb), .second, .val (.long qc), .second, iv lg, iv (Int32.ofNat nm), iv (Int32.ofNat pr), iv (Int32.ofNat half), iv (Int32.ofNat m_), iv (Int32.ofNat (m_ / 64)), rv b11, rv b23, iv sz, iv (own_low nw A iB), iv (Int32.ofNat (m_ / pr)), .val (.long (R (m_ / pr / 64))), .second, .val (.long ((A (m_ / 64)) &&& ((own_z m_) ^^^ (-1 : Int64)))), .second, l23, .val (.long X), .second, l26, l27, l28] [(.int (lcmpW (own_rmW A m_ w1) (A w1)))]))
      have hc411 : (own_rmW A m_ w1) = (A w1) := if_neg hw1n
      refine own_go (fun t_ k_ => XS.ifNo X31.here hx rfl (hb hby at_411) rfl ((if0 _ _).trans (teq ((lw_eq (own_rmW A m_ w1) (A w1)).mpr hc411)).2) k_) ?_
      show OwnFin p e below s _ _ _ (T31.setTop (mkF m 414 #[iv fl, iv pk, .val (.long qa), .second, .val (.long qb), .second, .val (.long qc), .second, iv lg, iv (Int32.ofNat nm), iv (Int32.ofNat pr), iv (Int32.ofNat half), iv (Int32.ofNat m_), iv (Int32.ofNat (m_ / 64)), rv b11, rv b23, iv sz, iv (own_low nw A iB), iv (Int32.ofNat (m_ / pr)), .val (.long (R (m_ / pr / 64))), .second, .val (.long ((A (m_ / 64)) &&& ((own_z m_) ^^^ (-1 : Int64)))), .second, l23, .val (.long X), .second, l26, l27, l28] []))
      refine own_go (fun t_ k_ => XS.aload X31.here hx rfl (hb hby at_414) rfl rfl k_) ?_
      show OwnFin p e below s _ _ _ (T31.setTop (mkF m 416 #[iv fl, iv pk, .val (.long qa), .second, .val (.long qb), .second, .val (.long qc), .second, iv lg, iv (Int32.ofNat nm), iv (Int32.ofNat pr), iv (Int32.ofNat half), iv (Int32.ofNat m_), iv (Int32.ofNat (m_ / 64)), rv b11, rv b23, iv sz, iv (own_low nw A iB), iv (Int32.ofNat (m_ / pr)), .val (.long (R (m_ / pr / 64))), .second, .val (.long ((A (m_ / 64)) &&& ((own_z m_) ^^^ (-1 : Int64)))), .second, l23, .val (.long X), .second, l26, l27, l28] [(.ref b23)]))
      obtain ⟨v32, T32, L32, X32, hQ32, st32⟩ := own_callV X31 hx hZ (y := (⟨"com/example/nearside/nearside/slotted/delay/OfferSet", "size", "()I"⟩ : MethodName)) (z := (⟨"com/example/nearside/nearside/slotted/delay/OfferSet", "size", "()I"⟩ : MethodName)) hown (hw _ (List.mem_of_getElem? (i := 46) rfl)) (hw _ (List.mem_of_getElem? (i := 47) rfl)) (notFace_of_selects (args := #[]) (mvT hZ (hw _ (List.mem_of_getElem? (i := 49) rfl)))) (hw _ (List.mem_of_getElem? (i := 49) rfl)) (hw _ (List.mem_of_getElem? (i := 48) rfl)) (hw _ (List.mem_of_getElem? (i := 5) rfl)) (hw _ (List.mem_of_getElem? (i := 50) rfl)) (by decide) (W := 0) (rm6 l Z a0 hw [] b23 h1 n0 Z1 H6) (by decide) (by decide) H1 (g := (mkF m 416 #[iv fl, iv pk, .val (.long qa), .second, .val (.long qb), .second, .val (.long qc), .second, iv lg, iv (Int32.ofNat nm), iv (Int32.ofNat pr), iv (Int32.ofNat half), iv (Int32.ofNat m_), iv (Int32.ofNat (m_ / 64)), rv b11, rv b23, iv sz, iv (own_low nw A iB), iv (Int32.ofNat (m_ / pr)), .val (.long (R (m_ / pr / 64))), .second, .val (.long ((A (m_ / 64)) &&& ((own_z m_) ^^^ (-1 : Int64)))), .second, l23, .val (.long X), .second, l26, l27, l28] [(.ref b23)])) rfl (by rw [hml]; rfl) (argsL := []) (rest := []) (lenOf pd_0_5 rfl) rfl (by show 2 * 0 + _ ≤ _; exact Nat.le_of_eq rfl) (hb hby at_416) e31 rfl (by decide) (by decide)
      obtain ⟨rfl, Nq32, e32⟩ := hQ32
      have N32 := Fr.app N31 Nq32
      refine own_go st32 ?_
      show OwnFin p e below s _ _ _ (T32.setTop (mkF m 419 #[iv fl, iv pk, .val (.long qa), .second, .val (.long qb), .second, .val (.long qc), .second, iv lg, iv (Int32.ofNat nm), iv (Int32.ofNat pr), iv (Int32.ofNat half), iv (Int32.ofNat m_), iv (Int32.ofNat (m_ / 64)), rv b11, rv b23, iv sz, iv (own_low nw A iB), iv (Int32.ofNat (m_ / pr)), .val (.long (R (m_ / pr / 64))), .second, .val (.long ((A (m_ / 64)) &&& ((own_z m_) ^^^ (-1 : Int64)))), .second, l23, .val (.long X), .second, l26, l27, l28] [(.int (sz - (1 : Int32)))]))
      refine own_go (fun t_ k_ => XS.iload X32.here hx rfl (hb hby at_419) rfl k_) ?_
      show OwnFin p e below s _ _ _ (T32.setTop (mkF m 421 #[iv fl, iv pk, .val (.long qa), .second, .val (.long qb), .second, .val (.long qc), .second, iv lg, iv (Int32.ofNat nm), iv (Int32.ofNat pr), iv (Int32.ofNat half), iv (Int32.ofNat m_), iv (Int32.ofNat (m_ / 64)), rv b11, rv b23, iv sz, iv (own_low nw A iB), iv (Int32.ofNat (m_ / pr)), .val (.long (R (m_ / pr / 64))), .second, .val (.long ((A (m_ / 64)) &&& ((own_z m_) ^^^ (-1 : Int64)))), .second, l23, .val (.long X), .second, l26, l27, l28] [(.int sz), (.int (sz - (1 : Int32)))]))
      refine own_go (fun t_ k_ => XS.iconst X32.here hx rfl (hb hby at_421) k_) ?_
      show OwnFin p e below s _ _ _ (T32.setTop (mkF m 422 #[iv fl, iv pk, .val (.long qa), .second, .val (.long qb), .second, .val (.long qc), .second, iv lg, iv (Int32.ofNat nm), iv (Int32.ofNat pr), iv (Int32.ofNat half), iv (Int32.ofNat m_), iv (Int32.ofNat (m_ / 64)), rv b11, rv b23, iv sz, iv (own_low nw A iB), iv (Int32.ofNat (m_ / pr)), .val (.long (R (m_ / pr / 64))), .second, .val (.long ((A (m_ / 64)) &&& ((own_z m_) ^^^ (-1 : Int64)))), .second, l23, .val (.long X), .second, l26, l27, l28] [(.int (1 : Int32)), (.int sz), (.int (sz - (1 : Int32)))]))
      refine own_go (fun t_ k_ => XS.isub X32.here hx rfl (hb hby at_422) rfl k_) ?_
      show OwnFin p e below s _ _ _ (T32.setTop (mkF m 423 #[iv fl, iv pk, .val (.long qa), .second, .val (.long qb), .second, .val (.long qc), .second, iv lg, iv (Int32.ofNat nm), iv (Int32.ofNat pr), iv (Int32.ofNat half), iv (Int32.ofNat m_), iv (Int32.ofNat (m_ / 64)), rv b11, rv b23, iv sz, iv (own_low nw A iB), iv (Int32.ofNat (m_ / pr)), .val (.long (R (m_ / pr / 64))), .second, .val (.long ((A (m_ / 64)) &&& ((own_z m_) ^^^ (-1 : Int64)))), .second, l23, .val (.long X), .second, l26, l27, l28] [(.int (sz - (1 : Int32))), (.int (sz - (1 : Int32)))]))
      refine own_go (fun t_ k_ => XS.icmpNo X32.here hx rfl (hb hby at_423) rfl (teq rfl).2 k_) ?_
      show OwnFin p e below s _ _ _ (T32.setTop (mkF m 426 #[iv fl, iv pk, .val (.long qa), .second, .val (.long qb), .second, .val (.long qc), .second, iv lg, iv (Int32.ofNat nm), iv (Int32.ofNat pr), iv (Int32.ofNat half), iv (Int32.ofNat m_), iv (Int32.ofNat (m_ / 64)), rv b11, rv b23, iv sz, iv (own_low nw A iB), iv (Int32.ofNat (m_ / pr)), .val (.long (R (m_ / pr / 64))), .second, .val (.long ((A (m_ / 64)) &&& ((own_z m_) ^^^ (-1 : Int64)))), .second, l23, .val (.long X), .second, l26, l27, l28] []))
      refine own_go (fun t_ k_ => XS.aload X32.here hx rfl (hb hby at_426) rfl rfl k_) ?_
      show OwnFin p e below s _ _ _ (T32.setTop (mkF m 428 #[iv fl, iv pk, .val (.long qa), .second, .val (.long qb), .second, .val (.long qc), .second, iv lg, iv (Int32.ofNat nm), iv (Int32.ofNat pr), iv (Int32.ofNat half), iv (Int32.ofNat m_), iv (Int32.ofNat (m_ / 64)), rv b11, rv b23, iv sz, iv (own_low nw A iB), iv (Int32.ofNat (m_ / pr)), .val (.long (R (m_ / pr / 64))), .second, .val (.long ((A (m_ / 64)) &&& ((own_z m_) ^^^ (-1 : Int64)))), .second, l23, .val (.long X), .second, l26, l27, l28] [(.ref b23)]))
      refine own_go (fun t_ k_ => XS.iconst X32.here hx rfl (hb hby at_428) k_) ?_
      show OwnFin p e below s _ _ _ (T32.setTop (mkF m 429 #[iv fl, iv pk, .val (.long qa), .second, .val (.long qb), .second, .val (.long qc), .second, iv lg, iv (Int32.ofNat nm), iv (Int32.ofNat pr), iv (Int32.ofNat half), iv (Int32.ofNat m_), iv (Int32.ofNat (m_ / 64)), rv b11, rv b23, iv sz, iv (own_low nw A iB), iv (Int32.ofNat (m_ / pr)), .val (.long (R (m_ / pr / 64))), .second, .val (.long ((A (m_ / 64)) &&& ((own_z m_) ^^^ (-1 : Int64)))), .second, l23, .val (.long X), .second, l26, l27, l28] [(.int (0 : Int32)), (.ref b23)]))
      refine own_go (fun t_ k_ => XS.iload X32.here hx rfl (hb hby at_429) rfl k_) ?_
      show OwnFin p e below s _ _ _ (T32.setTop (mkF m 431 #[iv fl, iv pk, .val (.long qa), .second, .val (.long qb), .second, .val (.long qc), .second, iv lg, iv (Int32.ofNat nm), iv (Int32.ofNat pr), iv (Int32.ofNat half), iv (Int32.ofNat m_), iv (Int32.ofNat (m_ / 64)), rv b11, rv b23, iv sz, iv (own_low nw A iB), iv (Int32.ofNat (m_ / pr)), .val (.long (R (m_ / pr / 64))), .second, .val (.long ((A (m_ / 64)) &&& ((own_z m_) ^^^ (-1 : Int64)))), .second, l23, .val (.long X), .second, l26, l27, l28] [(.int (Int32.ofNat half)), (.int (0 : Int32)), (.ref b23)]))
      obtain ⟨v33, T33, L33, X33, hQ33, st33⟩ := own_callV X32 hx hZ (y := (⟨"com/example/nearside/nearside/slotted/delay/OfferSet", "countBetween", "(II)I"⟩ : MethodName)) (z := (⟨"com/example/nearside/nearside/slotted/delay/OfferSet", "countBetween", "(II)I"⟩ : MethodName)) hown (hw _ (List.mem_of_getElem? (i := 51) rfl)) (hw _ (List.mem_of_getElem? (i := 52) rfl)) (notFace_of_selects (args := #[]) (mvT hZ (hw _ (List.mem_of_getElem? (i := 54) rfl)))) (hw _ (List.mem_of_getElem? (i := 54) rfl)) (hw _ (List.mem_of_getElem? (i := 53) rfl)) (hw _ (List.mem_of_getElem? (i := 5) rfl)) (hw _ (List.mem_of_getElem? (i := 55) rfl)) (by decide) (W := 0) (rm7 l Z a0 hw [] b23 (Int32.ofNat half) aw ab nm nw nb half _ _ h1 n0 Z1 rfl hD H1 H3 H4 H7 H8) (by decide) (by decide) H1 (g := (mkF m 431 #[iv fl, iv pk, .val (.long qa), .second, .val (.long qb), .second, .val (.long qc), .second, iv lg, iv (Int32.ofNat nm), iv (Int32.ofNat pr), iv (Int32.ofNat half), iv (Int32.ofNat m_), iv (Int32.ofNat (m_ / 64)), rv b11, rv b23, iv sz, iv (own_low nw A iB), iv (Int32.ofNat (m_ / pr)), .val (.long (R (m_ / pr / 64))), .second, .val (.long ((A (m_ / 64)) &&& ((own_z m_) ^^^ (-1 : Int64)))), .second, l23, .val (.long X), .second, l26, l27, l28] [(.int (Int32.ofNat half)), (.int (0 : Int32)), (.ref b23)])) rfl (by rw [hml]; rfl) (argsL := [(.int (0 : Int32)), (.int (Int32.ofNat half))]) (rest := []) (lenOf pd_0_4 rfl) rfl (by show 2 * 0 + _ ≤ _; exact Nat.le_of_eq rfl) (hb hby at_431) e32 rfl (by decide) (by decide)
      obtain ⟨rfl, Nq33, e33⟩ := hQ33
      have N33 := Fr.app N32 Nq33
      refine own_go st33 ?_
      show OwnFin p e below s _ _ _ (T33.setTop (mkF m 434 #[iv fl, iv pk, .val (.long qa), .second, .val (.long qb), .second, .val (.long qc), .second, iv lg, iv (Int32.ofNat nm), iv (Int32.ofNat pr), iv (Int32.ofNat half), iv (Int32.ofNat m_), iv (Int32.ofNat (m_ / 64)), rv b11, rv b23, iv sz, iv (own_low nw A iB), iv (Int32.ofNat (m_ / pr)), .val (.long (R (m_ / pr / 64))), .second, .val (.long ((A (m_ / 64)) &&& ((own_z m_) ^^^ (-1 : Int64)))), .second, l23, .val (.long X), .second, l26, l27, l28] [(.int (own_low nw (own_rmW A m_) (own_rmB nb iB m_)))]))
      refine own_go (fun t_ k_ => XS.iload X33.here hx rfl (hb hby at_434) rfl k_) ?_
      show OwnFin p e below s _ _ _ (T33.setTop (mkF m 436 #[iv fl, iv pk, .val (.long qa), .second, .val (.long qb), .second, .val (.long qc), .second, iv lg, iv (Int32.ofNat nm), iv (Int32.ofNat pr), iv (Int32.ofNat half), iv (Int32.ofNat m_), iv (Int32.ofNat (m_ / 64)), rv b11, rv b23, iv sz, iv (own_low nw A iB), iv (Int32.ofNat (m_ / pr)), .val (.long (R (m_ / pr / 64))), .second, .val (.long ((A (m_ / 64)) &&& ((own_z m_) ^^^ (-1 : Int64)))), .second, l23, .val (.long X), .second, l26, l27, l28] [(.int (own_low nw A iB)), (.int (own_low nw (own_rmW A m_) (own_rmB nb iB m_)))]))
      refine own_go (fun t_ k_ => XS.iload X33.here hx rfl (hb hby at_436) rfl k_) ?_
      show OwnFin p e below s _ _ _ (T33.setTop (mkF m 438 #[iv fl, iv pk, .val (.long qa), .second, .val (.long qb), .second, .val (.long qc), .second, iv lg, iv (Int32.ofNat nm), iv (Int32.ofNat pr), iv (Int32.ofNat half), iv (Int32.ofNat m_), iv (Int32.ofNat (m_ / 64)), rv b11, rv b23, iv sz, iv (own_low nw A iB), iv (Int32.ofNat (m_ / pr)), .val (.long (R (m_ / pr / 64))), .second, .val (.long ((A (m_ / 64)) &&& ((own_z m_) ^^^ (-1 : Int64)))), .second, l23, .val (.long X), .second, l26, l27, l28] [(.int (Int32.ofNat m_)), (.int (own_low nw A iB)), (.int (own_low nw (own_rmW A m_) (own_rmB nb iB m_)))]))
      refine own_go (fun t_ k_ => XS.iload X33.here hx rfl (hb hby at_438) rfl k_) ?_
      show OwnFin p e below s _ _ _ (T33.setTop (mkF m 440 #[iv fl, iv pk, .val (.long qa), .second, .val (.long qb), .second, .val (.long qc), .second, iv lg, iv (Int32.ofNat nm), iv (Int32.ofNat pr), iv (Int32.ofNat half), iv (Int32.ofNat m_), iv (Int32.ofNat (m_ / 64)), rv b11, rv b23, iv sz, iv (own_low nw A iB), iv (Int32.ofNat (m_ / pr)), .val (.long (R (m_ / pr / 64))), .second, .val (.long ((A (m_ / 64)) &&& ((own_z m_) ^^^ (-1 : Int64)))), .second, l23, .val (.long X), .second, l26, l27, l28] [(.int (Int32.ofNat half)), (.int (Int32.ofNat m_)), (.int (own_low nw A iB)), (.int (own_low nw (own_rmW A m_) (own_rmB nb iB m_)))]))
      refine own_go (B := T33.setTop (mkF m 448 #[iv fl, iv pk, .val (.long qa), .second, .val (.long qb), .second, .val (.long qc), .second, iv lg, iv (Int32.ofNat nm), iv (Int32.ofNat pr), iv (Int32.ofNat half), iv (Int32.ofNat m_), iv (Int32.ofNat (m_ / 64)), rv b11, rv b23, iv sz, iv (own_low nw A iB), iv (Int32.ofNat (m_ / pr)), .val (.long (R (m_ / pr / 64))), .second, .val (.long ((A (m_ / 64)) &&& ((own_z m_) ^^^ (-1 : Int64)))), .second, l23, .val (.long X), .second, l26, l27, l28] [(.int (if (Int32.ofNat m_) < (Int32.ofNat half) then (1 : Int32) else (0 : Int32))), (.int (own_low nw A iB)), (.int (own_low nw (own_rmW A m_) (own_rmB nb iB m_)))])) (fun t_ k_ => ?_) ?_
      · by_cases hm440 : (Int32.ofNat m_) < (Int32.ofNat half)
        · rw [if_pos hm440] at k_; exact XS.icmpNo X33.here hx rfl (hb hby at_440) rfl (tlt hm440).2.1 (XS.iconst X33.here hx rfl (hb hby at_443) (XS.goto X33.here hx rfl (pc0 := 444) (pc' := 448) rfl (hb hby at_444) (by decide) (by decide) k_))
        · rw [if_neg hm440] at k_; exact XS.icmpYes X33.here hx rfl (pc0 := 440) (pc' := 447) rfl (hb hby at_440) rfl (flt hm440).2.1 (by decide) (by decide) (XS.iconst X33.here hx rfl (hb hby at_447) k_)
      show OwnFin p e below s _ _ _ (T33.setTop (mkF m 448 #[iv fl, iv pk, .val (.long qa), .second, .val (.long qb), .second, .val (.long qc), .second, iv lg, iv (Int32.ofNat nm), iv (Int32.ofNat pr), iv (Int32.ofNat half), iv (Int32.ofNat m_), iv (Int32.ofNat (m_ / 64)), rv b11, rv b23, iv sz, iv (own_low nw A iB), iv (Int32.ofNat (m_ / pr)), .val (.long (R (m_ / pr / 64))), .second, .val (.long ((A (m_ / 64)) &&& ((own_z m_) ^^^ (-1 : Int64)))), .second, l23, .val (.long X), .second, l26, l27, l28] [(.int (if (Int32.ofNat m_) < (Int32.ofNat half) then (1 : Int32) else (0 : Int32))), (.int (own_low nw A iB)), (.int (own_low nw (own_rmW A m_) (own_rmB nb iB m_)))]))
      refine own_go (fun t_ k_ => XS.isub X33.here hx rfl (hb hby at_448) rfl k_) ?_
      show OwnFin p e below s _ _ _ (T33.setTop (mkF m 449 #[iv fl, iv pk, .val (.long qa), .second, .val (.long qb), .second, .val (.long qc), .second, iv lg, iv (Int32.ofNat nm), iv (Int32.ofNat pr), iv (Int32.ofNat half), iv (Int32.ofNat m_), iv (Int32.ofNat (m_ / 64)), rv b11, rv b23, iv sz, iv (own_low nw A iB), iv (Int32.ofNat (m_ / pr)), .val (.long (R (m_ / pr / 64))), .second, .val (.long ((A (m_ / 64)) &&& ((own_z m_) ^^^ (-1 : Int64)))), .second, l23, .val (.long X), .second, l26, l27, l28] [(.int ((own_low nw A iB) - (if (Int32.ofNat m_) < (Int32.ofNat half) then (1 : Int32) else (0 : Int32)))), (.int (own_low nw (own_rmW A m_) (own_rmB nb iB m_)))]))
      have hc449 : (own_low nw (own_rmW A m_) (own_rmB nb iB m_)) = ((own_low nw A iB) - (if (Int32.ofNat m_) < (Int32.ofNat half) then (1 : Int32) else (0 : Int32))) := own_lowL hD hmn hbit
      refine own_go (fun t_ k_ => XS.icmpNo X33.here hx rfl (hb hby at_449) rfl (teq hc449).2 k_) ?_
      show OwnFin p e below s _ _ _ (T33.setTop (mkF m 452 #[iv fl, iv pk, .val (.long qa), .second, .val (.long qb), .second, .val (.long qc), .second, iv lg, iv (Int32.ofNat nm), iv (Int32.ofNat pr), iv (Int32.ofNat half), iv (Int32.ofNat m_), iv (Int32.ofNat (m_ / 64)), rv b11, rv b23, iv sz, iv (own_low nw A iB), iv (Int32.ofNat (m_ / pr)), .val (.long (R (m_ / pr / 64))), .second, .val (.long ((A (m_ / 64)) &&& ((own_z m_) ^^^ (-1 : Int64)))), .second, l23, .val (.long X), .second, l26, l27, l28] []))
      refine own_go (fun t_ k_ => XS.aload X33.here hx rfl (hb hby at_452) rfl rfl k_) ?_
      show OwnFin p e below s _ _ _ (T33.setTop (mkF m 454 #[iv fl, iv pk, .val (.long qa), .second, .val (.long qb), .second, .val (.long qc), .second, iv lg, iv (Int32.ofNat nm), iv (Int32.ofNat pr), iv (Int32.ofNat half), iv (Int32.ofNat m_), iv (Int32.ofNat (m_ / 64)), rv b11, rv b23, iv sz, iv (own_low nw A iB), iv (Int32.ofNat (m_ / pr)), .val (.long (R (m_ / pr / 64))), .second, .val (.long ((A (m_ / 64)) &&& ((own_z m_) ^^^ (-1 : Int64)))), .second, l23, .val (.long X), .second, l26, l27, l28] [(.ref b23)]))
      refine own_go (fun t_ k_ => XS.iload X33.here hx rfl (hb hby at_454) rfl k_) ?_
      show OwnFin p e below s _ _ _ (T33.setTop (mkF m 456 #[iv fl, iv pk, .val (.long qa), .second, .val (.long qb), .second, .val (.long qc), .second, iv lg, iv (Int32.ofNat nm), iv (Int32.ofNat pr), iv (Int32.ofNat half), iv (Int32.ofNat m_), iv (Int32.ofNat (m_ / 64)), rv b11, rv b23, iv sz, iv (own_low nw A iB), iv (Int32.ofNat (m_ / pr)), .val (.long (R (m_ / pr / 64))), .second, .val (.long ((A (m_ / 64)) &&& ((own_z m_) ^^^ (-1 : Int64)))), .second, l23, .val (.long X), .second, l26, l27, l28] [(.int (Int32.ofNat (m_ / pr))), (.ref b23)]))
      refine own_go (fun t_ k_ => XS.bipush X33.here hx rfl (hb hby at_456) k_) ?_
      show OwnFin p e below s _ _ _ (T33.setTop (mkF m 458 #[iv fl, iv pk, .val (.long qa), .second, .val (.long qb), .second, .val (.long qc), .second, iv lg, iv (Int32.ofNat nm), iv (Int32.ofNat pr), iv (Int32.ofNat half), iv (Int32.ofNat m_), iv (Int32.ofNat (m_ / 64)), rv b11, rv b23, iv sz, iv (own_low nw A iB), iv (Int32.ofNat (m_ / pr)), .val (.long (R (m_ / pr / 64))), .second, .val (.long ((A (m_ / 64)) &&& ((own_z m_) ^^^ (-1 : Int64)))), .second, l23, .val (.long X), .second, l26, l27, l28] [(.int (6 : Int32)), (.int (Int32.ofNat (m_ / pr))), (.ref b23)]))
      refine own_go (fun t_ k_ => XS.iushr X33.here hx rfl (hb hby at_458) rfl k_) ?_
      show OwnFin p e below s _ _ _ (T33.setTop (mkF m 459 #[iv fl, iv pk, .val (.long qa), .second, .val (.long qb), .second, .val (.long qc), .second, iv lg, iv (Int32.ofNat nm), iv (Int32.ofNat pr), iv (Int32.ofNat half), iv (Int32.ofNat m_), iv (Int32.ofNat (m_ / 64)), rv b11, rv b23, iv sz, iv (own_low nw A iB), iv (Int32.ofNat (m_ / pr)), .val (.long (R (m_ / pr / 64))), .second, .val (.long ((A (m_ / 64)) &&& ((own_z m_) ^^^ (-1 : Int64)))), .second, l23, .val (.long X), .second, l26, l27, l28] [(.int (((Int32.ofNat (m_ / pr)).toUInt32 >>> ((6 : Int32) &&& 31).toUInt32).toInt32)), (.ref b23)]))
      rw [show (((Int32.ofNat (m_ / pr)).toUInt32 >>> ((6 : Int32) &&& 31).toUInt32).toInt32) = (Int32.ofNat (m_ / pr / 64)) from own_shr6' rfl (by omega)]
      show OwnFin p e below s _ _ _ (T33.setTop (mkF m 459 #[iv fl, iv pk, .val (.long qa), .second, .val (.long qb), .second, .val (.long qc), .second, iv lg, iv (Int32.ofNat nm), iv (Int32.ofNat pr), iv (Int32.ofNat half), iv (Int32.ofNat m_), iv (Int32.ofNat (m_ / 64)), rv b11, rv b23, iv sz, iv (own_low nw A iB), iv (Int32.ofNat (m_ / pr)), .val (.long (R (m_ / pr / 64))), .second, .val (.long ((A (m_ / 64)) &&& ((own_z m_) ^^^ (-1 : Int64)))), .second, l23, .val (.long X), .second, l26, l27, l28] [(.int (Int32.ofNat (m_ / pr / 64))), (.ref b23)]))
      obtain ⟨v34, T34, L34, X34, hQ34, st34⟩ := own_callV X33 hx hZ (y := (⟨"com/example/nearside/nearside/slotted/delay/OfferSet", "racksWord", "(I)J"⟩ : MethodName)) (z := (⟨"com/example/nearside/nearside/slotted/delay/OfferSet", "racksWord", "(I)J"⟩ : MethodName)) hown (hw _ (List.mem_of_getElem? (i := 60) rfl)) (hw _ (List.mem_of_getElem? (i := 61) rfl)) (notFace_of_selects (args := #[]) (mvT hZ (hw _ (List.mem_of_getElem? (i := 63) rfl)))) (hw _ (List.mem_of_getElem? (i := 63) rfl)) (hw _ (List.mem_of_getElem? (i := 62) rfl)) (hw _ (List.mem_of_getElem? (i := 5) rfl)) (hw _ (List.mem_of_getElem? (i := 64) rfl)) (by decide) (W := 0) (rm9 l Z a0 hw [] b23 (Int32.ofNat (m_ / pr / 64)) ak ((nm / pr + 63) / 64) (m_ / pr / 64) _ h1 n0 Z1 rfl (by omega) H5 H9) (by decide) (by decide) H1 (g := (mkF m 459 #[iv fl, iv pk, .val (.long qa), .second, .val (.long qb), .second, .val (.long qc), .second, iv lg, iv (Int32.ofNat nm), iv (Int32.ofNat pr), iv (Int32.ofNat half), iv (Int32.ofNat m_), iv (Int32.ofNat (m_ / 64)), rv b11, rv b23, iv sz, iv (own_low nw A iB), iv (Int32.ofNat (m_ / pr)), .val (.long (R (m_ / pr / 64))), .second, .val (.long ((A (m_ / 64)) &&& ((own_z m_) ^^^ (-1 : Int64)))), .second, l23, .val (.long X), .second, l26, l27, l28] [(.int (Int32.ofNat (m_ / pr / 64))), (.ref b23)])) rfl (by rw [hml]; rfl) (argsL := [(.int (Int32.ofNat (m_ / pr / 64)))]) (rest := []) (lenOf pd_0_7 rfl) rfl (by show 2 * 0 + _ ≤ _; exact Nat.le_of_eq rfl) (hb hby at_459) e33 rfl (by decide) (by decide)
      obtain ⟨rfl, Nq34, e34⟩ := hQ34
      have N34 := Fr.app N33 Nq34
      refine own_go st34 ?_
      show OwnFin p e below s _ _ _ (T34.setTop (mkF m 462 #[iv fl, iv pk, .val (.long qa), .second, .val (.long qb), .second, .val (.long qc), .second, iv lg, iv (Int32.ofNat nm), iv (Int32.ofNat pr), iv (Int32.ofNat half), iv (Int32.ofNat m_), iv (Int32.ofNat (m_ / 64)), rv b11, rv b23, iv sz, iv (own_low nw A iB), iv (Int32.ofNat (m_ / pr)), .val (.long (R (m_ / pr / 64))), .second, .val (.long ((A (m_ / 64)) &&& ((own_z m_) ^^^ (-1 : Int64)))), .second, l23, .val (.long X), .second, l26, l27, l28] [(.long (own_rmR R (own_ci A pr) m_ pr (m_ / pr / 64)))]))
      refine own_go (fun t_ k_ => XS.lload X34.here hx rfl (hb hby at_462) rfl k_) ?_
      show OwnFin p e below s _ _ _ (T34.setTop (mkF m 464 #[iv fl, iv pk, .val (.long qa), .second, .val (.long qb), .second, .val (.long qc), .second, iv lg, iv (Int32.ofNat nm), iv (Int32.ofNat pr), iv (Int32.ofNat half), iv (Int32.ofNat m_), iv (Int32.ofNat (m_ / 64)), rv b11, rv b23, iv sz, iv (own_low nw A iB), iv (Int32.ofNat (m_ / pr)), .val (.long (R (m_ / pr / 64))), .second, .val (.long ((A (m_ / 64)) &&& ((own_z m_) ^^^ (-1 : Int64)))), .second, l23, .val (.long X), .second, l26, l27, l28] [(.long X), (.long (own_rmR R (own_ci A pr) m_ pr (m_ / pr / 64)))]))
      refine own_go (fun t_ k_ => XS.lcmp X34.here hx rfl (hb hby at_464) rfl k_) ?_
      show OwnFin p e below s _ _ _ (T34.setTop (mkF m 465 #[iv fl, iv pk, .val (.long qa), .second, .val (.long qb), .second, .val (.long qc), .second, iv lg, iv (Int32.ofNat nm), iv (Int32.ofNat pr), iv (Int32.ofNat half), iv (Int32.ofNat m_), iv (Int32.ofNat (m_ / 64)), rv b11, rv b23, iv sz, iv (own_low nw A iB), iv (Int32.ofNat (m_ / pr)), .val (.long (R (m_ / pr / 64))), .second, .val (.long ((A (m_ / 64)) &&& ((own_z m_) ^^^ (-1 : Int64)))), .second, l23, .val (.long X), .second, l26, l27, l28] [(.int (lcmpW (own_rmR R (own_ci A pr) m_ pr (m_ / pr / 64)) X))]))
      have hc465 : (own_rmR R (own_ci A pr) m_ pr (m_ / pr / 64)) = X := hX.symm
      refine own_go (fun t_ k_ => XS.ifNo X34.here hx rfl (hb hby at_465) rfl ((if0 _ _).trans (teq ((lw_eq (own_rmR R (own_ci A pr) m_ pr (m_ / pr / 64)) X).mpr hc465)).2) k_) ?_
      show OwnFin p e below s _ _ _ (T34.setTop (mkF m 468 #[iv fl, iv pk, .val (.long qa), .second, .val (.long qb), .second, .val (.long qc), .second, iv lg, iv (Int32.ofNat nm), iv (Int32.ofNat pr), iv (Int32.ofNat half), iv (Int32.ofNat m_), iv (Int32.ofNat (m_ / 64)), rv b11, rv b23, iv sz, iv (own_low nw A iB), iv (Int32.ofNat (m_ / pr)), .val (.long (R (m_ / pr / 64))), .second, .val (.long ((A (m_ / 64)) &&& ((own_z m_) ^^^ (-1 : Int64)))), .second, l23, .val (.long X), .second, l26, l27, l28] []))
      refine own_go (fun t_ k_ => XS.iconst X34.here hx rfl (hb hby at_468) k_) ?_
      show OwnFin p e below s _ _ _ (T34.setTop (mkF m 469 #[iv fl, iv pk, .val (.long qa), .second, .val (.long qb), .second, .val (.long qc), .second, iv lg, iv (Int32.ofNat nm), iv (Int32.ofNat pr), iv (Int32.ofNat half), iv (Int32.ofNat m_), iv (Int32.ofNat (m_ / 64)), rv b11, rv b23, iv sz, iv (own_low nw A iB), iv (Int32.ofNat (m_ / pr)), .val (.long (R (m_ / pr / 64))), .second, .val (.long ((A (m_ / 64)) &&& ((own_z m_) ^^^ (-1 : Int64)))), .second, l23, .val (.long X), .second, l26, l27, l28] [(.int (1 : Int32))]))
      refine own_go (fun t_ k_ => XS.goto X34.here hx rfl (pc0 := 469) (pc' := 473) rfl (hb hby at_469) (by decide) (by decide) k_) ?_
      show OwnFin p e below s _ _ _ (T34.setTop (mkF m 473 #[iv fl, iv pk, .val (.long qa), .second, .val (.long qb), .second, .val (.long qc), .second, iv lg, iv (Int32.ofNat nm), iv (Int32.ofNat pr), iv (Int32.ofNat half), iv (Int32.ofNat m_), iv (Int32.ofNat (m_ / 64)), rv b11, rv b23, iv sz, iv (own_low nw A iB), iv (Int32.ofNat (m_ / pr)), .val (.long (R (m_ / pr / 64))), .second, .val (.long ((A (m_ / 64)) &&& ((own_z m_) ^^^ (-1 : Int64)))), .second, l23, .val (.long X), .second, l26, l27, l28] [(.int (1 : Int32))]))
      refine own_ret X34 (v := some (.int (1 : Int32))) hlk (fun hh => by rw [hret] at hh; cases hh) (fun fs hr => retN X34 hx (t := .boolean) hret (by simp) (hb hby at_473) hr) (by decide) (by decide) ?_
      exact ⟨rfl, N34⟩
    refine own_go (fun t_ k_ => XS.iload X29.here hx rfl (hb hby at_235) rfl k_) ?_
    show OwnFin p e below s _ _ _ (T29.setTop (mkF m 237 #[iv fl, iv pk, .val (.long qa), .second, .val (.long qb), .second, .val (.long qc), .second, iv lg, iv (Int32.ofNat nm), iv (Int32.ofNat pr), iv (Int32.ofNat half), iv (Int32.ofNat m_), iv (Int32.ofNat (m_ / 64)), rv b11, rv b23, iv sz, iv (own_low nw A iB), iv (Int32.ofNat (m_ / pr)), .val (.long (R (m_ / pr / 64))), .second, .val (.long ((A (m_ / 64)) &&& ((own_z m_) ^^^ (-1 : Int64)))), .second, .unset, .unset, .unset, .unset, .unset, .unset] [(.int (Int32.ofNat pr))]))
    refine own_go (fun t_ k_ => XS.sipush X29.here hx rfl (hb hby at_237) k_) ?_
    show OwnFin p e below s _ _ _ (T29.setTop (mkF m 240 #[iv fl, iv pk, .val (.long qa), .second, .val (.long qb), .second, .val (.long qc), .second, iv lg, iv (Int32.ofNat nm), iv (Int32.ofNat pr), iv (Int32.ofNat half), iv (Int32.ofNat m_), iv (Int32.ofNat (m_ / 64)), rv b11, rv b23, iv sz, iv (own_low nw A iB), iv (Int32.ofNat (m_ / pr)), .val (.long (R (m_ / pr / 64))), .second, .val (.long ((A (m_ / 64)) &&& ((own_z m_) ^^^ (-1 : Int64)))), .second, .unset, .unset, .unset, .unset, .unset, .unset] [(.int (128 : Int32)), (.int (Int32.ofNat pr))]))
    by_cases hc240 : (Int32.ofNat pr) = (128 : Int32)
    · refine own_go (fun t_ k_ => XS.icmpNo X29.here hx rfl (hb hby at_240) rfl (teq hc240).2 k_) ?_
      show OwnFin p e below s _ _ _ (T29.setTop (mkF m 243 #[iv fl, iv pk, .val (.long qa), .second, .val (.long qb), .second, .val (.long qc), .second, iv lg, iv (Int32.ofNat nm), iv (Int32.ofNat pr), iv (Int32.ofNat half), iv (Int32.ofNat m_), iv (Int32.ofNat (m_ / 64)), rv b11, rv b23, iv sz, iv (own_low nw A iB), iv (Int32.ofNat (m_ / pr)), .val (.long (R (m_ / pr / 64))), .second, .val (.long ((A (m_ / 64)) &&& ((own_z m_) ^^^ (-1 : Int64)))), .second, .unset, .unset, .unset, .unset, .unset, .unset] []))
      have hp : pr = 128 := (own_eqN (by omega) (b := 128) (by decide)).mp hc240
      refine own_go (fun t_ k_ => XS.iload X29.here hx rfl (hb hby at_243) rfl k_) ?_
      show OwnFin p e below s _ _ _ (T29.setTop (mkF m 245 #[iv fl, iv pk, .val (.long qa), .second, .val (.long qb), .second, .val (.long qc), .second, iv lg, iv (Int32.ofNat nm), iv (Int32.ofNat pr), iv (Int32.ofNat half), iv (Int32.ofNat m_), iv (Int32.ofNat (m_ / 64)), rv b11, rv b23, iv sz, iv (own_low nw A iB), iv (Int32.ofNat (m_ / pr)), .val (.long (R (m_ / pr / 64))), .second, .val (.long ((A (m_ / 64)) &&& ((own_z m_) ^^^ (-1 : Int64)))), .second, .unset, .unset, .unset, .unset, .unset, .unset] [(.int (Int32.ofNat (m_ / pr)))]))
      refine own_go (fun t_ k_ => XS.iconst X29.here hx rfl (hb hby at_245) k_) ?_
      show OwnFin p e below s _ _ _ (T29.setTop (mkF m 246 #[iv fl, iv pk, .val (.long qa), .second, .val (.long qb), .second, .val (.long qc), .second, iv lg, iv (Int32.ofNat nm), iv (Int32.ofNat pr), iv (Int32.ofNat half), iv (Int32.ofNat m_), iv (Int32.ofNat (m_ / 64)), rv b11, rv b23, iv sz, iv (own_low nw A iB), iv (Int32.ofNat (m_ / pr)), .val (.long (R (m_ / pr / 64))), .second, .val (.long ((A (m_ / 64)) &&& ((own_z m_) ^^^ (-1 : Int64)))), .second, .unset, .unset, .unset, .unset, .unset, .unset] [(.int (2 : Int32)), (.int (Int32.ofNat (m_ / pr)))]))
      refine own_go (fun t_ k_ => XS.imul X29.here hx rfl (hb hby at_246) rfl k_) ?_
      show OwnFin p e below s _ _ _ (T29.setTop (mkF m 247 #[iv fl, iv pk, .val (.long qa), .second, .val (.long qb), .second, .val (.long qc), .second, iv lg, iv (Int32.ofNat nm), iv (Int32.ofNat pr), iv (Int32.ofNat half), iv (Int32.ofNat m_), iv (Int32.ofNat (m_ / 64)), rv b11, rv b23, iv sz, iv (own_low nw A iB), iv (Int32.ofNat (m_ / pr)), .val (.long (R (m_ / pr / 64))), .second, .val (.long ((A (m_ / 64)) &&& ((own_z m_) ^^^ (-1 : Int64)))), .second, .unset, .unset, .unset, .unset, .unset, .unset] [(.int ((Int32.ofNat (m_ / pr)) * (2 : Int32)))]))
      rw [show ((Int32.ofNat (m_ / pr)) * (2 : Int32)) = (Int32.ofNat (m_ / pr * 2)) from own_mulN _ 2]
      show OwnFin p e below s _ _ _ (T29.setTop (mkF m 247 #[iv fl, iv pk, .val (.long qa), .second, .val (.long qb), .second, .val (.long qc), .second, iv lg, iv (Int32.ofNat nm), iv (Int32.ofNat pr), iv (Int32.ofNat half), iv (Int32.ofNat m_), iv (Int32.ofNat (m_ / 64)), rv b11, rv b23, iv sz, iv (own_low nw A iB), iv (Int32.ofNat (m_ / pr)), .val (.long (R (m_ / pr / 64))), .second, .val (.long ((A (m_ / 64)) &&& ((own_z m_) ^^^ (-1 : Int64)))), .second, .unset, .unset, .unset, .unset, .unset, .unset] [(.int (Int32.ofNat (m_ / pr * 2)))]))
      refine own_go (fun t_ k_ => XS.istore X29.here hx rfl (hb hby at_247) rfl (l' := #[iv fl, iv pk, .val (.long qa), .second, .val (.long qb), .second, .val (.long qc), .second, iv lg, iv (Int32.ofNat nm), iv (Int32.ofNat pr), iv (Int32.ofNat half), iv (Int32.ofNat m_), iv (Int32.ofNat (m_ / 64)), rv b11, rv b23, iv sz, iv (own_low nw A iB), iv (Int32.ofNat (m_ / pr)), .val (.long (R (m_ / pr / 64))), .second, .val (.long ((A (m_ / 64)) &&& ((own_z m_) ^^^ (-1 : Int64)))), .second, .unset, iv (Int32.ofNat (m_ / pr * 2)), .unset, .unset, .unset, .unset]) rfl k_) ?_
      show OwnFin p e below s _ _ _ (T29.setTop (mkF m 249 #[iv fl, iv pk, .val (.long qa), .second, .val (.long qb), .second, .val (.long qc), .second, iv lg, iv (Int32.ofNat nm), iv (Int32.ofNat pr), iv (Int32.ofNat half), iv (Int32.ofNat m_), iv (Int32.ofNat (m_ / 64)), rv b11, rv b23, iv sz, iv (own_low nw A iB), iv (Int32.ofNat (m_ / pr)), .val (.long (R (m_ / pr / 64))), .second, .val (.long ((A (m_ / 64)) &&& ((own_z m_) ^^^ (-1 : Int64)))), .second, .unset, iv (Int32.ofNat (m_ / pr * 2)), .unset, .unset, .unset, .unset] []))
      refine own_go (fun t_ k_ => XS.iload X29.here hx rfl (hb hby at_249) rfl k_) ?_
      show OwnFin p e below s _ _ _ (T29.setTop (mkF m 251 #[iv fl, iv pk, .val (.long qa), .second, .val (.long qb), .second, .val (.long qc), .second, iv lg, iv (Int32.ofNat nm), iv (Int32.ofNat pr), iv (Int32.ofNat half), iv (Int32.ofNat m_), iv (Int32.ofNat (m_ / 64)), rv b11, rv b23, iv sz, iv (own_low nw A iB), iv (Int32.ofNat (m_ / pr)), .val (.long (R (m_ / pr / 64))), .second, .val (.long ((A (m_ / 64)) &&& ((own_z m_) ^^^ (-1 : Int64)))), .second, .unset, iv (Int32.ofNat (m_ / pr * 2)), .unset, .unset, .unset, .unset] [(.int (Int32.ofNat (m_ / pr * 2)))]))
      refine own_go (fun t_ k_ => XS.iload X29.here hx rfl (hb hby at_251) rfl k_) ?_
      show OwnFin p e below s _ _ _ (T29.setTop (mkF m 253 #[iv fl, iv pk, .val (.long qa), .second, .val (.long qb), .second, .val (.long qc), .second, iv lg, iv (Int32.ofNat nm), iv (Int32.ofNat pr), iv (Int32.ofNat half), iv (Int32.ofNat m_), iv (Int32.ofNat (m_ / 64)), rv b11, rv b23, iv sz, iv (own_low nw A iB), iv (Int32.ofNat (m_ / pr)), .val (.long (R (m_ / pr / 64))), .second, .val (.long ((A (m_ / 64)) &&& ((own_z m_) ^^^ (-1 : Int64)))), .second, .unset, iv (Int32.ofNat (m_ / pr * 2)), .unset, .unset, .unset, .unset] [(.int (Int32.ofNat (m_ / 64))), (.int (Int32.ofNat (m_ / pr * 2)))]))
      by_cases hc253 : (Int32.ofNat (m_ / pr * 2)) = (Int32.ofNat (m_ / 64))
      · refine own_go (fun t_ k_ => XS.icmpNo X29.here hx rfl (hb hby at_253) rfl (teq hc253).2 k_) ?_
        show OwnFin p e below s _ _ _ (T29.setTop (mkF m 256 #[iv fl, iv pk, .val (.long qa), .second, .val (.long qb), .second, .val (.long qc), .second, iv lg, iv (Int32.ofNat nm), iv (Int32.ofNat pr), iv (Int32.ofNat half), iv (Int32.ofNat m_), iv (Int32.ofNat (m_ / 64)), rv b11, rv b23, iv sz, iv (own_low nw A iB), iv (Int32.ofNat (m_ / pr)), .val (.long (R (m_ / pr / 64))), .second, .val (.long ((A (m_ / 64)) &&& ((own_z m_) ^^^ (-1 : Int64)))), .second, .unset, iv (Int32.ofNat (m_ / pr * 2)), .unset, .unset, .unset, .unset] []))
        have hfw : m_ / pr * 2 = m_ / 64 := (own_eqN (by omega) (by omega)).mp hc253
        have hk := own_rack2' hp hm640 hbit hfw
        refine own_go (fun t_ k_ => XS.lload X29.here hx rfl (hb hby at_256) rfl k_) ?_
        show OwnFin p e below s _ _ _ (T29.setTop (mkF m 258 #[iv fl, iv pk, .val (.long qa), .second, .val (.long qb), .second, .val (.long qc), .second, iv lg, iv (Int32.ofNat nm), iv (Int32.ofNat pr), iv (Int32.ofNat half), iv (Int32.ofNat m_), iv (Int32.ofNat (m_ / 64)), rv b11, rv b23, iv sz, iv (own_low nw A iB), iv (Int32.ofNat (m_ / pr)), .val (.long (R (m_ / pr / 64))), .second, .val (.long ((A (m_ / 64)) &&& ((own_z m_) ^^^ (-1 : Int64)))), .second, .unset, iv (Int32.ofNat (m_ / pr * 2)), .unset, .unset, .unset, .unset] [(.long ((A (m_ / 64)) &&& ((own_z m_) ^^^ (-1 : Int64))))]))
        refine own_go (fun t_ k_ => XS.goto X29.here hx rfl (pc0 := 258) (pc' := 266) rfl (hb hby at_258) (by decide) (by decide) k_) ?_
        show OwnFin p e below s _ _ _ (T29.setTop (mkF m 266 #[iv fl, iv pk, .val (.long qa), .second, .val (.long qb), .second, .val (.long qc), .second, iv lg, iv (Int32.ofNat nm), iv (Int32.ofNat pr), iv (Int32.ofNat half), iv (Int32.ofNat m_), iv (Int32.ofNat (m_ / 64)), rv b11, rv b23, iv sz, iv (own_low nw A iB), iv (Int32.ofNat (m_ / pr)), .val (.long (R (m_ / pr / 64))), .second, .val (.long ((A (m_ / 64)) &&& ((own_z m_) ^^^ (-1 : Int64)))), .second, .unset, iv (Int32.ofNat (m_ / pr * 2)), .unset, .unset, .unset, .unset] [(.long ((A (m_ / 64)) &&& ((own_z m_) ^^^ (-1 : Int64))))]))
        refine own_go (fun t_ k_ => XS.lstore X29.here hx rfl (hb hby at_266) rfl (l' := #[iv fl, iv pk, .val (.long qa), .second, .val (.long qb), .second, .val (.long qc), .second, iv lg, iv (Int32.ofNat nm), iv (Int32.ofNat pr), iv (Int32.ofNat half), iv (Int32.ofNat m_), iv (Int32.ofNat (m_ / 64)), rv b11, rv b23, iv sz, iv (own_low nw A iB), iv (Int32.ofNat (m_ / pr)), .val (.long (R (m_ / pr / 64))), .second, .val (.long ((A (m_ / 64)) &&& ((own_z m_) ^^^ (-1 : Int64)))), .second, .unset, iv (Int32.ofNat (m_ / pr * 2)), .val (.long ((A (m_ / 64)) &&& ((own_z m_) ^^^ (-1 : Int64)))), .second, .unset, .unset]) rfl k_) ?_
        show OwnFin p e below s _ _ _ (T29.setTop (mkF m 268 #[iv fl, iv pk, .val (.long qa), .second, .val (.long qb), .second, .val (.long qc), .second, iv lg, iv (Int32.ofNat nm), iv (Int32.ofNat pr), iv (Int32.ofNat half), iv (Int32.ofNat m_), iv (Int32.ofNat (m_ / 64)), rv b11, rv b23, iv sz, iv (own_low nw A iB), iv (Int32.ofNat (m_ / pr)), .val (.long (R (m_ / pr / 64))), .second, .val (.long ((A (m_ / 64)) &&& ((own_z m_) ^^^ (-1 : Int64)))), .second, .unset, iv (Int32.ofNat (m_ / pr * 2)), .val (.long ((A (m_ / 64)) &&& ((own_z m_) ^^^ (-1 : Int64)))), .second, .unset, .unset] []))
        refine own_go (fun t_ k_ => XS.iload X29.here hx rfl (hb hby at_268) rfl k_) ?_
        show OwnFin p e below s _ _ _ (T29.setTop (mkF m 270 #[iv fl, iv pk, .val (.long qa), .second, .val (.long qb), .second, .val (.long qc), .second, iv lg, iv (Int32.ofNat nm), iv (Int32.ofNat pr), iv (Int32.ofNat half), iv (Int32.ofNat m_), iv (Int32.ofNat (m_ / 64)), rv b11, rv b23, iv sz, iv (own_low nw A iB), iv (Int32.ofNat (m_ / pr)), .val (.long (R (m_ / pr / 64))), .second, .val (.long ((A (m_ / 64)) &&& ((own_z m_) ^^^ (-1 : Int64)))), .second, .unset, iv (Int32.ofNat (m_ / pr * 2)), .val (.long ((A (m_ / 64)) &&& ((own_z m_) ^^^ (-1 : Int64)))), .second, .unset, .unset] [(.int (Int32.ofNat (m_ / pr * 2)))]))
        refine own_go (fun t_ k_ => XS.iconst X29.here hx rfl (hb hby at_270) k_) ?_
        show OwnFin p e below s _ _ _ (T29.setTop (mkF m 271 #[iv fl, iv pk, .val (.long qa), .second, .val (.long qb), .second, .val (.long qc), .second, iv lg, iv (Int32.ofNat nm), iv (Int32.ofNat pr), iv (Int32.ofNat half), iv (Int32.ofNat m_), iv (Int32.ofNat (m_ / 64)), rv b11, rv b23, iv sz, iv (own_low nw A iB), iv (Int32.ofNat (m_ / pr)), .val (.long (R (m_ / pr / 64))), .second, .val (.long ((A (m_ / 64)) &&& ((own_z m_) ^^^ (-1 : Int64)))), .second, .unset, iv (Int32.ofNat (m_ / pr * 2)), .val (.long ((A (m_ / 64)) &&& ((own_z m_) ^^^ (-1 : Int64)))), .second, .unset, .unset] [(.int (1 : Int32)), (.int (Int32.ofNat (m_ / pr * 2)))]))
        refine own_go (fun t_ k_ => XS.iadd X29.here hx rfl (hb hby at_271) rfl k_) ?_
        show OwnFin p e below s _ _ _ (T29.setTop (mkF m 272 #[iv fl, iv pk, .val (.long qa), .second, .val (.long qb), .second, .val (.long qc), .second, iv lg, iv (Int32.ofNat nm), iv (Int32.ofNat pr), iv (Int32.ofNat half), iv (Int32.ofNat m_), iv (Int32.ofNat (m_ / 64)), rv b11, rv b23, iv sz, iv (own_low nw A iB), iv (Int32.ofNat (m_ / pr)), .val (.long (R (m_ / pr / 64))), .second, .val (.long ((A (m_ / 64)) &&& ((own_z m_) ^^^ (-1 : Int64)))), .second, .unset, iv (Int32.ofNat (m_ / pr * 2)), .val (.long ((A (m_ / 64)) &&& ((own_z m_) ^^^ (-1 : Int64)))), .second, .unset, .unset] [(.int ((Int32.ofNat (m_ / pr * 2)) + (1 : Int32)))]))
        rw [show ((Int32.ofNat (m_ / pr * 2)) + (1 : Int32)) = (Int32.ofNat (m_ / pr * 2 + 1)) from own_addN _ 1]
        show OwnFin p e below s _ _ _ (T29.setTop (mkF m 272 #[iv fl, iv pk, .val (.long qa), .second, .val (.long qb), .second, .val (.long qc), .second, iv lg, iv (Int32.ofNat nm), iv (Int32.ofNat pr), iv (Int32.ofNat half), iv (Int32.ofNat m_), iv (Int32.ofNat (m_ / 64)), rv b11, rv b23, iv sz, iv (own_low nw A iB), iv (Int32.ofNat (m_ / pr)), .val (.long (R (m_ / pr / 64))), .second, .val (.long ((A (m_ / 64)) &&& ((own_z m_) ^^^ (-1 : Int64)))), .second, .unset, iv (Int32.ofNat (m_ / pr * 2)), .val (.long ((A (m_ / 64)) &&& ((own_z m_) ^^^ (-1 : Int64)))), .second, .unset, .unset] [(.int (Int32.ofNat (m_ / pr * 2 + 1)))]))
        refine own_go (fun t_ k_ => XS.iload X29.here hx rfl (hb hby at_272) rfl k_) ?_
        show OwnFin p e below s _ _ _ (T29.setTop (mkF m 274 #[iv fl, iv pk, .val (.long qa), .second, .val (.long qb), .second, .val (.long qc), .second, iv lg, iv (Int32.ofNat nm), iv (Int32.ofNat pr), iv (Int32.ofNat half), iv (Int32.ofNat m_), iv (Int32.ofNat (m_ / 64)), rv b11, rv b23, iv sz, iv (own_low nw A iB), iv (Int32.ofNat (m_ / pr)), .val (.long (R (m_ / pr / 64))), .second, .val (.long ((A (m_ / 64)) &&& ((own_z m_) ^^^ (-1 : Int64)))), .second, .unset, iv (Int32.ofNat (m_ / pr * 2)), .val (.long ((A (m_ / 64)) &&& ((own_z m_) ^^^ (-1 : Int64)))), .second, .unset, .unset] [(.int (Int32.ofNat (m_ / 64))), (.int (Int32.ofNat (m_ / pr * 2 + 1)))]))
        have hc274 : ¬ ((Int32.ofNat (m_ / pr * 2 + 1)) = (Int32.ofNat (m_ / 64))) := fun q => absurd ((own_eqN (by omega) (by omega)).mp q) (by omega)
        refine own_go (fun t_ k_ => XS.icmpYes X29.here hx rfl (pc0 := 274) (pc' := 282) rfl (hb hby at_274) rfl (feq hc274).2 (by decide) (by decide) k_) ?_
        show OwnFin p e below s _ _ _ (T29.setTop (mkF m 282 #[iv fl, iv pk, .val (.long qa), .second, .val (.long qb), .second, .val (.long qc), .second, iv lg, iv (Int32.ofNat nm), iv (Int32.ofNat pr), iv (Int32.ofNat half), iv (Int32.ofNat m_), iv (Int32.ofNat (m_ / 64)), rv b11, rv b23, iv sz, iv (own_low nw A iB), iv (Int32.ofNat (m_ / pr)), .val (.long (R (m_ / pr / 64))), .second, .val (.long ((A (m_ / 64)) &&& ((own_z m_) ^^^ (-1 : Int64)))), .second, .unset, iv (Int32.ofNat (m_ / pr * 2)), .val (.long ((A (m_ / 64)) &&& ((own_z m_) ^^^ (-1 : Int64)))), .second, .unset, .unset] []))
        refine own_go (fun t_ k_ => XS.aload X29.here hx rfl (hb hby at_282) rfl rfl k_) ?_
        show OwnFin p e below s _ _ _ (T29.setTop (mkF m 284 #[iv fl, iv pk, .val (.long qa), .second, .val (.long qb), .second, .val (.long qc), .second, iv lg, iv (Int32.ofNat nm), iv (Int32.ofNat pr), iv (Int32.ofNat half), iv (Int32.ofNat m_), iv (Int32.ofNat (m_ / 64)), rv b11, rv b23, iv sz, iv (own_low nw A iB), iv (Int32.ofNat (m_ / pr)), .val (.long (R (m_ / pr / 64))), .second, .val (.long ((A (m_ / 64)) &&& ((own_z m_) ^^^ (-1 : Int64)))), .second, .unset, iv (Int32.ofNat (m_ / pr * 2)), .val (.long ((A (m_ / 64)) &&& ((own_z m_) ^^^ (-1 : Int64)))), .second, .unset, .unset] [(.ref b11)]))
        refine own_go (fun t_ k_ => XS.iload X29.here hx rfl (hb hby at_284) rfl k_) ?_
        show OwnFin p e below s _ _ _ (T29.setTop (mkF m 286 #[iv fl, iv pk, .val (.long qa), .second, .val (.long qb), .second, .val (.long qc), .second, iv lg, iv (Int32.ofNat nm), iv (Int32.ofNat pr), iv (Int32.ofNat half), iv (Int32.ofNat m_), iv (Int32.ofNat (m_ / 64)), rv b11, rv b23, iv sz, iv (own_low nw A iB), iv (Int32.ofNat (m_ / pr)), .val (.long (R (m_ / pr / 64))), .second, .val (.long ((A (m_ / 64)) &&& ((own_z m_) ^^^ (-1 : Int64)))), .second, .unset, iv (Int32.ofNat (m_ / pr * 2)), .val (.long ((A (m_ / 64)) &&& ((own_z m_) ^^^ (-1 : Int64)))), .second, .unset, .unset] [(.int (Int32.ofNat (m_ / pr * 2))), (.ref b11)]))
        refine own_go (fun t_ k_ => XS.iconst X29.here hx rfl (hb hby at_286) k_) ?_
        show OwnFin p e below s _ _ _ (T29.setTop (mkF m 287 #[iv fl, iv pk, .val (.long qa), .second, .val (.long qb), .second, .val (.long qc), .second, iv lg, iv (Int32.ofNat nm), iv (Int32.ofNat pr), iv (Int32.ofNat half), iv (Int32.ofNat m_), iv (Int32.ofNat (m_ / 64)), rv b11, rv b23, iv sz, iv (own_low nw A iB), iv (Int32.ofNat (m_ / pr)), .val (.long (R (m_ / pr / 64))), .second, .val (.long ((A (m_ / 64)) &&& ((own_z m_) ^^^ (-1 : Int64)))), .second, .unset, iv (Int32.ofNat (m_ / pr * 2)), .val (.long ((A (m_ / 64)) &&& ((own_z m_) ^^^ (-1 : Int64)))), .second, .unset, .unset] [(.int (1 : Int32)), (.int (Int32.ofNat (m_ / pr * 2))), (.ref b11)]))
        refine own_go (fun t_ k_ => XS.iadd X29.here hx rfl (hb hby at_287) rfl k_) ?_
        show OwnFin p e below s _ _ _ (T29.setTop (mkF m 288 #[iv fl, iv pk, .val (.long qa), .second, .val (.long qb), .second, .val (.long qc), .second, iv lg, iv (Int32.ofNat nm), iv (Int32.ofNat pr), iv (Int32.ofNat half), iv (Int32.ofNat m_), iv (Int32.ofNat (m_ / 64)), rv b11, rv b23, iv sz, iv (own_low nw A iB), iv (Int32.ofNat (m_ / pr)), .val (.long (R (m_ / pr / 64))), .second, .val (.long ((A (m_ / 64)) &&& ((own_z m_) ^^^ (-1 : Int64)))), .second, .unset, iv (Int32.ofNat (m_ / pr * 2)), .val (.long ((A (m_ / 64)) &&& ((own_z m_) ^^^ (-1 : Int64)))), .second, .unset, .unset] [(.int ((Int32.ofNat (m_ / pr * 2)) + (1 : Int32))), (.ref b11)]))
        rw [show ((Int32.ofNat (m_ / pr * 2)) + (1 : Int32)) = (Int32.ofNat (m_ / pr * 2 + 1)) from own_addN _ 1]
        show OwnFin p e below s _ _ _ (T29.setTop (mkF m 288 #[iv fl, iv pk, .val (.long qa), .second, .val (.long qb), .second, .val (.long qc), .second, iv lg, iv (Int32.ofNat nm), iv (Int32.ofNat pr), iv (Int32.ofNat half), iv (Int32.ofNat m_), iv (Int32.ofNat (m_ / 64)), rv b11, rv b23, iv sz, iv (own_low nw A iB), iv (Int32.ofNat (m_ / pr)), .val (.long (R (m_ / pr / 64))), .second, .val (.long ((A (m_ / 64)) &&& ((own_z m_) ^^^ (-1 : Int64)))), .second, .unset, iv (Int32.ofNat (m_ / pr * 2)), .val (.long ((A (m_ / 64)) &&& ((own_z m_) ^^^ (-1 : Int64)))), .second, .unset, .unset] [(.int (Int32.ofNat (m_ / pr * 2 + 1))), (.ref b11)]))
        refine own_go (own_laload X29 hx hZ rfl V_A_29 (i := (m_ / pr * 2 + 1)) rfl (by omega) (g := (mkF m 288 #[iv fl, iv pk, .val (.long qa), .second, .val (.long qb), .second, .val (.long qc), .second, iv lg, iv (Int32.ofNat nm), iv (Int32.ofNat pr), iv (Int32.ofNat half), iv (Int32.ofNat m_), iv (Int32.ofNat (m_ / 64)), rv b11, rv b23, iv sz, iv (own_low nw A iB), iv (Int32.ofNat (m_ / pr)), .val (.long (R (m_ / pr / 64))), .second, .val (.long ((A (m_ / 64)) &&& ((own_z m_) ^^^ (-1 : Int64)))), .second, .unset, iv (Int32.ofNat (m_ / pr * 2)), .val (.long ((A (m_ / 64)) &&& ((own_z m_) ^^^ (-1 : Int64)))), .second, .unset, .unset] [(.int (Int32.ofNat (m_ / pr * 2 + 1))), (.ref b11)])) rfl rfl (hb hby at_288)) ?_
        show OwnFin p e below s _ _ _ (T29.setTop (mkF m 289 #[iv fl, iv pk, .val (.long qa), .second, .val (.long qb), .second, .val (.long qc), .second, iv lg, iv (Int32.ofNat nm), iv (Int32.ofNat pr), iv (Int32.ofNat half), iv (Int32.ofNat m_), iv (Int32.ofNat (m_ / 64)), rv b11, rv b23, iv sz, iv (own_low nw A iB), iv (Int32.ofNat (m_ / pr)), .val (.long (R (m_ / pr / 64))), .second, .val (.long ((A (m_ / 64)) &&& ((own_z m_) ^^^ (-1 : Int64)))), .second, .unset, iv (Int32.ofNat (m_ / pr * 2)), .val (.long ((A (m_ / 64)) &&& ((own_z m_) ^^^ (-1 : Int64)))), .second, .unset, .unset] [(.long (A (m_ / pr * 2 + 1)))]))
        refine own_go (fun t_ k_ => XS.lstore X29.here hx rfl (hb hby at_289) rfl (l' := #[iv fl, iv pk, .val (.long qa), .second, .val (.long qb), .second, .val (.long qc), .second, iv lg, iv (Int32.ofNat nm), iv (Int32.ofNat pr), iv (Int32.ofNat half), iv (Int32.ofNat m_), iv (Int32.ofNat (m_ / 64)), rv b11, rv b23, iv sz, iv (own_low nw A iB), iv (Int32.ofNat (m_ / pr)), .val (.long (R (m_ / pr / 64))), .second, .val (.long ((A (m_ / 64)) &&& ((own_z m_) ^^^ (-1 : Int64)))), .second, .unset, iv (Int32.ofNat (m_ / pr * 2)), .val (.long ((A (m_ / 64)) &&& ((own_z m_) ^^^ (-1 : Int64)))), .second, .val (.long (A (m_ / pr * 2 + 1))), .second]) rfl k_) ?_
        show OwnFin p e below s _ _ _ (T29.setTop (mkF m 291 #[iv fl, iv pk, .val (.long qa), .second, .val (.long qb), .second, .val (.long qc), .second, iv lg, iv (Int32.ofNat nm), iv (Int32.ofNat pr), iv (Int32.ofNat half), iv (Int32.ofNat m_), iv (Int32.ofNat (m_ / 64)), rv b11, rv b23, iv sz, iv (own_low nw A iB), iv (Int32.ofNat (m_ / pr)), .val (.long (R (m_ / pr / 64))), .second, .val (.long ((A (m_ / 64)) &&& ((own_z m_) ^^^ (-1 : Int64)))), .second, .unset, iv (Int32.ofNat (m_ / pr * 2)), .val (.long ((A (m_ / 64)) &&& ((own_z m_) ^^^ (-1 : Int64)))), .second, .val (.long (A (m_ / pr * 2 + 1))), .second] []))
        refine own_go (fun t_ k_ => XS.lload X29.here hx rfl (hb hby at_291) rfl k_) ?_
        show OwnFin p e below s _ _ _ (T29.setTop (mkF m 293 #[iv fl, iv pk, .val (.long qa), .second, .val (.long qb), .second, .val (.long qc), .second, iv lg, iv (Int32.ofNat nm), iv (Int32.ofNat pr), iv (Int32.ofNat half), iv (Int32.ofNat m_), iv (Int32.ofNat (m_ / 64)), rv b11, rv b23, iv sz, iv (own_low nw A iB), iv (Int32.ofNat (m_ / pr)), .val (.long (R (m_ / pr / 64))), .second, .val (.long ((A (m_ / 64)) &&& ((own_z m_) ^^^ (-1 : Int64)))), .second, .unset, iv (Int32.ofNat (m_ / pr * 2)), .val (.long ((A (m_ / 64)) &&& ((own_z m_) ^^^ (-1 : Int64)))), .second, .val (.long (A (m_ / pr * 2 + 1))), .second] [(.long ((A (m_ / 64)) &&& ((own_z m_) ^^^ (-1 : Int64))))]))
        refine own_go (fun t_ k_ => XS.lload X29.here hx rfl (hb hby at_293) rfl k_) ?_
        show OwnFin p e below s _ _ _ (T29.setTop (mkF m 295 #[iv fl, iv pk, .val (.long qa), .second, .val (.long qb), .second, .val (.long qc), .second, iv lg, iv (Int32.ofNat nm), iv (Int32.ofNat pr), iv (Int32.ofNat half), iv (Int32.ofNat m_), iv (Int32.ofNat (m_ / 64)), rv b11, rv b23, iv sz, iv (own_low nw A iB), iv (Int32.ofNat (m_ / pr)), .val (.long (R (m_ / pr / 64))), .second, .val (.long ((A (m_ / 64)) &&& ((own_z m_) ^^^ (-1 : Int64)))), .second, .unset, iv (Int32.ofNat (m_ / pr * 2)), .val (.long ((A (m_ / 64)) &&& ((own_z m_) ^^^ (-1 : Int64)))), .second, .val (.long (A (m_ / pr * 2 + 1))), .second] [(.long (A (m_ / pr * 2 + 1))), (.long ((A (m_ / 64)) &&& ((own_z m_) ^^^ (-1 : Int64))))]))
        refine own_go (fun t_ k_ => XS.lor X29.here hx rfl (hb hby at_295) rfl k_) ?_
        show OwnFin p e below s _ _ _ (T29.setTop (mkF m 296 #[iv fl, iv pk, .val (.long qa), .second, .val (.long qb), .second, .val (.long qc), .second, iv lg, iv (Int32.ofNat nm), iv (Int32.ofNat pr), iv (Int32.ofNat half), iv (Int32.ofNat m_), iv (Int32.ofNat (m_ / 64)), rv b11, rv b23, iv sz, iv (own_low nw A iB), iv (Int32.ofNat (m_ / pr)), .val (.long (R (m_ / pr / 64))), .second, .val (.long ((A (m_ / 64)) &&& ((own_z m_) ^^^ (-1 : Int64)))), .second, .unset, iv (Int32.ofNat (m_ / pr * 2)), .val (.long ((A (m_ / 64)) &&& ((own_z m_) ^^^ (-1 : Int64)))), .second, .val (.long (A (m_ / pr * 2 + 1))), .second] [(.long (((A (m_ / 64)) &&& ((own_z m_) ^^^ (-1 : Int64))) ||| (A (m_ / pr * 2 + 1))))]))
        refine own_go (fun t_ k_ => XS.lconst X29.here hx rfl (hb hby at_296) k_) ?_
        show OwnFin p e below s _ _ _ (T29.setTop (mkF m 297 #[iv fl, iv pk, .val (.long qa), .second, .val (.long qb), .second, .val (.long qc), .second, iv lg, iv (Int32.ofNat nm), iv (Int32.ofNat pr), iv (Int32.ofNat half), iv (Int32.ofNat m_), iv (Int32.ofNat (m_ / 64)), rv b11, rv b23, iv sz, iv (own_low nw A iB), iv (Int32.ofNat (m_ / pr)), .val (.long (R (m_ / pr / 64))), .second, .val (.long ((A (m_ / 64)) &&& ((own_z m_) ^^^ (-1 : Int64)))), .second, .unset, iv (Int32.ofNat (m_ / pr * 2)), .val (.long ((A (m_ / 64)) &&& ((own_z m_) ^^^ (-1 : Int64)))), .second, .val (.long (A (m_ / pr * 2 + 1))), .second] [(.long (0 : Int64)), (.long (((A (m_ / 64)) &&& ((own_z m_) ^^^ (-1 : Int64))) ||| (A (m_ / pr * 2 + 1))))]))
        refine own_go (fun t_ k_ => XS.lcmp X29.here hx rfl (hb hby at_297) rfl k_) ?_
        show OwnFin p e below s _ _ _ (T29.setTop (mkF m 298 #[iv fl, iv pk, .val (.long qa), .second, .val (.long qb), .second, .val (.long qc), .second, iv lg, iv (Int32.ofNat nm), iv (Int32.ofNat pr), iv (Int32.ofNat half), iv (Int32.ofNat m_), iv (Int32.ofNat (m_ / 64)), rv b11, rv b23, iv sz, iv (own_low nw A iB), iv (Int32.ofNat (m_ / pr)), .val (.long (R (m_ / pr / 64))), .second, .val (.long ((A (m_ / 64)) &&& ((own_z m_) ^^^ (-1 : Int64)))), .second, .unset, iv (Int32.ofNat (m_ / pr * 2)), .val (.long ((A (m_ / 64)) &&& ((own_z m_) ^^^ (-1 : Int64)))), .second, .val (.long (A (m_ / pr * 2 + 1))), .second] [(.int (lcmpW (((A (m_ / 64)) &&& ((own_z m_) ^^^ (-1 : Int64))) ||| (A (m_ / pr * 2 + 1))) (0 : Int64)))]))
        by_cases hc298 : (((A (m_ / 64)) &&& ((own_z m_) ^^^ (-1 : Int64))) ||| (A (m_ / pr * 2 + 1))) = (0 : Int64)
        · refine own_go (fun t_ k_ => XS.ifYes X29.here hx rfl (pc0 := 298) (pc' := 305) rfl (hb hby at_298) rfl ((if0 _ _).trans (teq ((lw_eq (((A (m_ / 64)) &&& ((own_z m_) ^^^ (-1 : Int64))) ||| (A (m_ / pr * 2 + 1))) (0 : Int64)).mpr hc298)).1) (by decide) (by decide) k_) ?_
          show OwnFin p e below s _ _ _ (T29.setTop (mkF m 305 #[iv fl, iv pk, .val (.long qa), .second, .val (.long qb), .second, .val (.long qc), .second, iv lg, iv (Int32.ofNat nm), iv (Int32.ofNat pr), iv (Int32.ofNat half), iv (Int32.ofNat m_), iv (Int32.ofNat (m_ / 64)), rv b11, rv b23, iv sz, iv (own_low nw A iB), iv (Int32.ofNat (m_ / pr)), .val (.long (R (m_ / pr / 64))), .second, .val (.long ((A (m_ / 64)) &&& ((own_z m_) ^^^ (-1 : Int64)))), .second, .unset, iv (Int32.ofNat (m_ / pr * 2)), .val (.long ((A (m_ / 64)) &&& ((own_z m_) ^^^ (-1 : Int64)))), .second, .val (.long (A (m_ / pr * 2 + 1))), .second] []))
          refine own_go (fun t_ k_ => XS.iconst X29.here hx rfl (hb hby at_305) k_) ?_
          show OwnFin p e below s _ _ _ (T29.setTop (mkF m 306 #[iv fl, iv pk, .val (.long qa), .second, .val (.long qb), .second, .val (.long qc), .second, iv lg, iv (Int32.ofNat nm), iv (Int32.ofNat pr), iv (Int32.ofNat half), iv (Int32.ofNat m_), iv (Int32.ofNat (m_ / 64)), rv b11, rv b23, iv sz, iv (own_low nw A iB), iv (Int32.ofNat (m_ / pr)), .val (.long (R (m_ / pr / 64))), .second, .val (.long ((A (m_ / 64)) &&& ((own_z m_) ^^^ (-1 : Int64)))), .second, .unset, iv (Int32.ofNat (m_ / pr * 2)), .val (.long ((A (m_ / 64)) &&& ((own_z m_) ^^^ (-1 : Int64)))), .second, .val (.long (A (m_ / pr * 2 + 1))), .second] [(.int (0 : Int32))]))
          refine own_go (fun t_ k_ => XS.istore X29.here hx rfl (hb hby at_306) rfl (l' := #[iv fl, iv pk, .val (.long qa), .second, .val (.long qb), .second, .val (.long qc), .second, iv lg, iv (Int32.ofNat nm), iv (Int32.ofNat pr), iv (Int32.ofNat half), iv (Int32.ofNat m_), iv (Int32.ofNat (m_ / 64)), rv b11, rv b23, iv sz, iv (own_low nw A iB), iv (Int32.ofNat (m_ / pr)), .val (.long (R (m_ / pr / 64))), .second, .val (.long ((A (m_ / 64)) &&& ((own_z m_) ^^^ (-1 : Int64)))), .second, iv (0 : Int32), iv (Int32.ofNat (m_ / pr * 2)), .val (.long ((A (m_ / 64)) &&& ((own_z m_) ^^^ (-1 : Int64)))), .second, .val (.long (A (m_ / pr * 2 + 1))), .second]) rfl k_) ?_
          show OwnFin p e below s _ _ _ (T29.setTop (mkF m 308 #[iv fl, iv pk, .val (.long qa), .second, .val (.long qb), .second, .val (.long qc), .second, iv lg, iv (Int32.ofNat nm), iv (Int32.ofNat pr), iv (Int32.ofNat half), iv (Int32.ofNat m_), iv (Int32.ofNat (m_ / 64)), rv b11, rv b23, iv sz, iv (own_low nw A iB), iv (Int32.ofNat (m_ / pr)), .val (.long (R (m_ / pr / 64))), .second, .val (.long ((A (m_ / 64)) &&& ((own_z m_) ^^^ (-1 : Int64)))), .second, iv (0 : Int32), iv (Int32.ofNat (m_ / pr * 2)), .val (.long ((A (m_ / 64)) &&& ((own_z m_) ^^^ (-1 : Int64)))), .second, .val (.long (A (m_ / pr * 2 + 1))), .second] []))
          refine own_go (fun t_ k_ => XS.goto X29.here hx rfl (pc0 := 308) (pc' := 358) rfl (hb hby at_308) (by decide) (by decide) k_) ?_
          show OwnFin p e below s _ _ _ (T29.setTop (mkF m 358 #[iv fl, iv pk, .val (.long qa), .second, .val (.long qb), .second, .val (.long qc), .second, iv lg, iv (Int32.ofNat nm), iv (Int32.ofNat pr), iv (Int32.ofNat half), iv (Int32.ofNat m_), iv (Int32.ofNat (m_ / 64)), rv b11, rv b23, iv sz, iv (own_low nw A iB), iv (Int32.ofNat (m_ / pr)), .val (.long (R (m_ / pr / 64))), .second, .val (.long ((A (m_ / 64)) &&& ((own_z m_) ^^^ (-1 : Int64)))), .second, iv (0 : Int32), iv (Int32.ofNat (m_ / pr * 2)), .val (.long ((A (m_ / 64)) &&& ((own_z m_) ^^^ (-1 : Int64)))), .second, .val (.long (A (m_ / pr * 2 + 1))), .second] []))
          refine own_go (fun t_ k_ => XS.iload X29.here hx rfl (hb hby at_358) rfl k_) ?_
          show OwnFin p e below s _ _ _ (T29.setTop (mkF m 360 #[iv fl, iv pk, .val (.long qa), .second, .val (.long qb), .second, .val (.long qc), .second, iv lg, iv (Int32.ofNat nm), iv (Int32.ofNat pr), iv (Int32.ofNat half), iv (Int32.ofNat m_), iv (Int32.ofNat (m_ / 64)), rv b11, rv b23, iv sz, iv (own_low nw A iB), iv (Int32.ofNat (m_ / pr)), .val (.long (R (m_ / pr / 64))), .second, .val (.long ((A (m_ / 64)) &&& ((own_z m_) ^^^ (-1 : Int64)))), .second, iv (0 : Int32), iv (Int32.ofNat (m_ / pr * 2)), .val (.long ((A (m_ / 64)) &&& ((own_z m_) ^^^ (-1 : Int64)))), .second, .val (.long (A (m_ / pr * 2 + 1))), .second] [(.int (0 : Int32))]))
          refine own_go (fun t_ k_ => XS.ifYes X29.here hx rfl (pc0 := 360) (pc' := 368) rfl (hb hby at_360) rfl ((if0 _ _).trans (teq (by decide)).1) (by decide) (by decide) k_) ?_
          show OwnFin p e below s _ _ _ (T29.setTop (mkF m 368 #[iv fl, iv pk, .val (.long qa), .second, .val (.long qb), .second, .val (.long qc), .second, iv lg, iv (Int32.ofNat nm), iv (Int32.ofNat pr), iv (Int32.ofNat half), iv (Int32.ofNat m_), iv (Int32.ofNat (m_ / 64)), rv b11, rv b23, iv sz, iv (own_low nw A iB), iv (Int32.ofNat (m_ / pr)), .val (.long (R (m_ / pr / 64))), .second, .val (.long ((A (m_ / 64)) &&& ((own_z m_) ^^^ (-1 : Int64)))), .second, iv (0 : Int32), iv (Int32.ofNat (m_ / pr * 2)), .val (.long ((A (m_ / 64)) &&& ((own_z m_) ^^^ (-1 : Int64)))), .second, .val (.long (A (m_ / pr * 2 + 1))), .second] []))
          refine own_go (fun t_ k_ => XS.lload X29.here hx rfl (hb hby at_368) rfl k_) ?_
          show OwnFin p e below s _ _ _ (T29.setTop (mkF m 370 #[iv fl, iv pk, .val (.long qa), .second, .val (.long qb), .second, .val (.long qc), .second, iv lg, iv (Int32.ofNat nm), iv (Int32.ofNat pr), iv (Int32.ofNat half), iv (Int32.ofNat m_), iv (Int32.ofNat (m_ / 64)), rv b11, rv b23, iv sz, iv (own_low nw A iB), iv (Int32.ofNat (m_ / pr)), .val (.long (R (m_ / pr / 64))), .second, .val (.long ((A (m_ / 64)) &&& ((own_z m_) ^^^ (-1 : Int64)))), .second, iv (0 : Int32), iv (Int32.ofNat (m_ / pr * 2)), .val (.long ((A (m_ / 64)) &&& ((own_z m_) ^^^ (-1 : Int64)))), .second, .val (.long (A (m_ / pr * 2 + 1))), .second] [(.long (R (m_ / pr / 64)))]))
          refine own_go (fun t_ k_ => XS.lconst X29.here hx rfl (hb hby at_370) k_) ?_
          show OwnFin p e below s _ _ _ (T29.setTop (mkF m 371 #[iv fl, iv pk, .val (.long qa), .second, .val (.long qb), .second, .val (.long qc), .second, iv lg, iv (Int32.ofNat nm), iv (Int32.ofNat pr), iv (Int32.ofNat half), iv (Int32.ofNat m_), iv (Int32.ofNat (m_ / 64)), rv b11, rv b23, iv sz, iv (own_low nw A iB), iv (Int32.ofNat (m_ / pr)), .val (.long (R (m_ / pr / 64))), .second, .val (.long ((A (m_ / 64)) &&& ((own_z m_) ^^^ (-1 : Int64)))), .second, iv (0 : Int32), iv (Int32.ofNat (m_ / pr * 2)), .val (.long ((A (m_ / 64)) &&& ((own_z m_) ^^^ (-1 : Int64)))), .second, .val (.long (A (m_ / pr * 2 + 1))), .second] [(.long (1 : Int64)), (.long (R (m_ / pr / 64)))]))
          refine own_go (fun t_ k_ => XS.iload X29.here hx rfl (hb hby at_371) rfl k_) ?_
          show OwnFin p e below s _ _ _ (T29.setTop (mkF m 373 #[iv fl, iv pk, .val (.long qa), .second, .val (.long qb), .second, .val (.long qc), .second, iv lg, iv (Int32.ofNat nm), iv (Int32.ofNat pr), iv (Int32.ofNat half), iv (Int32.ofNat m_), iv (Int32.ofNat (m_ / 64)), rv b11, rv b23, iv sz, iv (own_low nw A iB), iv (Int32.ofNat (m_ / pr)), .val (.long (R (m_ / pr / 64))), .second, .val (.long ((A (m_ / 64)) &&& ((own_z m_) ^^^ (-1 : Int64)))), .second, iv (0 : Int32), iv (Int32.ofNat (m_ / pr * 2)), .val (.long ((A (m_ / 64)) &&& ((own_z m_) ^^^ (-1 : Int64)))), .second, .val (.long (A (m_ / pr * 2 + 1))), .second] [(.int (Int32.ofNat (m_ / pr))), (.long (1 : Int64)), (.long (R (m_ / pr / 64)))]))
          refine own_go (fun t_ k_ => XS.lshl X29.here hx rfl (hb hby at_373) rfl k_) ?_
          show OwnFin p e below s _ _ _ (T29.setTop (mkF m 374 #[iv fl, iv pk, .val (.long qa), .second, .val (.long qb), .second, .val (.long qc), .second, iv lg, iv (Int32.ofNat nm), iv (Int32.ofNat pr), iv (Int32.ofNat half), iv (Int32.ofNat m_), iv (Int32.ofNat (m_ / 64)), rv b11, rv b23, iv sz, iv (own_low nw A iB), iv (Int32.ofNat (m_ / pr)), .val (.long (R (m_ / pr / 64))), .second, .val (.long ((A (m_ / 64)) &&& ((own_z m_) ^^^ (-1 : Int64)))), .second, iv (0 : Int32), iv (Int32.ofNat (m_ / pr * 2)), .val (.long ((A (m_ / 64)) &&& ((own_z m_) ^^^ (-1 : Int64)))), .second, .val (.long (A (m_ / pr * 2 + 1))), .second] [(.long ((1 : Int64) <<< ((Int32.ofNat (m_ / pr)) &&& 0x3f).toInt64)), (.long (R (m_ / pr / 64)))]))
          show OwnFin p e below s _ _ _ (T29.setTop (mkF m 374 #[iv fl, iv pk, .val (.long qa), .second, .val (.long qb), .second, .val (.long qc), .second, iv lg, iv (Int32.ofNat nm), iv (Int32.ofNat pr), iv (Int32.ofNat half), iv (Int32.ofNat m_), iv (Int32.ofNat (m_ / 64)), rv b11, rv b23, iv sz, iv (own_low nw A iB), iv (Int32.ofNat (m_ / pr)), .val (.long (R (m_ / pr / 64))), .second, .val (.long ((A (m_ / 64)) &&& ((own_z m_) ^^^ (-1 : Int64)))), .second, iv (0 : Int32), iv (Int32.ofNat (m_ / pr * 2)), .val (.long ((A (m_ / 64)) &&& ((own_z m_) ^^^ (-1 : Int64)))), .second, .val (.long (A (m_ / pr * 2 + 1))), .second] [(.long (own_z (m_ / pr))), (.long (R (m_ / pr / 64)))]))
          refine own_go (X29.ldc2Long hx hown (mvT hZ (hw _ (List.mem_of_getElem? (i := 2) rfl))) (g := (mkF m 374 #[iv fl, iv pk, .val (.long qa), .second, .val (.long qb), .second, .val (.long qc), .second, iv lg, iv (Int32.ofNat nm), iv (Int32.ofNat pr), iv (Int32.ofNat half), iv (Int32.ofNat m_), iv (Int32.ofNat (m_ / 64)), rv b11, rv b23, iv sz, iv (own_low nw A iB), iv (Int32.ofNat (m_ / pr)), .val (.long (R (m_ / pr / 64))), .second, .val (.long ((A (m_ / 64)) &&& ((own_z m_) ^^^ (-1 : Int64)))), .second, iv (0 : Int32), iv (Int32.ofNat (m_ / pr * 2)), .val (.long ((A (m_ / 64)) &&& ((own_z m_) ^^^ (-1 : Int64)))), .second, .val (.long (A (m_ / pr * 2 + 1))), .second] [(.long (own_z (m_ / pr))), (.long (R (m_ / pr / 64)))])) rfl (hb hby at_374)) ?_
          show OwnFin p e below s _ _ _ (T29.setTop (mkF m 377 #[iv fl, iv pk, .val (.long qa), .second, .val (.long qb), .second, .val (.long qc), .second, iv lg, iv (Int32.ofNat nm), iv (Int32.ofNat pr), iv (Int32.ofNat half), iv (Int32.ofNat m_), iv (Int32.ofNat (m_ / 64)), rv b11, rv b23, iv sz, iv (own_low nw A iB), iv (Int32.ofNat (m_ / pr)), .val (.long (R (m_ / pr / 64))), .second, .val (.long ((A (m_ / 64)) &&& ((own_z m_) ^^^ (-1 : Int64)))), .second, iv (0 : Int32), iv (Int32.ofNat (m_ / pr * 2)), .val (.long ((A (m_ / 64)) &&& ((own_z m_) ^^^ (-1 : Int64)))), .second, .val (.long (A (m_ / pr * 2 + 1))), .second] [(.long (-1 : Int64)), (.long (own_z (m_ / pr))), (.long (R (m_ / pr / 64)))]))
          refine own_go (fun t_ k_ => XS.lxor X29.here hx rfl (hb hby at_377) rfl k_) ?_
          show OwnFin p e below s _ _ _ (T29.setTop (mkF m 378 #[iv fl, iv pk, .val (.long qa), .second, .val (.long qb), .second, .val (.long qc), .second, iv lg, iv (Int32.ofNat nm), iv (Int32.ofNat pr), iv (Int32.ofNat half), iv (Int32.ofNat m_), iv (Int32.ofNat (m_ / 64)), rv b11, rv b23, iv sz, iv (own_low nw A iB), iv (Int32.ofNat (m_ / pr)), .val (.long (R (m_ / pr / 64))), .second, .val (.long ((A (m_ / 64)) &&& ((own_z m_) ^^^ (-1 : Int64)))), .second, iv (0 : Int32), iv (Int32.ofNat (m_ / pr * 2)), .val (.long ((A (m_ / 64)) &&& ((own_z m_) ^^^ (-1 : Int64)))), .second, .val (.long (A (m_ / pr * 2 + 1))), .second] [(.long ((own_z (m_ / pr)) ^^^ (-1 : Int64))), (.long (R (m_ / pr / 64)))]))
          refine own_go (fun t_ k_ => XS.land X29.here hx rfl (hb hby at_378) rfl k_) ?_
          show OwnFin p e below s _ _ _ (T29.setTop (mkF m 379 #[iv fl, iv pk, .val (.long qa), .second, .val (.long qb), .second, .val (.long qc), .second, iv lg, iv (Int32.ofNat nm), iv (Int32.ofNat pr), iv (Int32.ofNat half), iv (Int32.ofNat m_), iv (Int32.ofNat (m_ / 64)), rv b11, rv b23, iv sz, iv (own_low nw A iB), iv (Int32.ofNat (m_ / pr)), .val (.long (R (m_ / pr / 64))), .second, .val (.long ((A (m_ / 64)) &&& ((own_z m_) ^^^ (-1 : Int64)))), .second, iv (0 : Int32), iv (Int32.ofNat (m_ / pr * 2)), .val (.long ((A (m_ / 64)) &&& ((own_z m_) ^^^ (-1 : Int64)))), .second, .val (.long (A (m_ / pr * 2 + 1))), .second] [(.long ((R (m_ / pr / 64)) &&& ((own_z (m_ / pr)) ^^^ (-1 : Int64))))]))
          refine own_go (fun t_ k_ => XS.lstore X29.here hx rfl (hb hby at_379) rfl (l' := #[iv fl, iv pk, .val (.long qa), .second, .val (.long qb), .second, .val (.long qc), .second, iv lg, iv (Int32.ofNat nm), iv (Int32.ofNat pr), iv (Int32.ofNat half), iv (Int32.ofNat m_), iv (Int32.ofNat (m_ / 64)), rv b11, rv b23, iv sz, iv (own_low nw A iB), iv (Int32.ofNat (m_ / pr)), .val (.long (R (m_ / pr / 64))), .second, .val (.long ((A (m_ / 64)) &&& ((own_z m_) ^^^ (-1 : Int64)))), .second, iv (0 : Int32), .val (.long ((R (m_ / pr / 64)) &&& ((own_z (m_ / pr)) ^^^ (-1 : Int64)))), .second, .unset, .val (.long (A (m_ / pr * 2 + 1))), .second]) rfl k_) ?_
          show OwnFin p e below s _ _ _ (T29.setTop (mkF m 381 #[iv fl, iv pk, .val (.long qa), .second, .val (.long qb), .second, .val (.long qc), .second, iv lg, iv (Int32.ofNat nm), iv (Int32.ofNat pr), iv (Int32.ofNat half), iv (Int32.ofNat m_), iv (Int32.ofNat (m_ / 64)), rv b11, rv b23, iv sz, iv (own_low nw A iB), iv (Int32.ofNat (m_ / pr)), .val (.long (R (m_ / pr / 64))), .second, .val (.long ((A (m_ / 64)) &&& ((own_z m_) ^^^ (-1 : Int64)))), .second, iv (0 : Int32), .val (.long ((R (m_ / pr / 64)) &&& ((own_z (m_ / pr)) ^^^ (-1 : Int64)))), .second, .unset, .val (.long (A (m_ / pr * 2 + 1))), .second] []))
          exact fin_ _ _ _ _ _ T29 _ _ X29 rfl N29 Z29 V_A_29 Eq29 V_ao_29 Fq29_words Fq29_inBlocks Fq29_racks Fq29_size Vb_aw Vb_ab Vb_ak (by rw [own_rmR, if_pos rfl, if_pos (hk.mpr hc298)])
        · refine own_go (fun t_ k_ => XS.ifNo X29.here hx rfl (hb hby at_298) rfl ((if0 _ _).trans (feq (mt (lw_eq (((A (m_ / 64)) &&& ((own_z m_) ^^^ (-1 : Int64))) ||| (A (m_ / pr * 2 + 1))) (0 : Int64)).mp hc298)).1) k_) ?_
          show OwnFin p e below s _ _ _ (T29.setTop (mkF m 301 #[iv fl, iv pk, .val (.long qa), .second, .val (.long qb), .second, .val (.long qc), .second, iv lg, iv (Int32.ofNat nm), iv (Int32.ofNat pr), iv (Int32.ofNat half), iv (Int32.ofNat m_), iv (Int32.ofNat (m_ / 64)), rv b11, rv b23, iv sz, iv (own_low nw A iB), iv (Int32.ofNat (m_ / pr)), .val (.long (R (m_ / pr / 64))), .second, .val (.long ((A (m_ / 64)) &&& ((own_z m_) ^^^ (-1 : Int64)))), .second, .unset, iv (Int32.ofNat (m_ / pr * 2)), .val (.long ((A (m_ / 64)) &&& ((own_z m_) ^^^ (-1 : Int64)))), .second, .val (.long (A (m_ / pr * 2 + 1))), .second] []))
          refine own_go (fun t_ k_ => XS.iconst X29.here hx rfl (hb hby at_301) k_) ?_
          show OwnFin p e below s _ _ _ (T29.setTop (mkF m 302 #[iv fl, iv pk, .val (.long qa), .second, .val (.long qb), .second, .val (.long qc), .second, iv lg, iv (Int32.ofNat nm), iv (Int32.ofNat pr), iv (Int32.ofNat half), iv (Int32.ofNat m_), iv (Int32.ofNat (m_ / 64)), rv b11, rv b23, iv sz, iv (own_low nw A iB), iv (Int32.ofNat (m_ / pr)), .val (.long (R (m_ / pr / 64))), .second, .val (.long ((A (m_ / 64)) &&& ((own_z m_) ^^^ (-1 : Int64)))), .second, .unset, iv (Int32.ofNat (m_ / pr * 2)), .val (.long ((A (m_ / 64)) &&& ((own_z m_) ^^^ (-1 : Int64)))), .second, .val (.long (A (m_ / pr * 2 + 1))), .second] [(.int (1 : Int32))]))
          refine own_go (fun t_ k_ => XS.goto X29.here hx rfl (pc0 := 302) (pc' := 306) rfl (hb hby at_302) (by decide) (by decide) k_) ?_
          show OwnFin p e below s _ _ _ (T29.setTop (mkF m 306 #[iv fl, iv pk, .val (.long qa), .second, .val (.long qb), .second, .val (.long qc), .second, iv lg, iv (Int32.ofNat nm), iv (Int32.ofNat pr), iv (Int32.ofNat half), iv (Int32.ofNat m_), iv (Int32.ofNat (m_ / 64)), rv b11, rv b23, iv sz, iv (own_low nw A iB), iv (Int32.ofNat (m_ / pr)), .val (.long (R (m_ / pr / 64))), .second, .val (.long ((A (m_ / 64)) &&& ((own_z m_) ^^^ (-1 : Int64)))), .second, .unset, iv (Int32.ofNat (m_ / pr * 2)), .val (.long ((A (m_ / 64)) &&& ((own_z m_) ^^^ (-1 : Int64)))), .second, .val (.long (A (m_ / pr * 2 + 1))), .second] [(.int (1 : Int32))]))
          refine own_go (fun t_ k_ => XS.istore X29.here hx rfl (hb hby at_306) rfl (l' := #[iv fl, iv pk, .val (.long qa), .second, .val (.long qb), .second, .val (.long qc), .second, iv lg, iv (Int32.ofNat nm), iv (Int32.ofNat pr), iv (Int32.ofNat half), iv (Int32.ofNat m_), iv (Int32.ofNat (m_ / 64)), rv b11, rv b23, iv sz, iv (own_low nw A iB), iv (Int32.ofNat (m_ / pr)), .val (.long (R (m_ / pr / 64))), .second, .val (.long ((A (m_ / 64)) &&& ((own_z m_) ^^^ (-1 : Int64)))), .second, iv (1 : Int32), iv (Int32.ofNat (m_ / pr * 2)), .val (.long ((A (m_ / 64)) &&& ((own_z m_) ^^^ (-1 : Int64)))), .second, .val (.long (A (m_ / pr * 2 + 1))), .second]) rfl k_) ?_
          show OwnFin p e below s _ _ _ (T29.setTop (mkF m 308 #[iv fl, iv pk, .val (.long qa), .second, .val (.long qb), .second, .val (.long qc), .second, iv lg, iv (Int32.ofNat nm), iv (Int32.ofNat pr), iv (Int32.ofNat half), iv (Int32.ofNat m_), iv (Int32.ofNat (m_ / 64)), rv b11, rv b23, iv sz, iv (own_low nw A iB), iv (Int32.ofNat (m_ / pr)), .val (.long (R (m_ / pr / 64))), .second, .val (.long ((A (m_ / 64)) &&& ((own_z m_) ^^^ (-1 : Int64)))), .second, iv (1 : Int32), iv (Int32.ofNat (m_ / pr * 2)), .val (.long ((A (m_ / 64)) &&& ((own_z m_) ^^^ (-1 : Int64)))), .second, .val (.long (A (m_ / pr * 2 + 1))), .second] []))
          refine own_go (fun t_ k_ => XS.goto X29.here hx rfl (pc0 := 308) (pc' := 358) rfl (hb hby at_308) (by decide) (by decide) k_) ?_
          show OwnFin p e below s _ _ _ (T29.setTop (mkF m 358 #[iv fl, iv pk, .val (.long qa), .second, .val (.long qb), .second, .val (.long qc), .second, iv lg, iv (Int32.ofNat nm), iv (Int32.ofNat pr), iv (Int32.ofNat half), iv (Int32.ofNat m_), iv (Int32.ofNat (m_ / 64)), rv b11, rv b23, iv sz, iv (own_low nw A iB), iv (Int32.ofNat (m_ / pr)), .val (.long (R (m_ / pr / 64))), .second, .val (.long ((A (m_ / 64)) &&& ((own_z m_) ^^^ (-1 : Int64)))), .second, iv (1 : Int32), iv (Int32.ofNat (m_ / pr * 2)), .val (.long ((A (m_ / 64)) &&& ((own_z m_) ^^^ (-1 : Int64)))), .second, .val (.long (A (m_ / pr * 2 + 1))), .second] []))
          refine own_go (fun t_ k_ => XS.iload X29.here hx rfl (hb hby at_358) rfl k_) ?_
          show OwnFin p e below s _ _ _ (T29.setTop (mkF m 360 #[iv fl, iv pk, .val (.long qa), .second, .val (.long qb), .second, .val (.long qc), .second, iv lg, iv (Int32.ofNat nm), iv (Int32.ofNat pr), iv (Int32.ofNat half), iv (Int32.ofNat m_), iv (Int32.ofNat (m_ / 64)), rv b11, rv b23, iv sz, iv (own_low nw A iB), iv (Int32.ofNat (m_ / pr)), .val (.long (R (m_ / pr / 64))), .second, .val (.long ((A (m_ / 64)) &&& ((own_z m_) ^^^ (-1 : Int64)))), .second, iv (1 : Int32), iv (Int32.ofNat (m_ / pr * 2)), .val (.long ((A (m_ / 64)) &&& ((own_z m_) ^^^ (-1 : Int64)))), .second, .val (.long (A (m_ / pr * 2 + 1))), .second] [(.int (1 : Int32))]))
          refine own_go (fun t_ k_ => XS.ifNo X29.here hx rfl (hb hby at_360) rfl ((if0 _ _).trans (feq (by decide)).1) k_) ?_
          show OwnFin p e below s _ _ _ (T29.setTop (mkF m 363 #[iv fl, iv pk, .val (.long qa), .second, .val (.long qb), .second, .val (.long qc), .second, iv lg, iv (Int32.ofNat nm), iv (Int32.ofNat pr), iv (Int32.ofNat half), iv (Int32.ofNat m_), iv (Int32.ofNat (m_ / 64)), rv b11, rv b23, iv sz, iv (own_low nw A iB), iv (Int32.ofNat (m_ / pr)), .val (.long (R (m_ / pr / 64))), .second, .val (.long ((A (m_ / 64)) &&& ((own_z m_) ^^^ (-1 : Int64)))), .second, iv (1 : Int32), iv (Int32.ofNat (m_ / pr * 2)), .val (.long ((A (m_ / 64)) &&& ((own_z m_) ^^^ (-1 : Int64)))), .second, .val (.long (A (m_ / pr * 2 + 1))), .second] []))
          refine own_go (fun t_ k_ => XS.lload X29.here hx rfl (hb hby at_363) rfl k_) ?_
          show OwnFin p e below s _ _ _ (T29.setTop (mkF m 365 #[iv fl, iv pk, .val (.long qa), .second, .val (.long qb), .second, .val (.long qc), .second, iv lg, iv (Int32.ofNat nm), iv (Int32.ofNat pr), iv (Int32.ofNat half), iv (Int32.ofNat m_), iv (Int32.ofNat (m_ / 64)), rv b11, rv b23, iv sz, iv (own_low nw A iB), iv (Int32.ofNat (m_ / pr)), .val (.long (R (m_ / pr / 64))), .second, .val (.long ((A (m_ / 64)) &&& ((own_z m_) ^^^ (-1 : Int64)))), .second, iv (1 : Int32), iv (Int32.ofNat (m_ / pr * 2)), .val (.long ((A (m_ / 64)) &&& ((own_z m_) ^^^ (-1 : Int64)))), .second, .val (.long (A (m_ / pr * 2 + 1))), .second] [(.long (R (m_ / pr / 64)))]))
          refine own_go (fun t_ k_ => XS.goto X29.here hx rfl (pc0 := 365) (pc' := 379) rfl (hb hby at_365) (by decide) (by decide) k_) ?_
          show OwnFin p e below s _ _ _ (T29.setTop (mkF m 379 #[iv fl, iv pk, .val (.long qa), .second, .val (.long qb), .second, .val (.long qc), .second, iv lg, iv (Int32.ofNat nm), iv (Int32.ofNat pr), iv (Int32.ofNat half), iv (Int32.ofNat m_), iv (Int32.ofNat (m_ / 64)), rv b11, rv b23, iv sz, iv (own_low nw A iB), iv (Int32.ofNat (m_ / pr)), .val (.long (R (m_ / pr / 64))), .second, .val (.long ((A (m_ / 64)) &&& ((own_z m_) ^^^ (-1 : Int64)))), .second, iv (1 : Int32), iv (Int32.ofNat (m_ / pr * 2)), .val (.long ((A (m_ / 64)) &&& ((own_z m_) ^^^ (-1 : Int64)))), .second, .val (.long (A (m_ / pr * 2 + 1))), .second] [(.long (R (m_ / pr / 64)))]))
          refine own_go (fun t_ k_ => XS.lstore X29.here hx rfl (hb hby at_379) rfl (l' := #[iv fl, iv pk, .val (.long qa), .second, .val (.long qb), .second, .val (.long qc), .second, iv lg, iv (Int32.ofNat nm), iv (Int32.ofNat pr), iv (Int32.ofNat half), iv (Int32.ofNat m_), iv (Int32.ofNat (m_ / 64)), rv b11, rv b23, iv sz, iv (own_low nw A iB), iv (Int32.ofNat (m_ / pr)), .val (.long (R (m_ / pr / 64))), .second, .val (.long ((A (m_ / 64)) &&& ((own_z m_) ^^^ (-1 : Int64)))), .second, iv (1 : Int32), .val (.long (R (m_ / pr / 64))), .second, .unset, .val (.long (A (m_ / pr * 2 + 1))), .second]) rfl k_) ?_
          show OwnFin p e below s _ _ _ (T29.setTop (mkF m 381 #[iv fl, iv pk, .val (.long qa), .second, .val (.long qb), .second, .val (.long qc), .second, iv lg, iv (Int32.ofNat nm), iv (Int32.ofNat pr), iv (Int32.ofNat half), iv (Int32.ofNat m_), iv (Int32.ofNat (m_ / 64)), rv b11, rv b23, iv sz, iv (own_low nw A iB), iv (Int32.ofNat (m_ / pr)), .val (.long (R (m_ / pr / 64))), .second, .val (.long ((A (m_ / 64)) &&& ((own_z m_) ^^^ (-1 : Int64)))), .second, iv (1 : Int32), .val (.long (R (m_ / pr / 64))), .second, .unset, .val (.long (A (m_ / pr * 2 + 1))), .second] []))
          exact fin_ _ _ _ _ _ T29 _ _ X29 rfl N29 Z29 V_A_29 Eq29 V_ao_29 Fq29_words Fq29_inBlocks Fq29_racks Fq29_size Vb_aw Vb_ab Vb_ak (by rw [own_rmR, if_pos rfl, if_neg (mt hk.mp hc298), own_andm1])
      · refine own_go (fun t_ k_ => XS.icmpYes X29.here hx rfl (pc0 := 253) (pc' := 261) rfl (hb hby at_253) rfl (feq hc253).2 (by decide) (by decide) k_) ?_
        show OwnFin p e below s _ _ _ (T29.setTop (mkF m 261 #[iv fl, iv pk, .val (.long qa), .second, .val (.long qb), .second, .val (.long qc), .second, iv lg, iv (Int32.ofNat nm), iv (Int32.ofNat pr), iv (Int32.ofNat half), iv (Int32.ofNat m_), iv (Int32.ofNat (m_ / 64)), rv b11, rv b23, iv sz, iv (own_low nw A iB), iv (Int32.ofNat (m_ / pr)), .val (.long (R (m_ / pr / 64))), .second, .val (.long ((A (m_ / 64)) &&& ((own_z m_) ^^^ (-1 : Int64)))), .second, .unset, iv (Int32.ofNat (m_ / pr * 2)), .unset, .unset, .unset, .unset] []))
        have hfn : ¬ m_ / pr * 2 = m_ / 64 := fun q => hc253 (by rw [q])
        have hfw : m_ / pr * 2 + 1 = m_ / 64 := by subst hp; omega
        have hk := own_rack3' hp hm640 hbit hfw
        refine own_go (fun t_ k_ => XS.aload X29.here hx rfl (hb hby at_261) rfl rfl k_) ?_
        show OwnFin p e below s _ _ _ (T29.setTop (mkF m 263 #[iv fl, iv pk, .val (.long qa), .second, .val (.long qb), .second, .val (.long qc), .second, iv lg, iv (Int32.ofNat nm), iv (Int32.ofNat pr), iv (Int32.ofNat half), iv (Int32.ofNat m_), iv (Int32.ofNat (m_ / 64)), rv b11, rv b23, iv sz, iv (own_low nw A iB), iv (Int32.ofNat (m_ / pr)), .val (.long (R (m_ / pr / 64))), .second, .val (.long ((A (m_ / 64)) &&& ((own_z m_) ^^^ (-1 : Int64)))), .second, .unset, iv (Int32.ofNat (m_ / pr * 2)), .unset, .unset, .unset, .unset] [(.ref b11)]))
        refine own_go (fun t_ k_ => XS.iload X29.here hx rfl (hb hby at_263) rfl k_) ?_
        show OwnFin p e below s _ _ _ (T29.setTop (mkF m 265 #[iv fl, iv pk, .val (.long qa), .second, .val (.long qb), .second, .val (.long qc), .second, iv lg, iv (Int32.ofNat nm), iv (Int32.ofNat pr), iv (Int32.ofNat half), iv (Int32.ofNat m_), iv (Int32.ofNat (m_ / 64)), rv b11, rv b23, iv sz, iv (own_low nw A iB), iv (Int32.ofNat (m_ / pr)), .val (.long (R (m_ / pr / 64))), .second, .val (.long ((A (m_ / 64)) &&& ((own_z m_) ^^^ (-1 : Int64)))), .second, .unset, iv (Int32.ofNat (m_ / pr * 2)), .unset, .unset, .unset, .unset] [(.int (Int32.ofNat (m_ / pr * 2))), (.ref b11)]))
        refine own_go (own_laload X29 hx hZ rfl V_A_29 (i := (m_ / pr * 2)) rfl (by omega) (g := (mkF m 265 #[iv fl, iv pk, .val (.long qa), .second, .val (.long qb), .second, .val (.long qc), .second, iv lg, iv (Int32.ofNat nm), iv (Int32.ofNat pr), iv (Int32.ofNat half), iv (Int32.ofNat m_), iv (Int32.ofNat (m_ / 64)), rv b11, rv b23, iv sz, iv (own_low nw A iB), iv (Int32.ofNat (m_ / pr)), .val (.long (R (m_ / pr / 64))), .second, .val (.long ((A (m_ / 64)) &&& ((own_z m_) ^^^ (-1 : Int64)))), .second, .unset, iv (Int32.ofNat (m_ / pr * 2)), .unset, .unset, .unset, .unset] [(.int (Int32.ofNat (m_ / pr * 2))), (.ref b11)])) rfl rfl (hb hby at_265)) ?_
        show OwnFin p e below s _ _ _ (T29.setTop (mkF m 266 #[iv fl, iv pk, .val (.long qa), .second, .val (.long qb), .second, .val (.long qc), .second, iv lg, iv (Int32.ofNat nm), iv (Int32.ofNat pr), iv (Int32.ofNat half), iv (Int32.ofNat m_), iv (Int32.ofNat (m_ / 64)), rv b11, rv b23, iv sz, iv (own_low nw A iB), iv (Int32.ofNat (m_ / pr)), .val (.long (R (m_ / pr / 64))), .second, .val (.long ((A (m_ / 64)) &&& ((own_z m_) ^^^ (-1 : Int64)))), .second, .unset, iv (Int32.ofNat (m_ / pr * 2)), .unset, .unset, .unset, .unset] [(.long (A (m_ / pr * 2)))]))
        refine own_go (fun t_ k_ => XS.lstore X29.here hx rfl (hb hby at_266) rfl (l' := #[iv fl, iv pk, .val (.long qa), .second, .val (.long qb), .second, .val (.long qc), .second, iv lg, iv (Int32.ofNat nm), iv (Int32.ofNat pr), iv (Int32.ofNat half), iv (Int32.ofNat m_), iv (Int32.ofNat (m_ / 64)), rv b11, rv b23, iv sz, iv (own_low nw A iB), iv (Int32.ofNat (m_ / pr)), .val (.long (R (m_ / pr / 64))), .second, .val (.long ((A (m_ / 64)) &&& ((own_z m_) ^^^ (-1 : Int64)))), .second, .unset, iv (Int32.ofNat (m_ / pr * 2)), .val (.long (A (m_ / pr * 2))), .second, .unset, .unset]) rfl k_) ?_
        show OwnFin p e below s _ _ _ (T29.setTop (mkF m 268 #[iv fl, iv pk, .val (.long qa), .second, .val (.long qb), .second, .val (.long qc), .second, iv lg, iv (Int32.ofNat nm), iv (Int32.ofNat pr), iv (Int32.ofNat half), iv (Int32.ofNat m_), iv (Int32.ofNat (m_ / 64)), rv b11, rv b23, iv sz, iv (own_low nw A iB), iv (Int32.ofNat (m_ / pr)), .val (.long (R (m_ / pr / 64))), .second, .val (.long ((A (m_ / 64)) &&& ((own_z m_) ^^^ (-1 : Int64)))), .second, .unset, iv (Int32.ofNat (m_ / pr * 2)), .val (.long (A (m_ / pr * 2))), .second, .unset, .unset] []))
        refine own_go (fun t_ k_ => XS.iload X29.here hx rfl (hb hby at_268) rfl k_) ?_
        show OwnFin p e below s _ _ _ (T29.setTop (mkF m 270 #[iv fl, iv pk, .val (.long qa), .second, .val (.long qb), .second, .val (.long qc), .second, iv lg, iv (Int32.ofNat nm), iv (Int32.ofNat pr), iv (Int32.ofNat half), iv (Int32.ofNat m_), iv (Int32.ofNat (m_ / 64)), rv b11, rv b23, iv sz, iv (own_low nw A iB), iv (Int32.ofNat (m_ / pr)), .val (.long (R (m_ / pr / 64))), .second, .val (.long ((A (m_ / 64)) &&& ((own_z m_) ^^^ (-1 : Int64)))), .second, .unset, iv (Int32.ofNat (m_ / pr * 2)), .val (.long (A (m_ / pr * 2))), .second, .unset, .unset] [(.int (Int32.ofNat (m_ / pr * 2)))]))
        refine own_go (fun t_ k_ => XS.iconst X29.here hx rfl (hb hby at_270) k_) ?_
        show OwnFin p e below s _ _ _ (T29.setTop (mkF m 271 #[iv fl, iv pk, .val (.long qa), .second, .val (.long qb), .second, .val (.long qc), .second, iv lg, iv (Int32.ofNat nm), iv (Int32.ofNat pr), iv (Int32.ofNat half), iv (Int32.ofNat m_), iv (Int32.ofNat (m_ / 64)), rv b11, rv b23, iv sz, iv (own_low nw A iB), iv (Int32.ofNat (m_ / pr)), .val (.long (R (m_ / pr / 64))), .second, .val (.long ((A (m_ / 64)) &&& ((own_z m_) ^^^ (-1 : Int64)))), .second, .unset, iv (Int32.ofNat (m_ / pr * 2)), .val (.long (A (m_ / pr * 2))), .second, .unset, .unset] [(.int (1 : Int32)), (.int (Int32.ofNat (m_ / pr * 2)))]))
        refine own_go (fun t_ k_ => XS.iadd X29.here hx rfl (hb hby at_271) rfl k_) ?_
        show OwnFin p e below s _ _ _ (T29.setTop (mkF m 272 #[iv fl, iv pk, .val (.long qa), .second, .val (.long qb), .second, .val (.long qc), .second, iv lg, iv (Int32.ofNat nm), iv (Int32.ofNat pr), iv (Int32.ofNat half), iv (Int32.ofNat m_), iv (Int32.ofNat (m_ / 64)), rv b11, rv b23, iv sz, iv (own_low nw A iB), iv (Int32.ofNat (m_ / pr)), .val (.long (R (m_ / pr / 64))), .second, .val (.long ((A (m_ / 64)) &&& ((own_z m_) ^^^ (-1 : Int64)))), .second, .unset, iv (Int32.ofNat (m_ / pr * 2)), .val (.long (A (m_ / pr * 2))), .second, .unset, .unset] [(.int ((Int32.ofNat (m_ / pr * 2)) + (1 : Int32)))]))
        rw [show ((Int32.ofNat (m_ / pr * 2)) + (1 : Int32)) = (Int32.ofNat (m_ / pr * 2 + 1)) from own_addN _ 1]
        show OwnFin p e below s _ _ _ (T29.setTop (mkF m 272 #[iv fl, iv pk, .val (.long qa), .second, .val (.long qb), .second, .val (.long qc), .second, iv lg, iv (Int32.ofNat nm), iv (Int32.ofNat pr), iv (Int32.ofNat half), iv (Int32.ofNat m_), iv (Int32.ofNat (m_ / 64)), rv b11, rv b23, iv sz, iv (own_low nw A iB), iv (Int32.ofNat (m_ / pr)), .val (.long (R (m_ / pr / 64))), .second, .val (.long ((A (m_ / 64)) &&& ((own_z m_) ^^^ (-1 : Int64)))), .second, .unset, iv (Int32.ofNat (m_ / pr * 2)), .val (.long (A (m_ / pr * 2))), .second, .unset, .unset] [(.int (Int32.ofNat (m_ / pr * 2 + 1)))]))
        refine own_go (fun t_ k_ => XS.iload X29.here hx rfl (hb hby at_272) rfl k_) ?_
        show OwnFin p e below s _ _ _ (T29.setTop (mkF m 274 #[iv fl, iv pk, .val (.long qa), .second, .val (.long qb), .second, .val (.long qc), .second, iv lg, iv (Int32.ofNat nm), iv (Int32.ofNat pr), iv (Int32.ofNat half), iv (Int32.ofNat m_), iv (Int32.ofNat (m_ / 64)), rv b11, rv b23, iv sz, iv (own_low nw A iB), iv (Int32.ofNat (m_ / pr)), .val (.long (R (m_ / pr / 64))), .second, .val (.long ((A (m_ / 64)) &&& ((own_z m_) ^^^ (-1 : Int64)))), .second, .unset, iv (Int32.ofNat (m_ / pr * 2)), .val (.long (A (m_ / pr * 2))), .second, .unset, .unset] [(.int (Int32.ofNat (m_ / 64))), (.int (Int32.ofNat (m_ / pr * 2 + 1)))]))
        have hc274 : (Int32.ofNat (m_ / pr * 2 + 1)) = (Int32.ofNat (m_ / 64)) := by rw [hfw]
        refine own_go (fun t_ k_ => XS.icmpNo X29.here hx rfl (hb hby at_274) rfl (teq hc274).2 k_) ?_
        show OwnFin p e below s _ _ _ (T29.setTop (mkF m 277 #[iv fl, iv pk, .val (.long qa), .second, .val (.long qb), .second, .val (.long qc), .second, iv lg, iv (Int32.ofNat nm), iv (Int32.ofNat pr), iv (Int32.ofNat half), iv (Int32.ofNat m_), iv (Int32.ofNat (m_ / 64)), rv b11, rv b23, iv sz, iv (own_low nw A iB), iv (Int32.ofNat (m_ / pr)), .val (.long (R (m_ / pr / 64))), .second, .val (.long ((A (m_ / 64)) &&& ((own_z m_) ^^^ (-1 : Int64)))), .second, .unset, iv (Int32.ofNat (m_ / pr * 2)), .val (.long (A (m_ / pr * 2))), .second, .unset, .unset] []))
        refine own_go (fun t_ k_ => XS.lload X29.here hx rfl (hb hby at_277) rfl k_) ?_
        show OwnFin p e below s _ _ _ (T29.setTop (mkF m 279 #[iv fl, iv pk, .val (.long qa), .second, .val (.long qb), .second, .val (.long qc), .second, iv lg, iv (Int32.ofNat nm), iv (Int32.ofNat pr), iv (Int32.ofNat half), iv (Int32.ofNat m_), iv (Int32.ofNat (m_ / 64)), rv b11, rv b23, iv sz, iv (own_low nw A iB), iv (Int32.ofNat (m_ / pr)), .val (.long (R (m_ / pr / 64))), .second, .val (.long ((A (m_ / 64)) &&& ((own_z m_) ^^^ (-1 : Int64)))), .second, .unset, iv (Int32.ofNat (m_ / pr * 2)), .val (.long (A (m_ / pr * 2))), .second, .unset, .unset] [(.long ((A (m_ / 64)) &&& ((own_z m_) ^^^ (-1 : Int64))))]))
        refine own_go (fun t_ k_ => XS.goto X29.here hx rfl (pc0 := 279) (pc' := 289) rfl (hb hby at_279) (by decide) (by decide) k_) ?_
        show OwnFin p e below s _ _ _ (T29.setTop (mkF m 289 #[iv fl, iv pk, .val (.long qa), .second, .val (.long qb), .second, .val (.long qc), .second, iv lg, iv (Int32.ofNat nm), iv (Int32.ofNat pr), iv (Int32.ofNat half), iv (Int32.ofNat m_), iv (Int32.ofNat (m_ / 64)), rv b11, rv b23, iv sz, iv (own_low nw A iB), iv (Int32.ofNat (m_ / pr)), .val (.long (R (m_ / pr / 64))), .second, .val (.long ((A (m_ / 64)) &&& ((own_z m_) ^^^ (-1 : Int64)))), .second, .unset, iv (Int32.ofNat (m_ / pr * 2)), .val (.long (A (m_ / pr * 2))), .second, .unset, .unset] [(.long ((A (m_ / 64)) &&& ((own_z m_) ^^^ (-1 : Int64))))]))
        refine own_go (fun t_ k_ => XS.lstore X29.here hx rfl (hb hby at_289) rfl (l' := #[iv fl, iv pk, .val (.long qa), .second, .val (.long qb), .second, .val (.long qc), .second, iv lg, iv (Int32.ofNat nm), iv (Int32.ofNat pr), iv (Int32.ofNat half), iv (Int32.ofNat m_), iv (Int32.ofNat (m_ / 64)), rv b11, rv b23, iv sz, iv (own_low nw A iB), iv (Int32.ofNat (m_ / pr)), .val (.long (R (m_ / pr / 64))), .second, .val (.long ((A (m_ / 64)) &&& ((own_z m_) ^^^ (-1 : Int64)))), .second, .unset, iv (Int32.ofNat (m_ / pr * 2)), .val (.long (A (m_ / pr * 2))), .second, .val (.long ((A (m_ / 64)) &&& ((own_z m_) ^^^ (-1 : Int64)))), .second]) rfl k_) ?_
        show OwnFin p e below s _ _ _ (T29.setTop (mkF m 291 #[iv fl, iv pk, .val (.long qa), .second, .val (.long qb), .second, .val (.long qc), .second, iv lg, iv (Int32.ofNat nm), iv (Int32.ofNat pr), iv (Int32.ofNat half), iv (Int32.ofNat m_), iv (Int32.ofNat (m_ / 64)), rv b11, rv b23, iv sz, iv (own_low nw A iB), iv (Int32.ofNat (m_ / pr)), .val (.long (R (m_ / pr / 64))), .second, .val (.long ((A (m_ / 64)) &&& ((own_z m_) ^^^ (-1 : Int64)))), .second, .unset, iv (Int32.ofNat (m_ / pr * 2)), .val (.long (A (m_ / pr * 2))), .second, .val (.long ((A (m_ / 64)) &&& ((own_z m_) ^^^ (-1 : Int64)))), .second] []))
        refine own_go (fun t_ k_ => XS.lload X29.here hx rfl (hb hby at_291) rfl k_) ?_
        show OwnFin p e below s _ _ _ (T29.setTop (mkF m 293 #[iv fl, iv pk, .val (.long qa), .second, .val (.long qb), .second, .val (.long qc), .second, iv lg, iv (Int32.ofNat nm), iv (Int32.ofNat pr), iv (Int32.ofNat half), iv (Int32.ofNat m_), iv (Int32.ofNat (m_ / 64)), rv b11, rv b23, iv sz, iv (own_low nw A iB), iv (Int32.ofNat (m_ / pr)), .val (.long (R (m_ / pr / 64))), .second, .val (.long ((A (m_ / 64)) &&& ((own_z m_) ^^^ (-1 : Int64)))), .second, .unset, iv (Int32.ofNat (m_ / pr * 2)), .val (.long (A (m_ / pr * 2))), .second, .val (.long ((A (m_ / 64)) &&& ((own_z m_) ^^^ (-1 : Int64)))), .second] [(.long (A (m_ / pr * 2)))]))
        refine own_go (fun t_ k_ => XS.lload X29.here hx rfl (hb hby at_293) rfl k_) ?_
        show OwnFin p e below s _ _ _ (T29.setTop (mkF m 295 #[iv fl, iv pk, .val (.long qa), .second, .val (.long qb), .second, .val (.long qc), .second, iv lg, iv (Int32.ofNat nm), iv (Int32.ofNat pr), iv (Int32.ofNat half), iv (Int32.ofNat m_), iv (Int32.ofNat (m_ / 64)), rv b11, rv b23, iv sz, iv (own_low nw A iB), iv (Int32.ofNat (m_ / pr)), .val (.long (R (m_ / pr / 64))), .second, .val (.long ((A (m_ / 64)) &&& ((own_z m_) ^^^ (-1 : Int64)))), .second, .unset, iv (Int32.ofNat (m_ / pr * 2)), .val (.long (A (m_ / pr * 2))), .second, .val (.long ((A (m_ / 64)) &&& ((own_z m_) ^^^ (-1 : Int64)))), .second] [(.long ((A (m_ / 64)) &&& ((own_z m_) ^^^ (-1 : Int64)))), (.long (A (m_ / pr * 2)))]))
        refine own_go (fun t_ k_ => XS.lor X29.here hx rfl (hb hby at_295) rfl k_) ?_
        show OwnFin p e below s _ _ _ (T29.setTop (mkF m 296 #[iv fl, iv pk, .val (.long qa), .second, .val (.long qb), .second, .val (.long qc), .second, iv lg, iv (Int32.ofNat nm), iv (Int32.ofNat pr), iv (Int32.ofNat half), iv (Int32.ofNat m_), iv (Int32.ofNat (m_ / 64)), rv b11, rv b23, iv sz, iv (own_low nw A iB), iv (Int32.ofNat (m_ / pr)), .val (.long (R (m_ / pr / 64))), .second, .val (.long ((A (m_ / 64)) &&& ((own_z m_) ^^^ (-1 : Int64)))), .second, .unset, iv (Int32.ofNat (m_ / pr * 2)), .val (.long (A (m_ / pr * 2))), .second, .val (.long ((A (m_ / 64)) &&& ((own_z m_) ^^^ (-1 : Int64)))), .second] [(.long ((A (m_ / pr * 2)) ||| ((A (m_ / 64)) &&& ((own_z m_) ^^^ (-1 : Int64)))))]))
        refine own_go (fun t_ k_ => XS.lconst X29.here hx rfl (hb hby at_296) k_) ?_
        show OwnFin p e below s _ _ _ (T29.setTop (mkF m 297 #[iv fl, iv pk, .val (.long qa), .second, .val (.long qb), .second, .val (.long qc), .second, iv lg, iv (Int32.ofNat nm), iv (Int32.ofNat pr), iv (Int32.ofNat half), iv (Int32.ofNat m_), iv (Int32.ofNat (m_ / 64)), rv b11, rv b23, iv sz, iv (own_low nw A iB), iv (Int32.ofNat (m_ / pr)), .val (.long (R (m_ / pr / 64))), .second, .val (.long ((A (m_ / 64)) &&& ((own_z m_) ^^^ (-1 : Int64)))), .second, .unset, iv (Int32.ofNat (m_ / pr * 2)), .val (.long (A (m_ / pr * 2))), .second, .val (.long ((A (m_ / 64)) &&& ((own_z m_) ^^^ (-1 : Int64)))), .second] [(.long (0 : Int64)), (.long ((A (m_ / pr * 2)) ||| ((A (m_ / 64)) &&& ((own_z m_) ^^^ (-1 : Int64)))))]))
        refine own_go (fun t_ k_ => XS.lcmp X29.here hx rfl (hb hby at_297) rfl k_) ?_
        show OwnFin p e below s _ _ _ (T29.setTop (mkF m 298 #[iv fl, iv pk, .val (.long qa), .second, .val (.long qb), .second, .val (.long qc), .second, iv lg, iv (Int32.ofNat nm), iv (Int32.ofNat pr), iv (Int32.ofNat half), iv (Int32.ofNat m_), iv (Int32.ofNat (m_ / 64)), rv b11, rv b23, iv sz, iv (own_low nw A iB), iv (Int32.ofNat (m_ / pr)), .val (.long (R (m_ / pr / 64))), .second, .val (.long ((A (m_ / 64)) &&& ((own_z m_) ^^^ (-1 : Int64)))), .second, .unset, iv (Int32.ofNat (m_ / pr * 2)), .val (.long (A (m_ / pr * 2))), .second, .val (.long ((A (m_ / 64)) &&& ((own_z m_) ^^^ (-1 : Int64)))), .second] [(.int (lcmpW ((A (m_ / pr * 2)) ||| ((A (m_ / 64)) &&& ((own_z m_) ^^^ (-1 : Int64)))) (0 : Int64)))]))
        by_cases hc298 : ((A (m_ / pr * 2)) ||| ((A (m_ / 64)) &&& ((own_z m_) ^^^ (-1 : Int64)))) = (0 : Int64)
        · refine own_go (fun t_ k_ => XS.ifYes X29.here hx rfl (pc0 := 298) (pc' := 305) rfl (hb hby at_298) rfl ((if0 _ _).trans (teq ((lw_eq ((A (m_ / pr * 2)) ||| ((A (m_ / 64)) &&& ((own_z m_) ^^^ (-1 : Int64)))) (0 : Int64)).mpr hc298)).1) (by decide) (by decide) k_) ?_
          show OwnFin p e below s _ _ _ (T29.setTop (mkF m 305 #[iv fl, iv pk, .val (.long qa), .second, .val (.long qb), .second, .val (.long qc), .second, iv lg, iv (Int32.ofNat nm), iv (Int32.ofNat pr), iv (Int32.ofNat half), iv (Int32.ofNat m_), iv (Int32.ofNat (m_ / 64)), rv b11, rv b23, iv sz, iv (own_low nw A iB), iv (Int32.ofNat (m_ / pr)), .val (.long (R (m_ / pr / 64))), .second, .val (.long ((A (m_ / 64)) &&& ((own_z m_) ^^^ (-1 : Int64)))), .second, .unset, iv (Int32.ofNat (m_ / pr * 2)), .val (.long (A (m_ / pr * 2))), .second, .val (.long ((A (m_ / 64)) &&& ((own_z m_) ^^^ (-1 : Int64)))), .second] []))
          refine own_go (fun t_ k_ => XS.iconst X29.here hx rfl (hb hby at_305) k_) ?_
          show OwnFin p e below s _ _ _ (T29.setTop (mkF m 306 #[iv fl, iv pk, .val (.long qa), .second, .val (.long qb), .second, .val (.long qc), .second, iv lg, iv (Int32.ofNat nm), iv (Int32.ofNat pr), iv (Int32.ofNat half), iv (Int32.ofNat m_), iv (Int32.ofNat (m_ / 64)), rv b11, rv b23, iv sz, iv (own_low nw A iB), iv (Int32.ofNat (m_ / pr)), .val (.long (R (m_ / pr / 64))), .second, .val (.long ((A (m_ / 64)) &&& ((own_z m_) ^^^ (-1 : Int64)))), .second, .unset, iv (Int32.ofNat (m_ / pr * 2)), .val (.long (A (m_ / pr * 2))), .second, .val (.long ((A (m_ / 64)) &&& ((own_z m_) ^^^ (-1 : Int64)))), .second] [(.int (0 : Int32))]))
          refine own_go (fun t_ k_ => XS.istore X29.here hx rfl (hb hby at_306) rfl (l' := #[iv fl, iv pk, .val (.long qa), .second, .val (.long qb), .second, .val (.long qc), .second, iv lg, iv (Int32.ofNat nm), iv (Int32.ofNat pr), iv (Int32.ofNat half), iv (Int32.ofNat m_), iv (Int32.ofNat (m_ / 64)), rv b11, rv b23, iv sz, iv (own_low nw A iB), iv (Int32.ofNat (m_ / pr)), .val (.long (R (m_ / pr / 64))), .second, .val (.long ((A (m_ / 64)) &&& ((own_z m_) ^^^ (-1 : Int64)))), .second, iv (0 : Int32), iv (Int32.ofNat (m_ / pr * 2)), .val (.long (A (m_ / pr * 2))), .second, .val (.long ((A (m_ / 64)) &&& ((own_z m_) ^^^ (-1 : Int64)))), .second]) rfl k_) ?_
          show OwnFin p e below s _ _ _ (T29.setTop (mkF m 308 #[iv fl, iv pk, .val (.long qa), .second, .val (.long qb), .second, .val (.long qc), .second, iv lg, iv (Int32.ofNat nm), iv (Int32.ofNat pr), iv (Int32.ofNat half), iv (Int32.ofNat m_), iv (Int32.ofNat (m_ / 64)), rv b11, rv b23, iv sz, iv (own_low nw A iB), iv (Int32.ofNat (m_ / pr)), .val (.long (R (m_ / pr / 64))), .second, .val (.long ((A (m_ / 64)) &&& ((own_z m_) ^^^ (-1 : Int64)))), .second, iv (0 : Int32), iv (Int32.ofNat (m_ / pr * 2)), .val (.long (A (m_ / pr * 2))), .second, .val (.long ((A (m_ / 64)) &&& ((own_z m_) ^^^ (-1 : Int64)))), .second] []))
          refine own_go (fun t_ k_ => XS.goto X29.here hx rfl (pc0 := 308) (pc' := 358) rfl (hb hby at_308) (by decide) (by decide) k_) ?_
          show OwnFin p e below s _ _ _ (T29.setTop (mkF m 358 #[iv fl, iv pk, .val (.long qa), .second, .val (.long qb), .second, .val (.long qc), .second, iv lg, iv (Int32.ofNat nm), iv (Int32.ofNat pr), iv (Int32.ofNat half), iv (Int32.ofNat m_), iv (Int32.ofNat (m_ / 64)), rv b11, rv b23, iv sz, iv (own_low nw A iB), iv (Int32.ofNat (m_ / pr)), .val (.long (R (m_ / pr / 64))), .second, .val (.long ((A (m_ / 64)) &&& ((own_z m_) ^^^ (-1 : Int64)))), .second, iv (0 : Int32), iv (Int32.ofNat (m_ / pr * 2)), .val (.long (A (m_ / pr * 2))), .second, .val (.long ((A (m_ / 64)) &&& ((own_z m_) ^^^ (-1 : Int64)))), .second] []))
          refine own_go (fun t_ k_ => XS.iload X29.here hx rfl (hb hby at_358) rfl k_) ?_
          show OwnFin p e below s _ _ _ (T29.setTop (mkF m 360 #[iv fl, iv pk, .val (.long qa), .second, .val (.long qb), .second, .val (.long qc), .second, iv lg, iv (Int32.ofNat nm), iv (Int32.ofNat pr), iv (Int32.ofNat half), iv (Int32.ofNat m_), iv (Int32.ofNat (m_ / 64)), rv b11, rv b23, iv sz, iv (own_low nw A iB), iv (Int32.ofNat (m_ / pr)), .val (.long (R (m_ / pr / 64))), .second, .val (.long ((A (m_ / 64)) &&& ((own_z m_) ^^^ (-1 : Int64)))), .second, iv (0 : Int32), iv (Int32.ofNat (m_ / pr * 2)), .val (.long (A (m_ / pr * 2))), .second, .val (.long ((A (m_ / 64)) &&& ((own_z m_) ^^^ (-1 : Int64)))), .second] [(.int (0 : Int32))]))
          refine own_go (fun t_ k_ => XS.ifYes X29.here hx rfl (pc0 := 360) (pc' := 368) rfl (hb hby at_360) rfl ((if0 _ _).trans (teq (by decide)).1) (by decide) (by decide) k_) ?_
          show OwnFin p e below s _ _ _ (T29.setTop (mkF m 368 #[iv fl, iv pk, .val (.long qa), .second, .val (.long qb), .second, .val (.long qc), .second, iv lg, iv (Int32.ofNat nm), iv (Int32.ofNat pr), iv (Int32.ofNat half), iv (Int32.ofNat m_), iv (Int32.ofNat (m_ / 64)), rv b11, rv b23, iv sz, iv (own_low nw A iB), iv (Int32.ofNat (m_ / pr)), .val (.long (R (m_ / pr / 64))), .second, .val (.long ((A (m_ / 64)) &&& ((own_z m_) ^^^ (-1 : Int64)))), .second, iv (0 : Int32), iv (Int32.ofNat (m_ / pr * 2)), .val (.long (A (m_ / pr * 2))), .second, .val (.long ((A (m_ / 64)) &&& ((own_z m_) ^^^ (-1 : Int64)))), .second] []))
          refine own_go (fun t_ k_ => XS.lload X29.here hx rfl (hb hby at_368) rfl k_) ?_
          show OwnFin p e below s _ _ _ (T29.setTop (mkF m 370 #[iv fl, iv pk, .val (.long qa), .second, .val (.long qb), .second, .val (.long qc), .second, iv lg, iv (Int32.ofNat nm), iv (Int32.ofNat pr), iv (Int32.ofNat half), iv (Int32.ofNat m_), iv (Int32.ofNat (m_ / 64)), rv b11, rv b23, iv sz, iv (own_low nw A iB), iv (Int32.ofNat (m_ / pr)), .val (.long (R (m_ / pr / 64))), .second, .val (.long ((A (m_ / 64)) &&& ((own_z m_) ^^^ (-1 : Int64)))), .second, iv (0 : Int32), iv (Int32.ofNat (m_ / pr * 2)), .val (.long (A (m_ / pr * 2))), .second, .val (.long ((A (m_ / 64)) &&& ((own_z m_) ^^^ (-1 : Int64)))), .second] [(.long (R (m_ / pr / 64)))]))
          refine own_go (fun t_ k_ => XS.lconst X29.here hx rfl (hb hby at_370) k_) ?_
          show OwnFin p e below s _ _ _ (T29.setTop (mkF m 371 #[iv fl, iv pk, .val (.long qa), .second, .val (.long qb), .second, .val (.long qc), .second, iv lg, iv (Int32.ofNat nm), iv (Int32.ofNat pr), iv (Int32.ofNat half), iv (Int32.ofNat m_), iv (Int32.ofNat (m_ / 64)), rv b11, rv b23, iv sz, iv (own_low nw A iB), iv (Int32.ofNat (m_ / pr)), .val (.long (R (m_ / pr / 64))), .second, .val (.long ((A (m_ / 64)) &&& ((own_z m_) ^^^ (-1 : Int64)))), .second, iv (0 : Int32), iv (Int32.ofNat (m_ / pr * 2)), .val (.long (A (m_ / pr * 2))), .second, .val (.long ((A (m_ / 64)) &&& ((own_z m_) ^^^ (-1 : Int64)))), .second] [(.long (1 : Int64)), (.long (R (m_ / pr / 64)))]))
          refine own_go (fun t_ k_ => XS.iload X29.here hx rfl (hb hby at_371) rfl k_) ?_
          show OwnFin p e below s _ _ _ (T29.setTop (mkF m 373 #[iv fl, iv pk, .val (.long qa), .second, .val (.long qb), .second, .val (.long qc), .second, iv lg, iv (Int32.ofNat nm), iv (Int32.ofNat pr), iv (Int32.ofNat half), iv (Int32.ofNat m_), iv (Int32.ofNat (m_ / 64)), rv b11, rv b23, iv sz, iv (own_low nw A iB), iv (Int32.ofNat (m_ / pr)), .val (.long (R (m_ / pr / 64))), .second, .val (.long ((A (m_ / 64)) &&& ((own_z m_) ^^^ (-1 : Int64)))), .second, iv (0 : Int32), iv (Int32.ofNat (m_ / pr * 2)), .val (.long (A (m_ / pr * 2))), .second, .val (.long ((A (m_ / 64)) &&& ((own_z m_) ^^^ (-1 : Int64)))), .second] [(.int (Int32.ofNat (m_ / pr))), (.long (1 : Int64)), (.long (R (m_ / pr / 64)))]))
          refine own_go (fun t_ k_ => XS.lshl X29.here hx rfl (hb hby at_373) rfl k_) ?_
          show OwnFin p e below s _ _ _ (T29.setTop (mkF m 374 #[iv fl, iv pk, .val (.long qa), .second, .val (.long qb), .second, .val (.long qc), .second, iv lg, iv (Int32.ofNat nm), iv (Int32.ofNat pr), iv (Int32.ofNat half), iv (Int32.ofNat m_), iv (Int32.ofNat (m_ / 64)), rv b11, rv b23, iv sz, iv (own_low nw A iB), iv (Int32.ofNat (m_ / pr)), .val (.long (R (m_ / pr / 64))), .second, .val (.long ((A (m_ / 64)) &&& ((own_z m_) ^^^ (-1 : Int64)))), .second, iv (0 : Int32), iv (Int32.ofNat (m_ / pr * 2)), .val (.long (A (m_ / pr * 2))), .second, .val (.long ((A (m_ / 64)) &&& ((own_z m_) ^^^ (-1 : Int64)))), .second] [(.long ((1 : Int64) <<< ((Int32.ofNat (m_ / pr)) &&& 0x3f).toInt64)), (.long (R (m_ / pr / 64)))]))
          show OwnFin p e below s _ _ _ (T29.setTop (mkF m 374 #[iv fl, iv pk, .val (.long qa), .second, .val (.long qb), .second, .val (.long qc), .second, iv lg, iv (Int32.ofNat nm), iv (Int32.ofNat pr), iv (Int32.ofNat half), iv (Int32.ofNat m_), iv (Int32.ofNat (m_ / 64)), rv b11, rv b23, iv sz, iv (own_low nw A iB), iv (Int32.ofNat (m_ / pr)), .val (.long (R (m_ / pr / 64))), .second, .val (.long ((A (m_ / 64)) &&& ((own_z m_) ^^^ (-1 : Int64)))), .second, iv (0 : Int32), iv (Int32.ofNat (m_ / pr * 2)), .val (.long (A (m_ / pr * 2))), .second, .val (.long ((A (m_ / 64)) &&& ((own_z m_) ^^^ (-1 : Int64)))), .second] [(.long (own_z (m_ / pr))), (.long (R (m_ / pr / 64)))]))
          refine own_go (X29.ldc2Long hx hown (mvT hZ (hw _ (List.mem_of_getElem? (i := 2) rfl))) (g := (mkF m 374 #[iv fl, iv pk, .val (.long qa), .second, .val (.long qb), .second, .val (.long qc), .second, iv lg, iv (Int32.ofNat nm), iv (Int32.ofNat pr), iv (Int32.ofNat half), iv (Int32.ofNat m_), iv (Int32.ofNat (m_ / 64)), rv b11, rv b23, iv sz, iv (own_low nw A iB), iv (Int32.ofNat (m_ / pr)), .val (.long (R (m_ / pr / 64))), .second, .val (.long ((A (m_ / 64)) &&& ((own_z m_) ^^^ (-1 : Int64)))), .second, iv (0 : Int32), iv (Int32.ofNat (m_ / pr * 2)), .val (.long (A (m_ / pr * 2))), .second, .val (.long ((A (m_ / 64)) &&& ((own_z m_) ^^^ (-1 : Int64)))), .second] [(.long (own_z (m_ / pr))), (.long (R (m_ / pr / 64)))])) rfl (hb hby at_374)) ?_
          show OwnFin p e below s _ _ _ (T29.setTop (mkF m 377 #[iv fl, iv pk, .val (.long qa), .second, .val (.long qb), .second, .val (.long qc), .second, iv lg, iv (Int32.ofNat nm), iv (Int32.ofNat pr), iv (Int32.ofNat half), iv (Int32.ofNat m_), iv (Int32.ofNat (m_ / 64)), rv b11, rv b23, iv sz, iv (own_low nw A iB), iv (Int32.ofNat (m_ / pr)), .val (.long (R (m_ / pr / 64))), .second, .val (.long ((A (m_ / 64)) &&& ((own_z m_) ^^^ (-1 : Int64)))), .second, iv (0 : Int32), iv (Int32.ofNat (m_ / pr * 2)), .val (.long (A (m_ / pr * 2))), .second, .val (.long ((A (m_ / 64)) &&& ((own_z m_) ^^^ (-1 : Int64)))), .second] [(.long (-1 : Int64)), (.long (own_z (m_ / pr))), (.long (R (m_ / pr / 64)))]))
          refine own_go (fun t_ k_ => XS.lxor X29.here hx rfl (hb hby at_377) rfl k_) ?_
          show OwnFin p e below s _ _ _ (T29.setTop (mkF m 378 #[iv fl, iv pk, .val (.long qa), .second, .val (.long qb), .second, .val (.long qc), .second, iv lg, iv (Int32.ofNat nm), iv (Int32.ofNat pr), iv (Int32.ofNat half), iv (Int32.ofNat m_), iv (Int32.ofNat (m_ / 64)), rv b11, rv b23, iv sz, iv (own_low nw A iB), iv (Int32.ofNat (m_ / pr)), .val (.long (R (m_ / pr / 64))), .second, .val (.long ((A (m_ / 64)) &&& ((own_z m_) ^^^ (-1 : Int64)))), .second, iv (0 : Int32), iv (Int32.ofNat (m_ / pr * 2)), .val (.long (A (m_ / pr * 2))), .second, .val (.long ((A (m_ / 64)) &&& ((own_z m_) ^^^ (-1 : Int64)))), .second] [(.long ((own_z (m_ / pr)) ^^^ (-1 : Int64))), (.long (R (m_ / pr / 64)))]))
          refine own_go (fun t_ k_ => XS.land X29.here hx rfl (hb hby at_378) rfl k_) ?_
          show OwnFin p e below s _ _ _ (T29.setTop (mkF m 379 #[iv fl, iv pk, .val (.long qa), .second, .val (.long qb), .second, .val (.long qc), .second, iv lg, iv (Int32.ofNat nm), iv (Int32.ofNat pr), iv (Int32.ofNat half), iv (Int32.ofNat m_), iv (Int32.ofNat (m_ / 64)), rv b11, rv b23, iv sz, iv (own_low nw A iB), iv (Int32.ofNat (m_ / pr)), .val (.long (R (m_ / pr / 64))), .second, .val (.long ((A (m_ / 64)) &&& ((own_z m_) ^^^ (-1 : Int64)))), .second, iv (0 : Int32), iv (Int32.ofNat (m_ / pr * 2)), .val (.long (A (m_ / pr * 2))), .second, .val (.long ((A (m_ / 64)) &&& ((own_z m_) ^^^ (-1 : Int64)))), .second] [(.long ((R (m_ / pr / 64)) &&& ((own_z (m_ / pr)) ^^^ (-1 : Int64))))]))
          refine own_go (fun t_ k_ => XS.lstore X29.here hx rfl (hb hby at_379) rfl (l' := #[iv fl, iv pk, .val (.long qa), .second, .val (.long qb), .second, .val (.long qc), .second, iv lg, iv (Int32.ofNat nm), iv (Int32.ofNat pr), iv (Int32.ofNat half), iv (Int32.ofNat m_), iv (Int32.ofNat (m_ / 64)), rv b11, rv b23, iv sz, iv (own_low nw A iB), iv (Int32.ofNat (m_ / pr)), .val (.long (R (m_ / pr / 64))), .second, .val (.long ((A (m_ / 64)) &&& ((own_z m_) ^^^ (-1 : Int64)))), .second, iv (0 : Int32), .val (.long ((R (m_ / pr / 64)) &&& ((own_z (m_ / pr)) ^^^ (-1 : Int64)))), .second, .unset, .val (.long ((A (m_ / 64)) &&& ((own_z m_) ^^^ (-1 : Int64)))), .second]) rfl k_) ?_
          show OwnFin p e below s _ _ _ (T29.setTop (mkF m 381 #[iv fl, iv pk, .val (.long qa), .second, .val (.long qb), .second, .val (.long qc), .second, iv lg, iv (Int32.ofNat nm), iv (Int32.ofNat pr), iv (Int32.ofNat half), iv (Int32.ofNat m_), iv (Int32.ofNat (m_ / 64)), rv b11, rv b23, iv sz, iv (own_low nw A iB), iv (Int32.ofNat (m_ / pr)), .val (.long (R (m_ / pr / 64))), .second, .val (.long ((A (m_ / 64)) &&& ((own_z m_) ^^^ (-1 : Int64)))), .second, iv (0 : Int32), .val (.long ((R (m_ / pr / 64)) &&& ((own_z (m_ / pr)) ^^^ (-1 : Int64)))), .second, .unset, .val (.long ((A (m_ / 64)) &&& ((own_z m_) ^^^ (-1 : Int64)))), .second] []))
          exact fin_ _ _ _ _ _ T29 _ _ X29 rfl N29 Z29 V_A_29 Eq29 V_ao_29 Fq29_words Fq29_inBlocks Fq29_racks Fq29_size Vb_aw Vb_ab Vb_ak (by rw [own_rmR, if_pos rfl, if_pos (hk.mpr hc298)])
        · refine own_go (fun t_ k_ => XS.ifNo X29.here hx rfl (hb hby at_298) rfl ((if0 _ _).trans (feq (mt (lw_eq ((A (m_ / pr * 2)) ||| ((A (m_ / 64)) &&& ((own_z m_) ^^^ (-1 : Int64)))) (0 : Int64)).mp hc298)).1) k_) ?_
          show OwnFin p e below s _ _ _ (T29.setTop (mkF m 301 #[iv fl, iv pk, .val (.long qa), .second, .val (.long qb), .second, .val (.long qc), .second, iv lg, iv (Int32.ofNat nm), iv (Int32.ofNat pr), iv (Int32.ofNat half), iv (Int32.ofNat m_), iv (Int32.ofNat (m_ / 64)), rv b11, rv b23, iv sz, iv (own_low nw A iB), iv (Int32.ofNat (m_ / pr)), .val (.long (R (m_ / pr / 64))), .second, .val (.long ((A (m_ / 64)) &&& ((own_z m_) ^^^ (-1 : Int64)))), .second, .unset, iv (Int32.ofNat (m_ / pr * 2)), .val (.long (A (m_ / pr * 2))), .second, .val (.long ((A (m_ / 64)) &&& ((own_z m_) ^^^ (-1 : Int64)))), .second] []))
          refine own_go (fun t_ k_ => XS.iconst X29.here hx rfl (hb hby at_301) k_) ?_
          show OwnFin p e below s _ _ _ (T29.setTop (mkF m 302 #[iv fl, iv pk, .val (.long qa), .second, .val (.long qb), .second, .val (.long qc), .second, iv lg, iv (Int32.ofNat nm), iv (Int32.ofNat pr), iv (Int32.ofNat half), iv (Int32.ofNat m_), iv (Int32.ofNat (m_ / 64)), rv b11, rv b23, iv sz, iv (own_low nw A iB), iv (Int32.ofNat (m_ / pr)), .val (.long (R (m_ / pr / 64))), .second, .val (.long ((A (m_ / 64)) &&& ((own_z m_) ^^^ (-1 : Int64)))), .second, .unset, iv (Int32.ofNat (m_ / pr * 2)), .val (.long (A (m_ / pr * 2))), .second, .val (.long ((A (m_ / 64)) &&& ((own_z m_) ^^^ (-1 : Int64)))), .second] [(.int (1 : Int32))]))
          refine own_go (fun t_ k_ => XS.goto X29.here hx rfl (pc0 := 302) (pc' := 306) rfl (hb hby at_302) (by decide) (by decide) k_) ?_
          show OwnFin p e below s _ _ _ (T29.setTop (mkF m 306 #[iv fl, iv pk, .val (.long qa), .second, .val (.long qb), .second, .val (.long qc), .second, iv lg, iv (Int32.ofNat nm), iv (Int32.ofNat pr), iv (Int32.ofNat half), iv (Int32.ofNat m_), iv (Int32.ofNat (m_ / 64)), rv b11, rv b23, iv sz, iv (own_low nw A iB), iv (Int32.ofNat (m_ / pr)), .val (.long (R (m_ / pr / 64))), .second, .val (.long ((A (m_ / 64)) &&& ((own_z m_) ^^^ (-1 : Int64)))), .second, .unset, iv (Int32.ofNat (m_ / pr * 2)), .val (.long (A (m_ / pr * 2))), .second, .val (.long ((A (m_ / 64)) &&& ((own_z m_) ^^^ (-1 : Int64)))), .second] [(.int (1 : Int32))]))
          refine own_go (fun t_ k_ => XS.istore X29.here hx rfl (hb hby at_306) rfl (l' := #[iv fl, iv pk, .val (.long qa), .second, .val (.long qb), .second, .val (.long qc), .second, iv lg, iv (Int32.ofNat nm), iv (Int32.ofNat pr), iv (Int32.ofNat half), iv (Int32.ofNat m_), iv (Int32.ofNat (m_ / 64)), rv b11, rv b23, iv sz, iv (own_low nw A iB), iv (Int32.ofNat (m_ / pr)), .val (.long (R (m_ / pr / 64))), .second, .val (.long ((A (m_ / 64)) &&& ((own_z m_) ^^^ (-1 : Int64)))), .second, iv (1 : Int32), iv (Int32.ofNat (m_ / pr * 2)), .val (.long (A (m_ / pr * 2))), .second, .val (.long ((A (m_ / 64)) &&& ((own_z m_) ^^^ (-1 : Int64)))), .second]) rfl k_) ?_
          show OwnFin p e below s _ _ _ (T29.setTop (mkF m 308 #[iv fl, iv pk, .val (.long qa), .second, .val (.long qb), .second, .val (.long qc), .second, iv lg, iv (Int32.ofNat nm), iv (Int32.ofNat pr), iv (Int32.ofNat half), iv (Int32.ofNat m_), iv (Int32.ofNat (m_ / 64)), rv b11, rv b23, iv sz, iv (own_low nw A iB), iv (Int32.ofNat (m_ / pr)), .val (.long (R (m_ / pr / 64))), .second, .val (.long ((A (m_ / 64)) &&& ((own_z m_) ^^^ (-1 : Int64)))), .second, iv (1 : Int32), iv (Int32.ofNat (m_ / pr * 2)), .val (.long (A (m_ / pr * 2))), .second, .val (.long ((A (m_ / 64)) &&& ((own_z m_) ^^^ (-1 : Int64)))), .second] []))
          refine own_go (fun t_ k_ => XS.goto X29.here hx rfl (pc0 := 308) (pc' := 358) rfl (hb hby at_308) (by decide) (by decide) k_) ?_
          show OwnFin p e below s _ _ _ (T29.setTop (mkF m 358 #[iv fl, iv pk, .val (.long qa), .second, .val (.long qb), .second, .val (.long qc), .second, iv lg, iv (Int32.ofNat nm), iv (Int32.ofNat pr), iv (Int32.ofNat half), iv (Int32.ofNat m_), iv (Int32.ofNat (m_ / 64)), rv b11, rv b23, iv sz, iv (own_low nw A iB), iv (Int32.ofNat (m_ / pr)), .val (.long (R (m_ / pr / 64))), .second, .val (.long ((A (m_ / 64)) &&& ((own_z m_) ^^^ (-1 : Int64)))), .second, iv (1 : Int32), iv (Int32.ofNat (m_ / pr * 2)), .val (.long (A (m_ / pr * 2))), .second, .val (.long ((A (m_ / 64)) &&& ((own_z m_) ^^^ (-1 : Int64)))), .second] []))
          refine own_go (fun t_ k_ => XS.iload X29.here hx rfl (hb hby at_358) rfl k_) ?_
          show OwnFin p e below s _ _ _ (T29.setTop (mkF m 360 #[iv fl, iv pk, .val (.long qa), .second, .val (.long qb), .second, .val (.long qc), .second, iv lg, iv (Int32.ofNat nm), iv (Int32.ofNat pr), iv (Int32.ofNat half), iv (Int32.ofNat m_), iv (Int32.ofNat (m_ / 64)), rv b11, rv b23, iv sz, iv (own_low nw A iB), iv (Int32.ofNat (m_ / pr)), .val (.long (R (m_ / pr / 64))), .second, .val (.long ((A (m_ / 64)) &&& ((own_z m_) ^^^ (-1 : Int64)))), .second, iv (1 : Int32), iv (Int32.ofNat (m_ / pr * 2)), .val (.long (A (m_ / pr * 2))), .second, .val (.long ((A (m_ / 64)) &&& ((own_z m_) ^^^ (-1 : Int64)))), .second] [(.int (1 : Int32))]))
          refine own_go (fun t_ k_ => XS.ifNo X29.here hx rfl (hb hby at_360) rfl ((if0 _ _).trans (feq (by decide)).1) k_) ?_
          show OwnFin p e below s _ _ _ (T29.setTop (mkF m 363 #[iv fl, iv pk, .val (.long qa), .second, .val (.long qb), .second, .val (.long qc), .second, iv lg, iv (Int32.ofNat nm), iv (Int32.ofNat pr), iv (Int32.ofNat half), iv (Int32.ofNat m_), iv (Int32.ofNat (m_ / 64)), rv b11, rv b23, iv sz, iv (own_low nw A iB), iv (Int32.ofNat (m_ / pr)), .val (.long (R (m_ / pr / 64))), .second, .val (.long ((A (m_ / 64)) &&& ((own_z m_) ^^^ (-1 : Int64)))), .second, iv (1 : Int32), iv (Int32.ofNat (m_ / pr * 2)), .val (.long (A (m_ / pr * 2))), .second, .val (.long ((A (m_ / 64)) &&& ((own_z m_) ^^^ (-1 : Int64)))), .second] []))
          refine own_go (fun t_ k_ => XS.lload X29.here hx rfl (hb hby at_363) rfl k_) ?_
          show OwnFin p e below s _ _ _ (T29.setTop (mkF m 365 #[iv fl, iv pk, .val (.long qa), .second, .val (.long qb), .second, .val (.long qc), .second, iv lg, iv (Int32.ofNat nm), iv (Int32.ofNat pr), iv (Int32.ofNat half), iv (Int32.ofNat m_), iv (Int32.ofNat (m_ / 64)), rv b11, rv b23, iv sz, iv (own_low nw A iB), iv (Int32.ofNat (m_ / pr)), .val (.long (R (m_ / pr / 64))), .second, .val (.long ((A (m_ / 64)) &&& ((own_z m_) ^^^ (-1 : Int64)))), .second, iv (1 : Int32), iv (Int32.ofNat (m_ / pr * 2)), .val (.long (A (m_ / pr * 2))), .second, .val (.long ((A (m_ / 64)) &&& ((own_z m_) ^^^ (-1 : Int64)))), .second] [(.long (R (m_ / pr / 64)))]))
          refine own_go (fun t_ k_ => XS.goto X29.here hx rfl (pc0 := 365) (pc' := 379) rfl (hb hby at_365) (by decide) (by decide) k_) ?_
          show OwnFin p e below s _ _ _ (T29.setTop (mkF m 379 #[iv fl, iv pk, .val (.long qa), .second, .val (.long qb), .second, .val (.long qc), .second, iv lg, iv (Int32.ofNat nm), iv (Int32.ofNat pr), iv (Int32.ofNat half), iv (Int32.ofNat m_), iv (Int32.ofNat (m_ / 64)), rv b11, rv b23, iv sz, iv (own_low nw A iB), iv (Int32.ofNat (m_ / pr)), .val (.long (R (m_ / pr / 64))), .second, .val (.long ((A (m_ / 64)) &&& ((own_z m_) ^^^ (-1 : Int64)))), .second, iv (1 : Int32), iv (Int32.ofNat (m_ / pr * 2)), .val (.long (A (m_ / pr * 2))), .second, .val (.long ((A (m_ / 64)) &&& ((own_z m_) ^^^ (-1 : Int64)))), .second] [(.long (R (m_ / pr / 64)))]))
          refine own_go (fun t_ k_ => XS.lstore X29.here hx rfl (hb hby at_379) rfl (l' := #[iv fl, iv pk, .val (.long qa), .second, .val (.long qb), .second, .val (.long qc), .second, iv lg, iv (Int32.ofNat nm), iv (Int32.ofNat pr), iv (Int32.ofNat half), iv (Int32.ofNat m_), iv (Int32.ofNat (m_ / 64)), rv b11, rv b23, iv sz, iv (own_low nw A iB), iv (Int32.ofNat (m_ / pr)), .val (.long (R (m_ / pr / 64))), .second, .val (.long ((A (m_ / 64)) &&& ((own_z m_) ^^^ (-1 : Int64)))), .second, iv (1 : Int32), .val (.long (R (m_ / pr / 64))), .second, .unset, .val (.long ((A (m_ / 64)) &&& ((own_z m_) ^^^ (-1 : Int64)))), .second]) rfl k_) ?_
          show OwnFin p e below s _ _ _ (T29.setTop (mkF m 381 #[iv fl, iv pk, .val (.long qa), .second, .val (.long qb), .second, .val (.long qc), .second, iv lg, iv (Int32.ofNat nm), iv (Int32.ofNat pr), iv (Int32.ofNat half), iv (Int32.ofNat m_), iv (Int32.ofNat (m_ / 64)), rv b11, rv b23, iv sz, iv (own_low nw A iB), iv (Int32.ofNat (m_ / pr)), .val (.long (R (m_ / pr / 64))), .second, .val (.long ((A (m_ / 64)) &&& ((own_z m_) ^^^ (-1 : Int64)))), .second, iv (1 : Int32), .val (.long (R (m_ / pr / 64))), .second, .unset, .val (.long ((A (m_ / 64)) &&& ((own_z m_) ^^^ (-1 : Int64)))), .second] []))
          exact fin_ _ _ _ _ _ T29 _ _ X29 rfl N29 Z29 V_A_29 Eq29 V_ao_29 Fq29_words Fq29_inBlocks Fq29_racks Fq29_size Vb_aw Vb_ab Vb_ak (by rw [own_rmR, if_pos rfl, if_neg (mt hk.mp hc298), own_andm1])
    · refine own_go (fun t_ k_ => XS.icmpYes X29.here hx rfl (pc0 := 240) (pc' := 311) rfl (hb hby at_240) rfl (feq hc240).2 (by decide) (by decide) k_) ?_
      show OwnFin p e below s _ _ _ (T29.setTop (mkF m 311 #[iv fl, iv pk, .val (.long qa), .second, .val (.long qb), .second, .val (.long qc), .second, iv lg, iv (Int32.ofNat nm), iv (Int32.ofNat pr), iv (Int32.ofNat half), iv (Int32.ofNat m_), iv (Int32.ofNat (m_ / 64)), rv b11, rv b23, iv sz, iv (own_low nw A iB), iv (Int32.ofNat (m_ / pr)), .val (.long (R (m_ / pr / 64))), .second, .val (.long ((A (m_ / 64)) &&& ((own_z m_) ^^^ (-1 : Int64)))), .second, .unset, .unset, .unset, .unset, .unset, .unset] []))
      have hp : ¬ pr = 128 := fun q => hc240 (by rw [q]; rfl)
      refine own_go (fun t_ k_ => XS.iload X29.here hx rfl (hb hby at_311) rfl k_) ?_
      show OwnFin p e below s _ _ _ (T29.setTop (mkF m 313 #[iv fl, iv pk, .val (.long qa), .second, .val (.long qb), .second, .val (.long qc), .second, iv lg, iv (Int32.ofNat nm), iv (Int32.ofNat pr), iv (Int32.ofNat half), iv (Int32.ofNat m_), iv (Int32.ofNat (m_ / 64)), rv b11, rv b23, iv sz, iv (own_low nw A iB), iv (Int32.ofNat (m_ / pr)), .val (.long (R (m_ / pr / 64))), .second, .val (.long ((A (m_ / 64)) &&& ((own_z m_) ^^^ (-1 : Int64)))), .second, .unset, .unset, .unset, .unset, .unset, .unset] [(.int (Int32.ofNat pr))]))
      refine own_go (fun t_ k_ => XS.bipush X29.here hx rfl (hb hby at_313) k_) ?_
      show OwnFin p e below s _ _ _ (T29.setTop (mkF m 315 #[iv fl, iv pk, .val (.long qa), .second, .val (.long qb), .second, .val (.long qc), .second, iv lg, iv (Int32.ofNat nm), iv (Int32.ofNat pr), iv (Int32.ofNat half), iv (Int32.ofNat m_), iv (Int32.ofNat (m_ / 64)), rv b11, rv b23, iv sz, iv (own_low nw A iB), iv (Int32.ofNat (m_ / pr)), .val (.long (R (m_ / pr / 64))), .second, .val (.long ((A (m_ / 64)) &&& ((own_z m_) ^^^ (-1 : Int64)))), .second, .unset, .unset, .unset, .unset, .unset, .unset] [(.int (64 : Int32)), (.int (Int32.ofNat pr))]))
      by_cases hc315 : (Int32.ofNat pr) = (64 : Int32)
      · refine own_go (fun t_ k_ => XS.icmpNo X29.here hx rfl (hb hby at_315) rfl (teq hc315).2 k_) ?_
        show OwnFin p e below s _ _ _ (T29.setTop (mkF m 318 #[iv fl, iv pk, .val (.long qa), .second, .val (.long qb), .second, .val (.long qc), .second, iv lg, iv (Int32.ofNat nm), iv (Int32.ofNat pr), iv (Int32.ofNat half), iv (Int32.ofNat m_), iv (Int32.ofNat (m_ / 64)), rv b11, rv b23, iv sz, iv (own_low nw A iB), iv (Int32.ofNat (m_ / pr)), .val (.long (R (m_ / pr / 64))), .second, .val (.long ((A (m_ / 64)) &&& ((own_z m_) ^^^ (-1 : Int64)))), .second, .unset, .unset, .unset, .unset, .unset, .unset] []))
        have h64 : pr = 64 := (own_eqN (by omega) (b := 64) (by decide)).mp hc315
        have hk := own_rack1 hP hp hm640 hbit
        have hM : own_mask pr (m_ / pr) = (-1 : Int64) := if_pos h64
        rw [hM] at hk
        refine own_go (X29.ldc2Long hx hown (mvT hZ (hw _ (List.mem_of_getElem? (i := 2) rfl))) (g := (mkF m 318 #[iv fl, iv pk, .val (.long qa), .second, .val (.long qb), .second, .val (.long qc), .second, iv lg, iv (Int32.ofNat nm), iv (Int32.ofNat pr), iv (Int32.ofNat half), iv (Int32.ofNat m_), iv (Int32.ofNat (m_ / 64)), rv b11, rv b23, iv sz, iv (own_low nw A iB), iv (Int32.ofNat (m_ / pr)), .val (.long (R (m_ / pr / 64))), .second, .val (.long ((A (m_ / 64)) &&& ((own_z m_) ^^^ (-1 : Int64)))), .second, .unset, .unset, .unset, .unset, .unset, .unset] [])) rfl (hb hby at_318)) ?_
        show OwnFin p e below s _ _ _ (T29.setTop (mkF m 321 #[iv fl, iv pk, .val (.long qa), .second, .val (.long qb), .second, .val (.long qc), .second, iv lg, iv (Int32.ofNat nm), iv (Int32.ofNat pr), iv (Int32.ofNat half), iv (Int32.ofNat m_), iv (Int32.ofNat (m_ / 64)), rv b11, rv b23, iv sz, iv (own_low nw A iB), iv (Int32.ofNat (m_ / pr)), .val (.long (R (m_ / pr / 64))), .second, .val (.long ((A (m_ / 64)) &&& ((own_z m_) ^^^ (-1 : Int64)))), .second, .unset, .unset, .unset, .unset, .unset, .unset] [(.long (-1 : Int64))]))
        refine own_go (fun t_ k_ => XS.goto X29.here hx rfl (pc0 := 321) (pc' := 339) rfl (hb hby at_321) (by decide) (by decide) k_) ?_
        show OwnFin p e below s _ _ _ (T29.setTop (mkF m 339 #[iv fl, iv pk, .val (.long qa), .second, .val (.long qb), .second, .val (.long qc), .second, iv lg, iv (Int32.ofNat nm), iv (Int32.ofNat pr), iv (Int32.ofNat half), iv (Int32.ofNat m_), iv (Int32.ofNat (m_ / 64)), rv b11, rv b23, iv sz, iv (own_low nw A iB), iv (Int32.ofNat (m_ / pr)), .val (.long (R (m_ / pr / 64))), .second, .val (.long ((A (m_ / 64)) &&& ((own_z m_) ^^^ (-1 : Int64)))), .second, .unset, .unset, .unset, .unset, .unset, .unset] [(.long (-1 : Int64))]))
        refine own_go (fun t_ k_ => XS.lstore X29.here hx rfl (hb hby at_339) rfl (l' := #[iv fl, iv pk, .val (.long qa), .second, .val (.long qb), .second, .val (.long qc), .second, iv lg, iv (Int32.ofNat nm), iv (Int32.ofNat pr), iv (Int32.ofNat half), iv (Int32.ofNat m_), iv (Int32.ofNat (m_ / 64)), rv b11, rv b23, iv sz, iv (own_low nw A iB), iv (Int32.ofNat (m_ / pr)), .val (.long (R (m_ / pr / 64))), .second, .val (.long ((A (m_ / 64)) &&& ((own_z m_) ^^^ (-1 : Int64)))), .second, .unset, .val (.long (-1 : Int64)), .second, .unset, .unset, .unset]) rfl k_) ?_
        show OwnFin p e below s _ _ _ (T29.setTop (mkF m 341 #[iv fl, iv pk, .val (.long qa), .second, .val (.long qb), .second, .val (.long qc), .second, iv lg, iv (Int32.ofNat nm), iv (Int32.ofNat pr), iv (Int32.ofNat half), iv (Int32.ofNat m_), iv (Int32.ofNat (m_ / 64)), rv b11, rv b23, iv sz, iv (own_low nw A iB), iv (Int32.ofNat (m_ / pr)), .val (.long (R (m_ / pr / 64))), .second, .val (.long ((A (m_ / 64)) &&& ((own_z m_) ^^^ (-1 : Int64)))), .second, .unset, .val (.long (-1 : Int64)), .second, .unset, .unset, .unset] []))
        refine own_go (fun t_ k_ => XS.lload X29.here hx rfl (hb hby at_341) rfl k_) ?_
        show OwnFin p e below s _ _ _ (T29.setTop (mkF m 343 #[iv fl, iv pk, .val (.long qa), .second, .val (.long qb), .second, .val (.long qc), .second, iv lg, iv (Int32.ofNat nm), iv (Int32.ofNat pr), iv (Int32.ofNat half), iv (Int32.ofNat m_), iv (Int32.ofNat (m_ / 64)), rv b11, rv b23, iv sz, iv (own_low nw A iB), iv (Int32.ofNat (m_ / pr)), .val (.long (R (m_ / pr / 64))), .second, .val (.long ((A (m_ / 64)) &&& ((own_z m_) ^^^ (-1 : Int64)))), .second, .unset, .val (.long (-1 : Int64)), .second, .unset, .unset, .unset] [(.long ((A (m_ / 64)) &&& ((own_z m_) ^^^ (-1 : Int64))))]))
        refine own_go (fun t_ k_ => XS.lload X29.here hx rfl (hb hby at_343) rfl k_) ?_
        show OwnFin p e below s _ _ _ (T29.setTop (mkF m 345 #[iv fl, iv pk, .val (.long qa), .second, .val (.long qb), .second, .val (.long qc), .second, iv lg, iv (Int32.ofNat nm), iv (Int32.ofNat pr), iv (Int32.ofNat half), iv (Int32.ofNat m_), iv (Int32.ofNat (m_ / 64)), rv b11, rv b23, iv sz, iv (own_low nw A iB), iv (Int32.ofNat (m_ / pr)), .val (.long (R (m_ / pr / 64))), .second, .val (.long ((A (m_ / 64)) &&& ((own_z m_) ^^^ (-1 : Int64)))), .second, .unset, .val (.long (-1 : Int64)), .second, .unset, .unset, .unset] [(.long (-1 : Int64)), (.long ((A (m_ / 64)) &&& ((own_z m_) ^^^ (-1 : Int64))))]))
        refine own_go (fun t_ k_ => XS.land X29.here hx rfl (hb hby at_345) rfl k_) ?_
        show OwnFin p e below s _ _ _ (T29.setTop (mkF m 346 #[iv fl, iv pk, .val (.long qa), .second, .val (.long qb), .second, .val (.long qc), .second, iv lg, iv (Int32.ofNat nm), iv (Int32.ofNat pr), iv (Int32.ofNat half), iv (Int32.ofNat m_), iv (Int32.ofNat (m_ / 64)), rv b11, rv b23, iv sz, iv (own_low nw A iB), iv (Int32.ofNat (m_ / pr)), .val (.long (R (m_ / pr / 64))), .second, .val (.long ((A (m_ / 64)) &&& ((own_z m_) ^^^ (-1 : Int64)))), .second, .unset, .val (.long (-1 : Int64)), .second, .unset, .unset, .unset] [(.long (((A (m_ / 64)) &&& ((own_z m_) ^^^ (-1 : Int64))) &&& (-1 : Int64)))]))
        refine own_go (fun t_ k_ => XS.lconst X29.here hx rfl (hb hby at_346) k_) ?_
        show OwnFin p e below s _ _ _ (T29.setTop (mkF m 347 #[iv fl, iv pk, .val (.long qa), .second, .val (.long qb), .second, .val (.long qc), .second, iv lg, iv (Int32.ofNat nm), iv (Int32.ofNat pr), iv (Int32.ofNat half), iv (Int32.ofNat m_), iv (Int32.ofNat (m_ / 64)), rv b11, rv b23, iv sz, iv (own_low nw A iB), iv (Int32.ofNat (m_ / pr)), .val (.long (R (m_ / pr / 64))), .second, .val (.long ((A (m_ / 64)) &&& ((own_z m_) ^^^ (-1 : Int64)))), .second, .unset, .val (.long (-1 : Int64)), .second, .unset, .unset, .unset] [(.long (0 : Int64)), (.long (((A (m_ / 64)) &&& ((own_z m_) ^^^ (-1 : Int64))) &&& (-1 : Int64)))]))
        refine own_go (fun t_ k_ => XS.lcmp X29.here hx rfl (hb hby at_347) rfl k_) ?_
        show OwnFin p e below s _ _ _ (T29.setTop (mkF m 348 #[iv fl, iv pk, .val (.long qa), .second, .val (.long qb), .second, .val (.long qc), .second, iv lg, iv (Int32.ofNat nm), iv (Int32.ofNat pr), iv (Int32.ofNat half), iv (Int32.ofNat m_), iv (Int32.ofNat (m_ / 64)), rv b11, rv b23, iv sz, iv (own_low nw A iB), iv (Int32.ofNat (m_ / pr)), .val (.long (R (m_ / pr / 64))), .second, .val (.long ((A (m_ / 64)) &&& ((own_z m_) ^^^ (-1 : Int64)))), .second, .unset, .val (.long (-1 : Int64)), .second, .unset, .unset, .unset] [(.int (lcmpW (((A (m_ / 64)) &&& ((own_z m_) ^^^ (-1 : Int64))) &&& (-1 : Int64)) (0 : Int64)))]))
        by_cases hc348 : (((A (m_ / 64)) &&& ((own_z m_) ^^^ (-1 : Int64))) &&& (-1 : Int64)) = (0 : Int64)
        · refine own_go (fun t_ k_ => XS.ifYes X29.here hx rfl (pc0 := 348) (pc' := 355) rfl (hb hby at_348) rfl ((if0 _ _).trans (teq ((lw_eq (((A (m_ / 64)) &&& ((own_z m_) ^^^ (-1 : Int64))) &&& (-1 : Int64)) (0 : Int64)).mpr hc348)).1) (by decide) (by decide) k_) ?_
          show OwnFin p e below s _ _ _ (T29.setTop (mkF m 355 #[iv fl, iv pk, .val (.long qa), .second, .val (.long qb), .second, .val (.long qc), .second, iv lg, iv (Int32.ofNat nm), iv (Int32.ofNat pr), iv (Int32.ofNat half), iv (Int32.ofNat m_), iv (Int32.ofNat (m_ / 64)), rv b11, rv b23, iv sz, iv (own_low nw A iB), iv (Int32.ofNat (m_ / pr)), .val (.long (R (m_ / pr / 64))), .second, .val (.long ((A (m_ / 64)) &&& ((own_z m_) ^^^ (-1 : Int64)))), .second, .unset, .val (.long (-1 : Int64)), .second, .unset, .unset, .unset] []))
          refine own_go (fun t_ k_ => XS.iconst X29.here hx rfl (hb hby at_355) k_) ?_
          show OwnFin p e below s _ _ _ (T29.setTop (mkF m 356 #[iv fl, iv pk, .val (.long qa), .second, .val (.long qb), .second, .val (.long qc), .second, iv lg, iv (Int32.ofNat nm), iv (Int32.ofNat pr), iv (Int32.ofNat half), iv (Int32.ofNat m_), iv (Int32.ofNat (m_ / 64)), rv b11, rv b23, iv sz, iv (own_low nw A iB), iv (Int32.ofNat (m_ / pr)), .val (.long (R (m_ / pr / 64))), .second, .val (.long ((A (m_ / 64)) &&& ((own_z m_) ^^^ (-1 : Int64)))), .second, .unset, .val (.long (-1 : Int64)), .second, .unset, .unset, .unset] [(.int (0 : Int32))]))
          refine own_go (fun t_ k_ => XS.istore X29.here hx rfl (hb hby at_356) rfl (l' := #[iv fl, iv pk, .val (.long qa), .second, .val (.long qb), .second, .val (.long qc), .second, iv lg, iv (Int32.ofNat nm), iv (Int32.ofNat pr), iv (Int32.ofNat half), iv (Int32.ofNat m_), iv (Int32.ofNat (m_ / 64)), rv b11, rv b23, iv sz, iv (own_low nw A iB), iv (Int32.ofNat (m_ / pr)), .val (.long (R (m_ / pr / 64))), .second, .val (.long ((A (m_ / 64)) &&& ((own_z m_) ^^^ (-1 : Int64)))), .second, iv (0 : Int32), .val (.long (-1 : Int64)), .second, .unset, .unset, .unset]) rfl k_) ?_
          show OwnFin p e below s _ _ _ (T29.setTop (mkF m 358 #[iv fl, iv pk, .val (.long qa), .second, .val (.long qb), .second, .val (.long qc), .second, iv lg, iv (Int32.ofNat nm), iv (Int32.ofNat pr), iv (Int32.ofNat half), iv (Int32.ofNat m_), iv (Int32.ofNat (m_ / 64)), rv b11, rv b23, iv sz, iv (own_low nw A iB), iv (Int32.ofNat (m_ / pr)), .val (.long (R (m_ / pr / 64))), .second, .val (.long ((A (m_ / 64)) &&& ((own_z m_) ^^^ (-1 : Int64)))), .second, iv (0 : Int32), .val (.long (-1 : Int64)), .second, .unset, .unset, .unset] []))
          refine own_go (fun t_ k_ => XS.iload X29.here hx rfl (hb hby at_358) rfl k_) ?_
          show OwnFin p e below s _ _ _ (T29.setTop (mkF m 360 #[iv fl, iv pk, .val (.long qa), .second, .val (.long qb), .second, .val (.long qc), .second, iv lg, iv (Int32.ofNat nm), iv (Int32.ofNat pr), iv (Int32.ofNat half), iv (Int32.ofNat m_), iv (Int32.ofNat (m_ / 64)), rv b11, rv b23, iv sz, iv (own_low nw A iB), iv (Int32.ofNat (m_ / pr)), .val (.long (R (m_ / pr / 64))), .second, .val (.long ((A (m_ / 64)) &&& ((own_z m_) ^^^ (-1 : Int64)))), .second, iv (0 : Int32), .val (.long (-1 : Int64)), .second, .unset, .unset, .unset] [(.int (0 : Int32))]))
          refine own_go (fun t_ k_ => XS.ifYes X29.here hx rfl (pc0 := 360) (pc' := 368) rfl (hb hby at_360) rfl ((if0 _ _).trans (teq (by decide)).1) (by decide) (by decide) k_) ?_
          show OwnFin p e below s _ _ _ (T29.setTop (mkF m 368 #[iv fl, iv pk, .val (.long qa), .second, .val (.long qb), .second, .val (.long qc), .second, iv lg, iv (Int32.ofNat nm), iv (Int32.ofNat pr), iv (Int32.ofNat half), iv (Int32.ofNat m_), iv (Int32.ofNat (m_ / 64)), rv b11, rv b23, iv sz, iv (own_low nw A iB), iv (Int32.ofNat (m_ / pr)), .val (.long (R (m_ / pr / 64))), .second, .val (.long ((A (m_ / 64)) &&& ((own_z m_) ^^^ (-1 : Int64)))), .second, iv (0 : Int32), .val (.long (-1 : Int64)), .second, .unset, .unset, .unset] []))
          refine own_go (fun t_ k_ => XS.lload X29.here hx rfl (hb hby at_368) rfl k_) ?_
          show OwnFin p e below s _ _ _ (T29.setTop (mkF m 370 #[iv fl, iv pk, .val (.long qa), .second, .val (.long qb), .second, .val (.long qc), .second, iv lg, iv (Int32.ofNat nm), iv (Int32.ofNat pr), iv (Int32.ofNat half), iv (Int32.ofNat m_), iv (Int32.ofNat (m_ / 64)), rv b11, rv b23, iv sz, iv (own_low nw A iB), iv (Int32.ofNat (m_ / pr)), .val (.long (R (m_ / pr / 64))), .second, .val (.long ((A (m_ / 64)) &&& ((own_z m_) ^^^ (-1 : Int64)))), .second, iv (0 : Int32), .val (.long (-1 : Int64)), .second, .unset, .unset, .unset] [(.long (R (m_ / pr / 64)))]))
          refine own_go (fun t_ k_ => XS.lconst X29.here hx rfl (hb hby at_370) k_) ?_
          show OwnFin p e below s _ _ _ (T29.setTop (mkF m 371 #[iv fl, iv pk, .val (.long qa), .second, .val (.long qb), .second, .val (.long qc), .second, iv lg, iv (Int32.ofNat nm), iv (Int32.ofNat pr), iv (Int32.ofNat half), iv (Int32.ofNat m_), iv (Int32.ofNat (m_ / 64)), rv b11, rv b23, iv sz, iv (own_low nw A iB), iv (Int32.ofNat (m_ / pr)), .val (.long (R (m_ / pr / 64))), .second, .val (.long ((A (m_ / 64)) &&& ((own_z m_) ^^^ (-1 : Int64)))), .second, iv (0 : Int32), .val (.long (-1 : Int64)), .second, .unset, .unset, .unset] [(.long (1 : Int64)), (.long (R (m_ / pr / 64)))]))
          refine own_go (fun t_ k_ => XS.iload X29.here hx rfl (hb hby at_371) rfl k_) ?_
          show OwnFin p e below s _ _ _ (T29.setTop (mkF m 373 #[iv fl, iv pk, .val (.long qa), .second, .val (.long qb), .second, .val (.long qc), .second, iv lg, iv (Int32.ofNat nm), iv (Int32.ofNat pr), iv (Int32.ofNat half), iv (Int32.ofNat m_), iv (Int32.ofNat (m_ / 64)), rv b11, rv b23, iv sz, iv (own_low nw A iB), iv (Int32.ofNat (m_ / pr)), .val (.long (R (m_ / pr / 64))), .second, .val (.long ((A (m_ / 64)) &&& ((own_z m_) ^^^ (-1 : Int64)))), .second, iv (0 : Int32), .val (.long (-1 : Int64)), .second, .unset, .unset, .unset] [(.int (Int32.ofNat (m_ / pr))), (.long (1 : Int64)), (.long (R (m_ / pr / 64)))]))
          refine own_go (fun t_ k_ => XS.lshl X29.here hx rfl (hb hby at_373) rfl k_) ?_
          show OwnFin p e below s _ _ _ (T29.setTop (mkF m 374 #[iv fl, iv pk, .val (.long qa), .second, .val (.long qb), .second, .val (.long qc), .second, iv lg, iv (Int32.ofNat nm), iv (Int32.ofNat pr), iv (Int32.ofNat half), iv (Int32.ofNat m_), iv (Int32.ofNat (m_ / 64)), rv b11, rv b23, iv sz, iv (own_low nw A iB), iv (Int32.ofNat (m_ / pr)), .val (.long (R (m_ / pr / 64))), .second, .val (.long ((A (m_ / 64)) &&& ((own_z m_) ^^^ (-1 : Int64)))), .second, iv (0 : Int32), .val (.long (-1 : Int64)), .second, .unset, .unset, .unset] [(.long ((1 : Int64) <<< ((Int32.ofNat (m_ / pr)) &&& 0x3f).toInt64)), (.long (R (m_ / pr / 64)))]))
          show OwnFin p e below s _ _ _ (T29.setTop (mkF m 374 #[iv fl, iv pk, .val (.long qa), .second, .val (.long qb), .second, .val (.long qc), .second, iv lg, iv (Int32.ofNat nm), iv (Int32.ofNat pr), iv (Int32.ofNat half), iv (Int32.ofNat m_), iv (Int32.ofNat (m_ / 64)), rv b11, rv b23, iv sz, iv (own_low nw A iB), iv (Int32.ofNat (m_ / pr)), .val (.long (R (m_ / pr / 64))), .second, .val (.long ((A (m_ / 64)) &&& ((own_z m_) ^^^ (-1 : Int64)))), .second, iv (0 : Int32), .val (.long (-1 : Int64)), .second, .unset, .unset, .unset] [(.long (own_z (m_ / pr))), (.long (R (m_ / pr / 64)))]))
          refine own_go (X29.ldc2Long hx hown (mvT hZ (hw _ (List.mem_of_getElem? (i := 2) rfl))) (g := (mkF m 374 #[iv fl, iv pk, .val (.long qa), .second, .val (.long qb), .second, .val (.long qc), .second, iv lg, iv (Int32.ofNat nm), iv (Int32.ofNat pr), iv (Int32.ofNat half), iv (Int32.ofNat m_), iv (Int32.ofNat (m_ / 64)), rv b11, rv b23, iv sz, iv (own_low nw A iB), iv (Int32.ofNat (m_ / pr)), .val (.long (R (m_ / pr / 64))), .second, .val (.long ((A (m_ / 64)) &&& ((own_z m_) ^^^ (-1 : Int64)))), .second, iv (0 : Int32), .val (.long (-1 : Int64)), .second, .unset, .unset, .unset] [(.long (own_z (m_ / pr))), (.long (R (m_ / pr / 64)))])) rfl (hb hby at_374)) ?_
          show OwnFin p e below s _ _ _ (T29.setTop (mkF m 377 #[iv fl, iv pk, .val (.long qa), .second, .val (.long qb), .second, .val (.long qc), .second, iv lg, iv (Int32.ofNat nm), iv (Int32.ofNat pr), iv (Int32.ofNat half), iv (Int32.ofNat m_), iv (Int32.ofNat (m_ / 64)), rv b11, rv b23, iv sz, iv (own_low nw A iB), iv (Int32.ofNat (m_ / pr)), .val (.long (R (m_ / pr / 64))), .second, .val (.long ((A (m_ / 64)) &&& ((own_z m_) ^^^ (-1 : Int64)))), .second, iv (0 : Int32), .val (.long (-1 : Int64)), .second, .unset, .unset, .unset] [(.long (-1 : Int64)), (.long (own_z (m_ / pr))), (.long (R (m_ / pr / 64)))]))
          refine own_go (fun t_ k_ => XS.lxor X29.here hx rfl (hb hby at_377) rfl k_) ?_
          show OwnFin p e below s _ _ _ (T29.setTop (mkF m 378 #[iv fl, iv pk, .val (.long qa), .second, .val (.long qb), .second, .val (.long qc), .second, iv lg, iv (Int32.ofNat nm), iv (Int32.ofNat pr), iv (Int32.ofNat half), iv (Int32.ofNat m_), iv (Int32.ofNat (m_ / 64)), rv b11, rv b23, iv sz, iv (own_low nw A iB), iv (Int32.ofNat (m_ / pr)), .val (.long (R (m_ / pr / 64))), .second, .val (.long ((A (m_ / 64)) &&& ((own_z m_) ^^^ (-1 : Int64)))), .second, iv (0 : Int32), .val (.long (-1 : Int64)), .second, .unset, .unset, .unset] [(.long ((own_z (m_ / pr)) ^^^ (-1 : Int64))), (.long (R (m_ / pr / 64)))]))
          refine own_go (fun t_ k_ => XS.land X29.here hx rfl (hb hby at_378) rfl k_) ?_
          show OwnFin p e below s _ _ _ (T29.setTop (mkF m 379 #[iv fl, iv pk, .val (.long qa), .second, .val (.long qb), .second, .val (.long qc), .second, iv lg, iv (Int32.ofNat nm), iv (Int32.ofNat pr), iv (Int32.ofNat half), iv (Int32.ofNat m_), iv (Int32.ofNat (m_ / 64)), rv b11, rv b23, iv sz, iv (own_low nw A iB), iv (Int32.ofNat (m_ / pr)), .val (.long (R (m_ / pr / 64))), .second, .val (.long ((A (m_ / 64)) &&& ((own_z m_) ^^^ (-1 : Int64)))), .second, iv (0 : Int32), .val (.long (-1 : Int64)), .second, .unset, .unset, .unset] [(.long ((R (m_ / pr / 64)) &&& ((own_z (m_ / pr)) ^^^ (-1 : Int64))))]))
          refine own_go (fun t_ k_ => XS.lstore X29.here hx rfl (hb hby at_379) rfl (l' := #[iv fl, iv pk, .val (.long qa), .second, .val (.long qb), .second, .val (.long qc), .second, iv lg, iv (Int32.ofNat nm), iv (Int32.ofNat pr), iv (Int32.ofNat half), iv (Int32.ofNat m_), iv (Int32.ofNat (m_ / 64)), rv b11, rv b23, iv sz, iv (own_low nw A iB), iv (Int32.ofNat (m_ / pr)), .val (.long (R (m_ / pr / 64))), .second, .val (.long ((A (m_ / 64)) &&& ((own_z m_) ^^^ (-1 : Int64)))), .second, iv (0 : Int32), .val (.long ((R (m_ / pr / 64)) &&& ((own_z (m_ / pr)) ^^^ (-1 : Int64)))), .second, .unset, .unset, .unset]) rfl k_) ?_
          show OwnFin p e below s _ _ _ (T29.setTop (mkF m 381 #[iv fl, iv pk, .val (.long qa), .second, .val (.long qb), .second, .val (.long qc), .second, iv lg, iv (Int32.ofNat nm), iv (Int32.ofNat pr), iv (Int32.ofNat half), iv (Int32.ofNat m_), iv (Int32.ofNat (m_ / 64)), rv b11, rv b23, iv sz, iv (own_low nw A iB), iv (Int32.ofNat (m_ / pr)), .val (.long (R (m_ / pr / 64))), .second, .val (.long ((A (m_ / 64)) &&& ((own_z m_) ^^^ (-1 : Int64)))), .second, iv (0 : Int32), .val (.long ((R (m_ / pr / 64)) &&& ((own_z (m_ / pr)) ^^^ (-1 : Int64)))), .second, .unset, .unset, .unset] []))
          exact fin_ _ _ _ _ _ T29 _ _ X29 rfl N29 Z29 V_A_29 Eq29 V_ao_29 Fq29_words Fq29_inBlocks Fq29_racks Fq29_size Vb_aw Vb_ab Vb_ak (by rw [own_rmR, if_pos rfl, if_pos (hk.mpr hc348)])
        · refine own_go (fun t_ k_ => XS.ifNo X29.here hx rfl (hb hby at_348) rfl ((if0 _ _).trans (feq (mt (lw_eq (((A (m_ / 64)) &&& ((own_z m_) ^^^ (-1 : Int64))) &&& (-1 : Int64)) (0 : Int64)).mp hc348)).1) k_) ?_
          show OwnFin p e below s _ _ _ (T29.setTop (mkF m 351 #[iv fl, iv pk, .val (.long qa), .second, .val (.long qb), .second, .val (.long qc), .second, iv lg, iv (Int32.ofNat nm), iv (Int32.ofNat pr), iv (Int32.ofNat half), iv (Int32.ofNat m_), iv (Int32.ofNat (m_ / 64)), rv b11, rv b23, iv sz, iv (own_low nw A iB), iv (Int32.ofNat (m_ / pr)), .val (.long (R (m_ / pr / 64))), .second, .val (.long ((A (m_ / 64)) &&& ((own_z m_) ^^^ (-1 : Int64)))), .second, .unset, .val (.long (-1 : Int64)), .second, .unset, .unset, .unset] []))
          refine own_go (fun t_ k_ => XS.iconst X29.here hx rfl (hb hby at_351) k_) ?_
          show OwnFin p e below s _ _ _ (T29.setTop (mkF m 352 #[iv fl, iv pk, .val (.long qa), .second, .val (.long qb), .second, .val (.long qc), .second, iv lg, iv (Int32.ofNat nm), iv (Int32.ofNat pr), iv (Int32.ofNat half), iv (Int32.ofNat m_), iv (Int32.ofNat (m_ / 64)), rv b11, rv b23, iv sz, iv (own_low nw A iB), iv (Int32.ofNat (m_ / pr)), .val (.long (R (m_ / pr / 64))), .second, .val (.long ((A (m_ / 64)) &&& ((own_z m_) ^^^ (-1 : Int64)))), .second, .unset, .val (.long (-1 : Int64)), .second, .unset, .unset, .unset] [(.int (1 : Int32))]))
          refine own_go (fun t_ k_ => XS.goto X29.here hx rfl (pc0 := 352) (pc' := 356) rfl (hb hby at_352) (by decide) (by decide) k_) ?_
          show OwnFin p e below s _ _ _ (T29.setTop (mkF m 356 #[iv fl, iv pk, .val (.long qa), .second, .val (.long qb), .second, .val (.long qc), .second, iv lg, iv (Int32.ofNat nm), iv (Int32.ofNat pr), iv (Int32.ofNat half), iv (Int32.ofNat m_), iv (Int32.ofNat (m_ / 64)), rv b11, rv b23, iv sz, iv (own_low nw A iB), iv (Int32.ofNat (m_ / pr)), .val (.long (R (m_ / pr / 64))), .second, .val (.long ((A (m_ / 64)) &&& ((own_z m_) ^^^ (-1 : Int64)))), .second, .unset, .val (.long (-1 : Int64)), .second, .unset, .unset, .unset] [(.int (1 : Int32))]))
          refine own_go (fun t_ k_ => XS.istore X29.here hx rfl (hb hby at_356) rfl (l' := #[iv fl, iv pk, .val (.long qa), .second, .val (.long qb), .second, .val (.long qc), .second, iv lg, iv (Int32.ofNat nm), iv (Int32.ofNat pr), iv (Int32.ofNat half), iv (Int32.ofNat m_), iv (Int32.ofNat (m_ / 64)), rv b11, rv b23, iv sz, iv (own_low nw A iB), iv (Int32.ofNat (m_ / pr)), .val (.long (R (m_ / pr / 64))), .second, .val (.long ((A (m_ / 64)) &&& ((own_z m_) ^^^ (-1 : Int64)))), .second, iv (1 : Int32), .val (.long (-1 : Int64)), .second, .unset, .unset, .unset]) rfl k_) ?_
          show OwnFin p e below s _ _ _ (T29.setTop (mkF m 358 #[iv fl, iv pk, .val (.long qa), .second, .val (.long qb), .second, .val (.long qc), .second, iv lg, iv (Int32.ofNat nm), iv (Int32.ofNat pr), iv (Int32.ofNat half), iv (Int32.ofNat m_), iv (Int32.ofNat (m_ / 64)), rv b11, rv b23, iv sz, iv (own_low nw A iB), iv (Int32.ofNat (m_ / pr)), .val (.long (R (m_ / pr / 64))), .second, .val (.long ((A (m_ / 64)) &&& ((own_z m_) ^^^ (-1 : Int64)))), .second, iv (1 : Int32), .val (.long (-1 : Int64)), .second, .unset, .unset, .unset] []))
          refine own_go (fun t_ k_ => XS.iload X29.here hx rfl (hb hby at_358) rfl k_) ?_
          show OwnFin p e below s _ _ _ (T29.setTop (mkF m 360 #[iv fl, iv pk, .val (.long qa), .second, .val (.long qb), .second, .val (.long qc), .second, iv lg, iv (Int32.ofNat nm), iv (Int32.ofNat pr), iv (Int32.ofNat half), iv (Int32.ofNat m_), iv (Int32.ofNat (m_ / 64)), rv b11, rv b23, iv sz, iv (own_low nw A iB), iv (Int32.ofNat (m_ / pr)), .val (.long (R (m_ / pr / 64))), .second, .val (.long ((A (m_ / 64)) &&& ((own_z m_) ^^^ (-1 : Int64)))), .second, iv (1 : Int32), .val (.long (-1 : Int64)), .second, .unset, .unset, .unset] [(.int (1 : Int32))]))
          refine own_go (fun t_ k_ => XS.ifNo X29.here hx rfl (hb hby at_360) rfl ((if0 _ _).trans (feq (by decide)).1) k_) ?_
          show OwnFin p e below s _ _ _ (T29.setTop (mkF m 363 #[iv fl, iv pk, .val (.long qa), .second, .val (.long qb), .second, .val (.long qc), .second, iv lg, iv (Int32.ofNat nm), iv (Int32.ofNat pr), iv (Int32.ofNat half), iv (Int32.ofNat m_), iv (Int32.ofNat (m_ / 64)), rv b11, rv b23, iv sz, iv (own_low nw A iB), iv (Int32.ofNat (m_ / pr)), .val (.long (R (m_ / pr / 64))), .second, .val (.long ((A (m_ / 64)) &&& ((own_z m_) ^^^ (-1 : Int64)))), .second, iv (1 : Int32), .val (.long (-1 : Int64)), .second, .unset, .unset, .unset] []))
          refine own_go (fun t_ k_ => XS.lload X29.here hx rfl (hb hby at_363) rfl k_) ?_
          show OwnFin p e below s _ _ _ (T29.setTop (mkF m 365 #[iv fl, iv pk, .val (.long qa), .second, .val (.long qb), .second, .val (.long qc), .second, iv lg, iv (Int32.ofNat nm), iv (Int32.ofNat pr), iv (Int32.ofNat half), iv (Int32.ofNat m_), iv (Int32.ofNat (m_ / 64)), rv b11, rv b23, iv sz, iv (own_low nw A iB), iv (Int32.ofNat (m_ / pr)), .val (.long (R (m_ / pr / 64))), .second, .val (.long ((A (m_ / 64)) &&& ((own_z m_) ^^^ (-1 : Int64)))), .second, iv (1 : Int32), .val (.long (-1 : Int64)), .second, .unset, .unset, .unset] [(.long (R (m_ / pr / 64)))]))
          refine own_go (fun t_ k_ => XS.goto X29.here hx rfl (pc0 := 365) (pc' := 379) rfl (hb hby at_365) (by decide) (by decide) k_) ?_
          show OwnFin p e below s _ _ _ (T29.setTop (mkF m 379 #[iv fl, iv pk, .val (.long qa), .second, .val (.long qb), .second, .val (.long qc), .second, iv lg, iv (Int32.ofNat nm), iv (Int32.ofNat pr), iv (Int32.ofNat half), iv (Int32.ofNat m_), iv (Int32.ofNat (m_ / 64)), rv b11, rv b23, iv sz, iv (own_low nw A iB), iv (Int32.ofNat (m_ / pr)), .val (.long (R (m_ / pr / 64))), .second, .val (.long ((A (m_ / 64)) &&& ((own_z m_) ^^^ (-1 : Int64)))), .second, iv (1 : Int32), .val (.long (-1 : Int64)), .second, .unset, .unset, .unset] [(.long (R (m_ / pr / 64)))]))
          refine own_go (fun t_ k_ => XS.lstore X29.here hx rfl (hb hby at_379) rfl (l' := #[iv fl, iv pk, .val (.long qa), .second, .val (.long qb), .second, .val (.long qc), .second, iv lg, iv (Int32.ofNat nm), iv (Int32.ofNat pr), iv (Int32.ofNat half), iv (Int32.ofNat m_), iv (Int32.ofNat (m_ / 64)), rv b11, rv b23, iv sz, iv (own_low nw A iB), iv (Int32.ofNat (m_ / pr)), .val (.long (R (m_ / pr / 64))), .second, .val (.long ((A (m_ / 64)) &&& ((own_z m_) ^^^ (-1 : Int64)))), .second, iv (1 : Int32), .val (.long (R (m_ / pr / 64))), .second, .unset, .unset, .unset]) rfl k_) ?_
          show OwnFin p e below s _ _ _ (T29.setTop (mkF m 381 #[iv fl, iv pk, .val (.long qa), .second, .val (.long qb), .second, .val (.long qc), .second, iv lg, iv (Int32.ofNat nm), iv (Int32.ofNat pr), iv (Int32.ofNat half), iv (Int32.ofNat m_), iv (Int32.ofNat (m_ / 64)), rv b11, rv b23, iv sz, iv (own_low nw A iB), iv (Int32.ofNat (m_ / pr)), .val (.long (R (m_ / pr / 64))), .second, .val (.long ((A (m_ / 64)) &&& ((own_z m_) ^^^ (-1 : Int64)))), .second, iv (1 : Int32), .val (.long (R (m_ / pr / 64))), .second, .unset, .unset, .unset] []))
          exact fin_ _ _ _ _ _ T29 _ _ X29 rfl N29 Z29 V_A_29 Eq29 V_ao_29 Fq29_words Fq29_inBlocks Fq29_racks Fq29_size Vb_aw Vb_ab Vb_ak (by rw [own_rmR, if_pos rfl, if_neg (mt hk.mp hc348), own_andm1])
      · refine own_go (fun t_ k_ => XS.icmpYes X29.here hx rfl (pc0 := 315) (pc' := 324) rfl (hb hby at_315) rfl (feq hc315).2 (by decide) (by decide) k_) ?_
        show OwnFin p e below s _ _ _ (T29.setTop (mkF m 324 #[iv fl, iv pk, .val (.long qa), .second, .val (.long qb), .second, .val (.long qc), .second, iv lg, iv (Int32.ofNat nm), iv (Int32.ofNat pr), iv (Int32.ofNat half), iv (Int32.ofNat m_), iv (Int32.ofNat (m_ / 64)), rv b11, rv b23, iv sz, iv (own_low nw A iB), iv (Int32.ofNat (m_ / pr)), .val (.long (R (m_ / pr / 64))), .second, .val (.long ((A (m_ / 64)) &&& ((own_z m_) ^^^ (-1 : Int64)))), .second, .unset, .unset, .unset, .unset, .unset, .unset] []))
        refine own_go (fun t_ k_ => XS.lconst X29.here hx rfl (hb hby at_324) k_) ?_
        show OwnFin p e below s _ _ _ (T29.setTop (mkF m 325 #[iv fl, iv pk, .val (.long qa), .second, .val (.long qb), .second, .val (.long qc), .second, iv lg, iv (Int32.ofNat nm), iv (Int32.ofNat pr), iv (Int32.ofNat half), iv (Int32.ofNat m_), iv (Int32.ofNat (m_ / 64)), rv b11, rv b23, iv sz, iv (own_low nw A iB), iv (Int32.ofNat (m_ / pr)), .val (.long (R (m_ / pr / 64))), .second, .val (.long ((A (m_ / 64)) &&& ((own_z m_) ^^^ (-1 : Int64)))), .second, .unset, .unset, .unset, .unset, .unset, .unset] [(.long (1 : Int64))]))
        refine own_go (fun t_ k_ => XS.iload X29.here hx rfl (hb hby at_325) rfl k_) ?_
        show OwnFin p e below s _ _ _ (T29.setTop (mkF m 327 #[iv fl, iv pk, .val (.long qa), .second, .val (.long qb), .second, .val (.long qc), .second, iv lg, iv (Int32.ofNat nm), iv (Int32.ofNat pr), iv (Int32.ofNat half), iv (Int32.ofNat m_), iv (Int32.ofNat (m_ / 64)), rv b11, rv b23, iv sz, iv (own_low nw A iB), iv (Int32.ofNat (m_ / pr)), .val (.long (R (m_ / pr / 64))), .second, .val (.long ((A (m_ / 64)) &&& ((own_z m_) ^^^ (-1 : Int64)))), .second, .unset, .unset, .unset, .unset, .unset, .unset] [(.int (Int32.ofNat pr)), (.long (1 : Int64))]))
        refine own_go (fun t_ k_ => XS.lshl X29.here hx rfl (hb hby at_327) rfl k_) ?_
        show OwnFin p e below s _ _ _ (T29.setTop (mkF m 328 #[iv fl, iv pk, .val (.long qa), .second, .val (.long qb), .second, .val (.long qc), .second, iv lg, iv (Int32.ofNat nm), iv (Int32.ofNat pr), iv (Int32.ofNat half), iv (Int32.ofNat m_), iv (Int32.ofNat (m_ / 64)), rv b11, rv b23, iv sz, iv (own_low nw A iB), iv (Int32.ofNat (m_ / pr)), .val (.long (R (m_ / pr / 64))), .second, .val (.long ((A (m_ / 64)) &&& ((own_z m_) ^^^ (-1 : Int64)))), .second, .unset, .unset, .unset, .unset, .unset, .unset] [(.long ((1 : Int64) <<< ((Int32.ofNat pr) &&& 0x3f).toInt64))]))
        refine own_go (fun t_ k_ => XS.lconst X29.here hx rfl (hb hby at_328) k_) ?_
        show OwnFin p e below s _ _ _ (T29.setTop (mkF m 329 #[iv fl, iv pk, .val (.long qa), .second, .val (.long qb), .second, .val (.long qc), .second, iv lg, iv (Int32.ofNat nm), iv (Int32.ofNat pr), iv (Int32.ofNat half), iv (Int32.ofNat m_), iv (Int32.ofNat (m_ / 64)), rv b11, rv b23, iv sz, iv (own_low nw A iB), iv (Int32.ofNat (m_ / pr)), .val (.long (R (m_ / pr / 64))), .second, .val (.long ((A (m_ / 64)) &&& ((own_z m_) ^^^ (-1 : Int64)))), .second, .unset, .unset, .unset, .unset, .unset, .unset] [(.long (1 : Int64)), (.long ((1 : Int64) <<< ((Int32.ofNat pr) &&& 0x3f).toInt64))]))
        refine own_go (fun t_ k_ => XS.lsub X29.here hx rfl (hb hby at_329) rfl k_) ?_
        show OwnFin p e below s _ _ _ (T29.setTop (mkF m 330 #[iv fl, iv pk, .val (.long qa), .second, .val (.long qb), .second, .val (.long qc), .second, iv lg, iv (Int32.ofNat nm), iv (Int32.ofNat pr), iv (Int32.ofNat half), iv (Int32.ofNat m_), iv (Int32.ofNat (m_ / 64)), rv b11, rv b23, iv sz, iv (own_low nw A iB), iv (Int32.ofNat (m_ / pr)), .val (.long (R (m_ / pr / 64))), .second, .val (.long ((A (m_ / 64)) &&& ((own_z m_) ^^^ (-1 : Int64)))), .second, .unset, .unset, .unset, .unset, .unset, .unset] [(.long (((1 : Int64) <<< ((Int32.ofNat pr) &&& 0x3f).toInt64) - (1 : Int64)))]))
        refine own_go (fun t_ k_ => XS.iload X29.here hx rfl (hb hby at_330) rfl k_) ?_
        show OwnFin p e below s _ _ _ (T29.setTop (mkF m 332 #[iv fl, iv pk, .val (.long qa), .second, .val (.long qb), .second, .val (.long qc), .second, iv lg, iv (Int32.ofNat nm), iv (Int32.ofNat pr), iv (Int32.ofNat half), iv (Int32.ofNat m_), iv (Int32.ofNat (m_ / 64)), rv b11, rv b23, iv sz, iv (own_low nw A iB), iv (Int32.ofNat (m_ / pr)), .val (.long (R (m_ / pr / 64))), .second, .val (.long ((A (m_ / 64)) &&& ((own_z m_) ^^^ (-1 : Int64)))), .second, .unset, .unset, .unset, .unset, .unset, .unset] [(.int (Int32.ofNat (m_ / pr))), (.long (((1 : Int64) <<< ((Int32.ofNat pr) &&& 0x3f).toInt64) - (1 : Int64)))]))
        refine own_go (fun t_ k_ => XS.iload X29.here hx rfl (hb hby at_332) rfl k_) ?_
        show OwnFin p e below s _ _ _ (T29.setTop (mkF m 334 #[iv fl, iv pk, .val (.long qa), .second, .val (.long qb), .second, .val (.long qc), .second, iv lg, iv (Int32.ofNat nm), iv (Int32.ofNat pr), iv (Int32.ofNat half), iv (Int32.ofNat m_), iv (Int32.ofNat (m_ / 64)), rv b11, rv b23, iv sz, iv (own_low nw A iB), iv (Int32.ofNat (m_ / pr)), .val (.long (R (m_ / pr / 64))), .second, .val (.long ((A (m_ / 64)) &&& ((own_z m_) ^^^ (-1 : Int64)))), .second, .unset, .unset, .unset, .unset, .unset, .unset] [(.int (Int32.ofNat pr)), (.int (Int32.ofNat (m_ / pr))), (.long (((1 : Int64) <<< ((Int32.ofNat pr) &&& 0x3f).toInt64) - (1 : Int64)))]))
        refine own_go (fun t_ k_ => XS.imul X29.here hx rfl (hb hby at_334) rfl k_) ?_
        show OwnFin p e below s _ _ _ (T29.setTop (mkF m 335 #[iv fl, iv pk, .val (.long qa), .second, .val (.long qb), .second, .val (.long qc), .second, iv lg, iv (Int32.ofNat nm), iv (Int32.ofNat pr), iv (Int32.ofNat half), iv (Int32.ofNat m_), iv (Int32.ofNat (m_ / 64)), rv b11, rv b23, iv sz, iv (own_low nw A iB), iv (Int32.ofNat (m_ / pr)), .val (.long (R (m_ / pr / 64))), .second, .val (.long ((A (m_ / 64)) &&& ((own_z m_) ^^^ (-1 : Int64)))), .second, .unset, .unset, .unset, .unset, .unset, .unset] [(.int ((Int32.ofNat (m_ / pr)) * (Int32.ofNat pr))), (.long (((1 : Int64) <<< ((Int32.ofNat pr) &&& 0x3f).toInt64) - (1 : Int64)))]))
        refine own_go (fun t_ k_ => XS.bipush X29.here hx rfl (hb hby at_335) k_) ?_
        show OwnFin p e below s _ _ _ (T29.setTop (mkF m 337 #[iv fl, iv pk, .val (.long qa), .second, .val (.long qb), .second, .val (.long qc), .second, iv lg, iv (Int32.ofNat nm), iv (Int32.ofNat pr), iv (Int32.ofNat half), iv (Int32.ofNat m_), iv (Int32.ofNat (m_ / 64)), rv b11, rv b23, iv sz, iv (own_low nw A iB), iv (Int32.ofNat (m_ / pr)), .val (.long (R (m_ / pr / 64))), .second, .val (.long ((A (m_ / 64)) &&& ((own_z m_) ^^^ (-1 : Int64)))), .second, .unset, .unset, .unset, .unset, .unset, .unset] [(.int (63 : Int32)), (.int ((Int32.ofNat (m_ / pr)) * (Int32.ofNat pr))), (.long (((1 : Int64) <<< ((Int32.ofNat pr) &&& 0x3f).toInt64) - (1 : Int64)))]))
        refine own_go (fun t_ k_ => XS.iand X29.here hx rfl (hb hby at_337) rfl k_) ?_
        show OwnFin p e below s _ _ _ (T29.setTop (mkF m 338 #[iv fl, iv pk, .val (.long qa), .second, .val (.long qb), .second, .val (.long qc), .second, iv lg, iv (Int32.ofNat nm), iv (Int32.ofNat pr), iv (Int32.ofNat half), iv (Int32.ofNat m_), iv (Int32.ofNat (m_ / 64)), rv b11, rv b23, iv sz, iv (own_low nw A iB), iv (Int32.ofNat (m_ / pr)), .val (.long (R (m_ / pr / 64))), .second, .val (.long ((A (m_ / 64)) &&& ((own_z m_) ^^^ (-1 : Int64)))), .second, .unset, .unset, .unset, .unset, .unset, .unset] [(.int (((Int32.ofNat (m_ / pr)) * (Int32.ofNat pr)) &&& (63 : Int32))), (.long (((1 : Int64) <<< ((Int32.ofNat pr) &&& 0x3f).toInt64) - (1 : Int64)))]))
        refine own_go (fun t_ k_ => XS.lshl X29.here hx rfl (hb hby at_338) rfl k_) ?_
        show OwnFin p e below s _ _ _ (T29.setTop (mkF m 339 #[iv fl, iv pk, .val (.long qa), .second, .val (.long qb), .second, .val (.long qc), .second, iv lg, iv (Int32.ofNat nm), iv (Int32.ofNat pr), iv (Int32.ofNat half), iv (Int32.ofNat m_), iv (Int32.ofNat (m_ / 64)), rv b11, rv b23, iv sz, iv (own_low nw A iB), iv (Int32.ofNat (m_ / pr)), .val (.long (R (m_ / pr / 64))), .second, .val (.long ((A (m_ / 64)) &&& ((own_z m_) ^^^ (-1 : Int64)))), .second, .unset, .unset, .unset, .unset, .unset, .unset] [(.long ((((1 : Int64) <<< ((Int32.ofNat pr) &&& 0x3f).toInt64) - (1 : Int64)) <<< ((((Int32.ofNat (m_ / pr)) * (Int32.ofNat pr)) &&& (63 : Int32)) &&& 0x3f).toInt64))]))
        have hk := own_rack1 hP hp hm640 hbit
        have hM : own_mask pr (m_ / pr) = ((((1 : Int64) <<< ((Int32.ofNat pr) &&& 0x3f).toInt64) - (1 : Int64)) <<< ((((Int32.ofNat (m_ / pr)) * (Int32.ofNat pr)) &&& (63 : Int32)) &&& 0x3f).toInt64) := if_neg (fun q => hc315 (by rw [q]; rfl))
        rw [hM] at hk
        refine own_go (fun t_ k_ => XS.lstore X29.here hx rfl (hb hby at_339) rfl (l' := #[iv fl, iv pk, .val (.long qa), .second, .val (.long qb), .second, .val (.long qc), .second, iv lg, iv (Int32.ofNat nm), iv (Int32.ofNat pr), iv (Int32.ofNat half), iv (Int32.ofNat m_), iv (Int32.ofNat (m_ / 64)), rv b11, rv b23, iv sz, iv (own_low nw A iB), iv (Int32.ofNat (m_ / pr)), .val (.long (R (m_ / pr / 64))), .second, .val (.long ((A (m_ / 64)) &&& ((own_z m_) ^^^ (-1 : Int64)))), .second, .unset, .val (.long ((((1 : Int64) <<< ((Int32.ofNat pr) &&& 0x3f).toInt64) - (1 : Int64)) <<< ((((Int32.ofNat (m_ / pr)) * (Int32.ofNat pr)) &&& (63 : Int32)) &&& 0x3f).toInt64)), .second, .unset, .unset, .unset]) rfl k_) ?_
        show OwnFin p e below s _ _ _ (T29.setTop (mkF m 341 #[iv fl, iv pk, .val (.long qa), .second, .val (.long qb), .second, .val (.long qc), .second, iv lg, iv (Int32.ofNat nm), iv (Int32.ofNat pr), iv (Int32.ofNat half), iv (Int32.ofNat m_), iv (Int32.ofNat (m_ / 64)), rv b11, rv b23, iv sz, iv (own_low nw A iB), iv (Int32.ofNat (m_ / pr)), .val (.long (R (m_ / pr / 64))), .second, .val (.long ((A (m_ / 64)) &&& ((own_z m_) ^^^ (-1 : Int64)))), .second, .unset, .val (.long ((((1 : Int64) <<< ((Int32.ofNat pr) &&& 0x3f).toInt64) - (1 : Int64)) <<< ((((Int32.ofNat (m_ / pr)) * (Int32.ofNat pr)) &&& (63 : Int32)) &&& 0x3f).toInt64)), .second, .unset, .unset, .unset] []))
        refine own_go (fun t_ k_ => XS.lload X29.here hx rfl (hb hby at_341) rfl k_) ?_
        show OwnFin p e below s _ _ _ (T29.setTop (mkF m 343 #[iv fl, iv pk, .val (.long qa), .second, .val (.long qb), .second, .val (.long qc), .second, iv lg, iv (Int32.ofNat nm), iv (Int32.ofNat pr), iv (Int32.ofNat half), iv (Int32.ofNat m_), iv (Int32.ofNat (m_ / 64)), rv b11, rv b23, iv sz, iv (own_low nw A iB), iv (Int32.ofNat (m_ / pr)), .val (.long (R (m_ / pr / 64))), .second, .val (.long ((A (m_ / 64)) &&& ((own_z m_) ^^^ (-1 : Int64)))), .second, .unset, .val (.long ((((1 : Int64) <<< ((Int32.ofNat pr) &&& 0x3f).toInt64) - (1 : Int64)) <<< ((((Int32.ofNat (m_ / pr)) * (Int32.ofNat pr)) &&& (63 : Int32)) &&& 0x3f).toInt64)), .second, .unset, .unset, .unset] [(.long ((A (m_ / 64)) &&& ((own_z m_) ^^^ (-1 : Int64))))]))
        refine own_go (fun t_ k_ => XS.lload X29.here hx rfl (hb hby at_343) rfl k_) ?_
        show OwnFin p e below s _ _ _ (T29.setTop (mkF m 345 #[iv fl, iv pk, .val (.long qa), .second, .val (.long qb), .second, .val (.long qc), .second, iv lg, iv (Int32.ofNat nm), iv (Int32.ofNat pr), iv (Int32.ofNat half), iv (Int32.ofNat m_), iv (Int32.ofNat (m_ / 64)), rv b11, rv b23, iv sz, iv (own_low nw A iB), iv (Int32.ofNat (m_ / pr)), .val (.long (R (m_ / pr / 64))), .second, .val (.long ((A (m_ / 64)) &&& ((own_z m_) ^^^ (-1 : Int64)))), .second, .unset, .val (.long ((((1 : Int64) <<< ((Int32.ofNat pr) &&& 0x3f).toInt64) - (1 : Int64)) <<< ((((Int32.ofNat (m_ / pr)) * (Int32.ofNat pr)) &&& (63 : Int32)) &&& 0x3f).toInt64)), .second, .unset, .unset, .unset] [(.long ((((1 : Int64) <<< ((Int32.ofNat pr) &&& 0x3f).toInt64) - (1 : Int64)) <<< ((((Int32.ofNat (m_ / pr)) * (Int32.ofNat pr)) &&& (63 : Int32)) &&& 0x3f).toInt64)), (.long ((A (m_ / 64)) &&& ((own_z m_) ^^^ (-1 : Int64))))]))
        refine own_go (fun t_ k_ => XS.land X29.here hx rfl (hb hby at_345) rfl k_) ?_
        show OwnFin p e below s _ _ _ (T29.setTop (mkF m 346 #[iv fl, iv pk, .val (.long qa), .second, .val (.long qb), .second, .val (.long qc), .second, iv lg, iv (Int32.ofNat nm), iv (Int32.ofNat pr), iv (Int32.ofNat half), iv (Int32.ofNat m_), iv (Int32.ofNat (m_ / 64)), rv b11, rv b23, iv sz, iv (own_low nw A iB), iv (Int32.ofNat (m_ / pr)), .val (.long (R (m_ / pr / 64))), .second, .val (.long ((A (m_ / 64)) &&& ((own_z m_) ^^^ (-1 : Int64)))), .second, .unset, .val (.long ((((1 : Int64) <<< ((Int32.ofNat pr) &&& 0x3f).toInt64) - (1 : Int64)) <<< ((((Int32.ofNat (m_ / pr)) * (Int32.ofNat pr)) &&& (63 : Int32)) &&& 0x3f).toInt64)), .second, .unset, .unset, .unset] [(.long (((A (m_ / 64)) &&& ((own_z m_) ^^^ (-1 : Int64))) &&& ((((1 : Int64) <<< ((Int32.ofNat pr) &&& 0x3f).toInt64) - (1 : Int64)) <<< ((((Int32.ofNat (m_ / pr)) * (Int32.ofNat pr)) &&& (63 : Int32)) &&& 0x3f).toInt64)))]))
        refine own_go (fun t_ k_ => XS.lconst X29.here hx rfl (hb hby at_346) k_) ?_
        show OwnFin p e below s _ _ _ (T29.setTop (mkF m 347 #[iv fl, iv pk, .val (.long qa), .second, .val (.long qb), .second, .val (.long qc), .second, iv lg, iv (Int32.ofNat nm), iv (Int32.ofNat pr), iv (Int32.ofNat half), iv (Int32.ofNat m_), iv (Int32.ofNat (m_ / 64)), rv b11, rv b23, iv sz, iv (own_low nw A iB), iv (Int32.ofNat (m_ / pr)), .val (.long (R (m_ / pr / 64))), .second, .val (.long ((A (m_ / 64)) &&& ((own_z m_) ^^^ (-1 : Int64)))), .second, .unset, .val (.long ((((1 : Int64) <<< ((Int32.ofNat pr) &&& 0x3f).toInt64) - (1 : Int64)) <<< ((((Int32.ofNat (m_ / pr)) * (Int32.ofNat pr)) &&& (63 : Int32)) &&& 0x3f).toInt64)), .second, .unset, .unset, .unset] [(.long (0 : Int64)), (.long (((A (m_ / 64)) &&& ((own_z m_) ^^^ (-1 : Int64))) &&& ((((1 : Int64) <<< ((Int32.ofNat pr) &&& 0x3f).toInt64) - (1 : Int64)) <<< ((((Int32.ofNat (m_ / pr)) * (Int32.ofNat pr)) &&& (63 : Int32)) &&& 0x3f).toInt64)))]))
        refine own_go (fun t_ k_ => XS.lcmp X29.here hx rfl (hb hby at_347) rfl k_) ?_
        show OwnFin p e below s _ _ _ (T29.setTop (mkF m 348 #[iv fl, iv pk, .val (.long qa), .second, .val (.long qb), .second, .val (.long qc), .second, iv lg, iv (Int32.ofNat nm), iv (Int32.ofNat pr), iv (Int32.ofNat half), iv (Int32.ofNat m_), iv (Int32.ofNat (m_ / 64)), rv b11, rv b23, iv sz, iv (own_low nw A iB), iv (Int32.ofNat (m_ / pr)), .val (.long (R (m_ / pr / 64))), .second, .val (.long ((A (m_ / 64)) &&& ((own_z m_) ^^^ (-1 : Int64)))), .second, .unset, .val (.long ((((1 : Int64) <<< ((Int32.ofNat pr) &&& 0x3f).toInt64) - (1 : Int64)) <<< ((((Int32.ofNat (m_ / pr)) * (Int32.ofNat pr)) &&& (63 : Int32)) &&& 0x3f).toInt64)), .second, .unset, .unset, .unset] [(.int (lcmpW (((A (m_ / 64)) &&& ((own_z m_) ^^^ (-1 : Int64))) &&& ((((1 : Int64) <<< ((Int32.ofNat pr) &&& 0x3f).toInt64) - (1 : Int64)) <<< ((((Int32.ofNat (m_ / pr)) * (Int32.ofNat pr)) &&& (63 : Int32)) &&& 0x3f).toInt64)) (0 : Int64)))]))
        by_cases hc348 : (((A (m_ / 64)) &&& ((own_z m_) ^^^ (-1 : Int64))) &&& ((((1 : Int64) <<< ((Int32.ofNat pr) &&& 0x3f).toInt64) - (1 : Int64)) <<< ((((Int32.ofNat (m_ / pr)) * (Int32.ofNat pr)) &&& (63 : Int32)) &&& 0x3f).toInt64)) = (0 : Int64)
        · refine own_go (fun t_ k_ => XS.ifYes X29.here hx rfl (pc0 := 348) (pc' := 355) rfl (hb hby at_348) rfl ((if0 _ _).trans (teq ((lw_eq (((A (m_ / 64)) &&& ((own_z m_) ^^^ (-1 : Int64))) &&& ((((1 : Int64) <<< ((Int32.ofNat pr) &&& 0x3f).toInt64) - (1 : Int64)) <<< ((((Int32.ofNat (m_ / pr)) * (Int32.ofNat pr)) &&& (63 : Int32)) &&& 0x3f).toInt64)) (0 : Int64)).mpr hc348)).1) (by decide) (by decide) k_) ?_
          show OwnFin p e below s _ _ _ (T29.setTop (mkF m 355 #[iv fl, iv pk, .val (.long qa), .second, .val (.long qb), .second, .val (.long qc), .second, iv lg, iv (Int32.ofNat nm), iv (Int32.ofNat pr), iv (Int32.ofNat half), iv (Int32.ofNat m_), iv (Int32.ofNat (m_ / 64)), rv b11, rv b23, iv sz, iv (own_low nw A iB), iv (Int32.ofNat (m_ / pr)), .val (.long (R (m_ / pr / 64))), .second, .val (.long ((A (m_ / 64)) &&& ((own_z m_) ^^^ (-1 : Int64)))), .second, .unset, .val (.long ((((1 : Int64) <<< ((Int32.ofNat pr) &&& 0x3f).toInt64) - (1 : Int64)) <<< ((((Int32.ofNat (m_ / pr)) * (Int32.ofNat pr)) &&& (63 : Int32)) &&& 0x3f).toInt64)), .second, .unset, .unset, .unset] []))
          refine own_go (fun t_ k_ => XS.iconst X29.here hx rfl (hb hby at_355) k_) ?_
          show OwnFin p e below s _ _ _ (T29.setTop (mkF m 356 #[iv fl, iv pk, .val (.long qa), .second, .val (.long qb), .second, .val (.long qc), .second, iv lg, iv (Int32.ofNat nm), iv (Int32.ofNat pr), iv (Int32.ofNat half), iv (Int32.ofNat m_), iv (Int32.ofNat (m_ / 64)), rv b11, rv b23, iv sz, iv (own_low nw A iB), iv (Int32.ofNat (m_ / pr)), .val (.long (R (m_ / pr / 64))), .second, .val (.long ((A (m_ / 64)) &&& ((own_z m_) ^^^ (-1 : Int64)))), .second, .unset, .val (.long ((((1 : Int64) <<< ((Int32.ofNat pr) &&& 0x3f).toInt64) - (1 : Int64)) <<< ((((Int32.ofNat (m_ / pr)) * (Int32.ofNat pr)) &&& (63 : Int32)) &&& 0x3f).toInt64)), .second, .unset, .unset, .unset] [(.int (0 : Int32))]))
          refine own_go (fun t_ k_ => XS.istore X29.here hx rfl (hb hby at_356) rfl (l' := #[iv fl, iv pk, .val (.long qa), .second, .val (.long qb), .second, .val (.long qc), .second, iv lg, iv (Int32.ofNat nm), iv (Int32.ofNat pr), iv (Int32.ofNat half), iv (Int32.ofNat m_), iv (Int32.ofNat (m_ / 64)), rv b11, rv b23, iv sz, iv (own_low nw A iB), iv (Int32.ofNat (m_ / pr)), .val (.long (R (m_ / pr / 64))), .second, .val (.long ((A (m_ / 64)) &&& ((own_z m_) ^^^ (-1 : Int64)))), .second, iv (0 : Int32), .val (.long ((((1 : Int64) <<< ((Int32.ofNat pr) &&& 0x3f).toInt64) - (1 : Int64)) <<< ((((Int32.ofNat (m_ / pr)) * (Int32.ofNat pr)) &&& (63 : Int32)) &&& 0x3f).toInt64)), .second, .unset, .unset, .unset]) rfl k_) ?_
          show OwnFin p e below s _ _ _ (T29.setTop (mkF m 358 #[iv fl, iv pk, .val (.long qa), .second, .val (.long qb), .second, .val (.long qc), .second, iv lg, iv (Int32.ofNat nm), iv (Int32.ofNat pr), iv (Int32.ofNat half), iv (Int32.ofNat m_), iv (Int32.ofNat (m_ / 64)), rv b11, rv b23, iv sz, iv (own_low nw A iB), iv (Int32.ofNat (m_ / pr)), .val (.long (R (m_ / pr / 64))), .second, .val (.long ((A (m_ / 64)) &&& ((own_z m_) ^^^ (-1 : Int64)))), .second, iv (0 : Int32), .val (.long ((((1 : Int64) <<< ((Int32.ofNat pr) &&& 0x3f).toInt64) - (1 : Int64)) <<< ((((Int32.ofNat (m_ / pr)) * (Int32.ofNat pr)) &&& (63 : Int32)) &&& 0x3f).toInt64)), .second, .unset, .unset, .unset] []))
          refine own_go (fun t_ k_ => XS.iload X29.here hx rfl (hb hby at_358) rfl k_) ?_
          show OwnFin p e below s _ _ _ (T29.setTop (mkF m 360 #[iv fl, iv pk, .val (.long qa), .second, .val (.long qb), .second, .val (.long qc), .second, iv lg, iv (Int32.ofNat nm), iv (Int32.ofNat pr), iv (Int32.ofNat half), iv (Int32.ofNat m_), iv (Int32.ofNat (m_ / 64)), rv b11, rv b23, iv sz, iv (own_low nw A iB), iv (Int32.ofNat (m_ / pr)), .val (.long (R (m_ / pr / 64))), .second, .val (.long ((A (m_ / 64)) &&& ((own_z m_) ^^^ (-1 : Int64)))), .second, iv (0 : Int32), .val (.long ((((1 : Int64) <<< ((Int32.ofNat pr) &&& 0x3f).toInt64) - (1 : Int64)) <<< ((((Int32.ofNat (m_ / pr)) * (Int32.ofNat pr)) &&& (63 : Int32)) &&& 0x3f).toInt64)), .second, .unset, .unset, .unset] [(.int (0 : Int32))]))
          refine own_go (fun t_ k_ => XS.ifYes X29.here hx rfl (pc0 := 360) (pc' := 368) rfl (hb hby at_360) rfl ((if0 _ _).trans (teq (by decide)).1) (by decide) (by decide) k_) ?_
          show OwnFin p e below s _ _ _ (T29.setTop (mkF m 368 #[iv fl, iv pk, .val (.long qa), .second, .val (.long qb), .second, .val (.long qc), .second, iv lg, iv (Int32.ofNat nm), iv (Int32.ofNat pr), iv (Int32.ofNat half), iv (Int32.ofNat m_), iv (Int32.ofNat (m_ / 64)), rv b11, rv b23, iv sz, iv (own_low nw A iB), iv (Int32.ofNat (m_ / pr)), .val (.long (R (m_ / pr / 64))), .second, .val (.long ((A (m_ / 64)) &&& ((own_z m_) ^^^ (-1 : Int64)))), .second, iv (0 : Int32), .val (.long ((((1 : Int64) <<< ((Int32.ofNat pr) &&& 0x3f).toInt64) - (1 : Int64)) <<< ((((Int32.ofNat (m_ / pr)) * (Int32.ofNat pr)) &&& (63 : Int32)) &&& 0x3f).toInt64)), .second, .unset, .unset, .unset] []))
          refine own_go (fun t_ k_ => XS.lload X29.here hx rfl (hb hby at_368) rfl k_) ?_
          show OwnFin p e below s _ _ _ (T29.setTop (mkF m 370 #[iv fl, iv pk, .val (.long qa), .second, .val (.long qb), .second, .val (.long qc), .second, iv lg, iv (Int32.ofNat nm), iv (Int32.ofNat pr), iv (Int32.ofNat half), iv (Int32.ofNat m_), iv (Int32.ofNat (m_ / 64)), rv b11, rv b23, iv sz, iv (own_low nw A iB), iv (Int32.ofNat (m_ / pr)), .val (.long (R (m_ / pr / 64))), .second, .val (.long ((A (m_ / 64)) &&& ((own_z m_) ^^^ (-1 : Int64)))), .second, iv (0 : Int32), .val (.long ((((1 : Int64) <<< ((Int32.ofNat pr) &&& 0x3f).toInt64) - (1 : Int64)) <<< ((((Int32.ofNat (m_ / pr)) * (Int32.ofNat pr)) &&& (63 : Int32)) &&& 0x3f).toInt64)), .second, .unset, .unset, .unset] [(.long (R (m_ / pr / 64)))]))
          refine own_go (fun t_ k_ => XS.lconst X29.here hx rfl (hb hby at_370) k_) ?_
          show OwnFin p e below s _ _ _ (T29.setTop (mkF m 371 #[iv fl, iv pk, .val (.long qa), .second, .val (.long qb), .second, .val (.long qc), .second, iv lg, iv (Int32.ofNat nm), iv (Int32.ofNat pr), iv (Int32.ofNat half), iv (Int32.ofNat m_), iv (Int32.ofNat (m_ / 64)), rv b11, rv b23, iv sz, iv (own_low nw A iB), iv (Int32.ofNat (m_ / pr)), .val (.long (R (m_ / pr / 64))), .second, .val (.long ((A (m_ / 64)) &&& ((own_z m_) ^^^ (-1 : Int64)))), .second, iv (0 : Int32), .val (.long ((((1 : Int64) <<< ((Int32.ofNat pr) &&& 0x3f).toInt64) - (1 : Int64)) <<< ((((Int32.ofNat (m_ / pr)) * (Int32.ofNat pr)) &&& (63 : Int32)) &&& 0x3f).toInt64)), .second, .unset, .unset, .unset] [(.long (1 : Int64)), (.long (R (m_ / pr / 64)))]))
          refine own_go (fun t_ k_ => XS.iload X29.here hx rfl (hb hby at_371) rfl k_) ?_
          show OwnFin p e below s _ _ _ (T29.setTop (mkF m 373 #[iv fl, iv pk, .val (.long qa), .second, .val (.long qb), .second, .val (.long qc), .second, iv lg, iv (Int32.ofNat nm), iv (Int32.ofNat pr), iv (Int32.ofNat half), iv (Int32.ofNat m_), iv (Int32.ofNat (m_ / 64)), rv b11, rv b23, iv sz, iv (own_low nw A iB), iv (Int32.ofNat (m_ / pr)), .val (.long (R (m_ / pr / 64))), .second, .val (.long ((A (m_ / 64)) &&& ((own_z m_) ^^^ (-1 : Int64)))), .second, iv (0 : Int32), .val (.long ((((1 : Int64) <<< ((Int32.ofNat pr) &&& 0x3f).toInt64) - (1 : Int64)) <<< ((((Int32.ofNat (m_ / pr)) * (Int32.ofNat pr)) &&& (63 : Int32)) &&& 0x3f).toInt64)), .second, .unset, .unset, .unset] [(.int (Int32.ofNat (m_ / pr))), (.long (1 : Int64)), (.long (R (m_ / pr / 64)))]))
          refine own_go (fun t_ k_ => XS.lshl X29.here hx rfl (hb hby at_373) rfl k_) ?_
          show OwnFin p e below s _ _ _ (T29.setTop (mkF m 374 #[iv fl, iv pk, .val (.long qa), .second, .val (.long qb), .second, .val (.long qc), .second, iv lg, iv (Int32.ofNat nm), iv (Int32.ofNat pr), iv (Int32.ofNat half), iv (Int32.ofNat m_), iv (Int32.ofNat (m_ / 64)), rv b11, rv b23, iv sz, iv (own_low nw A iB), iv (Int32.ofNat (m_ / pr)), .val (.long (R (m_ / pr / 64))), .second, .val (.long ((A (m_ / 64)) &&& ((own_z m_) ^^^ (-1 : Int64)))), .second, iv (0 : Int32), .val (.long ((((1 : Int64) <<< ((Int32.ofNat pr) &&& 0x3f).toInt64) - (1 : Int64)) <<< ((((Int32.ofNat (m_ / pr)) * (Int32.ofNat pr)) &&& (63 : Int32)) &&& 0x3f).toInt64)), .second, .unset, .unset, .unset] [(.long ((1 : Int64) <<< ((Int32.ofNat (m_ / pr)) &&& 0x3f).toInt64)), (.long (R (m_ / pr / 64)))]))
          show OwnFin p e below s _ _ _ (T29.setTop (mkF m 374 #[iv fl, iv pk, .val (.long qa), .second, .val (.long qb), .second, .val (.long qc), .second, iv lg, iv (Int32.ofNat nm), iv (Int32.ofNat pr), iv (Int32.ofNat half), iv (Int32.ofNat m_), iv (Int32.ofNat (m_ / 64)), rv b11, rv b23, iv sz, iv (own_low nw A iB), iv (Int32.ofNat (m_ / pr)), .val (.long (R (m_ / pr / 64))), .second, .val (.long ((A (m_ / 64)) &&& ((own_z m_) ^^^ (-1 : Int64)))), .second, iv (0 : Int32), .val (.long ((((1 : Int64) <<< ((Int32.ofNat pr) &&& 0x3f).toInt64) - (1 : Int64)) <<< ((((Int32.ofNat (m_ / pr)) * (Int32.ofNat pr)) &&& (63 : Int32)) &&& 0x3f).toInt64)), .second, .unset, .unset, .unset] [(.long (own_z (m_ / pr))), (.long (R (m_ / pr / 64)))]))
          refine own_go (X29.ldc2Long hx hown (mvT hZ (hw _ (List.mem_of_getElem? (i := 2) rfl))) (g := (mkF m 374 #[iv fl, iv pk, .val (.long qa), .second, .val (.long qb), .second, .val (.long qc), .second, iv lg, iv (Int32.ofNat nm), iv (Int32.ofNat pr), iv (Int32.ofNat half), iv (Int32.ofNat m_), iv (Int32.ofNat (m_ / 64)), rv b11, rv b23, iv sz, iv (own_low nw A iB), iv (Int32.ofNat (m_ / pr)), .val (.long (R (m_ / pr / 64))), .second, .val (.long ((A (m_ / 64)) &&& ((own_z m_) ^^^ (-1 : Int64)))), .second, iv (0 : Int32), .val (.long ((((1 : Int64) <<< ((Int32.ofNat pr) &&& 0x3f).toInt64) - (1 : Int64)) <<< ((((Int32.ofNat (m_ / pr)) * (Int32.ofNat pr)) &&& (63 : Int32)) &&& 0x3f).toInt64)), .second, .unset, .unset, .unset] [(.long (own_z (m_ / pr))), (.long (R (m_ / pr / 64)))])) rfl (hb hby at_374)) ?_
          show OwnFin p e below s _ _ _ (T29.setTop (mkF m 377 #[iv fl, iv pk, .val (.long qa), .second, .val (.long qb), .second, .val (.long qc), .second, iv lg, iv (Int32.ofNat nm), iv (Int32.ofNat pr), iv (Int32.ofNat half), iv (Int32.ofNat m_), iv (Int32.ofNat (m_ / 64)), rv b11, rv b23, iv sz, iv (own_low nw A iB), iv (Int32.ofNat (m_ / pr)), .val (.long (R (m_ / pr / 64))), .second, .val (.long ((A (m_ / 64)) &&& ((own_z m_) ^^^ (-1 : Int64)))), .second, iv (0 : Int32), .val (.long ((((1 : Int64) <<< ((Int32.ofNat pr) &&& 0x3f).toInt64) - (1 : Int64)) <<< ((((Int32.ofNat (m_ / pr)) * (Int32.ofNat pr)) &&& (63 : Int32)) &&& 0x3f).toInt64)), .second, .unset, .unset, .unset] [(.long (-1 : Int64)), (.long (own_z (m_ / pr))), (.long (R (m_ / pr / 64)))]))
          refine own_go (fun t_ k_ => XS.lxor X29.here hx rfl (hb hby at_377) rfl k_) ?_
          show OwnFin p e below s _ _ _ (T29.setTop (mkF m 378 #[iv fl, iv pk, .val (.long qa), .second, .val (.long qb), .second, .val (.long qc), .second, iv lg, iv (Int32.ofNat nm), iv (Int32.ofNat pr), iv (Int32.ofNat half), iv (Int32.ofNat m_), iv (Int32.ofNat (m_ / 64)), rv b11, rv b23, iv sz, iv (own_low nw A iB), iv (Int32.ofNat (m_ / pr)), .val (.long (R (m_ / pr / 64))), .second, .val (.long ((A (m_ / 64)) &&& ((own_z m_) ^^^ (-1 : Int64)))), .second, iv (0 : Int32), .val (.long ((((1 : Int64) <<< ((Int32.ofNat pr) &&& 0x3f).toInt64) - (1 : Int64)) <<< ((((Int32.ofNat (m_ / pr)) * (Int32.ofNat pr)) &&& (63 : Int32)) &&& 0x3f).toInt64)), .second, .unset, .unset, .unset] [(.long ((own_z (m_ / pr)) ^^^ (-1 : Int64))), (.long (R (m_ / pr / 64)))]))
          refine own_go (fun t_ k_ => XS.land X29.here hx rfl (hb hby at_378) rfl k_) ?_
          show OwnFin p e below s _ _ _ (T29.setTop (mkF m 379 #[iv fl, iv pk, .val (.long qa), .second, .val (.long qb), .second, .val (.long qc), .second, iv lg, iv (Int32.ofNat nm), iv (Int32.ofNat pr), iv (Int32.ofNat half), iv (Int32.ofNat m_), iv (Int32.ofNat (m_ / 64)), rv b11, rv b23, iv sz, iv (own_low nw A iB), iv (Int32.ofNat (m_ / pr)), .val (.long (R (m_ / pr / 64))), .second, .val (.long ((A (m_ / 64)) &&& ((own_z m_) ^^^ (-1 : Int64)))), .second, iv (0 : Int32), .val (.long ((((1 : Int64) <<< ((Int32.ofNat pr) &&& 0x3f).toInt64) - (1 : Int64)) <<< ((((Int32.ofNat (m_ / pr)) * (Int32.ofNat pr)) &&& (63 : Int32)) &&& 0x3f).toInt64)), .second, .unset, .unset, .unset] [(.long ((R (m_ / pr / 64)) &&& ((own_z (m_ / pr)) ^^^ (-1 : Int64))))]))
          refine own_go (fun t_ k_ => XS.lstore X29.here hx rfl (hb hby at_379) rfl (l' := #[iv fl, iv pk, .val (.long qa), .second, .val (.long qb), .second, .val (.long qc), .second, iv lg, iv (Int32.ofNat nm), iv (Int32.ofNat pr), iv (Int32.ofNat half), iv (Int32.ofNat m_), iv (Int32.ofNat (m_ / 64)), rv b11, rv b23, iv sz, iv (own_low nw A iB), iv (Int32.ofNat (m_ / pr)), .val (.long (R (m_ / pr / 64))), .second, .val (.long ((A (m_ / 64)) &&& ((own_z m_) ^^^ (-1 : Int64)))), .second, iv (0 : Int32), .val (.long ((R (m_ / pr / 64)) &&& ((own_z (m_ / pr)) ^^^ (-1 : Int64)))), .second, .unset, .unset, .unset]) rfl k_) ?_
          show OwnFin p e below s _ _ _ (T29.setTop (mkF m 381 #[iv fl, iv pk, .val (.long qa), .second, .val (.long qb), .second, .val (.long qc), .second, iv lg, iv (Int32.ofNat nm), iv (Int32.ofNat pr), iv (Int32.ofNat half), iv (Int32.ofNat m_), iv (Int32.ofNat (m_ / 64)), rv b11, rv b23, iv sz, iv (own_low nw A iB), iv (Int32.ofNat (m_ / pr)), .val (.long (R (m_ / pr / 64))), .second, .val (.long ((A (m_ / 64)) &&& ((own_z m_) ^^^ (-1 : Int64)))), .second, iv (0 : Int32), .val (.long ((R (m_ / pr / 64)) &&& ((own_z (m_ / pr)) ^^^ (-1 : Int64)))), .second, .unset, .unset, .unset] []))
          exact fin_ _ _ _ _ _ T29 _ _ X29 rfl N29 Z29 V_A_29 Eq29 V_ao_29 Fq29_words Fq29_inBlocks Fq29_racks Fq29_size Vb_aw Vb_ab Vb_ak (by rw [own_rmR, if_pos rfl, if_pos (hk.mpr hc348)])
        · refine own_go (fun t_ k_ => XS.ifNo X29.here hx rfl (hb hby at_348) rfl ((if0 _ _).trans (feq (mt (lw_eq (((A (m_ / 64)) &&& ((own_z m_) ^^^ (-1 : Int64))) &&& ((((1 : Int64) <<< ((Int32.ofNat pr) &&& 0x3f).toInt64) - (1 : Int64)) <<< ((((Int32.ofNat (m_ / pr)) * (Int32.ofNat pr)) &&& (63 : Int32)) &&& 0x3f).toInt64)) (0 : Int64)).mp hc348)).1) k_) ?_
          show OwnFin p e below s _ _ _ (T29.setTop (mkF m 351 #[iv fl, iv pk, .val (.long qa), .second, .val (.long qb), .second, .val (.long qc), .second, iv lg, iv (Int32.ofNat nm), iv (Int32.ofNat pr), iv (Int32.ofNat half), iv (Int32.ofNat m_), iv (Int32.ofNat (m_ / 64)), rv b11, rv b23, iv sz, iv (own_low nw A iB), iv (Int32.ofNat (m_ / pr)), .val (.long (R (m_ / pr / 64))), .second, .val (.long ((A (m_ / 64)) &&& ((own_z m_) ^^^ (-1 : Int64)))), .second, .unset, .val (.long ((((1 : Int64) <<< ((Int32.ofNat pr) &&& 0x3f).toInt64) - (1 : Int64)) <<< ((((Int32.ofNat (m_ / pr)) * (Int32.ofNat pr)) &&& (63 : Int32)) &&& 0x3f).toInt64)), .second, .unset, .unset, .unset] []))
          refine own_go (fun t_ k_ => XS.iconst X29.here hx rfl (hb hby at_351) k_) ?_
          show OwnFin p e below s _ _ _ (T29.setTop (mkF m 352 #[iv fl, iv pk, .val (.long qa), .second, .val (.long qb), .second, .val (.long qc), .second, iv lg, iv (Int32.ofNat nm), iv (Int32.ofNat pr), iv (Int32.ofNat half), iv (Int32.ofNat m_), iv (Int32.ofNat (m_ / 64)), rv b11, rv b23, iv sz, iv (own_low nw A iB), iv (Int32.ofNat (m_ / pr)), .val (.long (R (m_ / pr / 64))), .second, .val (.long ((A (m_ / 64)) &&& ((own_z m_) ^^^ (-1 : Int64)))), .second, .unset, .val (.long ((((1 : Int64) <<< ((Int32.ofNat pr) &&& 0x3f).toInt64) - (1 : Int64)) <<< ((((Int32.ofNat (m_ / pr)) * (Int32.ofNat pr)) &&& (63 : Int32)) &&& 0x3f).toInt64)), .second, .unset, .unset, .unset] [(.int (1 : Int32))]))
          refine own_go (fun t_ k_ => XS.goto X29.here hx rfl (pc0 := 352) (pc' := 356) rfl (hb hby at_352) (by decide) (by decide) k_) ?_
          show OwnFin p e below s _ _ _ (T29.setTop (mkF m 356 #[iv fl, iv pk, .val (.long qa), .second, .val (.long qb), .second, .val (.long qc), .second, iv lg, iv (Int32.ofNat nm), iv (Int32.ofNat pr), iv (Int32.ofNat half), iv (Int32.ofNat m_), iv (Int32.ofNat (m_ / 64)), rv b11, rv b23, iv sz, iv (own_low nw A iB), iv (Int32.ofNat (m_ / pr)), .val (.long (R (m_ / pr / 64))), .second, .val (.long ((A (m_ / 64)) &&& ((own_z m_) ^^^ (-1 : Int64)))), .second, .unset, .val (.long ((((1 : Int64) <<< ((Int32.ofNat pr) &&& 0x3f).toInt64) - (1 : Int64)) <<< ((((Int32.ofNat (m_ / pr)) * (Int32.ofNat pr)) &&& (63 : Int32)) &&& 0x3f).toInt64)), .second, .unset, .unset, .unset] [(.int (1 : Int32))]))
          refine own_go (fun t_ k_ => XS.istore X29.here hx rfl (hb hby at_356) rfl (l' := #[iv fl, iv pk, .val (.long qa), .second, .val (.long qb), .second, .val (.long qc), .second, iv lg, iv (Int32.ofNat nm), iv (Int32.ofNat pr), iv (Int32.ofNat half), iv (Int32.ofNat m_), iv (Int32.ofNat (m_ / 64)), rv b11, rv b23, iv sz, iv (own_low nw A iB), iv (Int32.ofNat (m_ / pr)), .val (.long (R (m_ / pr / 64))), .second, .val (.long ((A (m_ / 64)) &&& ((own_z m_) ^^^ (-1 : Int64)))), .second, iv (1 : Int32), .val (.long ((((1 : Int64) <<< ((Int32.ofNat pr) &&& 0x3f).toInt64) - (1 : Int64)) <<< ((((Int32.ofNat (m_ / pr)) * (Int32.ofNat pr)) &&& (63 : Int32)) &&& 0x3f).toInt64)), .second, .unset, .unset, .unset]) rfl k_) ?_
          show OwnFin p e below s _ _ _ (T29.setTop (mkF m 358 #[iv fl, iv pk, .val (.long qa), .second, .val (.long qb), .second, .val (.long qc), .second, iv lg, iv (Int32.ofNat nm), iv (Int32.ofNat pr), iv (Int32.ofNat half), iv (Int32.ofNat m_), iv (Int32.ofNat (m_ / 64)), rv b11, rv b23, iv sz, iv (own_low nw A iB), iv (Int32.ofNat (m_ / pr)), .val (.long (R (m_ / pr / 64))), .second, .val (.long ((A (m_ / 64)) &&& ((own_z m_) ^^^ (-1 : Int64)))), .second, iv (1 : Int32), .val (.long ((((1 : Int64) <<< ((Int32.ofNat pr) &&& 0x3f).toInt64) - (1 : Int64)) <<< ((((Int32.ofNat (m_ / pr)) * (Int32.ofNat pr)) &&& (63 : Int32)) &&& 0x3f).toInt64)), .second, .unset, .unset, .unset] []))
          refine own_go (fun t_ k_ => XS.iload X29.here hx rfl (hb hby at_358) rfl k_) ?_
          show OwnFin p e below s _ _ _ (T29.setTop (mkF m 360 #[iv fl, iv pk, .val (.long qa), .second, .val (.long qb), .second, .val (.long qc), .second, iv lg, iv (Int32.ofNat nm), iv (Int32.ofNat pr), iv (Int32.ofNat half), iv (Int32.ofNat m_), iv (Int32.ofNat (m_ / 64)), rv b11, rv b23, iv sz, iv (own_low nw A iB), iv (Int32.ofNat (m_ / pr)), .val (.long (R (m_ / pr / 64))), .second, .val (.long ((A (m_ / 64)) &&& ((own_z m_) ^^^ (-1 : Int64)))), .second, iv (1 : Int32), .val (.long ((((1 : Int64) <<< ((Int32.ofNat pr) &&& 0x3f).toInt64) - (1 : Int64)) <<< ((((Int32.ofNat (m_ / pr)) * (Int32.ofNat pr)) &&& (63 : Int32)) &&& 0x3f).toInt64)), .second, .unset, .unset, .unset] [(.int (1 : Int32))]))
          refine own_go (fun t_ k_ => XS.ifNo X29.here hx rfl (hb hby at_360) rfl ((if0 _ _).trans (feq (by decide)).1) k_) ?_
          show OwnFin p e below s _ _ _ (T29.setTop (mkF m 363 #[iv fl, iv pk, .val (.long qa), .second, .val (.long qb), .second, .val (.long qc), .second, iv lg, iv (Int32.ofNat nm), iv (Int32.ofNat pr), iv (Int32.ofNat half), iv (Int32.ofNat m_), iv (Int32.ofNat (m_ / 64)), rv b11, rv b23, iv sz, iv (own_low nw A iB), iv (Int32.ofNat (m_ / pr)), .val (.long (R (m_ / pr / 64))), .second, .val (.long ((A (m_ / 64)) &&& ((own_z m_) ^^^ (-1 : Int64)))), .second, iv (1 : Int32), .val (.long ((((1 : Int64) <<< ((Int32.ofNat pr) &&& 0x3f).toInt64) - (1 : Int64)) <<< ((((Int32.ofNat (m_ / pr)) * (Int32.ofNat pr)) &&& (63 : Int32)) &&& 0x3f).toInt64)), .second, .unset, .unset, .unset] []))
          refine own_go (fun t_ k_ => XS.lload X29.here hx rfl (hb hby at_363) rfl k_) ?_
          show OwnFin p e below s _ _ _ (T29.setTop (mkF m 365 #[iv fl, iv pk, .val (.long qa), .second, .val (.long qb), .second, .val (.long qc), .second, iv lg, iv (Int32.ofNat nm), iv (Int32.ofNat pr), iv (Int32.ofNat half), iv (Int32.ofNat m_), iv (Int32.ofNat (m_ / 64)), rv b11, rv b23, iv sz, iv (own_low nw A iB), iv (Int32.ofNat (m_ / pr)), .val (.long (R (m_ / pr / 64))), .second, .val (.long ((A (m_ / 64)) &&& ((own_z m_) ^^^ (-1 : Int64)))), .second, iv (1 : Int32), .val (.long ((((1 : Int64) <<< ((Int32.ofNat pr) &&& 0x3f).toInt64) - (1 : Int64)) <<< ((((Int32.ofNat (m_ / pr)) * (Int32.ofNat pr)) &&& (63 : Int32)) &&& 0x3f).toInt64)), .second, .unset, .unset, .unset] [(.long (R (m_ / pr / 64)))]))
          refine own_go (fun t_ k_ => XS.goto X29.here hx rfl (pc0 := 365) (pc' := 379) rfl (hb hby at_365) (by decide) (by decide) k_) ?_
          show OwnFin p e below s _ _ _ (T29.setTop (mkF m 379 #[iv fl, iv pk, .val (.long qa), .second, .val (.long qb), .second, .val (.long qc), .second, iv lg, iv (Int32.ofNat nm), iv (Int32.ofNat pr), iv (Int32.ofNat half), iv (Int32.ofNat m_), iv (Int32.ofNat (m_ / 64)), rv b11, rv b23, iv sz, iv (own_low nw A iB), iv (Int32.ofNat (m_ / pr)), .val (.long (R (m_ / pr / 64))), .second, .val (.long ((A (m_ / 64)) &&& ((own_z m_) ^^^ (-1 : Int64)))), .second, iv (1 : Int32), .val (.long ((((1 : Int64) <<< ((Int32.ofNat pr) &&& 0x3f).toInt64) - (1 : Int64)) <<< ((((Int32.ofNat (m_ / pr)) * (Int32.ofNat pr)) &&& (63 : Int32)) &&& 0x3f).toInt64)), .second, .unset, .unset, .unset] [(.long (R (m_ / pr / 64)))]))
          refine own_go (fun t_ k_ => XS.lstore X29.here hx rfl (hb hby at_379) rfl (l' := #[iv fl, iv pk, .val (.long qa), .second, .val (.long qb), .second, .val (.long qc), .second, iv lg, iv (Int32.ofNat nm), iv (Int32.ofNat pr), iv (Int32.ofNat half), iv (Int32.ofNat m_), iv (Int32.ofNat (m_ / 64)), rv b11, rv b23, iv sz, iv (own_low nw A iB), iv (Int32.ofNat (m_ / pr)), .val (.long (R (m_ / pr / 64))), .second, .val (.long ((A (m_ / 64)) &&& ((own_z m_) ^^^ (-1 : Int64)))), .second, iv (1 : Int32), .val (.long (R (m_ / pr / 64))), .second, .unset, .unset, .unset]) rfl k_) ?_
          show OwnFin p e below s _ _ _ (T29.setTop (mkF m 381 #[iv fl, iv pk, .val (.long qa), .second, .val (.long qb), .second, .val (.long qc), .second, iv lg, iv (Int32.ofNat nm), iv (Int32.ofNat pr), iv (Int32.ofNat half), iv (Int32.ofNat m_), iv (Int32.ofNat (m_ / 64)), rv b11, rv b23, iv sz, iv (own_low nw A iB), iv (Int32.ofNat (m_ / pr)), .val (.long (R (m_ / pr / 64))), .second, .val (.long ((A (m_ / 64)) &&& ((own_z m_) ^^^ (-1 : Int64)))), .second, iv (1 : Int32), .val (.long (R (m_ / pr / 64))), .second, .unset, .unset, .unset] []))
          exact fin_ _ _ _ _ _ T29 _ _ X29 rfl N29 Z29 V_A_29 Eq29 V_ao_29 Fq29_words Fq29_inBlocks Fq29_racks Fq29_size Vb_aw Vb_ab Vb_ak (by rw [own_rmR, if_pos rfl, if_neg (mt hk.mp hc348), own_andm1])
  refine own_go (fun t_ k_ => XS.iloadN X0.here hx rfl (hb hby at_0) rfl k_) ?_
  show OwnFin p e below s _ _ _ (s₁.setTop (mkF m 1 #[iv fl, iv pk, .val (.long qa), .second, .val (.long qb), .second, .val (.long qc), .second, .unset, .unset, .unset, .unset, .unset, .unset, .unset, .unset, .unset, .unset, .unset, .unset, .unset, .unset, .unset, .unset, .unset, .unset, .unset, .unset, .unset] [(.int fl)]))
  refine own_go (fun t_ k_ => XS.iconst X0.here hx rfl (hb hby at_1) k_) ?_
  show OwnFin p e below s _ _ _ (s₁.setTop (mkF m 2 #[iv fl, iv pk, .val (.long qa), .second, .val (.long qb), .second, .val (.long qc), .second, .unset, .unset, .unset, .unset, .unset, .unset, .unset, .unset, .unset, .unset, .unset, .unset, .unset, .unset, .unset, .unset, .unset, .unset, .unset, .unset, .unset] [(.int (1 : Int32)), (.int fl)]))
  refine own_go (fun t_ k_ => XS.iand X0.here hx rfl (hb hby at_2) rfl k_) ?_
  show OwnFin p e below s _ _ _ (s₁.setTop (mkF m 3 #[iv fl, iv pk, .val (.long qa), .second, .val (.long qb), .second, .val (.long qc), .second, .unset, .unset, .unset, .unset, .unset, .unset, .unset, .unset, .unset, .unset, .unset, .unset, .unset, .unset, .unset, .unset, .unset, .unset, .unset, .unset, .unset] [(.int (fl &&& (1 : Int32)))]))
  by_cases hc3 : (fl &&& (1 : Int32)) = (0 : Int32)
  · refine own_go (fun t_ k_ => XS.ifYes X0.here hx rfl (pc0 := 3) (pc' := 10) rfl (hb hby at_3) rfl ((if0 _ _).trans (teq hc3).1) (by decide) (by decide) k_) ?_
    show OwnFin p e below s _ _ _ (s₁.setTop (mkF m 10 #[iv fl, iv pk, .val (.long qa), .second, .val (.long qb), .second, .val (.long qc), .second, .unset, .unset, .unset, .unset, .unset, .unset, .unset, .unset, .unset, .unset, .unset, .unset, .unset, .unset, .unset, .unset, .unset, .unset, .unset, .unset, .unset] []))
    refine own_go (fun t_ k_ => XS.iconst X0.here hx rfl (hb hby at_10) k_) ?_
    show OwnFin p e below s _ _ _ (s₁.setTop (mkF m 11 #[iv fl, iv pk, .val (.long qa), .second, .val (.long qb), .second, .val (.long qc), .second, .unset, .unset, .unset, .unset, .unset, .unset, .unset, .unset, .unset, .unset, .unset, .unset, .unset, .unset, .unset, .unset, .unset, .unset, .unset, .unset, .unset] [(.int (0 : Int32))]))
    refine own_go (fun t_ k_ => XS.istore X0.here hx rfl (hb hby at_11) rfl (l' := #[iv fl, iv pk, .val (.long qa), .second, .val (.long qb), .second, .val (.long qc), .second, iv (0 : Int32), .unset, .unset, .unset, .unset, .unset, .unset, .unset, .unset, .unset, .unset, .unset, .unset, .unset, .unset, .unset, .unset, .unset, .unset, .unset, .unset]) rfl k_) ?_
    show OwnFin p e below s _ _ _ (s₁.setTop (mkF m 13 #[iv fl, iv pk, .val (.long qa), .second, .val (.long qb), .second, .val (.long qc), .second, iv (0 : Int32), .unset, .unset, .unset, .unset, .unset, .unset, .unset, .unset, .unset, .unset, .unset, .unset, .unset, .unset, .unset, .unset, .unset, .unset, .unset, .unset] []))
    refine own_go (fun t_ k_ => XS.iload X0.here hx rfl (hb hby at_13) rfl k_) ?_
    show OwnFin p e below s _ _ _ (s₁.setTop (mkF m 15 #[iv fl, iv pk, .val (.long qa), .second, .val (.long qb), .second, .val (.long qc), .second, iv (0 : Int32), .unset, .unset, .unset, .unset, .unset, .unset, .unset, .unset, .unset, .unset, .unset, .unset, .unset, .unset, .unset, .unset, .unset, .unset, .unset, .unset] [(.int (0 : Int32))]))
    refine own_go (fun t_ k_ => XS.ifYes X0.here hx rfl (pc0 := 15) (pc' := 24) rfl (hb hby at_15) rfl ((if0 _ _).trans (teq (by decide)).1) (by decide) (by decide) k_) ?_
    show OwnFin p e below s _ _ _ (s₁.setTop (mkF m 24 #[iv fl, iv pk, .val (.long qa), .second, .val (.long qb), .second, .val (.long qc), .second, iv (0 : Int32), .unset, .unset, .unset, .unset, .unset, .unset, .unset, .unset, .unset, .unset, .unset, .unset, .unset, .unset, .unset, .unset, .unset, .unset, .unset, .unset] []))
    refine own_go (fun t_ k_ => XS.sipush X0.here hx rfl (hb hby at_24) k_) ?_
    show OwnFin p e below s _ _ _ (s₁.setTop (mkF m 27 #[iv fl, iv pk, .val (.long qa), .second, .val (.long qb), .second, .val (.long qc), .second, iv (0 : Int32), .unset, .unset, .unset, .unset, .unset, .unset, .unset, .unset, .unset, .unset, .unset, .unset, .unset, .unset, .unset, .unset, .unset, .unset, .unset, .unset] [(.int (128 : Int32))]))
    refine own_go (fun t_ k_ => XS.istore X0.here hx rfl (hb hby at_27) rfl (l' := #[iv fl, iv pk, .val (.long qa), .second, .val (.long qb), .second, .val (.long qc), .second, iv (0 : Int32), iv (128 : Int32), .unset, .unset, .unset, .unset, .unset, .unset, .unset, .unset, .unset, .unset, .unset, .unset, .unset, .unset, .unset, .unset, .unset, .unset, .unset]) rfl k_) ?_
    show OwnFin p e below s _ _ _ (s₁.setTop (mkF m 29 #[iv fl, iv pk, .val (.long qa), .second, .val (.long qb), .second, .val (.long qc), .second, iv (0 : Int32), iv (128 : Int32), .unset, .unset, .unset, .unset, .unset, .unset, .unset, .unset, .unset, .unset, .unset, .unset, .unset, .unset, .unset, .unset, .unset, .unset, .unset] []))
    refine own_go (fun t_ k_ => XS.iconst X0.here hx rfl (hb hby at_29) k_) ?_
    show OwnFin p e below s _ _ _ (s₁.setTop (mkF m 30 #[iv fl, iv pk, .val (.long qa), .second, .val (.long qb), .second, .val (.long qc), .second, iv (0 : Int32), iv (128 : Int32), .unset, .unset, .unset, .unset, .unset, .unset, .unset, .unset, .unset, .unset, .unset, .unset, .unset, .unset, .unset, .unset, .unset, .unset, .unset] [(.int (1 : Int32))]))
    refine own_go (fun t_ k_ => XS.iloadN X0.here hx rfl (hb hby at_30) rfl k_) ?_
    show OwnFin p e below s _ _ _ (s₁.setTop (mkF m 31 #[iv fl, iv pk, .val (.long qa), .second, .val (.long qb), .second, .val (.long qc), .second, iv (0 : Int32), iv (128 : Int32), .unset, .unset, .unset, .unset, .unset, .unset, .unset, .unset, .unset, .unset, .unset, .unset, .unset, .unset, .unset, .unset, .unset, .unset, .unset] [(.int fl), (.int (1 : Int32))]))
    refine own_go (fun t_ k_ => XS.iconst X0.here hx rfl (hb hby at_31) k_) ?_
    show OwnFin p e below s _ _ _ (s₁.setTop (mkF m 32 #[iv fl, iv pk, .val (.long qa), .second, .val (.long qb), .second, .val (.long qc), .second, iv (0 : Int32), iv (128 : Int32), .unset, .unset, .unset, .unset, .unset, .unset, .unset, .unset, .unset, .unset, .unset, .unset, .unset, .unset, .unset, .unset, .unset, .unset, .unset] [(.int (1 : Int32)), (.int fl), (.int (1 : Int32))]))
    refine own_go (fun t_ k_ => XS.iushr X0.here hx rfl (hb hby at_32) rfl k_) ?_
    show OwnFin p e below s _ _ _ (s₁.setTop (mkF m 33 #[iv fl, iv pk, .val (.long qa), .second, .val (.long qb), .second, .val (.long qc), .second, iv (0 : Int32), iv (128 : Int32), .unset, .unset, .unset, .unset, .unset, .unset, .unset, .unset, .unset, .unset, .unset, .unset, .unset, .unset, .unset, .unset, .unset, .unset, .unset] [(.int ((fl.toUInt32 >>> ((1 : Int32) &&& 31).toUInt32).toInt32)), (.int (1 : Int32))]))
    refine own_go (fun t_ k_ => XS.bipush X0.here hx rfl (hb hby at_33) k_) ?_
    show OwnFin p e below s _ _ _ (s₁.setTop (mkF m 35 #[iv fl, iv pk, .val (.long qa), .second, .val (.long qb), .second, .val (.long qc), .second, iv (0 : Int32), iv (128 : Int32), .unset, .unset, .unset, .unset, .unset, .unset, .unset, .unset, .unset, .unset, .unset, .unset, .unset, .unset, .unset, .unset, .unset, .unset, .unset] [(.int (7 : Int32)), (.int ((fl.toUInt32 >>> ((1 : Int32) &&& 31).toUInt32).toInt32)), (.int (1 : Int32))]))
    refine own_go (fun t_ k_ => XS.iand X0.here hx rfl (hb hby at_35) rfl k_) ?_
    show OwnFin p e below s _ _ _ (s₁.setTop (mkF m 36 #[iv fl, iv pk, .val (.long qa), .second, .val (.long qb), .second, .val (.long qc), .second, iv (0 : Int32), iv (128 : Int32), .unset, .unset, .unset, .unset, .unset, .unset, .unset, .unset, .unset, .unset, .unset, .unset, .unset, .unset, .unset, .unset, .unset, .unset, .unset] [(.int (((fl.toUInt32 >>> ((1 : Int32) &&& 31).toUInt32).toInt32) &&& (7 : Int32))), (.int (1 : Int32))]))
    refine own_go (fun t_ k_ => XS.ishl X0.here hx rfl (hb hby at_36) rfl k_) ?_
    show OwnFin p e below s _ _ _ (s₁.setTop (mkF m 37 #[iv fl, iv pk, .val (.long qa), .second, .val (.long qb), .second, .val (.long qc), .second, iv (0 : Int32), iv (128 : Int32), .unset, .unset, .unset, .unset, .unset, .unset, .unset, .unset, .unset, .unset, .unset, .unset, .unset, .unset, .unset, .unset, .unset, .unset, .unset] [(.int ((1 : Int32) <<< ((((fl.toUInt32 >>> ((1 : Int32) &&& 31).toUInt32).toInt32) &&& (7 : Int32)) &&& 31)))]))
    refine own_go (fun t_ k_ => XS.istore X0.here hx rfl (hb hby at_37) rfl (l' := #[iv fl, iv pk, .val (.long qa), .second, .val (.long qb), .second, .val (.long qc), .second, iv (0 : Int32), iv (128 : Int32), iv ((1 : Int32) <<< ((((fl.toUInt32 >>> ((1 : Int32) &&& 31).toUInt32).toInt32) &&& (7 : Int32)) &&& 31)), .unset, .unset, .unset, .unset, .unset, .unset, .unset, .unset, .unset, .unset, .unset, .unset, .unset, .unset, .unset, .unset, .unset, .unset]) rfl k_) ?_
    show OwnFin p e below s _ _ _ (s₁.setTop (mkF m 39 #[iv fl, iv pk, .val (.long qa), .second, .val (.long qb), .second, .val (.long qc), .second, iv (0 : Int32), iv (128 : Int32), iv ((1 : Int32) <<< ((((fl.toUInt32 >>> ((1 : Int32) &&& 31).toUInt32).toInt32) &&& (7 : Int32)) &&& 31)), .unset, .unset, .unset, .unset, .unset, .unset, .unset, .unset, .unset, .unset, .unset, .unset, .unset, .unset, .unset, .unset, .unset, .unset] []))
    refine own_go (fun t_ k_ => XS.iload X0.here hx rfl (hb hby at_39) rfl k_) ?_
    show OwnFin p e below s _ _ _ (s₁.setTop (mkF m 41 #[iv fl, iv pk, .val (.long qa), .second, .val (.long qb), .second, .val (.long qc), .second, iv (0 : Int32), iv (128 : Int32), iv ((1 : Int32) <<< ((((fl.toUInt32 >>> ((1 : Int32) &&& 31).toUInt32).toInt32) &&& (7 : Int32)) &&& 31)), .unset, .unset, .unset, .unset, .unset, .unset, .unset, .unset, .unset, .unset, .unset, .unset, .unset, .unset, .unset, .unset, .unset, .unset] [(.int (0 : Int32))]))
    refine own_go (fun t_ k_ => XS.ifYes X0.here hx rfl (pc0 := 41) (pc' := 50) rfl (hb hby at_41) rfl ((if0 _ _).trans (teq (by decide)).1) (by decide) (by decide) k_) ?_
    show OwnFin p e below s _ _ _ (s₁.setTop (mkF m 50 #[iv fl, iv pk, .val (.long qa), .second, .val (.long qb), .second, .val (.long qc), .second, iv (0 : Int32), iv (128 : Int32), iv ((1 : Int32) <<< ((((fl.toUInt32 >>> ((1 : Int32) &&& 31).toUInt32).toInt32) &&& (7 : Int32)) &&& 31)), .unset, .unset, .unset, .unset, .unset, .unset, .unset, .unset, .unset, .unset, .unset, .unset, .unset, .unset, .unset, .unset, .unset, .unset] []))
    refine own_go (fun t_ k_ => XS.bipush X0.here hx rfl (hb hby at_50) k_) ?_
    show OwnFin p e below s _ _ _ (s₁.setTop (mkF m 52 #[iv fl, iv pk, .val (.long qa), .second, .val (.long qb), .second, .val (.long qc), .second, iv (0 : Int32), iv (128 : Int32), iv ((1 : Int32) <<< ((((fl.toUInt32 >>> ((1 : Int32) &&& 31).toUInt32).toInt32) &&& (7 : Int32)) &&& 31)), .unset, .unset, .unset, .unset, .unset, .unset, .unset, .unset, .unset, .unset, .unset, .unset, .unset, .unset, .unset, .unset, .unset, .unset] [(.int (64 : Int32))]))
    refine own_go (fun t_ k_ => XS.istore X0.here hx rfl (hb hby at_52) rfl (l' := #[iv fl, iv pk, .val (.long qa), .second, .val (.long qb), .second, .val (.long qc), .second, iv (0 : Int32), iv (128 : Int32), iv ((1 : Int32) <<< ((((fl.toUInt32 >>> ((1 : Int32) &&& 31).toUInt32).toInt32) &&& (7 : Int32)) &&& 31)), iv (64 : Int32), .unset, .unset, .unset, .unset, .unset, .unset, .unset, .unset, .unset, .unset, .unset, .unset, .unset, .unset, .unset, .unset, .unset]) rfl k_) ?_
    show OwnFin p e below s _ _ _ (s₁.setTop (mkF m 54 #[iv fl, iv pk, .val (.long qa), .second, .val (.long qb), .second, .val (.long qc), .second, iv (0 : Int32), iv (128 : Int32), iv ((1 : Int32) <<< ((((fl.toUInt32 >>> ((1 : Int32) &&& 31).toUInt32).toInt32) &&& (7 : Int32)) &&& 31)), iv (64 : Int32), .unset, .unset, .unset, .unset, .unset, .unset, .unset, .unset, .unset, .unset, .unset, .unset, .unset, .unset, .unset, .unset, .unset] []))
    obtain ⟨pr, hpr, hP⟩ : ∃ pr, ((1 : Int32) <<< ((((fl.toUInt32 >>> ((1 : Int32) &&& 31).toUInt32).toInt32) &&& (7 : Int32)) &&& 31)) = Int32.ofNat pr ∧ own_P pr := own_pr _
    rw [hpr]
    exact mid (0 : Int32) 128 2 1 64 pr s₁ _ _ X0 e0 N0 Z0  (Or.inl ⟨rfl, rfl, rfl, rfl⟩) hP
  · refine own_go (fun t_ k_ => XS.ifNo X0.here hx rfl (hb hby at_3) rfl ((if0 _ _).trans (feq hc3).1) k_) ?_
    show OwnFin p e below s _ _ _ (s₁.setTop (mkF m 6 #[iv fl, iv pk, .val (.long qa), .second, .val (.long qb), .second, .val (.long qc), .second, .unset, .unset, .unset, .unset, .unset, .unset, .unset, .unset, .unset, .unset, .unset, .unset, .unset, .unset, .unset, .unset, .unset, .unset, .unset, .unset, .unset] []))
    refine own_go (fun t_ k_ => XS.iconst X0.here hx rfl (hb hby at_6) k_) ?_
    show OwnFin p e below s _ _ _ (s₁.setTop (mkF m 7 #[iv fl, iv pk, .val (.long qa), .second, .val (.long qb), .second, .val (.long qc), .second, .unset, .unset, .unset, .unset, .unset, .unset, .unset, .unset, .unset, .unset, .unset, .unset, .unset, .unset, .unset, .unset, .unset, .unset, .unset, .unset, .unset] [(.int (1 : Int32))]))
    refine own_go (fun t_ k_ => XS.goto X0.here hx rfl (pc0 := 7) (pc' := 11) rfl (hb hby at_7) (by decide) (by decide) k_) ?_
    show OwnFin p e below s _ _ _ (s₁.setTop (mkF m 11 #[iv fl, iv pk, .val (.long qa), .second, .val (.long qb), .second, .val (.long qc), .second, .unset, .unset, .unset, .unset, .unset, .unset, .unset, .unset, .unset, .unset, .unset, .unset, .unset, .unset, .unset, .unset, .unset, .unset, .unset, .unset, .unset] [(.int (1 : Int32))]))
    refine own_go (fun t_ k_ => XS.istore X0.here hx rfl (hb hby at_11) rfl (l' := #[iv fl, iv pk, .val (.long qa), .second, .val (.long qb), .second, .val (.long qc), .second, iv (1 : Int32), .unset, .unset, .unset, .unset, .unset, .unset, .unset, .unset, .unset, .unset, .unset, .unset, .unset, .unset, .unset, .unset, .unset, .unset, .unset, .unset]) rfl k_) ?_
    show OwnFin p e below s _ _ _ (s₁.setTop (mkF m 13 #[iv fl, iv pk, .val (.long qa), .second, .val (.long qb), .second, .val (.long qc), .second, iv (1 : Int32), .unset, .unset, .unset, .unset, .unset, .unset, .unset, .unset, .unset, .unset, .unset, .unset, .unset, .unset, .unset, .unset, .unset, .unset, .unset, .unset] []))
    refine own_go (fun t_ k_ => XS.iload X0.here hx rfl (hb hby at_13) rfl k_) ?_
    show OwnFin p e below s _ _ _ (s₁.setTop (mkF m 15 #[iv fl, iv pk, .val (.long qa), .second, .val (.long qb), .second, .val (.long qc), .second, iv (1 : Int32), .unset, .unset, .unset, .unset, .unset, .unset, .unset, .unset, .unset, .unset, .unset, .unset, .unset, .unset, .unset, .unset, .unset, .unset, .unset, .unset] [(.int (1 : Int32))]))
    refine own_go (fun t_ k_ => XS.ifNo X0.here hx rfl (hb hby at_15) rfl ((if0 _ _).trans (feq (by decide)).1) k_) ?_
    show OwnFin p e below s _ _ _ (s₁.setTop (mkF m 18 #[iv fl, iv pk, .val (.long qa), .second, .val (.long qb), .second, .val (.long qc), .second, iv (1 : Int32), .unset, .unset, .unset, .unset, .unset, .unset, .unset, .unset, .unset, .unset, .unset, .unset, .unset, .unset, .unset, .unset, .unset, .unset, .unset, .unset] []))
    refine own_go (fun t_ k_ => XS.sipush X0.here hx rfl (hb hby at_18) k_) ?_
    show OwnFin p e below s _ _ _ (s₁.setTop (mkF m 21 #[iv fl, iv pk, .val (.long qa), .second, .val (.long qb), .second, .val (.long qc), .second, iv (1 : Int32), .unset, .unset, .unset, .unset, .unset, .unset, .unset, .unset, .unset, .unset, .unset, .unset, .unset, .unset, .unset, .unset, .unset, .unset, .unset, .unset] [(.int (640 : Int32))]))
    refine own_go (fun t_ k_ => XS.goto X0.here hx rfl (pc0 := 21) (pc' := 27) rfl (hb hby at_21) (by decide) (by decide) k_) ?_
    show OwnFin p e below s _ _ _ (s₁.setTop (mkF m 27 #[iv fl, iv pk, .val (.long qa), .second, .val (.long qb), .second, .val (.long qc), .second, iv (1 : Int32), .unset, .unset, .unset, .unset, .unset, .unset, .unset, .unset, .unset, .unset, .unset, .unset, .unset, .unset, .unset, .unset, .unset, .unset, .unset, .unset] [(.int (640 : Int32))]))
    refine own_go (fun t_ k_ => XS.istore X0.here hx rfl (hb hby at_27) rfl (l' := #[iv fl, iv pk, .val (.long qa), .second, .val (.long qb), .second, .val (.long qc), .second, iv (1 : Int32), iv (640 : Int32), .unset, .unset, .unset, .unset, .unset, .unset, .unset, .unset, .unset, .unset, .unset, .unset, .unset, .unset, .unset, .unset, .unset, .unset, .unset]) rfl k_) ?_
    show OwnFin p e below s _ _ _ (s₁.setTop (mkF m 29 #[iv fl, iv pk, .val (.long qa), .second, .val (.long qb), .second, .val (.long qc), .second, iv (1 : Int32), iv (640 : Int32), .unset, .unset, .unset, .unset, .unset, .unset, .unset, .unset, .unset, .unset, .unset, .unset, .unset, .unset, .unset, .unset, .unset, .unset, .unset] []))
    refine own_go (fun t_ k_ => XS.iconst X0.here hx rfl (hb hby at_29) k_) ?_
    show OwnFin p e below s _ _ _ (s₁.setTop (mkF m 30 #[iv fl, iv pk, .val (.long qa), .second, .val (.long qb), .second, .val (.long qc), .second, iv (1 : Int32), iv (640 : Int32), .unset, .unset, .unset, .unset, .unset, .unset, .unset, .unset, .unset, .unset, .unset, .unset, .unset, .unset, .unset, .unset, .unset, .unset, .unset] [(.int (1 : Int32))]))
    refine own_go (fun t_ k_ => XS.iloadN X0.here hx rfl (hb hby at_30) rfl k_) ?_
    show OwnFin p e below s _ _ _ (s₁.setTop (mkF m 31 #[iv fl, iv pk, .val (.long qa), .second, .val (.long qb), .second, .val (.long qc), .second, iv (1 : Int32), iv (640 : Int32), .unset, .unset, .unset, .unset, .unset, .unset, .unset, .unset, .unset, .unset, .unset, .unset, .unset, .unset, .unset, .unset, .unset, .unset, .unset] [(.int fl), (.int (1 : Int32))]))
    refine own_go (fun t_ k_ => XS.iconst X0.here hx rfl (hb hby at_31) k_) ?_
    show OwnFin p e below s _ _ _ (s₁.setTop (mkF m 32 #[iv fl, iv pk, .val (.long qa), .second, .val (.long qb), .second, .val (.long qc), .second, iv (1 : Int32), iv (640 : Int32), .unset, .unset, .unset, .unset, .unset, .unset, .unset, .unset, .unset, .unset, .unset, .unset, .unset, .unset, .unset, .unset, .unset, .unset, .unset] [(.int (1 : Int32)), (.int fl), (.int (1 : Int32))]))
    refine own_go (fun t_ k_ => XS.iushr X0.here hx rfl (hb hby at_32) rfl k_) ?_
    show OwnFin p e below s _ _ _ (s₁.setTop (mkF m 33 #[iv fl, iv pk, .val (.long qa), .second, .val (.long qb), .second, .val (.long qc), .second, iv (1 : Int32), iv (640 : Int32), .unset, .unset, .unset, .unset, .unset, .unset, .unset, .unset, .unset, .unset, .unset, .unset, .unset, .unset, .unset, .unset, .unset, .unset, .unset] [(.int ((fl.toUInt32 >>> ((1 : Int32) &&& 31).toUInt32).toInt32)), (.int (1 : Int32))]))
    refine own_go (fun t_ k_ => XS.bipush X0.here hx rfl (hb hby at_33) k_) ?_
    show OwnFin p e below s _ _ _ (s₁.setTop (mkF m 35 #[iv fl, iv pk, .val (.long qa), .second, .val (.long qb), .second, .val (.long qc), .second, iv (1 : Int32), iv (640 : Int32), .unset, .unset, .unset, .unset, .unset, .unset, .unset, .unset, .unset, .unset, .unset, .unset, .unset, .unset, .unset, .unset, .unset, .unset, .unset] [(.int (7 : Int32)), (.int ((fl.toUInt32 >>> ((1 : Int32) &&& 31).toUInt32).toInt32)), (.int (1 : Int32))]))
    refine own_go (fun t_ k_ => XS.iand X0.here hx rfl (hb hby at_35) rfl k_) ?_
    show OwnFin p e below s _ _ _ (s₁.setTop (mkF m 36 #[iv fl, iv pk, .val (.long qa), .second, .val (.long qb), .second, .val (.long qc), .second, iv (1 : Int32), iv (640 : Int32), .unset, .unset, .unset, .unset, .unset, .unset, .unset, .unset, .unset, .unset, .unset, .unset, .unset, .unset, .unset, .unset, .unset, .unset, .unset] [(.int (((fl.toUInt32 >>> ((1 : Int32) &&& 31).toUInt32).toInt32) &&& (7 : Int32))), (.int (1 : Int32))]))
    refine own_go (fun t_ k_ => XS.ishl X0.here hx rfl (hb hby at_36) rfl k_) ?_
    show OwnFin p e below s _ _ _ (s₁.setTop (mkF m 37 #[iv fl, iv pk, .val (.long qa), .second, .val (.long qb), .second, .val (.long qc), .second, iv (1 : Int32), iv (640 : Int32), .unset, .unset, .unset, .unset, .unset, .unset, .unset, .unset, .unset, .unset, .unset, .unset, .unset, .unset, .unset, .unset, .unset, .unset, .unset] [(.int ((1 : Int32) <<< ((((fl.toUInt32 >>> ((1 : Int32) &&& 31).toUInt32).toInt32) &&& (7 : Int32)) &&& 31)))]))
    refine own_go (fun t_ k_ => XS.istore X0.here hx rfl (hb hby at_37) rfl (l' := #[iv fl, iv pk, .val (.long qa), .second, .val (.long qb), .second, .val (.long qc), .second, iv (1 : Int32), iv (640 : Int32), iv ((1 : Int32) <<< ((((fl.toUInt32 >>> ((1 : Int32) &&& 31).toUInt32).toInt32) &&& (7 : Int32)) &&& 31)), .unset, .unset, .unset, .unset, .unset, .unset, .unset, .unset, .unset, .unset, .unset, .unset, .unset, .unset, .unset, .unset, .unset, .unset]) rfl k_) ?_
    show OwnFin p e below s _ _ _ (s₁.setTop (mkF m 39 #[iv fl, iv pk, .val (.long qa), .second, .val (.long qb), .second, .val (.long qc), .second, iv (1 : Int32), iv (640 : Int32), iv ((1 : Int32) <<< ((((fl.toUInt32 >>> ((1 : Int32) &&& 31).toUInt32).toInt32) &&& (7 : Int32)) &&& 31)), .unset, .unset, .unset, .unset, .unset, .unset, .unset, .unset, .unset, .unset, .unset, .unset, .unset, .unset, .unset, .unset, .unset, .unset] []))
    refine own_go (fun t_ k_ => XS.iload X0.here hx rfl (hb hby at_39) rfl k_) ?_
    show OwnFin p e below s _ _ _ (s₁.setTop (mkF m 41 #[iv fl, iv pk, .val (.long qa), .second, .val (.long qb), .second, .val (.long qc), .second, iv (1 : Int32), iv (640 : Int32), iv ((1 : Int32) <<< ((((fl.toUInt32 >>> ((1 : Int32) &&& 31).toUInt32).toInt32) &&& (7 : Int32)) &&& 31)), .unset, .unset, .unset, .unset, .unset, .unset, .unset, .unset, .unset, .unset, .unset, .unset, .unset, .unset, .unset, .unset, .unset, .unset] [(.int (1 : Int32))]))
    refine own_go (fun t_ k_ => XS.ifNo X0.here hx rfl (hb hby at_41) rfl ((if0 _ _).trans (feq (by decide)).1) k_) ?_
    show OwnFin p e below s _ _ _ (s₁.setTop (mkF m 44 #[iv fl, iv pk, .val (.long qa), .second, .val (.long qb), .second, .val (.long qc), .second, iv (1 : Int32), iv (640 : Int32), iv ((1 : Int32) <<< ((((fl.toUInt32 >>> ((1 : Int32) &&& 31).toUInt32).toInt32) &&& (7 : Int32)) &&& 31)), .unset, .unset, .unset, .unset, .unset, .unset, .unset, .unset, .unset, .unset, .unset, .unset, .unset, .unset, .unset, .unset, .unset, .unset] []))
    refine own_go (fun t_ k_ => XS.sipush X0.here hx rfl (hb hby at_44) k_) ?_
    show OwnFin p e below s _ _ _ (s₁.setTop (mkF m 47 #[iv fl, iv pk, .val (.long qa), .second, .val (.long qb), .second, .val (.long qc), .second, iv (1 : Int32), iv (640 : Int32), iv ((1 : Int32) <<< ((((fl.toUInt32 >>> ((1 : Int32) &&& 31).toUInt32).toInt32) &&& (7 : Int32)) &&& 31)), .unset, .unset, .unset, .unset, .unset, .unset, .unset, .unset, .unset, .unset, .unset, .unset, .unset, .unset, .unset, .unset, .unset, .unset] [(.int (512 : Int32))]))
    refine own_go (fun t_ k_ => XS.goto X0.here hx rfl (pc0 := 47) (pc' := 52) rfl (hb hby at_47) (by decide) (by decide) k_) ?_
    show OwnFin p e below s _ _ _ (s₁.setTop (mkF m 52 #[iv fl, iv pk, .val (.long qa), .second, .val (.long qb), .second, .val (.long qc), .second, iv (1 : Int32), iv (640 : Int32), iv ((1 : Int32) <<< ((((fl.toUInt32 >>> ((1 : Int32) &&& 31).toUInt32).toInt32) &&& (7 : Int32)) &&& 31)), .unset, .unset, .unset, .unset, .unset, .unset, .unset, .unset, .unset, .unset, .unset, .unset, .unset, .unset, .unset, .unset, .unset, .unset] [(.int (512 : Int32))]))
    refine own_go (fun t_ k_ => XS.istore X0.here hx rfl (hb hby at_52) rfl (l' := #[iv fl, iv pk, .val (.long qa), .second, .val (.long qb), .second, .val (.long qc), .second, iv (1 : Int32), iv (640 : Int32), iv ((1 : Int32) <<< ((((fl.toUInt32 >>> ((1 : Int32) &&& 31).toUInt32).toInt32) &&& (7 : Int32)) &&& 31)), iv (512 : Int32), .unset, .unset, .unset, .unset, .unset, .unset, .unset, .unset, .unset, .unset, .unset, .unset, .unset, .unset, .unset, .unset, .unset]) rfl k_) ?_
    show OwnFin p e below s _ _ _ (s₁.setTop (mkF m 54 #[iv fl, iv pk, .val (.long qa), .second, .val (.long qb), .second, .val (.long qc), .second, iv (1 : Int32), iv (640 : Int32), iv ((1 : Int32) <<< ((((fl.toUInt32 >>> ((1 : Int32) &&& 31).toUInt32).toInt32) &&& (7 : Int32)) &&& 31)), iv (512 : Int32), .unset, .unset, .unset, .unset, .unset, .unset, .unset, .unset, .unset, .unset, .unset, .unset, .unset, .unset, .unset, .unset, .unset] []))
    obtain ⟨pr, hpr, hP⟩ : ∃ pr, ((1 : Int32) <<< ((((fl.toUInt32 >>> ((1 : Int32) &&& 31).toUInt32).toInt32) &&& (7 : Int32)) &&& 31)) = Int32.ofNat pr ∧ own_P pr := own_pr _
    rw [hpr]
    exact mid (1 : Int32) 640 10 2 512 pr s₁ _ _ X0 e0 N0 Z0  (Or.inr ⟨rfl, rfl, rfl, rfl⟩) hP
set_option maxRecDepth 65536 in
set_option maxHeartbeats 40000000 in
theorem comes_1 {Post : Tables → Env → Array Value → State → Outcome → State → Prop} (hpost : ∀ tb e args s v u, (limb_1_1.after args s (.returned v) u = true ∧ limb_1_2.after args s (.returned v) u = true ∧ True) → FrameEnd s (.returned v) u (Jvm.fieldLocs frame_1_writes args s ++ Jvm.arrayLocs frame_1_arrays args s ++ Jvm.staticLocs frame_1_statics s) 24 2752 → Post tb e args s (.returned v) u) :
    ArmFor flags0 classFile x code maxLocals ret World_1 tables_1 room_1 Calls_1 rest_1 Pre_1 Post := by
  intro l hfl _ _ p e ha hc hk s m args below hf hA hF happ hP
  obtain ⟨hcalls, hrest, hpre⟩ := hP
  obtain ⟨-, -, -, hnamed, -, -, -, hat⟩ := (Spec.applies_iff hf).mp happ
  obtain ⟨hg, hn⟩ := and_e (Cond.before_iff.mp (show (Jvm.Cond.and given_1 narrow_1).before args s = true from hpre))
  obtain ⟨g1, g2⟩ := and_e hg
  obtain ⟨g3, g4⟩ := and_e g2
  obtain ⟨g5, g6⟩ := and_e g4
  obtain ⟨g7, g8⟩ := and_e g6
  obtain ⟨g9, g10⟩ := and_e g8
  obtain ⟨w0, w1, w2, w3, w4, rfl⟩ : ∃ w0 w1 w2 w3 w4 : Value, args = #[w0, w1, w2, w3, w4] := by
    have hs : args.size = 5 := by simpa [Cond.value, given_1] using g1
    obtain ⟨L⟩ := args
    match L, hs with
    | [w0, w1, w2, w3, w4], _ => exact ⟨w0, w1, w2, w3, w4, rfl⟩
  have hw := fun d (hd : d ∈ tables_1) => atoms_spec (ws := Jvm.Cond.code x code maxLocals ret :: tables_1) hat d (List.mem_cons_of_mem _ hd)
  have hfit : Fit s := fun {y c} hc i hi => by
    obtain ⟨ha, rfl⟩ := Array.getElem?_eq_some_iff.mp hc
    have q := List.all_eq_true.mp ((Array.all_eq_true_iff_forall_mem.mp hF) _ (Array.getElem_mem ha)) i (List.mem_range.mpr hi)
    simpa [Array.getElem?_eq_getElem hi] using q
  obtain ⟨i0, ei0⟩ := is_v g3
  obtain rfl : w0 = (.int i0) := Option.some.inj ei0
  obtain ⟨i1, ei1⟩ := is_v g5
  obtain rfl : w1 = (.int i1) := Option.some.inj ei1
  obtain ⟨i2, ei2⟩ := isL_v g7
  obtain rfl : w2 = (.long i2) := Option.some.inj ei2
  obtain ⟨i3, ei3⟩ := isL_v g9
  obtain rfl : w3 = (.long i3) := Option.some.inj ei3
  obtain ⟨i4, ei4⟩ := isL_v g10
  obtain rfl : w4 = (.long i4) := Option.some.inj ei4
  obtain ⟨n, o, h1, h2, h3, _, L, rfl, ⟨rfl, N⟩, hq⟩ := rm0 l s _ hw tables_1 i0 i1 i2 i3 i4 s.heap s.heap.size (Nat.le_refl _) p e ha hc hk s m _ below hf ((Spec.applies_iff_loose hf).mp happ).1 ⟨rfl, State.Warmed39.refl s, rfl⟩ trivial
  refine ⟨n, _, h1, h2, h3, hpost _ _ _ _ _ _ ⟨Cond.after_iff.mpr rfl, Cond.after_iff.mpr (eq_i res_at (Term.int_eval (1)) rfl), trivial⟩ ⟨hq.1, hq.2.1, (hq.2.2.sift fun y hy => Or.inr (N y hy)).mono (by decide) (by decide)⟩⟩
theorem main_1_1 : Claimed_1_1 := comes_1 fun _ _ _ _ _ _ h hF => ⟨h.1, hF⟩
theorem main_1_2 : Claimed_1_2 := comes_1 fun _ _ _ _ _ _ h hF => ⟨h.2.1, hF⟩
end Jvm.Pilot.@@N@@
namespace Jvm.Pilot.@@N@@
open Jvm Jvm.ClassFile Sem Op Lib Jvm.Free Jvm.Stand Jvm.Pilot.@@N@@.Jvm.D
/-! MADE BY PROGRAM (witnessworld.py) out of the Statement's table words and the real class files: 16 classes; the members and pool entries that the words name. The judged class is class 1, her method 1. -/
namespace start1
open Jvm.ClassFile
def u (s : String) : CpInfo := .utf8 (stringToUtf16 s)
/-- a pool by its gaps: so many unusable entries, then the entry; so many at the end -/
def gap : Nat → List CpInfo → List CpInfo
  | 0, r => r
  | n + 1, r => .unusable :: gap n r
def poolList (es : List (Nat × CpInfo)) (last : Nat) : List CpInfo := es.foldr (fun e r => gap e.1 (e.2 :: r)) (gap last [])
def pool (es : List (Nat × CpInfo)) (last : Nat) : Array CpInfo := ⟨poolList es last⟩
def fileOf (pool : Array CpInfo) (this : Nat) (attrs : Array Attribute := #[]) (ms : Array MethodInfo := #[]) (fl : Nat := 33) (sup : Nat := 0) (ifs : Array Nat := #[]) (fds : Array FieldInfo := #[]) : ClassFile where
  minorVersion := 0
  majorVersion := 65
  constantPool := pool
  accessFlags := fl
  thisClass := this
  superClass := sup
  interfaces := ifs
  fields := fds
  methods := ms
  attributes := attrs
def plain (name : String) (sup : Option ClassId) : Class where
  name := name
  kind := .ordinary
  loader := none
  accessFlags := 33
  super := sup
  interfaces := #[]
  cf := none
  fields := #[]
  methods := #[]
  instanceTypes := #[]
  staticTypes := #[]
  resolved := #[]
  callSites := []
  init := .initialized
  statics := none
  mirror := none

def pool0 : Array CpInfo := pool [(5, u "<init>"), (0, u "()V"), (1, .class_ 10), (1, u "java/lang/Object")] 113

def k0c0 : Code := { maxStack := 0, maxLocals := 1, code := object_method_1_code, exceptionTable := #[], attributes := #[] }
def k0m0 : Method := { name := "<init>", desc := "()V", sig := { parameters := [], returnType := none }, accessFlags := 1, code := some k0c0 }
/-- java/lang/Object -/
def k0 : Class := { plain "java/lang/Object" none with
  accessFlags := 33
  interfaces := #[]
  cf := some (fileOf pool0 8 #[] #[{ accessFlags := 1, nameIndex := 5, descriptorIndex := 6, attributes := #[] }] 33 0 #[] #[])
  fields := #[]
  methods := #[k0m0]
  instanceTypes := #[]
  staticTypes := #[]
  resolved := Array.replicate 124 none
  statics := none }

def pool1 : Array CpInfo := pool [(2, .class_ 4), (1, u "java/lang/Object"), (0, u "<init>"), (0, u "()V"), (0, .integer 2147483647), (0, .long 18446744073709551615), (1, .class_ 11), (0, u "com/example/nearside/nearside/slotted/delay/OfferSet"), (0, .methodref 10 13), (0, .nameAndType 5 14), (0, u "(II)V"), (0, .methodref 10 16), (0, .nameAndType 17 18), (0, u "setAll"), (0, u "([J)V"), (0, .methodref 10 20), (0, .nameAndType 21 22), (0, u "size"), (0, u "()I"), (0, .methodref 10 24), (0, .nameAndType 25 26), (0, u "countBetween"), (0, u "(II)I"), (0, .methodref 10 28), (0, .nameAndType 29 30), (0, u "racksWord"), (0, u "(I)J"), (0, .methodref 10 32), (0, .nameAndType 33 34), (0, u "remove"), (0, u "(I)V"), (0, .methodref 10 36), (0, .nameAndType 37 30), (0, u "word"), (0, .class_ 39), (0, u "com/example/nearside/nearside/slotted/delay/OfferSetRemovePinLaw"), (2, u "law"), (0, u "(IIJJJ)Z")] 5

def k1m0 : Method := { name := "<init>", desc := "()V", sig := { parameters := [], returnType := none }, accessFlags := 1, code := none }
def k1c1 : Code := { maxStack := 7, maxLocals := 29, code := code, exceptionTable := #[], attributes := #[] }
def k1m1 : Method := { name := "law", desc := "(IIJJJ)Z", sig := { parameters := [.int, .int, .long, .long, .long], returnType := some .boolean }, accessFlags := 9, code := some k1c1 }
/-- com/example/nearside/nearside/slotted/delay/OfferSetRemovePinLaw -/
def k1 : Class := { plain "com/example/nearside/nearside/slotted/delay/OfferSetRemovePinLaw" (some 0) with
  accessFlags := 49
  interfaces := #[]
  cf := some (fileOf pool1 38 #[] #[{ accessFlags := 1, nameIndex := 5, descriptorIndex := 6, attributes := #[] }, { accessFlags := 9, nameIndex := 42, descriptorIndex := 43, attributes := #[] }] 49 2 #[] #[])
  fields := #[]
  methods := #[k1m0, k1m1]
  instanceTypes := #[]
  staticTypes := #[]
  resolved := Array.replicate 49 none
  statics := none }

def pool2 : Array CpInfo := pool [(1, .methodref 2 3), (0, .class_ 4), (0, .nameAndType 5 6), (0, u "java/lang/Object"), (0, u "<init>"), (0, u "()V"), (0, .fieldref 8 9), (0, .class_ 10), (0, .nameAndType 11 12), (0, u "com/example/nearside/nearside/slotted/delay/OfferSet"), (0, u "words"), (0, u "[J"), (0, .fieldref 8 14), (0, .nameAndType 15 16), (0, u "inBlocks"), (0, u "[I"), (0, .fieldref 8 18), (0, .nameAndType 19 20), (0, u "blocked"), (0, u "Z"), (0, .fieldref 8 22), (0, .nameAndType 23 16), (0, u "inRacks"), (0, .fieldref 8 25), (0, .nameAndType 26 12), (0, u "racks"), (0, .fieldref 8 28), (0, .nameAndType 29 16), (0, u "rackOf"), (0, .fieldref 8 31), (0, .nameAndType 32 33), (0, u "perRack"), (0, u "I"), (0, .fieldref 8 35), (0, .nameAndType 36 33), (0, u "size"), (0, .methodref 38 39), (0, .class_ 40), (0, .nameAndType 41 42), (0, u "java/lang/Long"), (0, u "bitCount"), (0, u "(J)I"), (0, .methodref 8 44), (0, .nameAndType 45 46), (0, u "countIn"), (0, u "(II)I"), (0, .long 18446744073709551615), (13, .methodref 8 62), (0, .nameAndType 63 64), (0, u "countBelow"), (0, u "(I)I"), (0, u "NONE"), (2, u "BLOCK_WORDS"), (1, u "(II)V"), (3, u "setAll"), (0, u "([J)V"), (1, u "word"), (0, u "(I)J"), (0, u "racksWord"), (0, u "()I"), (4, u "remove"), (0, u "(I)V"), (2, u "countBetween")] 3

def k2c0 : Code := { maxStack := 4, maxLocals := 4, code := prog_158_method_1_code, exceptionTable := #[], attributes := #[] }
def k2m0 : Method := { name := "<init>", desc := "(II)V", sig := { parameters := [.int, .int], returnType := none }, accessFlags := 0, code := some k2c0 }
def k2c1 : Code := { maxStack := 7, maxLocals := 4, code := prog_158_method_2_code, exceptionTable := #[], attributes := #[] }
def k2m1 : Method := { name := "setAll", desc := "([J)V", sig := { parameters := [(.array .long)], returnType := none }, accessFlags := 0, code := some k2c1 }
def k2c2 : Code := { maxStack := 2, maxLocals := 2, code := prog_158_method_3_code, exceptionTable := #[], attributes := #[] }
def k2m2 : Method := { name := "word", desc := "(I)J", sig := { parameters := [.int], returnType := some .long }, accessFlags := 0, code := some k2c2 }
def k2c3 : Code := { maxStack := 2, maxLocals := 2, code := prog_158_method_4_code, exceptionTable := #[], attributes := #[] }
def k2m3 : Method := { name := "racksWord", desc := "(I)J", sig := { parameters := [.int], returnType := some .long }, accessFlags := 0, code := some k2c3 }
def k2c4 : Code := { maxStack := 1, maxLocals := 1, code := prog_158_method_5_code, exceptionTable := #[], attributes := #[] }
def k2m4 : Method := { name := "size", desc := "()I", sig := { parameters := [], returnType := some .int }, accessFlags := 0, code := some k2c4 }
def k2c5 : Code := { maxStack := 8, maxLocals := 4, code := prog_158_method_8_code, exceptionTable := #[], attributes := #[] }
def k2m5 : Method := { name := "remove", desc := "(I)V", sig := { parameters := [.int], returnType := none }, accessFlags := 0, code := some k2c5 }
def k2c6 : Code := { maxStack := 3, maxLocals := 3, code := prog_158_method_13_code, exceptionTable := #[], attributes := #[] }
def k2m6 : Method := { name := "countBetween", desc := "(II)I", sig := { parameters := [.int, .int], returnType := some .int }, accessFlags := 0, code := some k2c6 }
def k2c7 : Code := { maxStack := 5, maxLocals := 9, code := prog_158_method_14_code, exceptionTable := #[], attributes := #[] }
def k2m7 : Method := { name := "countIn", desc := "(II)I", sig := { parameters := [.int, .int], returnType := some .int }, accessFlags := 2, code := some k2c7 }
def k2c8 : Code := { maxStack := 6, maxLocals := 6, code := prog_158_method_15_code, exceptionTable := #[], attributes := #[] }
def k2m8 : Method := { name := "countBelow", desc := "(I)I", sig := { parameters := [.int], returnType := some .int }, accessFlags := 2, code := some k2c8 }
/-- com/example/nearside/nearside/slotted/delay/OfferSet -/
def k2 : Class := { plain "com/example/nearside/nearside/slotted/delay/OfferSet" (some 0) with
  accessFlags := 48
  interfaces := #[]
  cf := some (fileOf pool2 8 #[] #[{ accessFlags := 0, nameIndex := 5, descriptorIndex := 70, attributes := #[] }, { accessFlags := 0, nameIndex := 74, descriptorIndex := 75, attributes := #[] }, { accessFlags := 0, nameIndex := 77, descriptorIndex := 78, attributes := #[] }, { accessFlags := 0, nameIndex := 79, descriptorIndex := 78, attributes := #[] }, { accessFlags := 0, nameIndex := 36, descriptorIndex := 80, attributes := #[] }, { accessFlags := 0, nameIndex := 85, descriptorIndex := 86, attributes := #[] }, { accessFlags := 0, nameIndex := 89, descriptorIndex := 46, attributes := #[] }, { accessFlags := 2, nameIndex := 45, descriptorIndex := 46, attributes := #[] }, { accessFlags := 2, nameIndex := 63, descriptorIndex := 64, attributes := #[] }] 48 2 #[] #[{ accessFlags := 24, nameIndex := 65, descriptorIndex := 33, attributes := #[] }, { accessFlags := 26, nameIndex := 68, descriptorIndex := 33, attributes := #[] }, { accessFlags := 18, nameIndex := 11, descriptorIndex := 12, attributes := #[] }, { accessFlags := 18, nameIndex := 15, descriptorIndex := 16, attributes := #[] }, { accessFlags := 18, nameIndex := 19, descriptorIndex := 20, attributes := #[] }, { accessFlags := 18, nameIndex := 26, descriptorIndex := 12, attributes := #[] }, { accessFlags := 18, nameIndex := 23, descriptorIndex := 16, attributes := #[] }, { accessFlags := 18, nameIndex := 29, descriptorIndex := 16, attributes := #[] }, { accessFlags := 18, nameIndex := 32, descriptorIndex := 33, attributes := #[] }, { accessFlags := 2, nameIndex := 36, descriptorIndex := 33, attributes := #[] }])
  fields := #[{ name := "NONE", type := .int, accessFlags := 24, slot := 0, constantValue := 0 }, { name := "BLOCK_WORDS", type := .int, accessFlags := 26, slot := 1, constantValue := 0 }, { name := "words", type := (.array .long), accessFlags := 18, slot := 0, constantValue := 0 }, { name := "inBlocks", type := (.array .int), accessFlags := 18, slot := 1, constantValue := 0 }, { name := "blocked", type := .boolean, accessFlags := 18, slot := 2, constantValue := 0 }, { name := "racks", type := (.array .long), accessFlags := 18, slot := 3, constantValue := 0 }, { name := "inRacks", type := (.array .int), accessFlags := 18, slot := 4, constantValue := 0 }, { name := "rackOf", type := (.array .int), accessFlags := 18, slot := 5, constantValue := 0 }, { name := "perRack", type := .int, accessFlags := 18, slot := 6, constantValue := 0 }, { name := "size", type := .int, accessFlags := 2, slot := 7, constantValue := 0 }]
  methods := #[k2m0, k2m1, k2m2, k2m3, k2m4, k2m5, k2m6, k2m7, k2m8]
  instanceTypes := #[(.array .long), (.array .int), .boolean, (.array .long), (.array .int), (.array .int), .int, .int]
  staticTypes := #[.int, .int]
  resolved := Array.replicate 93 none
  statics := none }

def pool3 : Array CpInfo := pool [(1, .class_ 2), (0, u "java/io/Serializable"), (0, .class_ 4), (0, u "java/lang/Object")] 2

/-- java/io/Serializable -/
def k3 : Class := { plain "java/io/Serializable" (some 0) with
  accessFlags := 1537
  interfaces := #[]
  cf := some (fileOf pool3 1 #[] #[] 1537 3 #[] #[])
  fields := #[]
  methods := #[]
  instanceTypes := #[]
  staticTypes := #[]
  resolved := Array.replicate 7 none
  statics := none }

def pool4 : Array CpInfo := pool [(2, .class_ 4), (1, u "java/lang/Object"), (0, u "<init>"), (0, u "()V"), (1, .class_ 10), (1, u "java/lang/Number"), (2, .class_ 14), (0, u "java/io/Serializable"), (0, u "serialVersionUID"), (0, u "J")] 20

def k4m0 : Method := { name := "<init>", desc := "()V", sig := { parameters := [], returnType := none }, accessFlags := 1, code := none }
/-- java/lang/Number -/
def k4 : Class := { plain "java/lang/Number" (some 0) with
  accessFlags := 1057
  interfaces := #[3]
  cf := some (fileOf pool4 8 #[] #[{ accessFlags := 1, nameIndex := 5, descriptorIndex := 6, attributes := #[] }] 1057 2 #[13] #[{ accessFlags := 26, nameIndex := 15, descriptorIndex := 16, attributes := #[] }])
  fields := #[{ name := "serialVersionUID", type := .long, accessFlags := 26, slot := 0, constantValue := 0 }]
  methods := #[k4m0]
  instanceTypes := #[]
  staticTypes := #[.long]
  resolved := Array.replicate 37 none
  statics := none }

def pool5 : Array CpInfo := pool [(1, .class_ 2), (0, u "java/lang/Comparable"), (0, .class_ 4), (0, u "java/lang/Object")] 7

/-- java/lang/Comparable -/
def k5 : Class := { plain "java/lang/Comparable" (some 0) with
  accessFlags := 1537
  interfaces := #[]
  cf := some (fileOf pool5 1 #[] #[] 1537 3 #[] #[])
  fields := #[]
  methods := #[]
  instanceTypes := #[]
  staticTypes := #[]
  resolved := Array.replicate 12 none
  statics := none }

def pool6 : Array CpInfo := pool [(1, .class_ 2), (0, u "java/lang/constant/Constable"), (0, .class_ 4), (0, u "java/lang/Object")] 6

/-- java/lang/constant/Constable -/
def k6 : Class := { plain "java/lang/constant/Constable" (some 0) with
  accessFlags := 1537
  interfaces := #[]
  cf := some (fileOf pool6 1 #[] #[] 1537 3 #[] #[])
  fields := #[]
  methods := #[]
  instanceTypes := #[]
  staticTypes := #[]
  resolved := Array.replicate 11 none
  statics := none }

def pool7 : Array CpInfo := pool [(1, .class_ 2), (0, u "java/lang/constant/ConstantDesc"), (0, .class_ 4), (0, u "java/lang/Object")] 32

/-- java/lang/constant/ConstantDesc -/
def k7 : Class := { plain "java/lang/constant/ConstantDesc" (some 0) with
  accessFlags := 1537
  interfaces := #[]
  cf := some (fileOf pool7 1 #[] #[] 1537 3 #[] #[])
  fields := #[]
  methods := #[]
  instanceTypes := #[]
  staticTypes := #[]
  resolved := Array.replicate 37 none
  statics := none }

def pool8 : Array CpInfo := pool [(1, .class_ 2), (0, u "java/lang/Long"), (98, u "(J)I"), (133, .class_ 237), (1, u "java/lang/Long$LongCache"), (33, .class_ 272), (0, u "java/lang/Number"), (2, u "value"), (0, u "J"), (37, .long 6148914691236517205), (1, .long 3689348814741910323), (1, .long 1085102592571150095), (42, u "TYPE"), (0, u "Ljava/lang/Class;"), (0, .class_ 364), (0, u "java/lang/Comparable"), (0, .class_ 366), (0, u "java/lang/constant/Constable"), (0, .class_ 368), (0, u "java/lang/constant/ConstantDesc"), (0, u "MIN_VALUE"), (1, u "MAX_VALUE"), (4, u "SIZE"), (0, u "I"), (1, u "BYTES"), (1, u "serialVersionUID"), (94, u "bitCount")] 47

def k8c0 : Code := { maxStack := 6, maxLocals := 2, code := jdk_35_method_50_code, exceptionTable := #[], attributes := #[] }
def k8m0 : Method := { name := "bitCount", desc := "(J)I", sig := { parameters := [.long], returnType := some .int }, accessFlags := 9, code := some k8c0 }
/-- java/lang/Long -/
def k8 : Class := { plain "java/lang/Long" (some 4) with
  accessFlags := 49
  interfaces := #[5, 6, 7]
  cf := some (fileOf pool8 1 #[.nestMembers #[235]] #[{ accessFlags := 9, nameIndex := 476, descriptorIndex := 101, attributes := #[] }] 49 271 #[363, 365, 367] #[{ accessFlags := 25, nameIndex := 369, descriptorIndex := 276, attributes := #[] }, { accessFlags := 25, nameIndex := 371, descriptorIndex := 276, attributes := #[] }, { accessFlags := 25, nameIndex := 361, descriptorIndex := 362, attributes := #[] }, { accessFlags := 18, nameIndex := 275, descriptorIndex := 276, attributes := #[] }, { accessFlags := 25, nameIndex := 376, descriptorIndex := 377, attributes := #[] }, { accessFlags := 25, nameIndex := 379, descriptorIndex := 377, attributes := #[] }, { accessFlags := 26, nameIndex := 381, descriptorIndex := 276, attributes := #[] }])
  fields := #[{ name := "MIN_VALUE", type := .long, accessFlags := 25, slot := 0, constantValue := 0 }, { name := "MAX_VALUE", type := .long, accessFlags := 25, slot := 1, constantValue := 0 }, { name := "TYPE", type := (.object "java/lang/Class"), accessFlags := 25, slot := 2, constantValue := 0 }, { name := "value", type := .long, accessFlags := 18, slot := 0, constantValue := 0 }, { name := "SIZE", type := .int, accessFlags := 25, slot := 3, constantValue := 0 }, { name := "BYTES", type := .int, accessFlags := 25, slot := 4, constantValue := 0 }, { name := "serialVersionUID", type := .long, accessFlags := 26, slot := 5, constantValue := 0 }]
  methods := #[k8m0]
  instanceTypes := #[.long]
  staticTypes := #[.long, .long, (.object "java/lang/Class"), .int, .int, .long]
  resolved := Array.replicate 524 none
  statics := none }

def pool9 : Array CpInfo := pool [(1, u "java/lang/Cloneable"), (0, .class_ 1), (0, u "java/lang/Object"), (0, .class_ 3)] 3

/-- java/lang/Cloneable -/
def k9 : Class := { plain "java/lang/Cloneable" (some 0) with
  accessFlags := 1537
  interfaces := #[]
  cf := some (fileOf pool9 2 #[] #[] 1537 4 #[] #[])
  fields := #[]
  methods := #[]
  instanceTypes := #[]
  staticTypes := #[]
  resolved := Array.replicate 8 none
  statics := none }

/-- the primitive byte -/
def k10 : Class := { plain "byte" none with kind := .primitive 'B', accessFlags := 0x411 }
/-- [B -/
def k11 : Class := { plain "[B" (some 0) with kind := .array 10 .byte, interfaces := #[9, 3], accessFlags := 1041 }

/-- the primitive int -/
def k12 : Class := { plain "int" none with kind := .primitive 'I', accessFlags := 0x411 }
/-- [I -/
def k13 : Class := { plain "[I" (some 0) with kind := .array 12 .int, interfaces := #[9, 3], accessFlags := 1041 }

/-- the primitive long -/
def k14 : Class := { plain "long" none with kind := .primitive 'J', accessFlags := 0x411 }
/-- [J -/
def k15 : Class := { plain "[J" (some 0) with kind := .array 14 .long, interfaces := #[9, 3], accessFlags := 1041 }

def heap : Heap := #[]
def classes : Array Class := #[k0, k1, k2, k3, k4, k5, k6, k7, k8, k9, k10, k11, k12, k13, k14, k15]
def interned : List (Array UInt16 × Addr) := []
def slotsUsed : Nat := 0
def theMethod : MethodId := ⟨1, 1⟩
def args0 : Array Value := #[.int 7, .int 300, .long 6, .long 7, .long 27]
def aboutOver (below : List Frame) : State where
  vm := { classes := classes, interned := interned.toArray }
  heap := heap
  slotsUsed := slotsUsed
  threads := #[{ frames := .invoking theMethod args0 :: below }]
def below0 : List Frame := [.native { method := ⟨0, 0⟩, args := #[] }]
def about1 : State := aboutOver below0
def p0 : Program := .bare "" "" ""
def e0 : Env := launch0.env 0 0 0
theorem w_frames : about1.frames = Frame.invoking theMethod args0 :: below0 := rfl
set_option maxRecDepth 65536 in
theorem w_args : argsFit about1.vm theMethod args0 = true := by decide +kernel
set_option maxRecDepth 65536 in
theorem w_heap : heapFits about1 = true := by decide +kernel
set_option maxRecDepth 65536 in
theorem w_runnable : about1.curStatus? = some .runnable := by decide +kernel
set_option maxRecDepth 65536 in
theorem w_alone : about1.alone = true := by decide +kernel
set_option maxRecDepth 65536 in
theorem w_named : about1.methodNamed? x = some theMethod := by decide +kernel
set_option maxRecDepth 65536 in
theorem w_hears : about1.hears theMethod below0 = true := by decide +kernel
set_option maxRecDepth 65536 in
theorem w_ripe : about1.ripe theMethod args0 below0 = true := by decide +kernel
theorem w_running : about1.status = .running := rfl
set_option maxRecDepth 65536 in
theorem w_room : about1.hasRoom e0.platform room_1 = true :=
  launch0.hasRoom_least _ room_1 (by decide +kernel) (by decide +kernel) (by decide +kernel) (by decide +kernel) (by decide +kernel) (by decide +kernel)
theorem allAtoms_all (ts : List Jvm.Cond) (a : Array Jvm.Value) (st : Jvm.State) : (allAtoms ts).before a st = ts.all (fun c => c.before a st) := by
  induction ts with
  | nil => rfl
  | cons c t ih =>
    show (Jvm.Cond.and c (allAtoms t)).before a st = _
    rw [Jvm.Cond.before_and, ih, List.all_cons]
def words1 : List Jvm.Cond := Jvm.Cond.code x code maxLocals ret :: tables_1
/-- a 'code' word, met by the world's own term for the bytes: nothing is compared byte by byte -/
theorem code_word {y : MethodName} {bytes : ByteArray} {mx : Nat} {rt : Option FieldType} {a : Array Value} {s : State} {m : MethodId} {meth : Method} {c : Code} (h1 : s.methodNamed? y = some m) (h2 : s.vm.method? m = some meth) (h3 : meth.code = some c) (h4 : c.code = bytes)
    (h5 : (c.maxLocals == mx && c.exceptionTable.isEmpty && decide (c.maxStack ≤ mostOperands) && decide (meth.sig.returnType = rt) && !meth.locks && decide (parseMethodDescriptor y.desc = some meth.sig)) = true) : (Jvm.Cond.code y bytes mx rt).before a s = true := by
  simp only [Bool.and_eq_true, beq_iff_eq, Bool.not_eq_true', decide_eq_true_eq] at h5
  obtain ⟨⟨⟨⟨⟨g1, g2⟩, g3⟩, g4⟩, g5⟩, g6⟩ := h5
  simp [Cond.before, Cond.holds, Cond.value, h1, h2, h3, h4, g1, g2, g3, g4, g5, g6]
def isCode : Jvm.Cond → Bool
  | .code _ _ _ _ => true
  | _ => false
theorem all_split {L : List Jvm.Cond} {P : Jvm.Cond → Bool} (h1 : L.all (fun c => isCode c || P c) = true) (h2 : ∀ c ∈ L.filter isCode, P c = true) : L.all P = true := by
  refine List.all_eq_true.mpr fun c hc => ?_
  have h := List.all_eq_true.mp h1 c hc
  rcases Bool.eq_false_or_eq_true (isCode c) with hi | hi
  · exact h2 c (List.mem_filter.mpr ⟨hc, hi⟩)
  · simpa [hi] using h
set_option maxRecDepth 65536 in
theorem w_c0 : (Jvm.Cond.code x code maxLocals ret).before args0 about1 = true := code_word (m := ⟨1, 1⟩) (meth := k1m1) (c := k1c1) (by decide +kernel) rfl rfl rfl (by decide +kernel)
set_option maxRecDepth 65536 in
theorem w_c1 : (Jvm.Cond.code ({ cls := "com/example/nearside/nearside/slotted/delay/OfferSet", name := "<init>", desc := "(II)V" } : Jvm.MethodName) prog_158_method_1_code (4 : Nat) (Option.none : Option Jvm.ClassFile.FieldType)).before args0 about1 = true := code_word (m := ⟨2, 0⟩) (meth := k2m0) (c := k2c0) (by decide +kernel) rfl rfl rfl (by decide +kernel)
set_option maxRecDepth 65536 in
theorem w_c2 : (Jvm.Cond.code ({ cls := "java/lang/Object", name := "<init>", desc := "()V" } : Jvm.MethodName) object_method_1_code (1 : Nat) (Option.none : Option Jvm.ClassFile.FieldType)).before args0 about1 = true := code_word (m := ⟨0, 0⟩) (meth := k0m0) (c := k0c0) (by decide +kernel) rfl rfl rfl (by decide +kernel)
set_option maxRecDepth 65536 in
theorem w_c3 : (Jvm.Cond.code ({ cls := "com/example/nearside/nearside/slotted/delay/OfferSet", name := "setAll", desc := "([J)V" } : Jvm.MethodName) prog_158_method_2_code (4 : Nat) (Option.none : Option Jvm.ClassFile.FieldType)).before args0 about1 = true := code_word (m := ⟨2, 1⟩) (meth := k2m1) (c := k2c1) (by decide +kernel) rfl rfl rfl (by decide +kernel)
set_option maxRecDepth 65536 in
theorem w_c4 : (Jvm.Cond.code ({ cls := "java/lang/Long", name := "bitCount", desc := "(J)I" } : Jvm.MethodName) jdk_35_method_50_code (2 : Nat) (Option.some Jvm.ClassFile.FieldType.int)).before args0 about1 = true := code_word (m := ⟨8, 0⟩) (meth := k8m0) (c := k8c0) (by decide +kernel) rfl rfl rfl (by decide +kernel)
set_option maxRecDepth 65536 in
theorem w_c5 : (Jvm.Cond.code ({ cls := "com/example/nearside/nearside/slotted/delay/OfferSet", name := "countIn", desc := "(II)I" } : Jvm.MethodName) prog_158_method_14_code (9 : Nat) (Option.some Jvm.ClassFile.FieldType.int)).before args0 about1 = true := code_word (m := ⟨2, 7⟩) (meth := k2m7) (c := k2c7) (by decide +kernel) rfl rfl rfl (by decide +kernel)
set_option maxRecDepth 65536 in
theorem w_c6 : (Jvm.Cond.code ({ cls := "com/example/nearside/nearside/slotted/delay/OfferSet", name := "size", desc := "()I" } : Jvm.MethodName) prog_158_method_5_code (1 : Nat) (Option.some Jvm.ClassFile.FieldType.int)).before args0 about1 = true := code_word (m := ⟨2, 4⟩) (meth := k2m4) (c := k2c4) (by decide +kernel) rfl rfl rfl (by decide +kernel)
set_option maxRecDepth 65536 in
theorem w_c7 : (Jvm.Cond.code ({ cls := "com/example/nearside/nearside/slotted/delay/OfferSet", name := "countBetween", desc := "(II)I" } : Jvm.MethodName) prog_158_method_13_code (3 : Nat) (Option.some Jvm.ClassFile.FieldType.int)).before args0 about1 = true := code_word (m := ⟨2, 6⟩) (meth := k2m6) (c := k2c6) (by decide +kernel) rfl rfl rfl (by decide +kernel)
set_option maxRecDepth 65536 in
theorem w_c8 : (Jvm.Cond.code ({ cls := "com/example/nearside/nearside/slotted/delay/OfferSet", name := "countBelow", desc := "(I)I" } : Jvm.MethodName) prog_158_method_15_code (6 : Nat) (Option.some Jvm.ClassFile.FieldType.int)).before args0 about1 = true := code_word (m := ⟨2, 8⟩) (meth := k2m8) (c := k2c8) (by decide +kernel) rfl rfl rfl (by decide +kernel)
set_option maxRecDepth 65536 in
theorem w_c9 : (Jvm.Cond.code ({ cls := "com/example/nearside/nearside/slotted/delay/OfferSet", name := "racksWord", desc := "(I)J" } : Jvm.MethodName) prog_158_method_4_code (2 : Nat) (Option.some Jvm.ClassFile.FieldType.long)).before args0 about1 = true := code_word (m := ⟨2, 3⟩) (meth := k2m3) (c := k2c3) (by decide +kernel) rfl rfl rfl (by decide +kernel)
set_option maxRecDepth 65536 in
theorem w_c10 : (Jvm.Cond.code ({ cls := "com/example/nearside/nearside/slotted/delay/OfferSet", name := "remove", desc := "(I)V" } : Jvm.MethodName) prog_158_method_8_code (4 : Nat) (Option.none : Option Jvm.ClassFile.FieldType)).before args0 about1 = true := code_word (m := ⟨2, 5⟩) (meth := k2m5) (c := k2c5) (by decide +kernel) rfl rfl rfl (by decide +kernel)
set_option maxRecDepth 65536 in
theorem w_c11 : (Jvm.Cond.code ({ cls := "com/example/nearside/nearside/slotted/delay/OfferSet", name := "word", desc := "(I)J" } : Jvm.MethodName) prog_158_method_3_code (2 : Nat) (Option.some Jvm.ClassFile.FieldType.long)).before args0 about1 = true := code_word (m := ⟨2, 2⟩) (meth := k2m2) (c := k2c2) (by decide +kernel) rfl rfl rfl (by decide +kernel)
def codes1 : List Jvm.Cond := [Jvm.Cond.code x code maxLocals ret, Jvm.Cond.code ({ cls := "com/example/nearside/nearside/slotted/delay/OfferSet", name := "<init>", desc := "(II)V" } : Jvm.MethodName) prog_158_method_1_code (4 : Nat) (Option.none : Option Jvm.ClassFile.FieldType), Jvm.Cond.code ({ cls := "java/lang/Object", name := "<init>", desc := "()V" } : Jvm.MethodName) object_method_1_code (1 : Nat) (Option.none : Option Jvm.ClassFile.FieldType), Jvm.Cond.code ({ cls := "com/example/nearside/nearside/slotted/delay/OfferSet", name := "setAll", desc := "([J)V" } : Jvm.MethodName) prog_158_method_2_code (4 : Nat) (Option.none : Option Jvm.ClassFile.FieldType), Jvm.Cond.code ({ cls := "java/lang/Long", name := "bitCount", desc := "(J)I" } : Jvm.MethodName) jdk_35_method_50_code (2 : Nat) (Option.some Jvm.ClassFile.FieldType.int), Jvm.Cond.code ({ cls := "com/example/nearside/nearside/slotted/delay/OfferSet", name := "countIn", desc := "(II)I" } : Jvm.MethodName) prog_158_method_14_code (9 : Nat) (Option.some Jvm.ClassFile.FieldType.int), Jvm.Cond.code ({ cls := "com/example/nearside/nearside/slotted/delay/OfferSet", name := "size", desc := "()I" } : Jvm.MethodName) prog_158_method_5_code (1 : Nat) (Option.some Jvm.ClassFile.FieldType.int), Jvm.Cond.code ({ cls := "com/example/nearside/nearside/slotted/delay/OfferSet", name := "countBetween", desc := "(II)I" } : Jvm.MethodName) prog_158_method_13_code (3 : Nat) (Option.some Jvm.ClassFile.FieldType.int), Jvm.Cond.code ({ cls := "com/example/nearside/nearside/slotted/delay/OfferSet", name := "countBelow", desc := "(I)I" } : Jvm.MethodName) prog_158_method_15_code (6 : Nat) (Option.some Jvm.ClassFile.FieldType.int), Jvm.Cond.code ({ cls := "com/example/nearside/nearside/slotted/delay/OfferSet", name := "racksWord", desc := "(I)J" } : Jvm.MethodName) prog_158_method_4_code (2 : Nat) (Option.some Jvm.ClassFile.FieldType.long), Jvm.Cond.code ({ cls := "com/example/nearside/nearside/slotted/delay/OfferSet", name := "remove", desc := "(I)V" } : Jvm.MethodName) prog_158_method_8_code (4 : Nat) (Option.none : Option Jvm.ClassFile.FieldType), Jvm.Cond.code ({ cls := "com/example/nearside/nearside/slotted/delay/OfferSet", name := "word", desc := "(I)J" } : Jvm.MethodName) prog_158_method_3_code (2 : Nat) (Option.some Jvm.ClassFile.FieldType.long)]
set_option maxRecDepth 65536 in
theorem codes_eq : words1.filter isCode = codes1 := rfl
theorem w_codes : ∀ c ∈ words1.filter isCode, c.before args0 about1 = true := by
  rw [codes_eq]
  intro c hc
  simp only [codes1, List.mem_cons, List.not_mem_nil, or_false] at hc
  rcases hc with rfl | rfl | rfl | rfl | rfl | rfl | rfl | rfl | rfl | rfl | rfl | rfl
  · exact w_c0
  · exact w_c1
  · exact w_c2
  · exact w_c3
  · exact w_c4
  · exact w_c5
  · exact w_c6
  · exact w_c7
  · exact w_c8
  · exact w_c9
  · exact w_c10
  · exact w_c11
set_option maxRecDepth 65536 in
theorem w_t1 : (words1.take 24).all (fun c => isCode c || c.before args0 about1) = true := by decide +kernel
set_option maxRecDepth 65536 in
theorem w_t2 : ((words1.drop 24).take 24).all (fun c => isCode c || c.before args0 about1) = true := by decide +kernel
set_option maxRecDepth 65536 in
theorem w_t3 : (((words1.drop 24).drop 24).take 24).all (fun c => isCode c || c.before args0 about1) = true := by decide +kernel
set_option maxRecDepth 65536 in
theorem w_t4 : (((words1.drop 24).drop 24).drop 24).all (fun c => isCode c || c.before args0 about1) = true := by decide +kernel
theorem w_tables : (allAtoms (Jvm.Cond.code x code maxLocals ret :: tables_1)).before args0 about1 = true := by
  rw [allAtoms_all]
  show words1.all (fun c => c.before args0 about1) = true
  refine all_split ?_ w_codes
  rw [← List.take_append_drop 24 words1, List.all_append, w_t1, ← List.take_append_drop 24 (words1.drop 24), List.all_append, w_t2, ← List.take_append_drop 24 ((words1.drop 24).drop 24), List.all_append, w_t3, w_t4]
  rfl
set_option maxRecDepth 65536 in
theorem w_case : (Jvm.Cond.and given_1 narrow_1).before args0 about1 = true := by decide +kernel
theorem w_applies : (headSpec (Jvm.Cond.code x code maxLocals ret :: tables_1) room_1).applies x e0.platform about1 = true :=
  (Spec.applies_iff w_frames).mpr ⟨w_running, w_runnable, w_alone, w_named, w_hears, w_ripe, w_room, w_tables⟩
theorem atStart : AtStart classFile x code maxLocals ret World_1 tables_1 room_1 Calls_1 rest_1 Pre_1 launch0 p0 e0 about1 theMethod args0 below0 :=
  ⟨lists_1, trivial, launch0.admits_env _ _ _, launch0.least_env, fairChoices_fair.cas, fairChoices_fair.clock, w_frames, w_args, w_heap, w_applies, trivial, trivial, w_case⟩
end start1
theorem witness_1 : WitnessClaimed_1 := ⟨start1.p0, start1.e0, start1.about1, start1.theMethod, start1.args0, start1.below0, start1.atStart⟩
end Jvm.Pilot.@@N@@
